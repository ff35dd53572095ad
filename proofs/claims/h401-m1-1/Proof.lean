import JvmDerived
import JvmDerived.Pilot.@@N@@Statement
import JvmDerived.Pilot.@@N@@Code
set_option linter.unusedVariables false
set_option linter.unusedSimpArgs false
namespace Jvm.OwnK
open Jvm Sem ClassFile Op Lib Jvm.Free Jvm.Stand Jvm.LawKit Jvm.RoadKit Bundle
/-! OwnK: a body's walk as a judgement. 'Go .. SF h k n pc Ls st': from the place pc, with the locals Ls and the operands st, over the heap h (SF: what this walk may write; k cells and n slots made so far), the body ends, and Q holds of what it returns and of the heap. One rule a step; a callee by 'Met'. -/
def Own (Z : State) (EL : List (String × Nat)) (n0 : Nat) (h0 : Heap) (WS : List Addr) (vm : Vm) (h : Heap) (SF : List Addr) : Prop := ∀ x ∈ SF, (n0 ≤ x ∧ x < h.size ∧ (x ∈ WS ∨ h0.size ≤ x)) ∧ Safe Z EL vm h x
def Cor (Z : State) (EL : List (String × Nat)) (n0 : Nat) (nr : Bool) (h0 : Heap) (WS SF : List Addr) (h : Heap) (s : State) (vm0 : Vm) (k0 : Nat) (locs : List Loc) : Prop :=
  Z.Warmed39 vm0 ∧ (s.Since vm0 k0 ∧ k0 ≤ h.size) ∧ Fr n0 locs ∧ CHr Z EL s.vm h0 vm0 h ∧ Own Z EL n0 h0 WS vm0 h SF ∧ (nr = true → s.WarmedH vm0) ∧ (Z.heap.size = n0 ∧ Ext Z.heap h) ∧ Keep h0 h WS ∧ s.heap = h0 ∧ ∃ a0, EW Z a0 EL
def Pst (Z : State) (EL : List (String × Nat)) (n0 : Nat) (nr : Bool) (R : Room) (h0 : Heap) (WS : List Addr) (Q : Option Value → Heap → List Addr → Prop) (s : State) (o : Outcome) (t : State) : Prop :=
  ∃ v L SN, o = .returned v ∧ Q v t.heap SN ∧ Fr n0 L ∧ Keep h0 t.heap WS ∧ (∀ x ∈ SN, (h0.size ≤ x ∧ x < t.heap.size) ∧ Safe Z EL t.vm t.heap x) ∧ CHr Z EL s.vm h0 t.vm t.heap ∧ (nr = true → s.WarmedH t.vm) ∧ ReturnedEndW s o t L R.cells R.slots
def Run (l : Launch) (Z : State) (EL : List (String × Nat)) (n0 : Nat) (nr kn : Bool) (y : MethodName) (bytes : ByteArray) (mL : Nat) (ret : Option FieldType) (R : Room) (h0 : Heap) (WS SF : List Addr) (h : Heap) (k n : Nat)
    (p : Program) (e : Env) (s : State) (m : MethodId) (args : Array Value) (below : List Frame) (meth : Method) (c : Code) (T : State) : Prop :=
  (p.tables.exec = Jvm.exec ∧ c.code = bytes ∧ c.maxLocals = mL ∧ s.vm.findClass y.cls = some m.cls ∧ meth.name = y.name ∧ meth.sig.returnType = ret ∧ meth.locks = false ∧ (kn = true → s.vm.MethodsKnown ∧ s.vm.FramesKnown below)) ∧
  ∃ vm0 k0 locs, Stand p l e R (s.setVm vm0) m args below meth c T locs k n ∧ T.heap = h ∧ Cor Z EL n0 nr h0 WS SF h s vm0 k0 locs
def Go (l : Launch) (Z : State) (EL : List (String × Nat)) (n0 : Nat) (nr kn : Bool) (y : MethodName) (bytes : ByteArray) (mL : Nat) (ret : Option FieldType) (R : Room) (h0 : Heap) (WS : List Addr) (Q : Option Value → Heap → List Addr → Prop)
    (SF : List Addr) (h : Heap) (k n : Nat) (pc : Nat) (Ls : Array Slot) (st : List Value) : Prop :=
  ∀ (p : Program) (e : Env) (s : State) (m : MethodId) (args : Array Value) (below : List Frame) (meth : Method) (c : Code) (T : State), Run l Z EL n0 nr kn y bytes mL ret R h0 WS SF h k n p e s m args below meth c T →
    ∃ t o, Steps p.tables e below (T.setTop (mkF m pc Ls st)) t ∧ t.status = .running ∧ Ended t below o ∧ Pst Z EL n0 nr R h0 WS Q s o t
def Met (l : Launch) (Z : State) (EL : List (String × Nat)) (n0 : Nat) (nr kn : Bool) (y : MethodName) (bytes : ByteArray) (mL : Nat) (ret : Option FieldType) (R : Room) (WS : List Addr) (as' : Array Value) (h : Heap) (Q : Option Value → Heap → List Addr → Prop) : Prop :=
  ∀ ws : List Jvm.Cond, MetFree l y (head1 (Jvm.Cond.code y bytes mL ret :: ws) R)
    (fun a U => a = as' ∧ Z.Warmed39 U.vm ∧ U.heap = h ∧ CHv Z EL U.vm h ∧ (∀ x ∈ WS, (n0 ≤ x ∧ x < h.size) ∧ Safe Z EL U.vm h x) ∧ (Z.heap.size = n0 ∧ Ext Z.heap h) ∧ ∃ a0, EW Z a0 EL)
    (fun _ _ bl s _ => kn = true → s.vm.MethodsKnown ∧ s.vm.FramesKnown bl) (fun _ U o U' => Pst Z EL n0 nr R h WS Q U o U')
def Pays (l : Launch) (Z : State) (EL : List (String × Nat)) (n0 : Nat) (nr kn : Bool) (R : Room) (len : Nat) (z : MethodName) (W ck cn : Nat) (ws : List Addr) (as' : Array Value) (h : Heap) (Q : Option Value → Heap → List Addr → Prop) : Prop :=
  ∀ (p : Program) (e : Env) (below : List Frame) (s : State) (args : Array Value) (vm0 : Vm), p.tables.exec = Jvm.exec → Z.Warmed39 vm0 → CHv Z EL vm0 h → (∀ x ∈ ws, (n0 ≤ x ∧ x < h.size) ∧ Safe Z EL vm0 h x) → (Z.heap.size = n0 ∧ Ext Z.heap h) → (∃ a0, EW Z a0 EL) →
    (kn = true → vm0.MethodsKnown ∧ vm0.FramesKnown below) →
    BackS l R p e below (s.setVm vm0) args z len W (fun A a => a = as' ∧ A.U.heap = h ∧ A.cells + ck ≤ R.cells ∧ A.slots + cn ≤ R.slots)
      (fun A _ v B => ∃ L SN, Q v B.U.heap SN ∧ Fr n0 L ∧ Keep h B.U.heap ws ∧ (∀ x ∈ SN, (h.size ≤ x ∧ x < B.U.heap.size) ∧ Safe Z EL B.U.vm B.U.heap x) ∧ CHr Z EL vm0 h B.U.vm B.U.heap ∧ (nr = true → (s.setVm vm0).WarmedH B.U.vm) ∧ B.locs = A.locs ++ L ∧ B.cells = A.cells + ck ∧ B.slots = A.slots + cn)
def Mr (Z : State) (CC : String) (m : Addr) : Prop := ∃ (c : ClassId) (k : Class), Z.vm.findClass CC = some c ∧ Z.vm.classes[c]? = some k ∧ k.mirror = some m
section Rules
variable {l : Launch} {Z : State} {EL : List (String × Nat)} {n0 : Nat} {nr kn : Bool} {y : MethodName} {bytes : ByteArray} {mL : Nat} {ret : Option FieldType} {R : Room} {h0 : Heap} {WS : List Addr} {Q : Option Value → Heap → List Addr → Prop} {SF : List Addr} {h h' : Heap} {k n : Nat} {pc pc' : Nat} {Ls Ls' : Array Slot} {st rest : List Value} {a0 : Array Value} {s : State} {vm0 vm1 : Vm} {k0 : Nat} {locs : List Loc}
theorem Cor.ext (C : Cor Z EL n0 nr h0 WS SF h s vm0 k0 locs) (E : Ext h h') : Cor Z EL n0 nr h0 WS SF h' s vm0 k0 locs := by
  obtain ⟨c1, ⟨c2, c2'⟩, c3, c4, c5, c6, ⟨c7, c7'⟩, c8, c9, c10⟩ := C
  exact ⟨c1, ⟨c2, Nat.le_trans c2' E.1⟩, c3, c4.trans (CHr.ext E c4.1), fun x hx => ⟨⟨(c5 x hx).1.1, Nat.lt_of_lt_of_le (c5 x hx).1.2.1 E.1, (c5 x hx).1.2.2⟩, Safe.ext E c4.1 (c5 x hx).2⟩, c6, ⟨c7, Nat.le_trans c7'.1 E.1, fun a c q => E.2 a c (c7'.2 a c q)⟩, c8.ext E, c9, c10⟩
theorem Cor.push (C : Cor Z EL n0 nr h0 WS SF h s vm0 k0 locs) (E : Ext h h') (hlt : h.size < h'.size) : Cor Z EL n0 nr h0 WS (h.size :: SF) h' s vm0 k0 locs := by
  have D := C.ext E
  obtain ⟨c1, c2, c3, c4, c5, c6, ⟨c7, c7'⟩, c8, c9, c10⟩ := C
  obtain ⟨d1, d2, d3, d4, d5, d6, d7, d8, d9, d10⟩ := D
  refine ⟨d1, d2, d3, d4, fun x hx => ?_, d6, d7, d8, d9, d10⟩
  rcases List.mem_cons.mp hx with rfl | hx
  · exact ⟨⟨c7 ▸ c7'.1, hlt, Or.inr c8.1⟩, Safe.ext E c4.1 (Safe.new (Nat.le_refl _))⟩
  · exact d5 x hx
theorem Cor.wr {a : Addr} {sl : Nat} {v : Value} (C : Cor Z EL n0 nr h0 WS SF h s vm0 k0 locs) (W : Wr h h' a sl v) (ha : a ∈ SF) : Cor Z EL n0 nr h0 WS SF h' s vm0 k0 (locs ++ [⟨a, sl⟩]) := by
  obtain ⟨c1, ⟨c2, c2'⟩, c3, c4, c5, c6, ⟨c7, c7'⟩, c8, c9, c10⟩ := C
  have S := (c5 a ha).2
  have O : Old Z n0 h := ⟨c7, c7'⟩
  refine ⟨c1, ⟨c2, by rw [W.size]; exact c2'⟩, c3.app fun z hz => by cases List.mem_singleton.mp hz; exact (c5 a ha).1.1, c4.trans (CHr.wr W S c4.1), fun x hx => ⟨⟨(c5 x hx).1.1, by rw [W.size]; exact (c5 x hx).1.2.1, (c5 x hx).1.2.2⟩, Safe.wr W S c4.1 (c5 x hx).2⟩, c6, O.wr W (c5 a ha).1.1, c8.wr W (c5 a ha).1.2.2, c9, c10⟩
theorem Cor.keep {ws SN : List Addr} {L : List Loc} {k1 : Nat} (C : Cor Z EL n0 nr h0 WS SF h s vm0 k0 locs) (K : Keep h h' ws) (hws : ∀ x ∈ ws, x ∈ SF) (hL : Fr n0 L) (hC : CHr Z EL vm0 h vm1 h') (hZ : Z.Warmed39 vm1) (hS : s.Since vm1 k1) (hk : k1 ≤ h'.size) (hN : nr = true → s.WarmedH vm1)
    (hSN : ∀ x ∈ SN, (h.size ≤ x ∧ x < h'.size) ∧ Safe Z EL vm1 h' x) : Cor Z EL n0 nr h0 WS (SN ++ SF) h' s vm1 k1 (locs ++ L) := by
  obtain ⟨c1, ⟨c2, c2'⟩, c3, c4, c5, c6, ⟨c7, c7'⟩, c8, c9, c10⟩ := C
  have O : Old Z n0 h := ⟨c7, c7'⟩
  refine ⟨hZ, ⟨hS, hk⟩, c3.app hL, c4.trans hC, fun x hx => ?_, hN, O.keep K fun x hx => (c5 x (hws x hx)).1.1, c8.trans K fun x hx => (c5 x (hws x hx)).1.2.2, c9, c10⟩
  rcases List.mem_append.mp hx with hx | hx
  · obtain ⟨⟨q1, q2⟩, q3⟩ := hSN x hx
    exact ⟨⟨Nat.le_trans (c7 ▸ c7'.1) q1, q2, Or.inr (Nat.le_trans c8.1 q1)⟩, q3⟩
  · exact ⟨⟨(c5 x hx).1.1, Nat.lt_of_lt_of_le (c5 x hx).1.2.1 K.1, (c5 x hx).1.2.2⟩, hC.safe (c5 x hx).1.2.1 (c5 x hx).2⟩
theorem Go.inv (K : (Z.heap.size = n0 ∧ Ext Z.heap h) → Keep h0 h WS → (∀ x ∈ SF, n0 ≤ x ∧ x < h.size ∧ (x ∈ WS ∨ h0.size ≤ x)) → Go l Z EL n0 nr kn y bytes mL ret R h0 WS Q SF h k n pc Ls st) : Go l Z EL n0 nr kn y bytes mL ret R h0 WS Q SF h k n pc Ls st := by
  intro p e s m args below meth c T hR
  obtain ⟨hA, vm0, k0, locs, X, e0, C⟩ := hR
  exact K C.2.2.2.2.2.2.1 C.2.2.2.2.2.2.2.1 (fun x hx => (C.2.2.2.2.1 x hx).1) p e s m args below meth c T ⟨hA, vm0, k0, locs, X, e0, C⟩
theorem Go.more {k' n' : Nat} (hk : k ≤ k') (hn : n ≤ n') (K : Go l Z EL n0 nr kn y bytes mL ret R h0 WS Q SF h k' n' pc Ls st) : Go l Z EL n0 nr kn y bytes mL ret R h0 WS Q SF h k n pc Ls st := by
  intro p e s m args below meth c T hR
  obtain ⟨hA, vm0, k0, locs, X, e0, C⟩ := hR
  exact K p e s m args below meth c T ⟨hA, vm0, k0, locs, X.more hk hn, e0, C⟩
theorem Go.fewer {SF' : List Addr} (hs : ∀ x ∈ SF', x ∈ SF) (K : Go l Z EL n0 nr kn y bytes mL ret R h0 WS Q SF' h k n pc Ls st) : Go l Z EL n0 nr kn y bytes mL ret R h0 WS Q SF h k n pc Ls st := by
  intro p e s m args below meth c T hR
  obtain ⟨hA, vm0, k0, locs, X, e0, c1, c2, c3, c4, c5, r⟩ := hR
  exact K p e s m args below meth c T ⟨hA, vm0, k0, locs, X, e0, c1, c2, c3, c4, fun x hx => c5 x (hs x hx), r⟩
theorem Go.plain {st' : List Value} (H : ∀ (p : Program) (e : Env) (below : List Frame) (T : State) (m : MethodId) (c : Code) (target : State), At T m c below → p.tables.exec = Jvm.exec → c.code = bytes → Steps p.tables e below (T.setTop (mkF m pc' Ls' st')) target → Steps p.tables e below (T.setTop (mkF m pc Ls st)) target)
    (K : Go l Z EL n0 nr kn y bytes mL ret R h0 WS Q SF h k n pc' Ls' st') : Go l Z EL n0 nr kn y bytes mL ret R h0 WS Q SF h k n pc Ls st := by
  intro p e s m args below meth c T hR
  obtain ⟨t, o, hs, r⟩ := K p e s m args below meth c T hR
  obtain ⟨⟨hx, hb, -⟩, vm0, k0, locs, X, -⟩ := hR
  exact ⟨t, o, H p e below T m c t X.here hx hb hs, r⟩

theorem Go.aload_n {i : Fin 4} {v : Value} (hd : decode bytes pc = .ok (.aload_n i, 1)) (hq : pc + 1 = pc') (hl : Ls[i.val]? = some (.val v)) (hv : v.isRef = true) (K : Go l Z EL n0 nr kn y bytes mL ret R h0 WS Q SF h k n pc' Ls (v :: st)) : Go l Z EL n0 nr kn y bytes mL ret R h0 WS Q SF h k n pc Ls st :=
  Go.plain (fun p e below T m c target hA hx hb hk => XS.aloadN hA hx rfl (hb ▸ hd) hl hv (by subst hq; exact hk)) K
theorem Go.aload {i : Nat} {v : Value} (hd : decode bytes pc = .ok (.aload i, 2)) (hq : pc + 2 = pc') (hl : Ls[i]? = some (.val v)) (hv : v.isRef = true) (K : Go l Z EL n0 nr kn y bytes mL ret R h0 WS Q SF h k n pc' Ls (v :: st)) : Go l Z EL n0 nr kn y bytes mL ret R h0 WS Q SF h k n pc Ls st :=
  Go.plain (fun p e below T m c target hA hx hb hk => XS.aload hA hx rfl (hb ▸ hd) hl hv (by subst hq; exact hk)) K
theorem Go.iload_n {i : Fin 4} {v : Int32} (hd : decode bytes pc = .ok (.iload_n i, 1)) (hq : pc + 1 = pc') (hl : Ls[i.val]? = some (.val (.int v))) (K : Go l Z EL n0 nr kn y bytes mL ret R h0 WS Q SF h k n pc' Ls (.int v :: st)) : Go l Z EL n0 nr kn y bytes mL ret R h0 WS Q SF h k n pc Ls st :=
  Go.plain (fun p e below T m c target hA hx hb hk => XS.iloadN hA hx rfl (hb ▸ hd) hl (by subst hq; exact hk)) K
theorem Go.iload {i : Nat} {v : Int32} (hd : decode bytes pc = .ok (.iload i, 2)) (hq : pc + 2 = pc') (hl : Ls[i]? = some (.val (.int v))) (K : Go l Z EL n0 nr kn y bytes mL ret R h0 WS Q SF h k n pc' Ls (.int v :: st)) : Go l Z EL n0 nr kn y bytes mL ret R h0 WS Q SF h k n pc Ls st :=
  Go.plain (fun p e below T m c target hA hx hb hk => XS.iload hA hx rfl (hb ▸ hd) hl (by subst hq; exact hk)) K
theorem Go.lload_n {i : Fin 4} {v : Int64} (hd : decode bytes pc = .ok (.lload_n i, 1)) (hq : pc + 1 = pc') (hl : Ls[i.val]? = some (.val (.long v))) (K : Go l Z EL n0 nr kn y bytes mL ret R h0 WS Q SF h k n pc' Ls (.long v :: st)) : Go l Z EL n0 nr kn y bytes mL ret R h0 WS Q SF h k n pc Ls st :=
  Go.plain (fun p e below T m c target hA hx hb hk => XS.lloadN hA hx rfl (hb ▸ hd) hl (by subst hq; exact hk)) K
theorem Go.iconst {i : Int} {v : Int32} (hd : decode bytes pc = .ok (.iconst i, 1)) (hq : pc + 1 = pc') (hv : Int32.ofInt i = v) (K : Go l Z EL n0 nr kn y bytes mL ret R h0 WS Q SF h k n pc' Ls (.int v :: st)) : Go l Z EL n0 nr kn y bytes mL ret R h0 WS Q SF h k n pc Ls st :=
  Go.plain (fun p e below T m c target hA hx hb hk => XS.iconst hA hx rfl (hb ▸ hd) (by subst hq; subst hv; exact hk)) K
theorem Go.bipush {i : Int} {v : Int32} (hd : decode bytes pc = .ok (.bipush i, 2)) (hq : pc + 2 = pc') (hv : (Int8.ofInt i).toInt32 = v) (K : Go l Z EL n0 nr kn y bytes mL ret R h0 WS Q SF h k n pc' Ls (.int v :: st)) : Go l Z EL n0 nr kn y bytes mL ret R h0 WS Q SF h k n pc Ls st :=
  Go.plain (fun p e below T m c target hA hx hb hk => XS.bipush hA hx rfl (hb ▸ hd) (by subst hq; subst hv; exact hk)) K
theorem Go.sipush {i : Int} {v : Int32} (hd : decode bytes pc = .ok (.sipush i, 3)) (hq : pc + 3 = pc') (hv : (Int16.ofInt i).toInt32 = v) (K : Go l Z EL n0 nr kn y bytes mL ret R h0 WS Q SF h k n pc' Ls (.int v :: st)) : Go l Z EL n0 nr kn y bytes mL ret R h0 WS Q SF h k n pc Ls st :=
  Go.plain (fun p e below T m c target hA hx hb hk => XS.sipush hA hx rfl (hb ▸ hd) (by subst hq; subst hv; exact hk)) K
theorem Go.aconst_null (hd : decode bytes pc = .ok (.aconst_null, 1)) (hq : pc + 1 = pc') (K : Go l Z EL n0 nr kn y bytes mL ret R h0 WS Q SF h k n pc' Ls (.null :: st)) : Go l Z EL n0 nr kn y bytes mL ret R h0 WS Q SF h k n pc Ls st :=
  Go.plain (fun p e below T m c target hA hx hb hk => XS.aconstNull hA hx rfl (hb ▸ hd) (by subst hq; exact hk)) K
theorem Go.iadd {x z : Int32} (hd : decode bytes pc = .ok (.iadd, 1)) (hq : pc + 1 = pc') (K : Go l Z EL n0 nr kn y bytes mL ret R h0 WS Q SF h k n pc' Ls (.int (x + z) :: st)) : Go l Z EL n0 nr kn y bytes mL ret R h0 WS Q SF h k n pc Ls (.int z :: .int x :: st) :=
  Go.plain (fun p e below T m c target hA hx hb hk => XS.iadd hA hx rfl (hb ▸ hd) rfl (by subst hq; exact hk)) K
theorem Go.isub {x z : Int32} (hd : decode bytes pc = .ok (.isub, 1)) (hq : pc + 1 = pc') (K : Go l Z EL n0 nr kn y bytes mL ret R h0 WS Q SF h k n pc' Ls (.int (x - z) :: st)) : Go l Z EL n0 nr kn y bytes mL ret R h0 WS Q SF h k n pc Ls (.int z :: .int x :: st) :=
  Go.plain (fun p e below T m c target hA hx hb hk => XS.isub hA hx rfl (hb ▸ hd) rfl (by subst hq; exact hk)) K
theorem Go.iand {x z : Int32} (hd : decode bytes pc = .ok (.iand, 1)) (hq : pc + 1 = pc') (K : Go l Z EL n0 nr kn y bytes mL ret R h0 WS Q SF h k n pc' Ls (.int (x &&& z) :: st)) : Go l Z EL n0 nr kn y bytes mL ret R h0 WS Q SF h k n pc Ls (.int z :: .int x :: st) :=
  Go.plain (fun p e below T m c target hA hx hb hk => XS.iand hA hx rfl (hb ▸ hd) rfl (by subst hq; exact hk)) K
theorem Go.imul {x z : Int32} (hd : decode bytes pc = .ok (.imul, 1)) (hq : pc + 1 = pc') (K : Go l Z EL n0 nr kn y bytes mL ret R h0 WS Q SF h k n pc' Ls (.int (x * z) :: st)) : Go l Z EL n0 nr kn y bytes mL ret R h0 WS Q SF h k n pc Ls (.int z :: .int x :: st) :=
  Go.plain (fun p e below T m c target hA hx hb hk => XS.imul hA hx rfl (hb ▸ hd) rfl (by subst hq; exact hk)) K
theorem Go.ior {x z : Int32} (hd : decode bytes pc = .ok (.ior, 1)) (hq : pc + 1 = pc') (K : Go l Z EL n0 nr kn y bytes mL ret R h0 WS Q SF h k n pc' Ls (.int (x ||| z) :: st)) : Go l Z EL n0 nr kn y bytes mL ret R h0 WS Q SF h k n pc Ls (.int z :: .int x :: st) :=
  Go.plain (fun p e below T m c target hA hx hb hk => XS.ior hA hx rfl (hb ▸ hd) rfl (by subst hq; exact hk)) K
theorem Go.ixor {x z : Int32} (hd : decode bytes pc = .ok (.ixor, 1)) (hq : pc + 1 = pc') (K : Go l Z EL n0 nr kn y bytes mL ret R h0 WS Q SF h k n pc' Ls (.int (x ^^^ z) :: st)) : Go l Z EL n0 nr kn y bytes mL ret R h0 WS Q SF h k n pc Ls (.int z :: .int x :: st) :=
  Go.plain (fun p e below T m c target hA hx hb hk => XS.ixor hA hx rfl (hb ▸ hd) rfl (by subst hq; exact hk)) K
theorem Go.ishl {x z : Int32} (hd : decode bytes pc = .ok (.ishl, 1)) (hq : pc + 1 = pc') (K : Go l Z EL n0 nr kn y bytes mL ret R h0 WS Q SF h k n pc' Ls (.int (x <<< (z &&& 31)) :: st)) : Go l Z EL n0 nr kn y bytes mL ret R h0 WS Q SF h k n pc Ls (.int z :: .int x :: st) :=
  Go.plain (fun p e below T m c target hA hx hb hk => XS.ishl hA hx rfl (hb ▸ hd) rfl (by subst hq; exact hk)) K
theorem Go.ishr {x z : Int32} (hd : decode bytes pc = .ok (.ishr, 1)) (hq : pc + 1 = pc') (K : Go l Z EL n0 nr kn y bytes mL ret R h0 WS Q SF h k n pc' Ls (.int (x >>> (z &&& 31)) :: st)) : Go l Z EL n0 nr kn y bytes mL ret R h0 WS Q SF h k n pc Ls (.int z :: .int x :: st) :=
  Go.plain (fun p e below T m c target hA hx hb hk => XS.ishr hA hx rfl (hb ▸ hd) rfl (by subst hq; exact hk)) K
theorem Go.iushr {x z : Int32} (hd : decode bytes pc = .ok (.iushr, 1)) (hq : pc + 1 = pc') (K : Go l Z EL n0 nr kn y bytes mL ret R h0 WS Q SF h k n pc' Ls (.int ((x.toUInt32 >>> (z &&& 31).toUInt32).toInt32) :: st)) : Go l Z EL n0 nr kn y bytes mL ret R h0 WS Q SF h k n pc Ls (.int z :: .int x :: st) :=
  Go.plain (fun p e below T m c target hA hx hb hk => XS.iushr hA hx rfl (hb ▸ hd) rfl (by subst hq; exact hk)) K
theorem Go.ineg {x : Int32} (hd : decode bytes pc = .ok (.ineg, 1)) (hq : pc + 1 = pc') (K : Go l Z EL n0 nr kn y bytes mL ret R h0 WS Q SF h k n pc' Ls (.int (-x) :: st)) : Go l Z EL n0 nr kn y bytes mL ret R h0 WS Q SF h k n pc Ls (.int x :: st) :=
  Go.plain (fun p e below T m c target hA hx hb hk => XS.ineg hA hx rfl (hb ▸ hd) rfl (by subst hq; exact hk)) K
theorem Go.i2b {x : Int32} (hd : decode bytes pc = .ok (.i2b, 1)) (hq : pc + 1 = pc') (K : Go l Z EL n0 nr kn y bytes mL ret R h0 WS Q SF h k n pc' Ls (.int x.toInt8.toInt32 :: st)) : Go l Z EL n0 nr kn y bytes mL ret R h0 WS Q SF h k n pc Ls (.int x :: st) :=
  Go.plain (fun p e below T m c target hA hx hb hk => XS.i2b hA hx rfl (hb ▸ hd) rfl (by subst hq; exact hk)) K
theorem Go.i2c {x : Int32} (hd : decode bytes pc = .ok (.i2c, 1)) (hq : pc + 1 = pc') (K : Go l Z EL n0 nr kn y bytes mL ret R h0 WS Q SF h k n pc' Ls (.int x.toUInt32.toUInt16.toUInt32.toInt32 :: st)) : Go l Z EL n0 nr kn y bytes mL ret R h0 WS Q SF h k n pc Ls (.int x :: st) :=
  Go.plain (fun p e below T m c target hA hx hb hk => XS.i2c hA hx rfl (hb ▸ hd) rfl (by subst hq; exact hk)) K
theorem Go.i2l {x : Int32} (hd : decode bytes pc = .ok (.i2l, 1)) (hq : pc + 1 = pc') (K : Go l Z EL n0 nr kn y bytes mL ret R h0 WS Q SF h k n pc' Ls (.long x.toInt64 :: st)) : Go l Z EL n0 nr kn y bytes mL ret R h0 WS Q SF h k n pc Ls (.int x :: st) :=
  Go.plain (fun p e below T m c target hA hx hb hk => XS.i2l hA hx rfl (hb ▸ hd) rfl (by subst hq; exact hk)) K
theorem Go.l2i {x : Int64} (hd : decode bytes pc = .ok (.l2i, 1)) (hq : pc + 1 = pc') (K : Go l Z EL n0 nr kn y bytes mL ret R h0 WS Q SF h k n pc' Ls (.int x.toInt32 :: st)) : Go l Z EL n0 nr kn y bytes mL ret R h0 WS Q SF h k n pc Ls (.long x :: st) :=
  Go.plain (fun p e below T m c target hA hx hb hk => XS.l2i hA hx rfl (hb ▸ hd) rfl (by subst hq; exact hk)) K
theorem Go.ladd {x z : Int64} (hd : decode bytes pc = .ok (.ladd, 1)) (hq : pc + 1 = pc') (K : Go l Z EL n0 nr kn y bytes mL ret R h0 WS Q SF h k n pc' Ls (.long (x + z) :: st)) : Go l Z EL n0 nr kn y bytes mL ret R h0 WS Q SF h k n pc Ls (.long z :: .long x :: st) :=
  Go.plain (fun p e below T m c target hA hx hb hk => XS.ladd hA hx rfl (hb ▸ hd) rfl (by subst hq; exact hk)) K
theorem Go.lsub {x z : Int64} (hd : decode bytes pc = .ok (.lsub, 1)) (hq : pc + 1 = pc') (K : Go l Z EL n0 nr kn y bytes mL ret R h0 WS Q SF h k n pc' Ls (.long (x - z) :: st)) : Go l Z EL n0 nr kn y bytes mL ret R h0 WS Q SF h k n pc Ls (.long z :: .long x :: st) :=
  Go.plain (fun p e below T m c target hA hx hb hk => XS.lsub hA hx rfl (hb ▸ hd) rfl (by subst hq; exact hk)) K
theorem Go.lmul {x z : Int64} (hd : decode bytes pc = .ok (.lmul, 1)) (hq : pc + 1 = pc') (K : Go l Z EL n0 nr kn y bytes mL ret R h0 WS Q SF h k n pc' Ls (.long (x * z) :: st)) : Go l Z EL n0 nr kn y bytes mL ret R h0 WS Q SF h k n pc Ls (.long z :: .long x :: st) :=
  Go.plain (fun p e below T m c target hA hx hb hk => XS.lmul hA hx rfl (hb ▸ hd) rfl (by subst hq; exact hk)) K
theorem Go.lcmp {x z : Int64} (hd : decode bytes pc = .ok (.lcmp, 1)) (hq : pc + 1 = pc') (K : Go l Z EL n0 nr kn y bytes mL ret R h0 WS Q SF h k n pc' Ls (.int (lcmpW x z) :: st)) : Go l Z EL n0 nr kn y bytes mL ret R h0 WS Q SF h k n pc Ls (.long z :: .long x :: st) :=
  Go.plain (fun p e below T m c target hA hx hb hk => XS.lcmp hA hx rfl (hb ▸ hd) rfl (by subst hq; exact hk)) K
theorem Go.dup {v : Value} (hd : decode bytes pc = .ok (.dup, 1)) (hq : pc + 1 = pc') (hc : v.category = 1) (K : Go l Z EL n0 nr kn y bytes mL ret R h0 WS Q SF h k n pc' Ls (v :: v :: st)) : Go l Z EL n0 nr kn y bytes mL ret R h0 WS Q SF h k n pc Ls (v :: st) :=
  Go.plain (fun p e below T m c target hA hx hb hk => XS.dup hA hx rfl (hb ▸ hd) rfl hc (by subst hq; exact hk)) K
theorem Go.pop {v : Value} (hd : decode bytes pc = .ok (.pop, 1)) (hq : pc + 1 = pc') (hc : v.category = 1) (K : Go l Z EL n0 nr kn y bytes mL ret R h0 WS Q SF h k n pc' Ls st) : Go l Z EL n0 nr kn y bytes mL ret R h0 WS Q SF h k n pc Ls (v :: st) :=
  Go.plain (fun p e below T m c target hA hx hb hk => XS.pop hA hx rfl (hb ▸ hd) rfl hc (by subst hq; exact hk)) K
theorem Go.dup_x1 {v u : Value} (hd : decode bytes pc = .ok (.dup_x1, 1)) (hq : pc + 1 = pc') (hc : v.category = 1) (hc' : u.category = 1) (K : Go l Z EL n0 nr kn y bytes mL ret R h0 WS Q SF h k n pc' Ls (v :: u :: v :: st)) : Go l Z EL n0 nr kn y bytes mL ret R h0 WS Q SF h k n pc Ls (v :: u :: st) :=
  Go.plain (fun p e below T m c target hA hx hb hk => XS.dupX1 hA hx rfl (hb ▸ hd) rfl hc hc' (by subst hq; exact hk)) K
theorem Go.istore_n {i : Fin 4} {x : Int32} (hd : decode bytes pc = .ok (.istore_n i, 1)) (hq : pc + 1 = pc') (hl : storeLocals Ls i.val (.int x) = some Ls') (K : Go l Z EL n0 nr kn y bytes mL ret R h0 WS Q SF h k n pc' Ls' st) : Go l Z EL n0 nr kn y bytes mL ret R h0 WS Q SF h k n pc Ls (.int x :: st) :=
  Go.plain (fun p e below T m c target hA hx hb hk => XS.istoreN hA hx rfl (hb ▸ hd) rfl hl (by subst hq; exact hk)) K
theorem Go.istore {i : Nat} {x : Int32} (hd : decode bytes pc = .ok (.istore i, 2)) (hq : pc + 2 = pc') (hl : storeLocals Ls i (.int x) = some Ls') (K : Go l Z EL n0 nr kn y bytes mL ret R h0 WS Q SF h k n pc' Ls' st) : Go l Z EL n0 nr kn y bytes mL ret R h0 WS Q SF h k n pc Ls (.int x :: st) :=
  Go.plain (fun p e below T m c target hA hx hb hk => XS.istore hA hx rfl (hb ▸ hd) rfl hl (by subst hq; exact hk)) K
theorem Go.istoreS {i : Nat} {x : Int32} {o : Slot} (hd : decode bytes pc = .ok (.istore i, 2)) (hq : pc + 2 = pc') (hold : Ls[i]? = some o) (ho : One o) (hl : Ls.setIfInBounds i (.val (.int x)) = Ls') (K : Go l Z EL n0 nr kn y bytes mL ret R h0 WS Q SF h k n pc' Ls' st) : Go l Z EL n0 nr kn y bytes mL ret R h0 WS Q SF h k n pc Ls (.int x :: st) :=
  Go.plain (fun p e below T m c target hA hx hb hk => XS.istoreS hA hx rfl (hb ▸ hd) rfl hold ho (by subst hq; subst hl; exact hk)) K
theorem Go.lstore_n {i : Fin 4} {x : Int64} (hd : decode bytes pc = .ok (.lstore_n i, 1)) (hq : pc + 1 = pc') (hl : storeLocals Ls i.val (.long x) = some Ls') (K : Go l Z EL n0 nr kn y bytes mL ret R h0 WS Q SF h k n pc' Ls' st) : Go l Z EL n0 nr kn y bytes mL ret R h0 WS Q SF h k n pc Ls (.long x :: st) :=
  Go.plain (fun p e below T m c target hA hx hb hk => XS.lstoreN hA hx rfl (hb ▸ hd) rfl hl (by subst hq; exact hk)) K
theorem Go.astore_n {i : Fin 4} {v : Value} (hd : decode bytes pc = .ok (.astore_n i, 1)) (hq : pc + 1 = pc') (hv : v.isRef = true) (hl : storeLocals Ls i.val v = some Ls') (K : Go l Z EL n0 nr kn y bytes mL ret R h0 WS Q SF h k n pc' Ls' st) : Go l Z EL n0 nr kn y bytes mL ret R h0 WS Q SF h k n pc Ls (v :: st) :=
  Go.plain (fun p e below T m c target hA hx hb hk => XS.astoreN hA hx rfl (hb ▸ hd) rfl hv hl (by subst hq; exact hk)) K
theorem Go.astore {i : Nat} {v : Value} (hd : decode bytes pc = .ok (.astore i, 2)) (hq : pc + 2 = pc') (hv : v.isRef = true) (hl : storeLocals Ls i v = some Ls') (K : Go l Z EL n0 nr kn y bytes mL ret R h0 WS Q SF h k n pc' Ls' st) : Go l Z EL n0 nr kn y bytes mL ret R h0 WS Q SF h k n pc Ls (v :: st) :=
  Go.plain (fun p e below T m c target hA hx hb hk => XS.astore hA hx rfl (hb ▸ hd) rfl hv hl (by subst hq; exact hk)) K
theorem Go.iinc {i : Nat} {cst : Int} {x cv : Int32} (hd : decode bytes pc = .ok (.iinc i cst, 3)) (hq : pc + 3 = pc') (hv : Int32.ofInt cst = cv) (hl : Ls[i]? = some (.val (.int x))) (hl' : storeLocals Ls i (.int (x + cv)) = some Ls') (K : Go l Z EL n0 nr kn y bytes mL ret R h0 WS Q SF h k n pc' Ls' st) : Go l Z EL n0 nr kn y bytes mL ret R h0 WS Q SF h k n pc Ls st :=
  Go.plain (fun p e below T m c target hA hx hb hk => XS.iinc hA hx rfl (hb ▸ hd) hl (by subst hv; exact hl') (by subst hq; exact hk)) K
theorem Go.irem {x z : Int32} (hd : decode bytes pc = .ok (.irem, 1)) (hq : pc + 1 = pc') (hz : z ≠ 0) (K : Go l Z EL n0 nr kn y bytes mL ret R h0 WS Q SF h k n pc' Ls (.int (x % z) :: st)) : Go l Z EL n0 nr kn y bytes mL ret R h0 WS Q SF h k n pc Ls (.int z :: .int x :: st) :=
  Go.plain (fun p e below T m c target hA hx hb hk => XS.irem hA hx rfl (hb ▸ hd) rfl hz (by rw [show x - x / z * z = x % z from irem_eq_mod x z]; subst hq; exact hk)) K
theorem Go.idiv {x z : Int32} (hd : decode bytes pc = .ok (.idiv, 1)) (hq : pc + 1 = pc') (hz : z ≠ 0) (K : Go l Z EL n0 nr kn y bytes mL ret R h0 WS Q SF h k n pc' Ls (.int (x / z) :: st)) : Go l Z EL n0 nr kn y bytes mL ret R h0 WS Q SF h k n pc Ls (.int z :: .int x :: st) :=
  Go.plain (fun p e below T m c target hA hx hb hk => XS.idiv hA hx rfl (hb ▸ hd) rfl hz (by subst hq; exact hk)) K
theorem Go.goto {o : Int} (hd : decode bytes pc = .ok (.goto o, 3)) (ho : 0 ≤ (pc : Int) + o) (hq : ((pc : Int) + o).toNat = pc') (K : Go l Z EL n0 nr kn y bytes mL ret R h0 WS Q SF h k n pc' Ls st) : Go l Z EL n0 nr kn y bytes mL ret R h0 WS Q SF h k n pc Ls st :=
  Go.plain (fun p e below T m c target hA hx hb hk => XS.goto hA hx rfl (pc0 := pc) (pc' := pc') rfl (hb ▸ hd) ho hq hk) K
theorem Go.ifY {cd : ClassFile.Cond} {x : Int32} {o : Int} (hd : decode bytes pc = .ok (.ifCond cd o, 3)) (ho : 0 ≤ (pc : Int) + o) (hq : ((pc : Int) + o).toNat = pc') (hc : ifCond.holds cd x = true) (K : Go l Z EL n0 nr kn y bytes mL ret R h0 WS Q SF h k n pc' Ls st) : Go l Z EL n0 nr kn y bytes mL ret R h0 WS Q SF h k n pc Ls (.int x :: st) :=
  Go.plain (fun p e below T m c target hA hx hb hk => XS.ifYes hA hx rfl (pc0 := pc) (pc' := pc') rfl (hb ▸ hd) rfl hc ho hq hk) K
theorem Go.icmpY {cd : ClassFile.Cond} {x z : Int32} {o : Int} (hd : decode bytes pc = .ok (.if_icmp cd o, 3)) (ho : 0 ≤ (pc : Int) + o) (hq : ((pc : Int) + o).toNat = pc') (hc : if_icmp.holds cd x z = true) (K : Go l Z EL n0 nr kn y bytes mL ret R h0 WS Q SF h k n pc' Ls st) : Go l Z EL n0 nr kn y bytes mL ret R h0 WS Q SF h k n pc Ls (.int z :: .int x :: st) :=
  Go.plain (fun p e below T m c target hA hx hb hk => XS.icmpYes hA hx rfl (pc0 := pc) (pc' := pc') rfl (hb ▸ hd) rfl hc ho hq hk) K
theorem Go.ifnullY {o : Int} (hd : decode bytes pc = .ok (.ifnull o, 3)) (ho : 0 ≤ (pc : Int) + o) (hq : ((pc : Int) + o).toNat = pc') (K : Go l Z EL n0 nr kn y bytes mL ret R h0 WS Q SF h k n pc' Ls st) : Go l Z EL n0 nr kn y bytes mL ret R h0 WS Q SF h k n pc Ls (.null :: st) :=
  Go.plain (fun p e below T m c target hA hx hb hk => XS.ifnullYes hA hx rfl (pc0 := pc) (pc' := pc') rfl (hb ▸ hd) rfl ho hq hk) K
theorem Go.ifnonnullY {b : Addr} {o : Int} (hd : decode bytes pc = .ok (.ifnonnull o, 3)) (ho : 0 ≤ (pc : Int) + o) (hq : ((pc : Int) + o).toNat = pc') (K : Go l Z EL n0 nr kn y bytes mL ret R h0 WS Q SF h k n pc' Ls st) : Go l Z EL n0 nr kn y bytes mL ret R h0 WS Q SF h k n pc Ls (.ref b :: st) :=
  Go.plain (fun p e below T m c target hA hx hb hk => XS.ifnonnullYes hA hx rfl (pc0 := pc) (pc' := pc') rfl (hb ▸ hd) rfl ho hq hk) K
theorem Go.ifN {cd : ClassFile.Cond} {o : Int} {x : Int32} (hd : decode bytes pc = .ok (.ifCond cd o, 3)) (hq : pc + 3 = pc') (hc : ifCond.holds cd x = false) (K : Go l Z EL n0 nr kn y bytes mL ret R h0 WS Q SF h k n pc' Ls st) : Go l Z EL n0 nr kn y bytes mL ret R h0 WS Q SF h k n pc Ls (.int x :: st) :=
  Go.plain (fun p e below T m c target hA hx hb hk => XS.ifNo hA hx rfl (hb ▸ hd) rfl hc (by subst hq; exact hk)) K
theorem Go.icmpN {cd : ClassFile.Cond} {o : Int} {x z : Int32} (hd : decode bytes pc = .ok (.if_icmp cd o, 3)) (hq : pc + 3 = pc') (hc : if_icmp.holds cd x z = false) (K : Go l Z EL n0 nr kn y bytes mL ret R h0 WS Q SF h k n pc' Ls st) : Go l Z EL n0 nr kn y bytes mL ret R h0 WS Q SF h k n pc Ls (.int z :: .int x :: st) :=
  Go.plain (fun p e below T m c target hA hx hb hk => XS.icmpNo hA hx rfl (hb ▸ hd) rfl hc (by subst hq; exact hk)) K
theorem Go.ifnullN {o : Int} {b : Addr} (hd : decode bytes pc = .ok (.ifnull o, 3)) (hq : pc + 3 = pc') (K : Go l Z EL n0 nr kn y bytes mL ret R h0 WS Q SF h k n pc' Ls st) : Go l Z EL n0 nr kn y bytes mL ret R h0 WS Q SF h k n pc Ls (.ref b :: st) :=
  Go.plain (fun p e below T m c target hA hx hb hk => XS.ifnullNo hA hx rfl (hb ▸ hd) rfl (by subst hq; exact hk)) K
theorem Go.ifnonnullN {o : Int} (hd : decode bytes pc = .ok (.ifnonnull o, 3)) (hq : pc + 3 = pc') (K : Go l Z EL n0 nr kn y bytes mL ret R h0 WS Q SF h k n pc' Ls st) : Go l Z EL n0 nr kn y bytes mL ret R h0 WS Q SF h k n pc Ls (.null :: st) :=
  Go.plain (fun p e below T m c target hA hx hb hk => XS.ifnonnullNo hA hx rfl (hb ▸ hd) rfl (by subst hq; exact hk)) K
theorem Go.acmp {cd : ACond} {v u : Value} {o : Int} {same : Bool} (hd : decode bytes pc = .ok (.if_acmp cd o, 3)) (hv : v.isRef = true) (hu : u.isRef = true) (hs : decide (v = u) = same) (ho : 0 ≤ (pc : Int) + o) (hq : pc' = if acV cd same = true then ((pc : Int) + o).toNat else pc + 3) (K : Go l Z EL n0 nr kn y bytes mL ret R h0 WS Q SF h k n pc' Ls st) : Go l Z EL n0 nr kn y bytes mL ret R h0 WS Q SF h k n pc Ls (u :: v :: st) := by
  intro p e s m args below meth c T hR
  obtain ⟨t, o, hs', r⟩ := K p e s m args below meth c T hR
  obtain ⟨⟨hx, hb, -⟩, vm0, k0, locs, X, -⟩ := hR
  exact ⟨t, o, Jvm.RoadKit.acmp (g := mkF m pc Ls (u :: v :: st)) X hx rfl hv hu (pc0 := pc) (pc' := pc') (same := same) rfl (hb ▸ hd) rfl hs ho hq hs', r⟩
theorem Go.getF {R0 O nf d host : String} {index : Nat} {a : Addr} {v : Value} (hd : decode bytes pc = .ok (.getfield index, 3)) (hq : pc + 3 = pc') (w : (Jvm.Cond.fieldLink y.cls index R0 nf d).before a0 Z = true ∨ (Jvm.Cond.fieldLinkNest y.cls index R0 nf d host).before a0 Z = true) (via : Via Z R0 O nf d) (F : Fld Z h a O nf d v) (K : Go l Z EL n0 nr kn y bytes mL ret R h0 WS Q SF h k n pc' Ls (v :: st)) : Go l Z EL n0 nr kn y bytes mL ret R h0 WS Q SF h k n pc Ls (.ref a :: st) := by
  intro p e s m args below meth c T hR
  obtain ⟨⟨hx, hby, hml, hown, hnm, hret, hlk, hkn⟩, vm0, k0, locs, X, e0, C⟩ := hR
  have hZ : Z.Warmed39 (s.setVm vm0).vm := C.1
  have hown' : (s.setVm vm0).vm.findClass y.cls = some m.cls := by rw [show (s.setVm vm0).vm = vm0 from rfl, C.2.1.1.1.alike.findClass]; exact hown
  obtain ⟨T', X', e', st'⟩ := Jvm.RoadKit.getF X hx hZ hown' w via e0 F (g := mkF m pc Ls (.ref a :: st)) rfl rfl (hb hby hd)
  obtain ⟨t, o, hs, r⟩ := K p e s m args below meth c T' ⟨⟨hx, hby, hml, hown, hnm, hret, hlk, hkn⟩, vm0, k0, locs, X', e', C⟩
  exact ⟨t, o, st' _ (by subst hq; exact hs), r⟩
theorem Go.getS {R0 O nf d host : String} {index : Nat} {v : Value} (hd : decode bytes pc = .ok (.getstatic index, 3)) (hq : pc + 3 = pc') (w : (Jvm.Cond.fieldLink y.cls index R0 nf d).before a0 Z = true ∨ (Jvm.Cond.fieldLinkNest y.cls index R0 nf d host).before a0 Z = true) (via : Via Z R0 O nf d) (F : Sta Z Z.heap O nf d v) (K : Go l Z EL n0 nr kn y bytes mL ret R h0 WS Q SF h k n pc' Ls (v :: st)) : Go l Z EL n0 nr kn y bytes mL ret R h0 WS Q SF h k n pc Ls st := by
  intro p e s m args below meth c T hR
  obtain ⟨⟨hx, hby, hml, hown, hnm, hret, hlk, hkn⟩, vm0, k0, locs, X, e0, C⟩ := hR
  have hZ : Z.Warmed39 (s.setVm vm0).vm := C.1
  have hown' : (s.setVm vm0).vm.findClass y.cls = some m.cls := by rw [show (s.setVm vm0).vm = vm0 from rfl, C.2.1.1.1.alike.findClass]; exact hown
  obtain ⟨T', X', e', st'⟩ := Jvm.RoadKit.getS2 X hx hZ hown' w via e0 (F.ext C.2.2.2.2.2.2.1.2) (g := mkF m pc Ls st) rfl (hb hby hd)
  obtain ⟨t, o, hs, r⟩ := K p e s m args below meth c T' ⟨⟨hx, hby, hml, hown, hnm, hret, hlk, hkn⟩, vm0, k0, locs, X', e', C⟩
  exact ⟨t, o, st' _ (by subst hq; exact hs), r⟩
theorem Go.castY {D : String} {index : Nat} {a : Addr} (hd : decode bytes pc = .ok (.checkcast index, 3)) (hq : pc + 3 = pc') (w : (Jvm.Cond.classLink y.cls index D).before a0 Z = true) (F : Ins Z h a D true) (K : Go l Z EL n0 nr kn y bytes mL ret R h0 WS Q SF h k n pc' Ls (.ref a :: st)) : Go l Z EL n0 nr kn y bytes mL ret R h0 WS Q SF h k n pc Ls (.ref a :: st) := by
  intro p e s m args below meth c T hR
  obtain ⟨⟨hx, hby, hml, hown, hnm, hret, hlk, hkn⟩, vm0, k0, locs, X, e0, C⟩ := hR
  have hZ : Z.Warmed39 (s.setVm vm0).vm := C.1
  have hown' : (s.setVm vm0).vm.findClass y.cls = some m.cls := by rw [show (s.setVm vm0).vm = vm0 from rfl, C.2.1.1.1.alike.findClass]; exact hown
  obtain ⟨T', X', e', st'⟩ := Jvm.RoadKit.castY X hx hZ hown' w e0 F (g := mkF m pc Ls (.ref a :: st)) rfl rfl (hb hby hd)
  obtain ⟨t, o, hs, r⟩ := K p e s m args below meth c T' ⟨⟨hx, hby, hml, hown, hnm, hret, hlk, hkn⟩, vm0, k0, locs, X', e', C⟩
  exact ⟨t, o, st' _ (by subst hq; exact hs), r⟩
theorem Go.instY {D : String} {index : Nat} {a : Addr} (hd : decode bytes pc = .ok (.instanceof index, 3)) (hq : pc + 3 = pc') (w : (Jvm.Cond.classLink y.cls index D).before a0 Z = true) (F : Ins Z h a D true) (K : Go l Z EL n0 nr kn y bytes mL ret R h0 WS Q SF h k n pc' Ls (.int 1 :: st)) : Go l Z EL n0 nr kn y bytes mL ret R h0 WS Q SF h k n pc Ls (.ref a :: st) := by
  intro p e s m args below meth c T hR
  obtain ⟨⟨hx, hby, hml, hown, hnm, hret, hlk, hkn⟩, vm0, k0, locs, X, e0, C⟩ := hR
  have hZ : Z.Warmed39 (s.setVm vm0).vm := C.1
  have hown' : (s.setVm vm0).vm.findClass y.cls = some m.cls := by rw [show (s.setVm vm0).vm = vm0 from rfl, C.2.1.1.1.alike.findClass]; exact hown
  obtain ⟨T', X', e', st'⟩ := Jvm.RoadKit.instY X hx hZ hown' w e0 F (g := mkF m pc Ls (.ref a :: st)) rfl rfl (hb hby hd)
  obtain ⟨t, o, hs, r⟩ := K p e s m args below meth c T' ⟨⟨hx, hby, hml, hown, hnm, hret, hlk, hkn⟩, vm0, k0, locs, X', e', C⟩
  exact ⟨t, o, st' _ (by subst hq; exact hs), r⟩
theorem Go.instNo {D CC : String} {index : Nat} {a : Addr} (hd : decode bytes pc = .ok (.instanceof index, 3)) (hq : pc + 3 = pc') (w : (Jvm.Cond.classLink y.cls index D).before a0 Z = true) (E : Exa Z h a CC) (F : ∃ c t, Z.vm.findClass CC = some c ∧ Z.vm.findClass D = some t ∧ Z.vm.assignable c t = false) (K : Go l Z EL n0 nr kn y bytes mL ret R h0 WS Q SF h k n pc' Ls (.int 0 :: st)) : Go l Z EL n0 nr kn y bytes mL ret R h0 WS Q SF h k n pc Ls (.ref a :: st) := by
  intro p e s m args below meth c T hR
  obtain ⟨⟨hx, hby, hml, hown, hnm, hret, hlk, hkn⟩, vm0, k0, locs, X, e0, C⟩ := hR
  have hZ : Z.Warmed39 (s.setVm vm0).vm := C.1
  have hown' : (s.setVm vm0).vm.findClass y.cls = some m.cls := by rw [show (s.setVm vm0).vm = vm0 from rfl, C.2.1.1.1.alike.findClass]; exact hown
  obtain ⟨T', X', e', st'⟩ := Jvm.RoadKit.instNo X hx hZ hown' w e0 E F (g := mkF m pc Ls (.ref a :: st)) rfl rfl (hb hby hd)
  obtain ⟨t, o, hs, r⟩ := K p e s m args below meth c T' ⟨⟨hx, hby, hml, hown, hnm, hret, hlk, hkn⟩, vm0, k0, locs, X', e', C⟩
  exact ⟨t, o, st' _ (by subst hq; exact hs), r⟩
theorem Go.initO {index W : Nat} {a : Addr} (hd : decode bytes pc = .ok (.invokespecial index, 3)) (hq : pc + 3 = pc') (w1 : (Jvm.Cond.methodLink y.cls index Lib.objectInit).before a0 Z = true) (w2 : (Jvm.Cond.instanceMethod Lib.objectInit).before a0 Z = true) (w3 : (Jvm.Cond.code Lib.objectInit ⟨#[0xb1]⟩ 1 none).before a0 Z = true) (hsz : Ls.size = mL) (hf : 1 ≤ R.frames) (hW : (st.map fun v => v.category).sum ≤ W) (hl : W + 12 ≤ R.locals) (K : Go l Z EL n0 nr kn y bytes mL ret R h0 WS Q SF h k n pc' Ls st) : Go l Z EL n0 nr kn y bytes mL ret R h0 WS Q SF h k n pc Ls (.ref a :: st) := by
  intro p e s m args below meth c T hR
  obtain ⟨⟨hx, hby, hml, hown, hnm, hret, hlk, hkn⟩, vm0, k0, locs, X, e0, C⟩ := hR
  have hZ : Z.Warmed39 (s.setVm vm0).vm := C.1
  have hown' : (s.setVm vm0).vm.findClass y.cls = some m.cls := by rw [show (s.setVm vm0).vm = vm0 from rfl, C.2.1.1.1.alike.findClass]; exact hown
  obtain ⟨T', X', e', st'⟩ := Jvm.RoadKit.initO X hx hZ hown' w1 w2 w3 e0 (g := mkF m pc Ls (.ref a :: st)) rfl (by rw [hml]; exact hsz) rfl (hb hby hd) hf (W := W) (by show 2 * 0 + _ ≤ _; rw [Nat.mul_zero, Nat.zero_add]; exact hW) hl
  obtain ⟨t, o, hs, r⟩ := K p e s m args below meth c T' ⟨⟨hx, hby, hml, hown, hnm, hret, hlk, hkn⟩, vm0, k0, locs, X', e', C⟩
  exact ⟨t, o, st' _ (by subst hq; exact hs), r⟩
theorem Go.gcls {index W : Nat} {CC : String} {a mr : Addr} (hd : decode bytes pc = .ok (.invokevirtual index, 3)) (hq : pc + 3 = pc') (w1 : (Jvm.Cond.methodLink y.cls index ⟨"java/lang/Object", "getClass", "()Ljava/lang/Class;"⟩).before a0 Z = true) (w2 : (Jvm.Cond.declares ⟨"java/lang/Object", "getClass", "()Ljava/lang/Class;"⟩).before a0 Z = true) (w3 : (Jvm.Cond.noSuperclass "java/lang/Object").before a0 Z = true) (w4 : (Jvm.Cond.selects CC ⟨"java/lang/Object", "getClass", "()Ljava/lang/Class;"⟩ ⟨"java/lang/Object", "getClass", "()Ljava/lang/Class;"⟩).before a0 Z = true)
    (w5 : (Jvm.Cond.instanceMethod ⟨"java/lang/Object", "getClass", "()Ljava/lang/Class;"⟩).before a0 Z = true) (w6 : (Jvm.Cond.native ⟨"java/lang/Object", "getClass", "()Ljava/lang/Class;"⟩).before a0 Z = true) (E : Exa Z h a CC) (M : Mr Z CC mr) (hsz : Ls.size = mL) (hf : 1 ≤ R.frames) (hW : (st.map fun v => v.category).sum ≤ W) (hl : W + (nativeFrameWords "java/lang/Object" "getClass" 1 + 11) ≤ R.locals) (K : Go l Z EL n0 nr kn y bytes mL ret R h0 WS Q SF h k n pc' Ls (.ref mr :: st)) : Go l Z EL n0 nr kn y bytes mL ret R h0 WS Q SF h k n pc Ls (.ref a :: st) := by
  intro p e s m args below meth c T hR
  obtain ⟨⟨hx, hby, hml, hown, hnm, hret, hlk, hkn⟩, vm0, k0, locs, X, e0, C⟩ := hR
  have hZ : Z.Warmed39 (s.setVm vm0).vm := C.1
  have hown' : (s.setVm vm0).vm.findClass y.cls = some m.cls := by rw [show (s.setVm vm0).vm = vm0 from rfl, C.2.1.1.1.alike.findClass]; exact hown
  obtain ⟨cB, kB, i1, i2, i3⟩ := isOf hZ e0 E
  obtain ⟨cc, kc, m1, m2, m3⟩ := M
  rw [hZ.alike.findClass] at i1
  cases i1.symm.trans m1
  obtain ⟨k', q, ek⟩ := hZ.alike.2.2 _ _ m2
  obtain ⟨vm', X', st'⟩ := X.getClassOf hx hown' (mvT hZ w1) (mvT hZ w2) (nf_top (args := #[]) (mvT hZ w3)) (mvT hZ w4) (mvT hZ w5) (mvT hZ w6) (by rw [hZ.alike.findClass]; exact m1) i3 q (by rw [ek]; exact m3) (g := mkF m pc Ls (.ref a :: st)) rfl (by rw [hml]; exact hsz) rfl (hb hby hd) hf (by show 2 * 0 + _ + _ ≤ _; omega)
  obtain ⟨t, o, hs, r⟩ := K p e s m args below meth c _ ⟨⟨hx, hby, hml, hown, hnm, hret, hlk, hkn⟩, vm0, k0, locs, X', e0, C⟩
  exact ⟨t, o, st' _ (by subst hq; exact hs), r⟩
theorem Go.ldcM {index : Nat} {CC : String} {mr : Addr} (hd : decode bytes pc = .ok (.ldc index, 2)) (hq : pc + 2 = pc') (w : (Jvm.Cond.classLink y.cls index CC).before a0 Z = true) (M : Mr Z CC mr) (K : Go l Z EL n0 nr kn y bytes mL ret R h0 WS Q SF h k n pc' Ls (.ref mr :: st)) : Go l Z EL n0 nr kn y bytes mL ret R h0 WS Q SF h k n pc Ls st := by
  intro p e s m args below meth c T hR
  obtain ⟨⟨hx, hby, hml, hown, hnm, hret, hlk, hkn⟩, vm0, k0, locs, X, e0, C⟩ := hR
  have hZ : Z.Warmed39 (s.setVm vm0).vm := C.1
  have hown' : (s.setVm vm0).vm.findClass y.cls = some m.cls := by rw [show (s.setVm vm0).vm = vm0 from rfl, C.2.1.1.1.alike.findClass]; exact hown
  obtain ⟨cc, kc, m1, m2, m3⟩ := M
  obtain ⟨k', q, ek⟩ := hZ.alike.2.2 _ _ m2
  have hev : (Term.mirror CC).eval args (s.setVm vm0) none [] (s.setVm vm0) = some (.ref mr) := by
    have q1 : (s.setVm vm0).vm.findClass CC = some cc := by rw [hZ.alike.findClass]; exact m1
    have q2 : k'.mirror = some mr := by rw [ek]; exact m3
    simp only [Term.eval, q1, q, q2, Option.bind_eq_bind, Option.bind_some, Option.pure_def]
  obtain ⟨vm', X', st'⟩ := X.ldcMirror hx hown' (mvT hZ w) hev (g := mkF m pc Ls st) rfl (hb hby hd)
  obtain ⟨t, o, hs, r⟩ := K p e s m args below meth c _ ⟨⟨hx, hby, hml, hown, hnm, hret, hlk, hkn⟩, vm0, k0, locs, X', e0, C⟩
  exact ⟨t, o, st' _ (by subst hq; exact hs), r⟩
theorem Go.ldcInt {index : Nat} {v : Int32} (hd : decode bytes pc = .ok (.ldc index, 2)) (hq : pc + 2 = pc') (w : (Jvm.Cond.constant y.cls index v).before a0 Z = true) (K : Go l Z EL n0 nr kn y bytes mL ret R h0 WS Q SF h k n pc' Ls (.int v :: st)) : Go l Z EL n0 nr kn y bytes mL ret R h0 WS Q SF h k n pc Ls st := by
  intro p e s m args below meth c T hR
  obtain ⟨⟨hx, hby, hml, hown, hnm, hret, hlk, hkn⟩, vm0, k0, locs, X, e0, C⟩ := hR
  have hZ : Z.Warmed39 (s.setVm vm0).vm := C.1
  have hown' : (s.setVm vm0).vm.findClass y.cls = some m.cls := by rw [show (s.setVm vm0).vm = vm0 from rfl, C.2.1.1.1.alike.findClass]; exact hown
  obtain ⟨t, o, hs, r⟩ := K p e s m args below meth c T ⟨⟨hx, hby, hml, hown, hnm, hret, hlk, hkn⟩, vm0, k0, locs, X, e0, C⟩
  exact ⟨t, o, X.ldcInt hx hown' (mvT hZ w) (g := mkF m pc Ls st) rfl (hb hby hd) _ (by subst hq; exact hs), r⟩
theorem Go.ldc2Long {index : Nat} {v : Int64} (hd : decode bytes pc = .ok (.ldc2_w index, 3)) (hq : pc + 3 = pc') (w : (Jvm.Cond.constantLong y.cls index v).before a0 Z = true) (K : Go l Z EL n0 nr kn y bytes mL ret R h0 WS Q SF h k n pc' Ls (.long v :: st)) : Go l Z EL n0 nr kn y bytes mL ret R h0 WS Q SF h k n pc Ls st := by
  intro p e s m args below meth c T hR
  obtain ⟨⟨hx, hby, hml, hown, hnm, hret, hlk, hkn⟩, vm0, k0, locs, X, e0, C⟩ := hR
  have hZ : Z.Warmed39 (s.setVm vm0).vm := C.1
  have hown' : (s.setVm vm0).vm.findClass y.cls = some m.cls := by rw [show (s.setVm vm0).vm = vm0 from rfl, C.2.1.1.1.alike.findClass]; exact hown
  obtain ⟨t, o, hs, r⟩ := K p e s m args below meth c T ⟨⟨hx, hby, hml, hown, hnm, hret, hlk, hkn⟩, vm0, k0, locs, X, e0, C⟩
  exact ⟨t, o, X.ldc2Long hx hown' (mvT hZ w) (g := mkF m pc Ls st) rfl (hb hby hd) _ (by subst hq; exact hs), r⟩
theorem Go.arraylength {a : Addr} {cl : Cell} {ty : FieldType} {z : Int32} (hd : decode bytes pc = .ok (.arraylength, 1)) (hq : pc + 1 = pc') (F : Arr Z h a cl ty) (hz : cl.slots.size.toInt32 = z) (K : Go l Z EL n0 nr kn y bytes mL ret R h0 WS Q SF h k n pc' Ls (.int z :: st)) : Go l Z EL n0 nr kn y bytes mL ret R h0 WS Q SF h k n pc Ls (.ref a :: st) := by
  intro p e s m args below meth c T hR
  obtain ⟨⟨hx, hby, hml, hown, hnm, hret, hlk, hkn⟩, vm0, k0, locs, X, e0, C⟩ := hR
  have hZ : Z.Warmed39 (s.setVm vm0).vm := C.1
  have hown' : (s.setVm vm0).vm.findClass y.cls = some m.cls := by rw [show (s.setVm vm0).vm = vm0 from rfl, C.2.1.1.1.alike.findClass]; exact hown
  obtain ⟨t, o, hs, r⟩ := K p e s m args below meth c T ⟨⟨hx, hby, hml, hown, hnm, hret, hlk, hkn⟩, vm0, k0, locs, X, e0, C⟩
  exact ⟨t, o, X.arraylength hx (by rw [e0]; exact F.1) (State.isArrayOf_alike hZ.alike F.2.1) (g := mkF m pc Ls (.ref a :: st)) rfl rfl (hb hby hd) _ (by subst hq; rw [hz]; exact hs), r⟩
theorem Go.lenV {a : Addr} {kk : ClassId} {ty : FieldType} {z : Int32} {vs : List Value} {dv : Value} (hd : decode bytes pc = .ok (.arraylength, 1)) (hq : pc + 1 = pc') (F : Arv Z h a kk ty z vs dv) (K : Go l Z EL n0 nr kn y bytes mL ret R h0 WS Q SF h k n pc' Ls (.int z :: st)) : Go l Z EL n0 nr kn y bytes mL ret R h0 WS Q SF h k n pc Ls (.ref a :: st) := by
  intro p e s m args below meth c T hR
  obtain ⟨⟨hx, hby, hml, hown, hnm, hret, hlk, hkn⟩, vm0, k0, locs, X, e0, C⟩ := hR
  have hZ : Z.Warmed39 (s.setVm vm0).vm := C.1
  have hown' : (s.setVm vm0).vm.findClass y.cls = some m.cls := by rw [show (s.setVm vm0).vm = vm0 from rfl, C.2.1.1.1.alike.findClass]; exact hown
  obtain ⟨cl, F, -, S, N, -, -⟩ := F
  obtain ⟨t, o, hs, r⟩ := K p e s m args below meth c T ⟨⟨hx, hby, hml, hown, hnm, hret, hlk, hkn⟩, vm0, k0, locs, X, e0, C⟩
  exact ⟨t, o, X.arraylength hx (by rw [e0]; exact F.1) (State.isArrayOf_alike hZ.alike F.2.1) (g := mkF m pc Ls (.ref a :: st)) rfl rfl (hb hby hd) _ (by subst hq; rw [len_of S N]; exact hs), r⟩
theorem Go.caload {a : Addr} {cl : Cell} {j : Int32} {v : Value} (hd : decode bytes pc = .ok (.caload, 1)) (hq : pc + 1 = pc') (F : Arr Z h a cl .char) (hin : ¬ (j < 0 ∨ cl.slots.size ≤ j.toNatClampNeg)) (hv : cl.slots[j.toNatClampNeg]? = some v) (K : Go l Z EL n0 nr kn y bytes mL ret R h0 WS Q SF h k n pc' Ls (v :: st)) : Go l Z EL n0 nr kn y bytes mL ret R h0 WS Q SF h k n pc Ls (.int j :: .ref a :: st) := by
  intro p e s m args below meth c T hR
  obtain ⟨⟨hx, hby, hml, hown, hnm, hret, hlk, hkn⟩, vm0, k0, locs, X, e0, C⟩ := hR
  have hZ : Z.Warmed39 (s.setVm vm0).vm := C.1
  have hown' : (s.setVm vm0).vm.findClass y.cls = some m.cls := by rw [show (s.setVm vm0).vm = vm0 from rfl, C.2.1.1.1.alike.findClass]; exact hown
  obtain ⟨t, o, hs, r⟩ := K p e s m args below meth c T ⟨⟨hx, hby, hml, hown, hnm, hret, hlk, hkn⟩, vm0, k0, locs, X, e0, C⟩
  exact ⟨t, o, X.caload hx (by rw [e0]; exact F.1) (State.isArrayOf_alike hZ.alike F.2.1) F.2.2 hin hv (g := mkF m pc Ls (.int j :: .ref a :: st)) rfl rfl (hb hby hd) _ (by subst hq; exact hs), r⟩
theorem Go.caloadV {a : Addr} {kk : ClassId} {z j : Int32} {vs : List Value} {v dv : Value} (hd : decode bytes pc = .ok (.caload, 1)) (hq : pc + 1 = pc') (F : Arv Z h a kk .char z vs dv) (hj : ¬ j < 0 ∧ j < z) (hv : vs.getD j.toNatClampNeg dv = v) (K : Go l Z EL n0 nr kn y bytes mL ret R h0 WS Q SF h k n pc' Ls (v :: st)) : Go l Z EL n0 nr kn y bytes mL ret R h0 WS Q SF h k n pc Ls (.int j :: .ref a :: st) := by
  intro p e s m args below meth c T hR
  obtain ⟨⟨hx, hby, hml, hown, hnm, hret, hlk, hkn⟩, vm0, k0, locs, X, e0, C⟩ := hR
  have hZ : Z.Warmed39 (s.setVm vm0).vm := C.1
  have hown' : (s.setVm vm0).vm.findClass y.cls = some m.cls := by rw [show (s.setVm vm0).vm = vm0 from rfl, C.2.1.1.1.alike.findClass]; exact hown
  obtain ⟨cl, F, -, S, N, H, -⟩ := F
  have hin := inb_of S hj
  have hv := Has.at H hin hv
  obtain ⟨t, o, hs, r⟩ := K p e s m args below meth c T ⟨⟨hx, hby, hml, hown, hnm, hret, hlk, hkn⟩, vm0, k0, locs, X, e0, C⟩
  exact ⟨t, o, X.caload hx (by rw [e0]; exact F.1) (State.isArrayOf_alike hZ.alike F.2.1) F.2.2 hin hv (g := mkF m pc Ls (.int j :: .ref a :: st)) rfl rfl (hb hby hd) _ (by subst hq; exact hs), r⟩
theorem Go.baload {a : Addr} {cl : Cell} {j : Int32} {v : Value} (hd : decode bytes pc = .ok (.baload, 1)) (hq : pc + 1 = pc') (F : Arr Z h a cl .byte) (hin : ¬ (j < 0 ∨ cl.slots.size ≤ j.toNatClampNeg)) (hv : cl.slots[j.toNatClampNeg]? = some v) (K : Go l Z EL n0 nr kn y bytes mL ret R h0 WS Q SF h k n pc' Ls (v :: st)) : Go l Z EL n0 nr kn y bytes mL ret R h0 WS Q SF h k n pc Ls (.int j :: .ref a :: st) := by
  intro p e s m args below meth c T hR
  obtain ⟨⟨hx, hby, hml, hown, hnm, hret, hlk, hkn⟩, vm0, k0, locs, X, e0, C⟩ := hR
  have hZ : Z.Warmed39 (s.setVm vm0).vm := C.1
  have hown' : (s.setVm vm0).vm.findClass y.cls = some m.cls := by rw [show (s.setVm vm0).vm = vm0 from rfl, C.2.1.1.1.alike.findClass]; exact hown
  obtain ⟨t, o, hs, r⟩ := K p e s m args below meth c T ⟨⟨hx, hby, hml, hown, hnm, hret, hlk, hkn⟩, vm0, k0, locs, X, e0, C⟩
  exact ⟨t, o, X.baloadBytes hx (by rw [e0]; exact F.1) (State.isArrayOf_alike hZ.alike F.2.1) F.2.2 hin hv (g := mkF m pc Ls (.int j :: .ref a :: st)) rfl rfl (hb hby hd) _ (by subst hq; exact hs), r⟩
theorem Go.baloadV {a : Addr} {kk : ClassId} {z j : Int32} {vs : List Value} {v dv : Value} (hd : decode bytes pc = .ok (.baload, 1)) (hq : pc + 1 = pc') (F : Arv Z h a kk .byte z vs dv) (hj : ¬ j < 0 ∧ j < z) (hv : vs.getD j.toNatClampNeg dv = v) (K : Go l Z EL n0 nr kn y bytes mL ret R h0 WS Q SF h k n pc' Ls (v :: st)) : Go l Z EL n0 nr kn y bytes mL ret R h0 WS Q SF h k n pc Ls (.int j :: .ref a :: st) := by
  intro p e s m args below meth c T hR
  obtain ⟨⟨hx, hby, hml, hown, hnm, hret, hlk, hkn⟩, vm0, k0, locs, X, e0, C⟩ := hR
  have hZ : Z.Warmed39 (s.setVm vm0).vm := C.1
  have hown' : (s.setVm vm0).vm.findClass y.cls = some m.cls := by rw [show (s.setVm vm0).vm = vm0 from rfl, C.2.1.1.1.alike.findClass]; exact hown
  obtain ⟨cl, F, -, S, N, H, -⟩ := F
  have hin := inb_of S hj
  have hv := Has.at H hin hv
  obtain ⟨t, o, hs, r⟩ := K p e s m args below meth c T ⟨⟨hx, hby, hml, hown, hnm, hret, hlk, hkn⟩, vm0, k0, locs, X, e0, C⟩
  exact ⟨t, o, X.baloadBytes hx (by rw [e0]; exact F.1) (State.isArrayOf_alike hZ.alike F.2.1) F.2.2 hin hv (g := mkF m pc Ls (.int j :: .ref a :: st)) rfl rfl (hb hby hd) _ (by subst hq; exact hs), r⟩
theorem Go.iaload {a : Addr} {cl : Cell} {j : Int32} {v : Value} (hd : decode bytes pc = .ok (.iaload, 1)) (hq : pc + 1 = pc') (F : Arr Z h a cl .int) (hin : ¬ (j < 0 ∨ cl.slots.size ≤ j.toNatClampNeg)) (hv : cl.slots[j.toNatClampNeg]? = some v) (K : Go l Z EL n0 nr kn y bytes mL ret R h0 WS Q SF h k n pc' Ls (v :: st)) : Go l Z EL n0 nr kn y bytes mL ret R h0 WS Q SF h k n pc Ls (.int j :: .ref a :: st) := by
  intro p e s m args below meth c T hR
  obtain ⟨⟨hx, hby, hml, hown, hnm, hret, hlk, hkn⟩, vm0, k0, locs, X, e0, C⟩ := hR
  have hZ : Z.Warmed39 (s.setVm vm0).vm := C.1
  have hown' : (s.setVm vm0).vm.findClass y.cls = some m.cls := by rw [show (s.setVm vm0).vm = vm0 from rfl, C.2.1.1.1.alike.findClass]; exact hown
  obtain ⟨t, o, hs, r⟩ := K p e s m args below meth c T ⟨⟨hx, hby, hml, hown, hnm, hret, hlk, hkn⟩, vm0, k0, locs, X, e0, C⟩
  exact ⟨t, o, X.iaload hx (by rw [e0]; exact F.1) (State.isArrayOf_alike hZ.alike F.2.1) F.2.2 hin hv (g := mkF m pc Ls (.int j :: .ref a :: st)) rfl rfl (hb hby hd) _ (by subst hq; exact hs), r⟩
theorem Go.ialoadV {a : Addr} {kk : ClassId} {z j : Int32} {vs : List Value} {v dv : Value} (hd : decode bytes pc = .ok (.iaload, 1)) (hq : pc + 1 = pc') (F : Arv Z h a kk .int z vs dv) (hj : ¬ j < 0 ∧ j < z) (hv : vs.getD j.toNatClampNeg dv = v) (K : Go l Z EL n0 nr kn y bytes mL ret R h0 WS Q SF h k n pc' Ls (v :: st)) : Go l Z EL n0 nr kn y bytes mL ret R h0 WS Q SF h k n pc Ls (.int j :: .ref a :: st) := by
  intro p e s m args below meth c T hR
  obtain ⟨⟨hx, hby, hml, hown, hnm, hret, hlk, hkn⟩, vm0, k0, locs, X, e0, C⟩ := hR
  have hZ : Z.Warmed39 (s.setVm vm0).vm := C.1
  have hown' : (s.setVm vm0).vm.findClass y.cls = some m.cls := by rw [show (s.setVm vm0).vm = vm0 from rfl, C.2.1.1.1.alike.findClass]; exact hown
  obtain ⟨cl, F, -, S, N, H, -⟩ := F
  have hin := inb_of S hj
  have hv := Has.at H hin hv
  obtain ⟨t, o, hs, r⟩ := K p e s m args below meth c T ⟨⟨hx, hby, hml, hown, hnm, hret, hlk, hkn⟩, vm0, k0, locs, X, e0, C⟩
  exact ⟨t, o, X.iaload hx (by rw [e0]; exact F.1) (State.isArrayOf_alike hZ.alike F.2.1) F.2.2 hin hv (g := mkF m pc Ls (.int j :: .ref a :: st)) rfl rfl (hb hby hd) _ (by subst hq; exact hs), r⟩
theorem Go.aaload {ty : FieldType} {a : Addr} {cl : Cell} {j : Int32} {v : Value} (hd : decode bytes pc = .ok (.aaload, 1)) (hq : pc + 1 = pc') (F : Arr Z h a cl ty) (hty : ty.isReference = true) (hin : ¬ (j < 0 ∨ cl.slots.size ≤ j.toNatClampNeg)) (hv : cl.slots[j.toNatClampNeg]? = some v) (K : Go l Z EL n0 nr kn y bytes mL ret R h0 WS Q SF h k n pc' Ls (v :: st)) : Go l Z EL n0 nr kn y bytes mL ret R h0 WS Q SF h k n pc Ls (.int j :: .ref a :: st) := by
  intro p e s m args below meth c T hR
  obtain ⟨⟨hx, hby, hml, hown, hnm, hret, hlk, hkn⟩, vm0, k0, locs, X, e0, C⟩ := hR
  have hZ : Z.Warmed39 (s.setVm vm0).vm := C.1
  have hown' : (s.setVm vm0).vm.findClass y.cls = some m.cls := by rw [show (s.setVm vm0).vm = vm0 from rfl, C.2.1.1.1.alike.findClass]; exact hown
  obtain ⟨t, o, hs, r⟩ := K p e s m args below meth c T ⟨⟨hx, hby, hml, hown, hnm, hret, hlk, hkn⟩, vm0, k0, locs, X, e0, C⟩
  exact ⟨t, o, X.aaload hx (by rw [e0]; exact F.1) (State.isArrayOf_alike hZ.alike F.2.1) hty F.2.2 hin hv (g := mkF m pc Ls (.int j :: .ref a :: st)) rfl rfl (hb hby hd) _ (by subst hq; exact hs), r⟩
theorem Go.aaloadV {ty : FieldType} {a : Addr} {kk : ClassId} {z j : Int32} {vs : List Value} {v dv : Value} (hd : decode bytes pc = .ok (.aaload, 1)) (hq : pc + 1 = pc') (F : Arv Z h a kk ty z vs dv) (hty : ty.isReference = true) (hj : ¬ j < 0 ∧ j < z) (hv : vs.getD j.toNatClampNeg dv = v) (K : Go l Z EL n0 nr kn y bytes mL ret R h0 WS Q SF h k n pc' Ls (v :: st)) : Go l Z EL n0 nr kn y bytes mL ret R h0 WS Q SF h k n pc Ls (.int j :: .ref a :: st) := by
  intro p e s m args below meth c T hR
  obtain ⟨⟨hx, hby, hml, hown, hnm, hret, hlk, hkn⟩, vm0, k0, locs, X, e0, C⟩ := hR
  have hZ : Z.Warmed39 (s.setVm vm0).vm := C.1
  have hown' : (s.setVm vm0).vm.findClass y.cls = some m.cls := by rw [show (s.setVm vm0).vm = vm0 from rfl, C.2.1.1.1.alike.findClass]; exact hown
  obtain ⟨cl, F, -, S, N, H, -⟩ := F
  have hin := inb_of S hj
  have hv := Has.at H hin hv
  obtain ⟨t, o, hs, r⟩ := K p e s m args below meth c T ⟨⟨hx, hby, hml, hown, hnm, hret, hlk, hkn⟩, vm0, k0, locs, X, e0, C⟩
  exact ⟨t, o, X.aaload hx (by rw [e0]; exact F.1) (State.isArrayOf_alike hZ.alike F.2.1) hty F.2.2 hin hv (g := mkF m pc Ls (.int j :: .ref a :: st)) rfl rfl (hb hby hd) _ (by subst hq; exact hs), r⟩
theorem Go.newO {CC : String} {index nn : Nat} (hd : decode bytes pc = .ok (.new index, 3)) (hq : pc + 3 = pc') (w : (Jvm.Cond.classLink y.cls index CC).before a0 Z = true) (wi : (Jvm.Cond.instantiable CC nn).before a0 Z = true) (wz : (Jvm.Cond.initialized CC).before a0 Z = true) (hc : k + 1 ≤ R.cells) (hl : n + nn ≤ R.slots)
    (K : ∀ h' a, h.size = a → h0.size ≤ a → Ext h h' → Exa Z h' a CC → (∀ {O nm d : String} {ty : FieldType}, Laid Z a0 CC O nm d → parseFieldDescriptor d = some ty → Fld Z h' a O nm d (defaultValue ty)) → Unt h' a → Go l Z EL n0 nr kn y bytes mL ret R h0 WS Q (a :: SF) h' (k + 1) (n + nn) pc' Ls (.ref a :: st)) : Go l Z EL n0 nr kn y bytes mL ret R h0 WS Q SF h k n pc Ls st := by
  intro p e s m args below meth c T hR
  obtain ⟨⟨hx, hby, hml, hown, hnm, hret, hlk, hkn⟩, vm0, k0, locs, X, e0, C⟩ := hR
  have hZ : Z.Warmed39 (s.setVm vm0).vm := C.1
  have hown' : (s.setVm vm0).vm.findClass y.cls = some m.cls := by rw [show (s.setVm vm0).vm = vm0 from rfl, C.2.1.1.1.alike.findClass]; exact hown
  obtain ⟨T', h', X', e', E, AA, D, U, st'⟩ := Jvm.RoadKit.newO X hx hZ hown' w wi wz e0 (g := mkF m pc Ls st) rfl (hb hby hd) hc hl
  have hlt : h.size < h'.size := AA.lt
  obtain ⟨t, o, hs, r⟩ := K h' h.size rfl C.2.2.2.2.2.2.2.1.1 E AA D U p e s m args below meth c T' ⟨⟨hx, hby, hml, hown, hnm, hret, hlk, hkn⟩, vm0, k0, locs, X', e', C.push E hlt⟩
  exact ⟨t, o, st' _ (by subst hq; exact hs), r⟩
theorem Go.newP {aty : ArrayType} {z : Int32} {cap : Nat} {ad : String} (hd : decode bytes pc = .ok (.newarray aty, 2)) (hq : pc + 2 = pc') (w : (Jvm.Cond.arrayClass (newarray.typeOf aty)).before a0 Z = true) (had : "[" ++ (newarray.typeOf aty).toString = ad) (hz : ¬ z < 0) (hcap : z.toNatClampNeg ≤ cap) (hbig : cap * 8 ≤ 536870912) (hc : k + 1 ≤ R.cells) (hl : n + cap ≤ R.slots)
    (K : ∀ h' a, h.size = a → h0.size ≤ a → ∀ cA, Ext h h' → Arv Z h' a cA (newarray.typeOf aty) z [] (defaultValue (newarray.typeOf aty)) → Exa Z h' a ad → Go l Z EL n0 nr kn y bytes mL ret R h0 WS Q (a :: SF) h' (k + 1) (n + cap) pc' Ls (.ref a :: st)) : Go l Z EL n0 nr kn y bytes mL ret R h0 WS Q SF h k n pc Ls (.int z :: st) := by
  intro p e s m args below meth c T hR
  obtain ⟨⟨hx, hby, hml, hown, hnm, hret, hlk, hkn⟩, vm0, k0, locs, X, e0, C⟩ := hR
  have hZ : Z.Warmed39 (s.setVm vm0).vm := C.1
  have hown' : (s.setVm vm0).vm.findClass y.cls = some m.cls := by rw [show (s.setVm vm0).vm = vm0 from rfl, C.2.1.1.1.alike.findClass]; exact hown
  obtain ⟨T', h', cA, X', e', E, AA, EE, st'⟩ := Jvm.RoadKit.newPE X hx hZ w e0 (g := mkF m pc Ls (.int z :: st)) rfl (hb hby hd) rfl hz hcap hbig hc hl had
  have hlt : h.size < h'.size := AA.lt
  obtain ⟨t, o, hs, r⟩ := K h' h.size rfl C.2.2.2.2.2.2.2.1.1 cA E (Arv.new AA hz) EE p e s m args below meth c T' ⟨⟨hx, hby, hml, hown, hnm, hret, hlk, hkn⟩, vm0, k0, locs, X', e', C.push E hlt⟩
  exact ⟨t, o, st' _ (by subst hq; exact hs), r⟩
theorem Go.newR {CC : String} {index : Nat} {z : Int32} {cap : Nat} {ad : String} (hd : decode bytes pc = .ok (.anewarray index, 3)) (hq : pc + 3 = pc') (w1 : (Jvm.Cond.classLink y.cls index CC).before a0 Z = true) (w2 : (Jvm.Cond.arrayOver (.object CC)).before a0 Z = true) (had : "[" ++ (FieldType.object CC).toString = ad) (hz : ¬ z < 0) (hcap : z.toNatClampNeg ≤ cap) (hbig : cap * 8 ≤ 536870912) (hc : k + 1 ≤ R.cells) (hl : n + cap ≤ R.slots)
    (K : ∀ h' a, h.size = a → h0.size ≤ a → ∀ cA, Ext h h' → Arv Z h' a cA (.object CC) z [] .null → Exa Z h' a ad → Ovr Z cA CC → Go l Z EL n0 nr kn y bytes mL ret R h0 WS Q (a :: SF) h' (k + 1) (n + cap) pc' Ls (.ref a :: st)) : Go l Z EL n0 nr kn y bytes mL ret R h0 WS Q SF h k n pc Ls (.int z :: st) := by
  intro p e s m args below meth c T hR
  obtain ⟨⟨hx, hby, hml, hown, hnm, hret, hlk, hkn⟩, vm0, k0, locs, X, e0, C⟩ := hR
  have hZ : Z.Warmed39 (s.setVm vm0).vm := C.1
  have hown' : (s.setVm vm0).vm.findClass y.cls = some m.cls := by rw [show (s.setVm vm0).vm = vm0 from rfl, C.2.1.1.1.alike.findClass]; exact hown
  obtain ⟨T', h', cA, X', e', E, AA, EE, OO, st'⟩ := Jvm.RoadKit.newRE X hx hZ hown' w1 w2 e0 (g := mkF m pc Ls (.int z :: st)) rfl (hb hby hd) rfl hz hcap hbig hc hl had
  have hlt : h.size < h'.size := AA.lt
  obtain ⟨t, o, hs, r⟩ := K h' h.size rfl C.2.2.2.2.2.2.2.1.1 cA E (Arv.new AA hz) EE OO p e s m args below meth c T' ⟨⟨hx, hby, hml, hown, hnm, hret, hlk, hkn⟩, vm0, k0, locs, X', e', C.push E hlt⟩
  exact ⟨t, o, st' _ (by subst hq; exact hs), r⟩
theorem Go.clone {index W : Nat} {ad : String} {a : Addr} {ty : FieldType} {kk : ClassId} {z : Int32} {hs0 : List (Int32 × Value)} {vs : List Value} {dv : Value} {cap : Nat} (hd : decode bytes pc = .ok (.invokevirtual index, 3)) (hq : pc + 3 = pc') (w1 : (Jvm.Cond.methodLink y.cls index ⟨ad, "clone", "()Ljava/lang/Object;"⟩).before a0 Z = true) (w2 : (Jvm.Cond.sameMethod ad "java/lang/Object" "clone" "()Ljava/lang/Object;").before a0 Z = true) (w3 : (Jvm.Cond.native ⟨"java/lang/Object", "clone", "()Ljava/lang/Object;"⟩).before a0 Z = true)
    (w4 : (Jvm.Cond.instanceMethod ⟨"java/lang/Object", "clone", "()Ljava/lang/Object;"⟩).before a0 Z = true) (w5 : (Jvm.Cond.selects ad ⟨ad, "clone", "()Ljava/lang/Object;"⟩ ⟨"java/lang/Object", "clone", "()Ljava/lang/Object;"⟩).before a0 Z = true) (w6 : (Jvm.Cond.castable ad "java/lang/Cloneable").before a0 Z = true) (F : Arh Z h a kk ty z hs0 vs dv) (E0 : Exa Z h a ad) (hsz : Ls.size = mL) (hf : 1 ≤ R.frames) (hW : (st.map fun v => v.category).sum ≤ W) (hl : W + 14 ≤ R.locals) (hcap : z.toNatClampNeg ≤ cap) (hc : k + 1 ≤ R.cells) (hsl : n + cap ≤ R.slots)
    (K : ∀ h' a, h.size = a → h0.size ≤ a → Ext h h' → Arh Z h' a kk ty z hs0 vs dv → Exa Z h' a ad → Go l Z EL n0 nr kn y bytes mL ret R h0 WS Q (a :: SF) h' (k + 1) (n + cap) pc' Ls (.ref a :: st)) : Go l Z EL n0 nr kn y bytes mL ret R h0 WS Q SF h k n pc Ls (.ref a :: st) := by
  intro p e s m args below meth c T hR
  obtain ⟨⟨hx, hby, hml, hown, hnm, hret, hlk, hkn⟩, vm0, k0, locs, X, e0, C⟩ := hR
  have hZ : Z.Warmed39 (s.setVm vm0).vm := C.1
  have hown' : (s.setVm vm0).vm.findClass y.cls = some m.cls := by rw [show (s.setVm vm0).vm = vm0 from rfl, C.2.1.1.1.alike.findClass]; exact hown
  obtain ⟨T', h', X', e', E, AA, EE, st'⟩ := Jvm.RoadKit.cloneH X hx hZ hown' w1 w2 w3 w4 w5 w6 e0 F E0 (g := mkF m pc Ls (.ref a :: st)) rfl (by rw [hml]; exact hsz) rfl (hb hby hd) hf (W := W) (cap := cap) (by show 2 * 0 + _ ≤ _; rw [Nat.mul_zero, Nat.zero_add]; exact hW) hl hcap hc hsl
  have hlt : h.size < h'.size := EE.lt
  obtain ⟨t, o, hs, r⟩ := K h' h.size rfl C.2.2.2.2.2.2.2.1.1 E AA EE p e s m args below meth c T' ⟨⟨hx, hby, hml, hown, hnm, hret, hlk, hkn⟩, vm0, k0, locs, X', e', C.push E hlt⟩
  exact ⟨t, o, st' _ (by subst hq; exact hs), r⟩
theorem Go.putF {R0 O nf d host CC : String} {index kk : Nat} {ty : FieldType} {a : Addr} {v old : Value} (hd : decode bytes pc = .ok (.putfield index, 3)) (hq : pc + 3 = pc') (ha : a ∈ SF) (w : (Jvm.Cond.fieldLink y.cls index R0 nf d).before a0 Z = true ∨ (Jvm.Cond.fieldLinkNest y.cls index R0 nf d host).before a0 Z = true) (via : Via Z R0 O nf d) (F : Fld Z h a O nf d old) (E : Exa Z h a CC) (L : (Jvm.Cond.lays CC O nf d).before a0 Z = true ∨ ((Jvm.Cond.laysFinal CC O nf d).before a0 Z = true ∧ y.cls = O ∧ y.name = "<init>")) (wi : (Jvm.Cond.instantiable CC kk).before a0 Z = true) (hty : parseFieldDescriptor d = some ty) (hn : narrow ty v = v) (hf : fits ty v = true)
    (K : ∀ h', Wr h h' a (Jvm.RoadKit.slotOf Z O nf d) v → Go l Z EL n0 nr kn y bytes mL ret R h0 WS Q SF h' k n pc' Ls st) : Go l Z EL n0 nr kn y bytes mL ret R h0 WS Q SF h k n pc Ls (v :: .ref a :: st) := by
  intro p e s m args below meth c T hR
  obtain ⟨⟨hx, hby, hml, hown, hnm, hret, hlk, hkn⟩, vm0, k0, locs, X, e0, C⟩ := hR
  have hZ : Z.Warmed39 (s.setVm vm0).vm := C.1
  have hown' : (s.setVm vm0).vm.findClass y.cls = some m.cls := by rw [show (s.setVm vm0).vm = vm0 from rfl, C.2.1.1.1.alike.findClass]; exact hown
  have L' := L.imp id (fun q => (⟨q.1, q.2.1, hnm.trans q.2.2⟩ : _ ∧ _ ∧ meth.name = "<init>"))
  obtain ⟨T', h', X', e', W', st'⟩ := Jvm.RoadKit.putF X hx hZ hown' w via e0 F E L' wi hty hn hf (g := mkF m pc Ls (v :: .ref a :: st)) rfl rfl (hb hby hd)
  obtain ⟨t, o, hs, r⟩ := K h' W' p e s m args below meth c T' ⟨⟨hx, hby, hml, hown, hnm, hret, hlk, hkn⟩, vm0, k0, _, X', e', C.wr W' ha⟩
  exact ⟨t, o, st' _ (by subst hq; exact hs), r⟩
theorem Go.putFN {R0 O nf d CC : String} {index kk : Nat} {ty : FieldType} {a : Addr} {v v' old : Value} (hd : decode bytes pc = .ok (.putfield index, 3)) (hq : pc + 3 = pc') (ha : a ∈ SF) (w : (Jvm.Cond.fieldLink y.cls index R0 nf d).before a0 Z = true) (via : Via Z R0 O nf d) (F : Fld Z h a O nf d old) (E : Exa Z h a CC) (L : (Jvm.Cond.lays CC O nf d).before a0 Z = true ∨ ((Jvm.Cond.laysFinal CC O nf d).before a0 Z = true ∧ y.cls = O ∧ y.name = "<init>")) (wi : (Jvm.Cond.instantiable CC kk).before a0 Z = true) (hty : parseFieldDescriptor d = some ty) (hn : narrow ty v = v') (hf : fits ty v' = true)
    (K : ∀ h', Wr h h' a (Jvm.RoadKit.slotOf Z O nf d) v' → Go l Z EL n0 nr kn y bytes mL ret R h0 WS Q SF h' k n pc' Ls st) : Go l Z EL n0 nr kn y bytes mL ret R h0 WS Q SF h k n pc Ls (v :: .ref a :: st) := by
  intro p e s m args below meth c T hR
  obtain ⟨⟨hx, hby, hml, hown, hnm, hret, hlk, hkn⟩, vm0, k0, locs, X, e0, C⟩ := hR
  have hZ : Z.Warmed39 (s.setVm vm0).vm := C.1
  have hown' : (s.setVm vm0).vm.findClass y.cls = some m.cls := by rw [show (s.setVm vm0).vm = vm0 from rfl, C.2.1.1.1.alike.findClass]; exact hown
  have L' := L.imp id (fun q => (⟨q.1, q.2.1, hnm.trans q.2.2⟩ : _ ∧ _ ∧ meth.name = "<init>"))
  obtain ⟨T', h', X', e', W', st'⟩ := Jvm.RoadKit.putFN X hx hZ hown' w via e0 F E L' wi hty hn hf (g := mkF m pc Ls (v :: .ref a :: st)) rfl rfl (hb hby hd)
  obtain ⟨t, o, hs, r⟩ := K h' W' p e s m args below meth c T' ⟨⟨hx, hby, hml, hown, hnm, hret, hlk, hkn⟩, vm0, k0, _, X', e', C.wr W' ha⟩
  exact ⟨t, o, st' _ (by subst hq; exact hs), r⟩
theorem Go.castore {a : Addr} {cl : Cell} {j x : Int32} (hd : decode bytes pc = .ok (.castore, 1)) (hq : pc + 1 = pc') (ha : a ∈ SF) (F : Arr Z h a cl .char) (hj : ¬ (j < 0 ∨ cl.slots.size ≤ j.toNatClampNeg))
    (K : ∀ h', Wr h h' a j.toNatClampNeg (.int (nar .char x)) → Go l Z EL n0 nr kn y bytes mL ret R h0 WS Q SF h' k n pc' Ls st) : Go l Z EL n0 nr kn y bytes mL ret R h0 WS Q SF h k n pc Ls (.int x :: .int j :: .ref a :: st) := by
  intro p e s m args below meth c T hR
  obtain ⟨⟨hx, hby, hml, hown, hnm, hret, hlk, hkn⟩, vm0, k0, locs, X, e0, C⟩ := hR
  have hZ : Z.Warmed39 (s.setVm vm0).vm := C.1
  have hown' : (s.setVm vm0).vm.findClass y.cls = some m.cls := by rw [show (s.setVm vm0).vm = vm0 from rfl, C.2.1.1.1.alike.findClass]; exact hown
  obtain ⟨T', h', X', e', W', st'⟩ := Jvm.RoadKit.stC X hx hZ e0 F hj (g := mkF m pc Ls (.int x :: .int j :: .ref a :: st)) rfl rfl (hb hby hd)
  obtain ⟨t, o, hs, r⟩ := K h' W' p e s m args below meth c T' ⟨⟨hx, hby, hml, hown, hnm, hret, hlk, hkn⟩, vm0, k0, _, X', e', C.wr W' ha⟩
  exact ⟨t, o, st' _ (by subst hq; exact hs), r⟩
theorem Go.castoreV {a : Addr} {cA : ClassId} {z j x : Int32} {vs : List Value} {dv : Value} {i : Nat} (hd : decode bytes pc = .ok (.castore, 1)) (hq : pc + 1 = pc') (ha : a ∈ SF) (F : Arv Z h a cA .char z vs dv) (hj : ¬ j < 0 ∧ j < z) (hji : j.toNatClampNeg = i) (hi : i < vs.length)
    (K : ∀ h', Wr h h' a j.toNatClampNeg (.int (nar .char x)) → Arv Z h' a cA .char z (vs.set i (.int (nar .char x))) dv → Go l Z EL n0 nr kn y bytes mL ret R h0 WS Q SF h' k n pc' Ls st) : Go l Z EL n0 nr kn y bytes mL ret R h0 WS Q SF h k n pc Ls (.int x :: .int j :: .ref a :: st) := by
  intro p e s m args below meth c T hR
  obtain ⟨⟨hx, hby, hml, hown, hnm, hret, hlk, hkn⟩, vm0, k0, locs, X, e0, C⟩ := hR
  have hZ : Z.Warmed39 (s.setVm vm0).vm := C.1
  have hown' : (s.setVm vm0).vm.findClass y.cls = some m.cls := by rw [show (s.setVm vm0).vm = vm0 from rfl, C.2.1.1.1.alike.findClass]; exact hown
  obtain ⟨cl, F, q1, S, q3, H, G⟩ := F
  obtain ⟨T', h', X', e', W', st'⟩ := Jvm.RoadKit.stC X hx hZ e0 F (inb_of S hj) (g := mkF m pc Ls (.int x :: .int j :: .ref a :: st)) rfl rfl (hb hby hd)
  obtain ⟨t, o, hs, r⟩ := K h' W' (Arv.set F q1 S q3 H G (fits_nar_char x) W' i hji hi) p e s m args below meth c T' ⟨⟨hx, hby, hml, hown, hnm, hret, hlk, hkn⟩, vm0, k0, _, X', e', C.wr W' ha⟩
  exact ⟨t, o, st' _ (by subst hq; exact hs), r⟩
theorem Go.bastore {a : Addr} {cl : Cell} {j x : Int32} (hd : decode bytes pc = .ok (.bastore, 1)) (hq : pc + 1 = pc') (ha : a ∈ SF) (F : Arr Z h a cl .byte) (hj : ¬ (j < 0 ∨ cl.slots.size ≤ j.toNatClampNeg))
    (K : ∀ h', Wr h h' a j.toNatClampNeg (.int (nar .byte x)) → Go l Z EL n0 nr kn y bytes mL ret R h0 WS Q SF h' k n pc' Ls st) : Go l Z EL n0 nr kn y bytes mL ret R h0 WS Q SF h k n pc Ls (.int x :: .int j :: .ref a :: st) := by
  intro p e s m args below meth c T hR
  obtain ⟨⟨hx, hby, hml, hown, hnm, hret, hlk, hkn⟩, vm0, k0, locs, X, e0, C⟩ := hR
  have hZ : Z.Warmed39 (s.setVm vm0).vm := C.1
  have hown' : (s.setVm vm0).vm.findClass y.cls = some m.cls := by rw [show (s.setVm vm0).vm = vm0 from rfl, C.2.1.1.1.alike.findClass]; exact hown
  obtain ⟨T', h', X', e', W', st'⟩ := Jvm.RoadKit.stB X hx hZ e0 F hj (g := mkF m pc Ls (.int x :: .int j :: .ref a :: st)) rfl rfl (hb hby hd)
  obtain ⟨t, o, hs, r⟩ := K h' W' p e s m args below meth c T' ⟨⟨hx, hby, hml, hown, hnm, hret, hlk, hkn⟩, vm0, k0, _, X', e', C.wr W' ha⟩
  exact ⟨t, o, st' _ (by subst hq; exact hs), r⟩
theorem Go.bastoreV {a : Addr} {cA : ClassId} {z j x : Int32} {vs : List Value} {dv : Value} {i : Nat} (hd : decode bytes pc = .ok (.bastore, 1)) (hq : pc + 1 = pc') (ha : a ∈ SF) (F : Arv Z h a cA .byte z vs dv) (hj : ¬ j < 0 ∧ j < z) (hji : j.toNatClampNeg = i) (hi : i < vs.length)
    (K : ∀ h', Wr h h' a j.toNatClampNeg (.int (nar .byte x)) → Arv Z h' a cA .byte z (vs.set i (.int (nar .byte x))) dv → Go l Z EL n0 nr kn y bytes mL ret R h0 WS Q SF h' k n pc' Ls st) : Go l Z EL n0 nr kn y bytes mL ret R h0 WS Q SF h k n pc Ls (.int x :: .int j :: .ref a :: st) := by
  intro p e s m args below meth c T hR
  obtain ⟨⟨hx, hby, hml, hown, hnm, hret, hlk, hkn⟩, vm0, k0, locs, X, e0, C⟩ := hR
  have hZ : Z.Warmed39 (s.setVm vm0).vm := C.1
  have hown' : (s.setVm vm0).vm.findClass y.cls = some m.cls := by rw [show (s.setVm vm0).vm = vm0 from rfl, C.2.1.1.1.alike.findClass]; exact hown
  obtain ⟨cl, F, q1, S, q3, H, G⟩ := F
  obtain ⟨T', h', X', e', W', st'⟩ := Jvm.RoadKit.stB X hx hZ e0 F (inb_of S hj) (g := mkF m pc Ls (.int x :: .int j :: .ref a :: st)) rfl rfl (hb hby hd)
  obtain ⟨t, o, hs, r⟩ := K h' W' (Arv.set F q1 S q3 H G (fits_nar_byte x) W' i hji hi) p e s m args below meth c T' ⟨⟨hx, hby, hml, hown, hnm, hret, hlk, hkn⟩, vm0, k0, _, X', e', C.wr W' ha⟩
  exact ⟨t, o, st' _ (by subst hq; exact hs), r⟩
theorem Go.aastore {a : Addr} {cl : Cell} {ty : FieldType} {j : Int32} {v : Value} (hd : decode bytes pc = .ok (.aastore, 1)) (hq : pc + 1 = pc') (ha : a ∈ SF) (F : Arr Z h a cl ty) (hj : ¬ (j < 0 ∨ cl.slots.size ≤ j.toNatClampNeg)) (hty : ty.isReference = true) (S : Sto Z h a v)
    (K : ∀ h', Wr h h' a j.toNatClampNeg v → Go l Z EL n0 nr kn y bytes mL ret R h0 WS Q SF h' k n pc' Ls st) : Go l Z EL n0 nr kn y bytes mL ret R h0 WS Q SF h k n pc Ls (v :: .int j :: .ref a :: st) := by
  intro p e s m args below meth c T hR
  obtain ⟨⟨hx, hby, hml, hown, hnm, hret, hlk, hkn⟩, vm0, k0, locs, X, e0, C⟩ := hR
  have hZ : Z.Warmed39 (s.setVm vm0).vm := C.1
  have hown' : (s.setVm vm0).vm.findClass y.cls = some m.cls := by rw [show (s.setVm vm0).vm = vm0 from rfl, C.2.1.1.1.alike.findClass]; exact hown
  obtain ⟨T', h', X', e', W', st'⟩ := Jvm.RoadKit.stR X hx hZ e0 F hj hty S (g := mkF m pc Ls (v :: .int j :: .ref a :: st)) rfl rfl (hb hby hd)
  obtain ⟨t, o, hs, r⟩ := K h' W' p e s m args below meth c T' ⟨⟨hx, hby, hml, hown, hnm, hret, hlk, hkn⟩, vm0, k0, _, X', e', C.wr W' ha⟩
  exact ⟨t, o, st' _ (by subst hq; exact hs), r⟩
theorem Go.aastoreV {a : Addr} {cA : ClassId} {ty : FieldType} {z j : Int32} {v : Value} {vs : List Value} {dv : Value} {i : Nat} (hd : decode bytes pc = .ok (.aastore, 1)) (hq : pc + 1 = pc') (ha : a ∈ SF) (F : Arv Z h a cA ty z vs dv) (hty : ty.isReference = true) (hft : fits ty v = true) (S : ∀ cl, Arr Z h a cl ty → cl.cls = cA → Sto Z h a v) (hj : ¬ j < 0 ∧ j < z) (hji : j.toNatClampNeg = i) (hi : i < vs.length)
    (K : ∀ h', Wr h h' a j.toNatClampNeg v → Arv Z h' a cA ty z (vs.set i v) dv → Go l Z EL n0 nr kn y bytes mL ret R h0 WS Q SF h' k n pc' Ls st) : Go l Z EL n0 nr kn y bytes mL ret R h0 WS Q SF h k n pc Ls (v :: .int j :: .ref a :: st) := by
  intro p e s m args below meth c T hR
  obtain ⟨⟨hx, hby, hml, hown, hnm, hret, hlk, hkn⟩, vm0, k0, locs, X, e0, C⟩ := hR
  have hZ : Z.Warmed39 (s.setVm vm0).vm := C.1
  have hown' : (s.setVm vm0).vm.findClass y.cls = some m.cls := by rw [show (s.setVm vm0).vm = vm0 from rfl, C.2.1.1.1.alike.findClass]; exact hown
  obtain ⟨cl, F, q1, S0, q3, H, G⟩ := F
  obtain ⟨T', h', X', e', W', st'⟩ := Jvm.RoadKit.stR X hx hZ e0 F (inb_of S0 hj) hty (S cl F q1) (g := mkF m pc Ls (v :: .int j :: .ref a :: st)) rfl rfl (hb hby hd)
  obtain ⟨t, o, hs, r⟩ := K h' W' (Arv.set F q1 S0 q3 H G hft W' i hji hi) p e s m args below meth c T' ⟨⟨hx, hby, hml, hown, hnm, hret, hlk, hkn⟩, vm0, k0, _, X', e', C.wr W' ha⟩
  exact ⟨t, o, st' _ (by subst hq; exact hs), r⟩
theorem Go.cpA {index W : Nat} {a b : Addr} {kk k' : ClassId} {ty ty' : FieldType} {z z' sp dp nn : Int32} {vs vd us : List Value} {dv dd : Value} (hd : decode bytes pc = .ok (.invokestatic index, 3)) (hq : pc + 3 = pc') (hb' : b ∈ SF) (w1 : (Jvm.Cond.methodLink y.cls index Jvm.Stand.acN).before a0 Z = true) (w2 : (Jvm.Cond.native Jvm.Stand.acN).before a0 Z = true) (w3 : (Jvm.Cond.static Jvm.Stand.acN).before a0 Z = true) (w4 : (Jvm.Cond.initialized "java/lang/System").before a0 Z = true)
    (AA : Arv Z h a kk ty z vs dv) (BB : Arv Z h b k' ty' z' vd dd) (hty : (ty = ty' ∧ refKind ty = false) ∨ (refKind ty = true ∧ refKind ty' = true ∧ StoL Z h b us)) (h1 : ¬ sp < 0) (h2 : ¬ dp < 0) (h3 : ¬ nn < 0) (h4 : sp.toNatClampNeg + nn.toNatClampNeg ≤ z.toNatClampNeg) (h5 : dp.toNatClampNeg + nn.toNatClampNeg ≤ z'.toNatClampNeg)
    (hus : us = (List.range nn.toNatClampNeg).map fun i => vs.getD (sp.toNatClampNeg + i) dv) (hvl : dp.toNatClampNeg + nn.toNatClampNeg ≤ vd.length) (hsz : Ls.size = mL) (hf : 1 ≤ R.frames) (hW : (st.map fun v => v.category).sum ≤ W) (hl : W + (nativeFrameWords "java/lang/System" "arraycopy" 5 + 11) ≤ R.locals)
    (K : ∀ h', Keep h h' [b] → Arv Z h' b k' ty' z' (vd.take dp.toNatClampNeg ++ us ++ vd.drop (dp.toNatClampNeg + nn.toNatClampNeg)) dd → Go l Z EL n0 nr kn y bytes mL ret R h0 WS Q SF h' k n pc' Ls st) : Go l Z EL n0 nr kn y bytes mL ret R h0 WS Q SF h k n pc Ls (.int nn :: .int dp :: .ref b :: .int sp :: .ref a :: st) := by
  intro p e s m args below meth c T hR
  obtain ⟨⟨hx, hby, hml, hown, hnm, hret, hlk, hkn⟩, vm0, k0, locs, X, e0, C⟩ := hR
  have hZ : Z.Warmed39 (s.setVm vm0).vm := C.1
  have hown' : (s.setVm vm0).vm.findClass y.cls = some m.cls := by rw [show (s.setVm vm0).vm = vm0 from rfl, C.2.1.1.1.alike.findClass]; exact hown
  have N := C.2.2.1
  have ge := (C.2.2.2.2.1 b hb').1.1
  obtain ⟨T', h', L, X', e', FL, KK, BB', st'⟩ := Jvm.RoadKit.cpA X hx hZ hown' w1 w2 w3 w4 e0 AA BB hty h1 h2 h3 h4 h5 hus hvl N ge (g := mkF m pc Ls (.int nn :: .int dp :: .ref b :: .int sp :: .ref a :: st)) rfl (by rw [hml]; exact hsz) rfl (hb hby hd) hf (W := W) (by show 2 * 0 + _ ≤ _; rw [Nat.mul_zero, Nat.zero_add]; exact hW) hl
  have hSb := (C.2.2.2.2.1 b hb').2
  have C' : Cor Z EL n0 nr h0 WS SF h' s vm0 k0 L := by
    have q := C.keep (SN := []) (L := []) KK (fun x hx => by cases List.mem_singleton.mp hx; exact hb') (Fr.nil n0) (CHr.keep KK (fun x hx => by cases List.mem_singleton.mp hx; exact hSb) C.2.2.2.1.1) C.1 C.2.1.1 (Nat.le_trans C.2.1.2 KK.1) C.2.2.2.2.2.1 (fun x hx => nomatch hx)
    exact ⟨q.1, q.2.1, FL, q.2.2.2⟩
  obtain ⟨t, o, hs, r⟩ := K h' KK BB' p e s m args below meth c T' ⟨⟨hx, hby, hml, hown, hnm, hret, hlk, hkn⟩, vm0, k0, L, X', e', C'⟩
  exact ⟨t, o, st' _ (by subst hq; exact hs), r⟩
theorem Go.ldcS {text : String} {index nn : Nat} {vs : List Value} {z : Int32} (hnr : nr = false) (hd : decode bytes pc = .ok (.ldc index, 2)) (hq : pc + 2 = pc') (w : (Jvm.Cond.stringLink y.cls index text).before a0 Z = true) (wS : ∀ a ∈ Bundle.stringAtoms, a.before a0 Z = true) (hmem : (y.cls, index) ∈ EL) (ht : (∀ c ∈ text.toList, c.toNat < 256) ∧ text.toList.map (fun c => Value.int (Jvm.Lit.byteI c.toNat.toUInt16)) = vs) (hz : ¬ z < 0) (hzl : z.toNatClampNeg = vs.length) (hn : 4 * text.toList.length ≤ nn) (hbig : nn ≤ 536870912) (hc : k + 2 ≤ R.cells) (hl : n + (nn + 4) ≤ R.slots)
    (K : ∀ h' a b kb, Ext h h' → Exa Z h' a "java/lang/String" → Fld Z h' a "java/lang/String" "coder" "B" (.int 0) → Fld Z h' a "java/lang/String" "value" "[B" (.ref b) → Arv Z h' b kb .byte z vs (.int 0) → (∀ x ∈ SF, x ≠ a ∧ x ≠ b) → Go l Z EL n0 nr kn y bytes mL ret R h0 WS Q SF h' (k + 2) (n + (nn + 4)) pc' Ls (.ref a :: st)) : Go l Z EL n0 nr kn y bytes mL ret R h0 WS Q SF h k n pc Ls st := by
  intro p e s m args below meth c T hR
  obtain ⟨⟨hx, hby, hml, hown, hnm, hret, hlk, hkn⟩, vm0, k0, locs, X, e0, C⟩ := hR
  have hZ : Z.Warmed39 (s.setVm vm0).vm := C.1
  have hown' : (s.setVm vm0).vm.findClass y.cls = some m.cls := by rw [show (s.setVm vm0).vm = vm0 from rfl, C.2.1.1.1.alike.findClass]; exact hown
  obtain ⟨c1, ⟨c2, c2'⟩, c3, c4, c5, c6, c7, c8, c9, a1, hEL⟩ := C
  have hEL' : EW Z a0 EL := fun q hq => by
    obtain ⟨tx, hx1, hx2⟩ := hEL q hq
    exact ⟨tx, (by simpa [Jvm.Cond.before, Jvm.Cond.holds, Jvm.Cond.value] using hx1), hx2⟩
  obtain ⟨a, T', h', k1, b, kb, X', e', E, hS, hk, hW, hf, E1, E2, E3, E4, -, -, hC, -, hne, st'⟩ := Jvm.RoadKit.ldcCH X hx c1 hown' w wS e0 c2 c2' hEL' hmem c4.1 ht hz hzl (g := mkF m pc Ls st) rfl (hb hby hd) hn hbig hc hl
  have C' : Cor Z EL n0 nr h0 WS SF h' s T'.vm k1 locs := by
    refine ⟨hW, ⟨hS, hk⟩, c3, c4.trans hC, fun x hx => ⟨⟨(c5 x hx).1.1, Nat.lt_of_lt_of_le (c5 x hx).1.2.1 E.1, (c5 x hx).1.2.2⟩, hC.safe (c5 x hx).1.2.1 (c5 x hx).2⟩, (fun q => by rw [hnr] at q; cases q), ⟨c7.1, Nat.le_trans c7.2.1 E.1, fun a c q => E.2 a c (c7.2.2 a c q)⟩, c8.ext E, c9, a1, hEL⟩
  obtain ⟨t, o, hs, r⟩ := K h' a b kb E E1 E2 E3 E4 (fun x hx => hne x (C'.2.2.2.2.1 x hx).2) p e s m args below meth c T' ⟨⟨hx, hby, hml, hown, hnm, hret, hlk, hkn⟩, T'.vm, k1, locs, X', e', C'⟩
  exact ⟨t, o, st' _ (by subst hq; exact hs), r⟩
theorem Go.ldcO {text : String} {index nn : Nat} (hnr : nr = false) (hd : decode bytes pc = .ok (.ldc index, 2)) (hq : pc + 2 = pc') (w : (Jvm.Cond.stringLink y.cls index text).before a0 Z = true) (wS : ∀ a ∈ Bundle.stringAtoms, a.before a0 Z = true) (hn : 4 * text.toList.length ≤ nn) (hbig : nn ≤ 536870912) (hc : k + 2 ≤ R.cells) (hl : n + (nn + 4) ≤ R.slots)
    (K : ∀ h' a, Ext h h' → Go l Z EL n0 nr kn y bytes mL ret R h0 WS Q SF h' (k + 2) (n + (nn + 4)) pc' Ls (.ref a :: st)) : Go l Z EL n0 nr kn y bytes mL ret R h0 WS Q SF h k n pc Ls st := by
  intro p e s m args below meth c T hR
  obtain ⟨⟨hx, hby, hml, hown, hnm, hret, hlk, hkn⟩, vm0, k0, locs, X, e0, C⟩ := hR
  have hZ : Z.Warmed39 (s.setVm vm0).vm := C.1
  have hown' : (s.setVm vm0).vm.findClass y.cls = some m.cls := by rw [show (s.setVm vm0).vm = vm0 from rfl, C.2.1.1.1.alike.findClass]; exact hown
  obtain ⟨c1, ⟨c2, c2'⟩, c3, c4, c5, c6, c7, c8, c9, a1, hEL⟩ := C
  have hEL' : EW Z a0 EL := fun q hq => by
    obtain ⟨tx, hx1, hx2⟩ := hEL q hq
    exact ⟨tx, (by simpa [Jvm.Cond.before, Jvm.Cond.holds, Jvm.Cond.value] using hx1), hx2⟩
  obtain ⟨a, T', h', k1, X', e', E, hS, hk, hW, hf, hC, -, st'⟩ := Jvm.RoadKit.ldcOH X hx c1 hown' w wS e0 c2 c2' hEL' c4.1 (g := mkF m pc Ls st) rfl (hb hby hd) hn hbig hc hl
  have C' : Cor Z EL n0 nr h0 WS SF h' s T'.vm k1 locs := by
    refine ⟨hW, ⟨hS, hk⟩, c3, c4.trans hC, fun x hx => ⟨⟨(c5 x hx).1.1, Nat.lt_of_lt_of_le (c5 x hx).1.2.1 E.1, (c5 x hx).1.2.2⟩, hC.safe (c5 x hx).1.2.1 (c5 x hx).2⟩, (fun q => by rw [hnr] at q; cases q), ⟨c7.1, Nat.le_trans c7.2.1 E.1, fun a c q => E.2 a c (c7.2.2 a c q)⟩, c8.ext E, c9, a1, hEL⟩
  obtain ⟨t, o, hs, r⟩ := K h' a E p e s m args below meth c T' ⟨⟨hx, hby, hml, hown, hnm, hret, hlk, hkn⟩, T'.vm, k1, locs, X', e', C'⟩
  exact ⟨t, o, st' _ (by subst hq; exact hs), r⟩
theorem Go.tsw {i : Int32} {dflt low high : Int} {offs : Array Int} {len : Nat} {o : Int} (hd : decode bytes pc = .ok (.tableswitch dflt low high offs, len)) (hin : ¬ (i.toInt < low ∨ i.toInt > high)) (hoff : offs[(i.toInt - low).toNat]? = some o) (ho : 0 ≤ (pc : Int) + o) (hq : ((pc : Int) + o).toNat = pc') (K : Go l Z EL n0 nr kn y bytes mL ret R h0 WS Q SF h k n pc' Ls st) : Go l Z EL n0 nr kn y bytes mL ret R h0 WS Q SF h k n pc Ls (.int i :: st) :=
  Go.plain (fun p e below T m c target hA hx hb hk => XS.tswIn hA hx rfl (pc0 := pc) (pc' := pc') rfl (hb ▸ hd) rfl hin hoff ho hq hk) K
theorem Go.retV (hd : decode bytes pc = .ok (.return_, 1)) (hr0 : ret = none) (hk : k ≤ R.cells) (hn : n ≤ R.slots) (SN : List Addr) (hSN : ∀ x ∈ SN, x ∈ SF ∧ h0.size ≤ x) (hQ : Q none h SN) : Go l Z EL n0 nr kn y bytes mL ret R h0 WS Q SF h k n pc Ls [] := by
  intro p e s m args below meth c T hR
  obtain ⟨⟨hx, hby, hml, hown, hnm, hret, hlk, hkn⟩, vm0, k0, locs, X, e0, C⟩ := hR
  have hZ : Z.Warmed39 (s.setVm vm0).vm := C.1
  have hown' : (s.setVm vm0).vm.findClass y.cls = some m.cls := by rw [show (s.setVm vm0).vm = vm0 from rfl, C.2.1.1.1.alike.findClass]; exact hown
  obtain ⟨c1, ⟨c2, c2'⟩, c3, c4, c5, c6, c7, c8, c9, a1, hEL⟩ := C
  obtain ⟨fs, hr, hrun, hended, hE⟩ := X.leaveW c2 (by rw [e0]; exact c2') (v := none) (fun _ => rfl) hlk
  have A1 := CHv.at X c1 hEL c4.1
  refine ⟨_, _, X.returnOut hx (hret.trans hr0) (hb hby hd) hr, hrun, hended, _, locs, SN, rfl, by show Q _ T.heap SN; rw [e0]; exact hQ, c3, by show Keep h0 T.heap WS; rw [e0]; exact c8, fun x hx => ?_, ?_, fun q => State.WarmedH.trans (t := s.setVm vm0) (c6 q) X.warmed, ⟨hE.1, hE.2.1, hE.2.2.1, hE.2.2.2.mono hk hn⟩⟩
  · show (h0.size ≤ x ∧ x < T.heap.size) ∧ Safe Z EL T.vm T.heap x
    rw [e0]
    exact ⟨⟨(hSN x hx).2, (c5 x (hSN x hx).1).1.2.1⟩, A1.safe (c5 x (hSN x hx).1).1.2.1 (c5 x (hSN x hx).1).2⟩
  · show CHr Z EL s.vm h0 T.vm T.heap
    rw [e0]
    exact c4.trans A1
theorem Go.retW {v : Value} {ty : FieldType} {i : Instr} (hd : decode bytes pc = .ok (i, 1)) (hr0 : ret = some ty) (hnw : narrow ty v = v) (hi : (i = .ireturn ∧ (ty = .int ∨ ty = .boolean ∨ ty = .byte ∨ ty = .char ∨ ty = .short) ∧ ∃ z, v = .int z) ∨ (i = .lreturn ∧ ty = .long ∧ ∃ z, v = .long z) ∨ (i = .dreturn ∧ ty = .double ∧ ∃ z, v = .double z) ∨ (i = .freturn ∧ ty = .float ∧ ∃ z, v = .float z) ∨ (i = .areturn ∧ ty.isReference = true ∧ v.isRef = true)) (hk : k ≤ R.cells) (hn : n ≤ R.slots) (SN : List Addr) (hSN : ∀ x ∈ SN, x ∈ SF ∧ h0.size ≤ x) (hQ : Q (some v) h SN) : Go l Z EL n0 nr kn y bytes mL ret R h0 WS Q SF h k n pc Ls (v :: st) := by
  intro p e s m args below meth c T hR
  obtain ⟨⟨hx, hby, hml, hown, hnm, hret, hlk, hkn⟩, vm0, k0, locs, X, e0, C⟩ := hR
  have hZ : Z.Warmed39 (s.setVm vm0).vm := C.1
  have hown' : (s.setVm vm0).vm.findClass y.cls = some m.cls := by rw [show (s.setVm vm0).vm = vm0 from rfl, C.2.1.1.1.alike.findClass]; exact hown
  obtain ⟨c1, ⟨c2, c2'⟩, c3, c4, c5, c6, c7, c8, c9, a1, hEL⟩ := C
  obtain ⟨fs, hr, hrun, hended, hE⟩ := X.leaveW c2 (by rw [e0]; exact c2') (v := some v) (fun q => by rw [hret, hr0] at q; cases q) hlk
  have A1 := CHv.at X c1 hEL c4.1
  refine ⟨_, _, Jvm.RoadKit.retOut X hx (hret.trans hr0) hnw hi (hb hby hd) hr, hrun, hended, _, locs, SN, rfl, by show Q _ T.heap SN; rw [e0]; exact hQ, c3, by show Keep h0 T.heap WS; rw [e0]; exact c8, fun x hx => ?_, ?_, fun q => State.WarmedH.trans (t := s.setVm vm0) (c6 q) X.warmed, ⟨hE.1, hE.2.1, hE.2.2.1, hE.2.2.2.mono hk hn⟩⟩
  · show (h0.size ≤ x ∧ x < T.heap.size) ∧ Safe Z EL T.vm T.heap x
    rw [e0]
    exact ⟨⟨(hSN x hx).2, (c5 x (hSN x hx).1).1.2.1⟩, A1.safe (c5 x (hSN x hx).1).1.2.1 (c5 x (hSN x hx).1).2⟩
  · show CHr Z EL s.vm h0 T.vm T.heap
    rw [e0]
    exact c4.trans A1
theorem Go.retI {z : Int32} (hd : decode bytes pc = .ok (.ireturn, 1)) (hr0 : ret = some .int) (hk : k ≤ R.cells) (hn : n ≤ R.slots) (SN : List Addr) (hSN : ∀ x ∈ SN, x ∈ SF ∧ h0.size ≤ x) (hQ : Q (some (.int z)) h SN) : Go l Z EL n0 nr kn y bytes mL ret R h0 WS Q SF h k n pc Ls (.int z :: st) :=
  Go.retW hd hr0 rfl (Or.inl ⟨rfl, Or.inl rfl, z, rfl⟩) hk hn SN hSN hQ
theorem Go.retA {v : Value} {ty : FieldType} (hd : decode bytes pc = .ok (.areturn, 1)) (hr0 : ret = some ty) (hty : ty.isReference = true) (hv : v.isRef = true) (hk : k ≤ R.cells) (hn : n ≤ R.slots) (SN : List Addr) (hSN : ∀ x ∈ SN, x ∈ SF ∧ h0.size ≤ x) (hQ : Q (some v) h SN) : Go l Z EL n0 nr kn y bytes mL ret R h0 WS Q SF h k n pc Ls (v :: st) :=
  Go.retW hd hr0 (by cases ty <;> first | (cases hty; done) | (rcases ref_cases hv with rfl | ⟨a, rfl⟩ <;> rfl)) (Or.inr (Or.inr (Or.inr (Or.inr ⟨rfl, hty, hv⟩)))) hk hn SN hSN hQ
theorem Go.retS {z : Int32} {ty : FieldType} (hd : decode bytes pc = .ok (.ireturn, 1)) (hr0 : ret = some ty) (hty : ty = .boolean ∨ ty = .byte ∨ ty = .char ∨ ty = .short) (hnw : narrow ty (.int z) = .int z) (hk : k ≤ R.cells) (hn : n ≤ R.slots) (SN : List Addr) (hSN : ∀ x ∈ SN, x ∈ SF ∧ h0.size ≤ x) (hQ : Q (some (.int z)) h SN) : Go l Z EL n0 nr kn y bytes mL ret R h0 WS Q SF h k n pc Ls (.int z :: st) :=
  Go.retW hd hr0 hnw (Or.inl ⟨rfl, Or.inr hty, z, rfl⟩) hk hn SN hSN hQ
theorem Met.of_go {as' : Array Value} (hpl : plainFor y = true) (hef : ∀ m, entryFrame m as' mL = mkF m 0 Ls []) (G : (Z.heap.size = n0 ∧ Ext Z.heap h0) → (∀ x ∈ WS, n0 ≤ x ∧ x < h0.size) → Go l Z EL n0 nr kn y bytes mL ret R h0 WS Q WS h0 0 0 0 Ls []) : Met l Z EL n0 nr kn y bytes mL ret R WS as' h0 Q := by
  intro ws
  refine MetFree.of_bodySF hpl hisR ?_
  intro p e s m args below meth c s₁ Bd hml0 hP hK
  obtain ⟨rfl, hZ, hh, hC, hS, hO, hEL⟩ := hP
  have X0 : Stand p l e R s m args below meth c s₁ [] 0 0 := Stand.of_body Bd
  have e0 : s₁.heap = h0 := by rw [← hh, Bd.state]; rfl
  have hnm := (name_of_methodNamed Bd.named Bd.method).1
  rw [hef m]
  exact G hO (fun x hx => (hS x hx).1) p e s m args below meth c s₁ ⟨⟨Bd.exec, Bd.bytes, hml0, findClass_of_methodNamed Bd.named, hnm, Bd.returns, BodyLoose.notSynchronized Bd, hK⟩, s.vm, 0, [], X0, e0,
    hZ, ⟨(State.WarmedH.refl s).since 0, Nat.zero_le _⟩, Fr.nil n0, CHr.refl hC, fun x hx => ⟨⟨(hS x hx).1.1, (hS x hx).1.2, Or.inl hx⟩, (hS x hx).2⟩, fun _ => State.WarmedH.refl s, hO, Keep.refl _ _, hh, hEL⟩
theorem Pays.of_met {z : MethodName} {zb : ByteArray} {zL : Nat} {zr : Option FieldType} {rm : Room} {len W : Nat} {ws : List Addr} {as' : Array Value} {Q' : Option Value → Heap → List Addr → Prop} (M : Met l Z EL n0 nr kn z zb zL zr rm ws as' h Q') (wc : (Jvm.Cond.code z zb zL zr).before a0 Z = true) (wz : (Jvm.Cond.initialized z.cls).before a0 Z = true) (hf : rm.frames + 1 ≤ R.frames) (hl : W + (zL + 11) + rm.locals ≤ R.locals) :
    Pays l Z EL n0 nr kn R len z W rm.cells rm.slots ws as' h Q' := by
  intro p e below s args vm0 hx hZ hC hS hO hEL hkn
  obtain ⟨a1, hE1⟩ := hEL
  refine BackS.of_freeWG (bytes := zb) (maxL := zL) (ret := zr) (E := fun _ first o t L kk nn => kk = rm.cells ∧ nn = rm.slots ∧ ∃ v SN, o = .returned v ∧ Q' v t.heap SN ∧ Fr n0 L ∧ Keep h t.heap ws ∧ (∀ x ∈ SN, (h.size ≤ x ∧ x < t.heap.size) ∧ Safe Z EL t.vm t.heap x) ∧ CHr Z EL first.vm h t.vm t.heap ∧ (nr = true → first.WarmedH t.vm)) (M []) hf hl ?_ ?_ ?_ ?_ ?_
  · intro m meth c A a Y hp
    have hU : Z.Warmed39 A.U.vm := wtrans (s := s.setVm vm0) hZ Y.warmed
    exact ⟨by show (Jvm.Cond.and _ .tt).before a A.U = true; rw [Cond.before_and, mv hU wc]; rfl, mv hU wc, mv hU wz, hp.2.2.1, hp.2.2.2⟩
  · intro m meth c A a g mk Y hp
    have A1 := CHv.at Y hZ hE1 hC
    exact ⟨hp.1, wtrans (s := s.setVm vm0) hZ Y.warmed, hp.2.1, A1.1, fun x hx => ⟨(hS x hx).1, A1.safe (hS x hx).1.2 (hS x hx).2⟩, hO, a1, hE1⟩
  · intro m meth c A a g mk Y hp hg q
    exact known_frames Y hg (hkn q).1 (hkn q).2
  · rintro a first o t ⟨v, L, SN, h1, h2, h3, h4, h5, h6, h7, h8⟩
    exact ⟨L, _, _, h8, rfl, rfl, v, SN, h1, h2, h3, h4, h5, h6, h7⟩
  · rintro m meth c A a g mk v t L kk nn Y hp - - ⟨e1, e2, v', SN, e3, e4, e5, e6, e7, e8, e9⟩
    cases e3
    subst e1 e2
    exact ⟨L, SN, e4, e5, e6, e7, (CHv.at Y hZ hE1 hC).trans e8, fun q => State.WarmedH.trans (t := A.U) Y.warmed (e9 q), rfl, rfl, rfl⟩
theorem Pays.of_back {z : MethodName} {len W ck cn : Nat} {ws : List Addr} {as' : Array Value} {Q' : Option Value → Heap → List Addr → Prop}
    (B : ∀ (p : Program) (e : Env) (below : List Frame) (s : State) (args : Array Value), p.tables.exec = Jvm.exec → Z.Warmed39 s.vm → (Z.heap.size = n0 ∧ Ext Z.heap h) → (∀ x ∈ ws, n0 ≤ x ∧ x < h.size) → Back l R p e below s args z len W (fun A a => a = as' ∧ A.U.heap = h ∧ A.cells + ck ≤ R.cells ∧ A.slots + cn ≤ R.slots) (fun A _ v B => ∃ L, Q' v B.U.heap [] ∧ Fr n0 L ∧ Keep h B.U.heap ws ∧ B.locs = A.locs ++ L ∧ B.cells = A.cells + ck ∧ B.slots = A.slots + cn)) :
    Pays l Z EL n0 nr kn R len z W ck cn ws as' h Q' := by
  intro p e below s args vm0 hx hZ hC hS hO hEL hkn
  obtain ⟨a1, hE1⟩ := hEL
  intro m meth c A g ig mk a X hg hsize hdg hW hn hp
  obtain ⟨v, B', X', ⟨L, q1, q2, q3, q4, q5, q6⟩, hst⟩ := B p e below (s.setVm vm0) args hx hZ hO (fun x hx => (hS x hx).1) m meth c A g ig mk a X hg hsize hdg hW hn hp
  have A1 : CHr Z EL vm0 h vm0 B'.U.heap := CHr.keep q3 (fun x hx => (hS x hx).2) hC
  have A2 := CHv.at X' hZ hE1 A1.1
  exact ⟨v, B', X'.retabled X'.warmed.wide, X'.warmed.since _, by rw [hp.2.1]; exact q3.1, ⟨L, [], q1, q2, q3, fun x hx => (nomatch hx), A1.trans A2, fun _ => X'.warmed, q4, q5, q6⟩, hst⟩
theorem Go.after {p : Program} {e : Env} {m : MethodId} {args : Array Value} {below : List Frame} {meth : Method} {c : Code} {T : State} {len ck cn : Nat} {ws : List Addr} {as' : Array Value} {Q' : Option Value → Heap → List Addr → Prop} {s₀ : State}
    (hA : p.tables.exec = Jvm.exec ∧ c.code = bytes ∧ c.maxLocals = mL ∧ s.vm.findClass y.cls = some m.cls ∧ meth.name = y.name ∧ meth.sig.returnType = ret ∧ meth.locks = false ∧ (kn = true → s.vm.MethodsKnown ∧ s.vm.FramesKnown below)) (e0 : T.heap = h) (C : Cor Z EL n0 nr h0 WS SF h s vm0 k0 locs) (hws : ∀ x ∈ ws, x ∈ SF)
    (H : ∃ (v : Option Value) (vm₁ : Vm) (B : Pt), (s.setVm vm0).WarmedH vm₁ ∧ Stand p l e R ((s.setVm vm0).setVm B.U.vm) m args below meth c B.U B.locs B.cells B.slots ∧ (s.setVm vm0).Since B.U.vm B.U.heap.size ∧ T.heap.size ≤ B.U.heap.size ∧ (∃ L SN, Q' v B.U.heap SN ∧ Fr n0 L ∧ Keep h B.U.heap ws ∧ (∀ x ∈ SN, (h.size ≤ x ∧ x < B.U.heap.size) ∧ Safe Z EL B.U.vm B.U.heap x) ∧ CHr Z EL vm0 h B.U.vm B.U.heap ∧ (nr = true → (s.setVm vm0).WarmedH B.U.vm) ∧ B.locs = locs ++ L ∧ B.cells = k + ck ∧ B.slots = n + cn) ∧
      Steps p.tables e below s₀ (B.U.setTop { mkF m pc Ls st with pc := pc + len, stack := v.toList ++ rest }))
    (hq : pc + len = pc') (K : ∀ v h' SN, Keep h h' ws → h0.size ≤ h.size → Q' v h' SN → Go l Z EL n0 nr kn y bytes mL ret R h0 WS Q (SN ++ SF) h' (k + ck) (n + cn) pc' Ls (v.toList ++ rest)) : ∃ t o, Steps p.tables e below s₀ t ∧ t.status = .running ∧ Ended t below o ∧ Pst Z EL n0 nr R h0 WS Q s o t := by
  obtain ⟨v, vm₁, ⟨T', L', kk, nn⟩, -, X', hS, hle, ⟨L, SN, h1, h2, h3, h4, h5, h6, h7, h8, h9⟩, hst⟩ := H
  dsimp only [Pt.U, Pt.locs, Pt.cells, Pt.slots] at X' hS hle h1 h3 h4 h5 h6 h7 h8 h9 hst
  subst h7 h8 h9 hq
  obtain ⟨t, o, hs, r⟩ := K v T'.heap SN h3 C.2.2.2.2.2.2.2.1.1 h1 p e s m args below meth c T' ⟨hA, T'.vm, T'.heap.size, _, X', rfl, C.keep h3 hws h2 h5 (State.Warmed39.trans (t := s.setVm vm0) C.1 hS.1) (C.2.1.1.trans hS (Nat.le_trans C.2.1.2 h3.1)) (Nat.le_refl _) (fun q => State.WarmedH.trans (t := s.setVm vm0) (C.2.2.2.2.2.1 q) (h6 q)) h4⟩
  exact ⟨t, o, hst.trans hs, r⟩
theorem Go.callS {ck cn W : Nat} {ws : List Addr} {as' : Array Value} {Q' : Option Value → Heap → List Addr → Prop} {index : Nat} {z : MethodName} {zb : ByteArray} {zL : Nat} {zr : Option FieldType} {argsL : List Value} (hd : decode bytes pc = .ok (.invokestatic index, 3)) (hq : pc + 3 = pc') (w1 : (Jvm.Cond.methodLink y.cls index z).before a0 Z = true) (w2 : (Jvm.Cond.static z).before a0 Z = true) (w3 : (Jvm.Cond.initialized z.cls).before a0 Z = true) (w4 : (Jvm.Cond.code z zb zL zr).before a0 Z = true) (hy : z.cls ≠ "java/lang/invoke/MethodHandle" ∧ z.cls ≠ "java/lang/invoke/VarHandle") (PP : Pays l Z EL n0 nr kn R 3 z W ck cn ws as' h Q') (hsz : Ls.size = mL) (hst : st = argsL.reverse ++ rest) (hlen : ∀ sig, parseMethodDescriptor z.desc = some sig → argsL.length = sig.parameters.length) (has : argsL.toArray = as') (hW : (rest.map fun v => v.category).sum ≤ W) (hws : ∀ x ∈ ws, x ∈ SF) (hc : k + ck ≤ R.cells) (hl : n + cn ≤ R.slots)
    (K : ∀ v h' SN, Keep h h' ws → h0.size ≤ h.size → Q' v h' SN → Go l Z EL n0 nr kn y bytes mL ret R h0 WS Q (SN ++ SF) h' (k + ck) (n + cn) pc' Ls (v.toList ++ rest)) : Go l Z EL n0 nr kn y bytes mL ret R h0 WS Q SF h k n pc Ls st := by
  intro p e s m args below meth c T hR
  obtain ⟨⟨hx, hby, hml, hown, hnm, hret, hlk, hkn⟩, vm0, k0, locs, X, e0, C⟩ := hR
  have hZ : Z.Warmed39 (s.setVm vm0).vm := C.1
  have hown' : (s.setVm vm0).vm.findClass y.cls = some m.cls := by rw [show (s.setVm vm0).vm = vm0 from rfl, C.2.1.1.1.alike.findClass]; exact hown
  have hBK := PP p e below s args vm0 hx C.1 C.2.2.2.1.1 (fun x hx => ⟨⟨(C.2.2.2.2.1 x (hws x hx)).1.1, (C.2.2.2.2.1 x (hws x hx)).1.2.1⟩, (C.2.2.2.2.1 x (hws x hx)).2⟩) C.2.2.2.2.2.2.1 C.2.2.2.2.2.2.2.2.2 (fun q => ⟨Vm.MethodsKnown.alikeC C.2.1.1.1.alike (hkn q).1, Vm.FramesKnown.alikeC C.2.1.1.1.alike (hkn q).2⟩)
  refine Go.after (st := st) (args := args) (ck := ck) (cn := cn) (ws := ws) (as' := as') (Q' := Q') (rest := rest) ⟨hx, hby, hml, hown, hnm, hret, hlk, hkn⟩ e0 C hws ?_ hq K
  exact callSS X hx (y := z) hown' (mvT hZ w1) (mvT hZ w2) (mvT hZ w3) (mvT hZ w4) hy hBK (g := mkF m pc Ls st) rfl (by rw [hml]; exact hsz) (argsL := argsL) (rest := rest) hlen hst (by show 2 * 0 + _ ≤ _; rw [Nat.mul_zero, Nat.zero_add]; exact hW) (hb hby hd) (fun _ _ => ⟨has, e0, hc, hl⟩)
theorem Go.callI {ck cn W : Nat} {ws : List Addr} {as' : Array Value} {Q' : Option Value → Heap → List Addr → Prop} {index : Nat} {z : MethodName} {zb : ByteArray} {zL : Nat} {a : Addr} {argsL : List Value} (hd : decode bytes pc = .ok (.invokespecial index, 3)) (hq : pc + 3 = pc') (hi : z.name = "<init>") (w1 : (Jvm.Cond.methodLink y.cls index z).before a0 Z = true) (w2 : (Jvm.Cond.instanceMethod z).before a0 Z = true) (w4 : (Jvm.Cond.code z zb zL none).before a0 Z = true) (hy : z.cls ≠ "java/lang/invoke/MethodHandle" ∧ z.cls ≠ "java/lang/invoke/VarHandle") (PP : Pays l Z EL n0 nr kn R 3 z W ck cn ws as' h Q') (hsz : Ls.size = mL) (hst : st = argsL.reverse ++ .ref a :: rest) (hlen : ∀ sig, parseMethodDescriptor z.desc = some sig → argsL.length = sig.parameters.length) (has : (.ref a :: argsL).toArray = as') (hW : (rest.map fun v => v.category).sum ≤ W) (hws : ∀ x ∈ ws, x ∈ SF) (hc : k + ck ≤ R.cells) (hl : n + cn ≤ R.slots)
    (K : ∀ v h' SN, Keep h h' ws → h0.size ≤ h.size → Q' v h' SN → Go l Z EL n0 nr kn y bytes mL ret R h0 WS Q (SN ++ SF) h' (k + ck) (n + cn) pc' Ls (v.toList ++ rest)) : Go l Z EL n0 nr kn y bytes mL ret R h0 WS Q SF h k n pc Ls st := by
  intro p e s m args below meth c T hR
  obtain ⟨⟨hx, hby, hml, hown, hnm, hret, hlk, hkn⟩, vm0, k0, locs, X, e0, C⟩ := hR
  have hZ : Z.Warmed39 (s.setVm vm0).vm := C.1
  have hown' : (s.setVm vm0).vm.findClass y.cls = some m.cls := by rw [show (s.setVm vm0).vm = vm0 from rfl, C.2.1.1.1.alike.findClass]; exact hown
  have hBK := PP p e below s args vm0 hx C.1 C.2.2.2.1.1 (fun x hx => ⟨⟨(C.2.2.2.2.1 x (hws x hx)).1.1, (C.2.2.2.2.1 x (hws x hx)).1.2.1⟩, (C.2.2.2.2.1 x (hws x hx)).2⟩) C.2.2.2.2.2.2.1 C.2.2.2.2.2.2.2.2.2 (fun q => ⟨Vm.MethodsKnown.alikeC C.2.1.1.1.alike (hkn q).1, Vm.FramesKnown.alikeC C.2.1.1.1.alike (hkn q).2⟩)
  refine Go.after (st := st) (args := args) (ck := ck) (cn := cn) (ws := ws) (as' := as') (Q' := Q') (rest := rest) ⟨hx, hby, hml, hown, hnm, hret, hlk, hkn⟩ e0 C hws ?_ hq K
  exact X.specialBackS hx (y := z) hi hown' (mvT hZ w1) (mvT hZ w2) (mvT hZ w4) hy hBK (g := mkF m pc Ls st) rfl (by rw [hml]; exact hsz) (Steps.refl _) (a := a) (argsL := argsL) (rest := rest) hlen hst (by show 2 * 0 + _ ≤ _; rw [Nat.mul_zero, Nat.zero_add]; exact hW) (hb hby hd) (fun _ _ => ⟨has, e0, hc, hl⟩)
theorem Go.callV {ck cn W : Nat} {ws : List Addr} {as' : Array Value} {Q' : Option Value → Heap → List Addr → Prop} {index : Nat} {u z : MethodName} {CC : String} {a : Addr} {argsL : List Value} (hd : decode bytes pc = .ok (.invokevirtual index, 3)) (hq : pc + 3 = pc') (w1 : (Jvm.Cond.methodLink y.cls index u).before a0 Z = true) (w2 : (Jvm.Cond.declares u).before a0 Z = true) (hnf : ∀ (s : State), Z.Warmed39 s.vm → NotFace s u) (w3 : (Jvm.Cond.selects CC u z).before a0 Z = true) (w4 : (Jvm.Cond.instanceMethod z).before a0 Z = true) (hy : u.cls ≠ "java/lang/invoke/MethodHandle" ∧ u.cls ≠ "java/lang/invoke/VarHandle") (E : Exa Z h a CC) (PP : Pays l Z EL n0 nr kn R 3 z W ck cn ws as' h Q') (hsz : Ls.size = mL) (hst : st = argsL.reverse ++ .ref a :: rest) (hlen : ∀ sig, parseMethodDescriptor u.desc = some sig → argsL.length = sig.parameters.length) (has : (.ref a :: argsL).toArray = as') (hW : (rest.map fun v => v.category).sum ≤ W) (hws : ∀ x ∈ ws, x ∈ SF) (hc : k + ck ≤ R.cells) (hl : n + cn ≤ R.slots)
    (K : ∀ v h' SN, Keep h h' ws → h0.size ≤ h.size → Q' v h' SN → Go l Z EL n0 nr kn y bytes mL ret R h0 WS Q (SN ++ SF) h' (k + ck) (n + cn) pc' Ls (v.toList ++ rest)) : Go l Z EL n0 nr kn y bytes mL ret R h0 WS Q SF h k n pc Ls st := by
  intro p e s m args below meth c T hR
  obtain ⟨⟨hx, hby, hml, hown, hnm, hret, hlk, hkn⟩, vm0, k0, locs, X, e0, C⟩ := hR
  have hZ : Z.Warmed39 (s.setVm vm0).vm := C.1
  have hown' : (s.setVm vm0).vm.findClass y.cls = some m.cls := by rw [show (s.setVm vm0).vm = vm0 from rfl, C.2.1.1.1.alike.findClass]; exact hown
  have hBK := PP p e below s args vm0 hx C.1 C.2.2.2.1.1 (fun x hx => ⟨⟨(C.2.2.2.2.1 x (hws x hx)).1.1, (C.2.2.2.2.1 x (hws x hx)).1.2.1⟩, (C.2.2.2.2.1 x (hws x hx)).2⟩) C.2.2.2.2.2.2.1 C.2.2.2.2.2.2.2.2.2 (fun q => ⟨Vm.MethodsKnown.alikeC C.2.1.1.1.alike (hkn q).1, Vm.FramesKnown.alikeC C.2.1.1.1.alike (hkn q).2⟩)
  obtain ⟨cB, kB, qa, qb, qc⟩ := isOf hZ e0 E
  refine Go.after (st := st) (args := args) (ck := ck) (cn := cn) (ws := ws) (as' := as') (Q' := Q') (rest := rest) ⟨hx, hby, hml, hown, hnm, hret, hlk, hkn⟩ e0 C hws ?_ hq K
  exact X.virtualBackS hx (y := u) (z := z) hown' (mvT hZ w1) (mvT hZ w2) (hnf _ hZ) (mvT hZ w3) (mvT hZ w4) hy hBK qa qc (g := mkF m pc Ls st) rfl (by rw [hml]; exact hsz) (Steps.refl _) (argsL := argsL) (rest := rest) hlen hst (by show 2 * 0 + _ ≤ _; rw [Nat.mul_zero, Nat.zero_add]; exact hW) (hb hby hd) (fun _ _ => ⟨has, e0, hc, hl⟩)
theorem Go.callU {ck cn W : Nat} {ws : List Addr} {as' : Array Value} {Q' : Option Value → Heap → List Addr → Prop} {index : Nat} {u z : MethodName} {CC owner : String} {a : Addr} {argsL : List Value} (hd : decode bytes pc = .ok (.invokevirtual index, 3)) (hq : pc + 3 = pc') (w1 : (Jvm.Cond.methodLink y.cls index u).before a0 Z = true) (w5 : (Jvm.Cond.sameMethod u.cls owner u.name u.desc).before a0 Z = true) (w2 : (Jvm.Cond.declares ⟨owner, u.name, u.desc⟩).before a0 Z = true) (ho : owner ≠ "java/lang/invoke/MethodHandle" ∧ owner ≠ "java/lang/invoke/VarHandle") (w3 : (Jvm.Cond.selects CC u z).before a0 Z = true) (w4 : (Jvm.Cond.instanceMethod z).before a0 Z = true) (E : Exa Z h a CC) (PP : Pays l Z EL n0 nr kn R 3 z W ck cn ws as' h Q') (hsz : Ls.size = mL) (hst : st = argsL.reverse ++ .ref a :: rest) (hlen : ∀ sig, parseMethodDescriptor u.desc = some sig → argsL.length = sig.parameters.length) (has : (.ref a :: argsL).toArray = as') (hW : (rest.map fun v => v.category).sum ≤ W) (hws : ∀ x ∈ ws, x ∈ SF) (hc : k + ck ≤ R.cells) (hl : n + cn ≤ R.slots)
    (K : ∀ v h' SN, Keep h h' ws → h0.size ≤ h.size → Q' v h' SN → Go l Z EL n0 nr kn y bytes mL ret R h0 WS Q (SN ++ SF) h' (k + ck) (n + cn) pc' Ls (v.toList ++ rest)) : Go l Z EL n0 nr kn y bytes mL ret R h0 WS Q SF h k n pc Ls st := by
  intro p e s m args below meth c T hR
  obtain ⟨⟨hx, hby, hml, hown, hnm, hret, hlk, hkn⟩, vm0, k0, locs, X, e0, C⟩ := hR
  have hZ : Z.Warmed39 (s.setVm vm0).vm := C.1
  have hown' : (s.setVm vm0).vm.findClass y.cls = some m.cls := by rw [show (s.setVm vm0).vm = vm0 from rfl, C.2.1.1.1.alike.findClass]; exact hown
  have hBK := PP p e below s args vm0 hx C.1 C.2.2.2.1.1 (fun x hx => ⟨⟨(C.2.2.2.2.1 x (hws x hx)).1.1, (C.2.2.2.2.1 x (hws x hx)).1.2.1⟩, (C.2.2.2.2.1 x (hws x hx)).2⟩) C.2.2.2.2.2.2.1 C.2.2.2.2.2.2.2.2.2 (fun q => ⟨Vm.MethodsKnown.alikeC C.2.1.1.1.alike (hkn q).1, Vm.FramesKnown.alikeC C.2.1.1.1.alike (hkn q).2⟩)
  obtain ⟨cB, kB, qa, qb, qc⟩ := isOf hZ e0 E
  refine Go.after (st := st) (args := args) (ck := ck) (cn := cn) (ws := ws) (as' := as') (Q' := Q') (rest := rest) ⟨hx, hby, hml, hown, hnm, hret, hlk, hkn⟩ e0 C hws ?_ hq K
  exact X.virtualBackUpS hx (x := u) (y := z) (owner := owner) hown' (mvT hZ w1) (mvT hZ w5) (mvT hZ w2) ho (mvT hZ w3) (mvT hZ w4) hBK qa qc (g := mkF m pc Ls st) rfl (by rw [hml]; exact hsz) (Steps.refl _) (argsL := argsL) (rest := rest) hlen hst (by show 2 * 0 + _ ≤ _; rw [Nat.mul_zero, Nat.zero_add]; exact hW) (hb hby hd) (fun _ _ => ⟨has, e0, hc, hl⟩)
theorem Go.callF {ck cn W : Nat} {ws : List Addr} {as' : Array Value} {Q' : Option Value → Heap → List Addr → Prop} {index count : Nat} {u z : MethodName} {CC : String} {a : Addr} {argsL : List Value} (hd : decode bytes pc = .ok (.invokeinterface index count, 5)) (hq : pc + 5 = pc') (w1 : (Jvm.Cond.methodLink y.cls index u).before a0 Z = true) (w2 : (Jvm.Cond.declares u).before a0 Z = true) (w5 : (Jvm.Cond.interfaceMethod u.cls u.cls u.name u.desc).before a0 Z = true) (w3 : (Jvm.Cond.selects CC u z).before a0 Z = true) (w4 : (Jvm.Cond.instanceMethod z).before a0 Z = true) (w6 : (Jvm.Cond.publicMethod z).before a0 Z = true) (w7 : (Jvm.Cond.unhidden CC u.name u.desc).before a0 Z = true) (w8 : (Jvm.Cond.castable CC u.cls).before a0 Z = true) (hy : u.cls ≠ "java/lang/invoke/MethodHandle" ∧ u.cls ≠ "java/lang/invoke/VarHandle") (E : Exa Z h a CC) (PP : Pays l Z EL n0 nr kn R 5 z W ck cn ws as' h Q') (hsz : Ls.size = mL) (hst : st = argsL.reverse ++ .ref a :: rest) (hlen : ∀ sig, parseMethodDescriptor u.desc = some sig → argsL.length = sig.parameters.length) (has : (.ref a :: argsL).toArray = as') (hW : (rest.map fun v => v.category).sum ≤ W) (hws : ∀ x ∈ ws, x ∈ SF) (hc : k + ck ≤ R.cells) (hl : n + cn ≤ R.slots)
    (K : ∀ v h' SN, Keep h h' ws → h0.size ≤ h.size → Q' v h' SN → Go l Z EL n0 nr kn y bytes mL ret R h0 WS Q (SN ++ SF) h' (k + ck) (n + cn) pc' Ls (v.toList ++ rest)) : Go l Z EL n0 nr kn y bytes mL ret R h0 WS Q SF h k n pc Ls st := by
  intro p e s m args below meth c T hR
  obtain ⟨⟨hx, hby, hml, hown, hnm, hret, hlk, hkn⟩, vm0, k0, locs, X, e0, C⟩ := hR
  have hZ : Z.Warmed39 (s.setVm vm0).vm := C.1
  have hown' : (s.setVm vm0).vm.findClass y.cls = some m.cls := by rw [show (s.setVm vm0).vm = vm0 from rfl, C.2.1.1.1.alike.findClass]; exact hown
  have hBK := PP p e below s args vm0 hx C.1 C.2.2.2.1.1 (fun x hx => ⟨⟨(C.2.2.2.2.1 x (hws x hx)).1.1, (C.2.2.2.2.1 x (hws x hx)).1.2.1⟩, (C.2.2.2.2.1 x (hws x hx)).2⟩) C.2.2.2.2.2.2.1 C.2.2.2.2.2.2.2.2.2 (fun q => ⟨Vm.MethodsKnown.alikeC C.2.1.1.1.alike (hkn q).1, Vm.FramesKnown.alikeC C.2.1.1.1.alike (hkn q).2⟩)
  obtain ⟨cB, kB, qa, qb, qc⟩ := isOf hZ e0 E
  refine Go.after (st := st) (args := args) (ck := ck) (cn := cn) (ws := ws) (as' := as') (Q' := Q') (rest := rest) ⟨hx, hby, hml, hown, hnm, hret, hlk, hkn⟩ e0 C hws ?_ hq K
  exact X.interfaceBackS hx (xi := u) (y := z) hown' (mvT hZ w1) (mvT hZ w2) (mvT hZ w5 (by simp [Cond.onTables, Cond.keepsFace, Cond.keeps, Cond.steady, Cond.faceAtom]; exact hy)) (mvT hZ w3) (mvT hZ w4) (mvT hZ w6) (mvT hZ w7) (mvT hZ w8) hy hBK qa qb qc (g := mkF m pc Ls st) rfl (by rw [hml]; exact hsz) (Steps.refl _) (argsL := argsL) (rest := rest) hlen hst (by show 2 * 0 + _ ≤ _; rw [Nat.mul_zero, Nat.zero_add]; exact hW) (hb hby hd) (fun _ _ => ⟨has, e0, hc, hl⟩)
theorem Go.callP {ck cn W : Nat} {ws : List Addr} {as' : Array Value} {Q' : Option Value → Heap → List Addr → Prop} {index : Nat} {z : MethodName} {zb : ByteArray} {zL : Nat} {zr : Option FieldType} {CC : String} {a : Addr} {argsL : List Value} (hd : decode bytes pc = .ok (.invokevirtual index, 3)) (hq : pc + 3 = pc') (w1 : (Jvm.Cond.methodLink y.cls index z).before a0 Z = true) (w2 : (Jvm.Cond.instanceMethod z).before a0 Z = true) (w3 : (Jvm.Cond.selects z.cls z z).before a0 Z = true) (w5 : (Jvm.Cond.privateMethod z).before a0 Z = true) (w4 : (Jvm.Cond.code z zb zL zr).before a0 Z = true) (hy : z.cls ≠ "java/lang/invoke/MethodHandle" ∧ z.cls ≠ "java/lang/invoke/VarHandle") (E : Exa Z h a CC) (PP : Pays l Z EL n0 nr kn R 3 z W ck cn ws as' h Q') (hsz : Ls.size = mL) (hst : st = argsL.reverse ++ .ref a :: rest) (hlen : ∀ sig, parseMethodDescriptor z.desc = some sig → argsL.length = sig.parameters.length) (has : (.ref a :: argsL).toArray = as') (hW : (rest.map fun v => v.category).sum ≤ W) (hws : ∀ x ∈ ws, x ∈ SF) (hc : k + ck ≤ R.cells) (hl : n + cn ≤ R.slots)
    (K : ∀ v h' SN, Keep h h' ws → h0.size ≤ h.size → Q' v h' SN → Go l Z EL n0 nr kn y bytes mL ret R h0 WS Q (SN ++ SF) h' (k + ck) (n + cn) pc' Ls (v.toList ++ rest)) : Go l Z EL n0 nr kn y bytes mL ret R h0 WS Q SF h k n pc Ls st := by
  intro p e s m args below meth c T hR
  obtain ⟨⟨hx, hby, hml, hown, hnm, hret, hlk, hkn⟩, vm0, k0, locs, X, e0, C⟩ := hR
  have hZ : Z.Warmed39 (s.setVm vm0).vm := C.1
  have hown' : (s.setVm vm0).vm.findClass y.cls = some m.cls := by rw [show (s.setVm vm0).vm = vm0 from rfl, C.2.1.1.1.alike.findClass]; exact hown
  have hBK := PP p e below s args vm0 hx C.1 C.2.2.2.1.1 (fun x hx => ⟨⟨(C.2.2.2.2.1 x (hws x hx)).1.1, (C.2.2.2.2.1 x (hws x hx)).1.2.1⟩, (C.2.2.2.2.1 x (hws x hx)).2⟩) C.2.2.2.2.2.2.1 C.2.2.2.2.2.2.2.2.2 (fun q => ⟨Vm.MethodsKnown.alikeC C.2.1.1.1.alike (hkn q).1, Vm.FramesKnown.alikeC C.2.1.1.1.alike (hkn q).2⟩)
  obtain ⟨cq, q1, q2⟩ := E.cell
  refine Go.after (st := st) (args := args) (ck := ck) (cn := cn) (ws := ws) (as' := as') (Q' := Q') (rest := rest) ⟨hx, hby, hml, hown, hnm, hret, hlk, hkn⟩ e0 C hws ?_ hq K
  exact X.privateBackS hx (y := z) hown' (mvT hZ w1) (mvT hZ w2) (mvT hZ w3) (Cond.privateMethod_at (mvP hZ w5 (args := #[]))) (mvT hZ w4) hy hBK (g := mkF m pc Ls st) rfl (by rw [hml]; exact hsz) (Steps.refl _) (a := a) (by rw [e0]; exact q1) q2 (argsL := argsL) (rest := rest) hlen hst (by show 2 * 0 + _ ≤ _; rw [Nat.mul_zero, Nat.zero_add]; exact hW) (hb hby hd) (fun _ _ => ⟨has, e0, hc, hl⟩)
theorem nf {u z : MethodName} {CC : String} (w : (Jvm.Cond.selects CC u z).before a0 Z = true) (e : u = z) : ∀ (s : State), Z.Warmed39 s.vm → NotFace s u := fun s hZ => by
  subst e
  exact notFace_of_selects (args := #[]) (mvT hZ w)
theorem mem0 {SF : List Addr} : ∀ x ∈ ([] : List Addr), x ∈ SF := fun _ q => nomatch q
theorem memS {SF L : List Addr} {a : Addr} (q : a ∈ SF) (r : ∀ x ∈ L, x ∈ SF) : ∀ x ∈ a :: L, x ∈ SF := fun x z => (List.mem_cons.mp z).elim (fun u => u ▸ q) (r x)
theorem sn0 {SF : List Addr} {h0 : Heap} : ∀ x ∈ ([] : List Addr), x ∈ SF ∧ h0.size ≤ x := fun _ q => nomatch q
theorem snS {SF L : List Addr} {h0 : Heap} {a : Addr} (q : a ∈ SF ∧ h0.size ≤ a) (r : ∀ x ∈ L, x ∈ SF ∧ h0.size ≤ x) : ∀ x ∈ a :: L, x ∈ SF ∧ h0.size ≤ x := fun x z => (List.mem_cons.mp z).elim (fun u => u ▸ q) (r x)
theorem Ext.refl (h : Heap) : Ext h h := ⟨Nat.le_refl _, fun _ _ q => q⟩
theorem Ext.trans {h1 h2 h3 : Heap} (E : Ext h1 h2) (F : Ext h2 h3) : Ext h1 h3 := ⟨Nat.le_trans E.1 F.1, fun a c q => F.2 a c (E.2 a c q)⟩
theorem Keep.toExt {h1 h2 : Heap} (K : Keep h1 h2 []) : Ext h1 h2 := ⟨K.1, fun a c q => K.2.1 a c q (fun z => nomatch z)⟩
end Rules
end Jvm.OwnK
namespace Jvm.OwnK
open Jvm Sem ClassFile Op Lib Jvm.Free Jvm.Stand Jvm.LawKit Jvm.RoadKit Bundle
/-! plain facts on numbers and lists -/
def lowV (c : Int32) : Value := .int c.toInt8.toInt32
theorem byte_idem (c : Int32) : c.toInt8.toInt32.toInt8.toInt32 = c.toInt8.toInt32 := by
  rw [Int8.toInt8_toInt32]
theorem nar_byte (c : Int32) : nar .byte c.toInt8.toInt32 = c.toInt8.toInt32 := byte_idem c
theorem shr0 (x : Int32) : x >>> ((0 : Int32) &&& 31) = x := by
  apply Int32.toInt_inj.mp
  rw [c_ishr x 0 0 (by decide)]
  simp
theorem mask255 (x : Int32) : ¬ (x &&& 255) < 0 ∧ ¬ 255 < (x &&& 255) := by
  have h := c_and x 255 (by decide)
  rw [Int32.lt_iff_toInt_lt, Int32.lt_iff_toInt_lt]
  have e1 : (255 : Int32).toInt = 255 := by decide
  have e0 : (0 : Int32).toInt = 0 := by decide
  omega
theorem i2c_in {x : Int32} (h1 : ¬ x < 0) (h2 : ¬ 65535 < x) : x.toUInt32.toUInt16.toUInt32.toInt32 = x := by
  apply Int32.toInt_inj.mp
  have h := c_i2c x
  rw [Int32.lt_iff_toInt_lt] at h1 h2
  have e1 : (65535 : Int32).toInt = 65535 := by decide
  have e0 : (0 : Int32).toInt = 0 := by decide
  omega
theorem nar_char {x : Int32} (h1 : ¬ x < 0) (h2 : ¬ 65535 < x) : nar .char x = x := i2c_in h1 h2
theorem le255 {x : Int32} (h : ¬ 255 < x) : ¬ 65535 < x := by
  rw [Int32.lt_iff_toInt_lt] at h ⊢
  have e1 : (65535 : Int32).toInt = 65535 := by decide
  have e0 : (255 : Int32).toInt = 255 := by decide
  omega
theorem own_lowback {c : Int32} (h1 : ¬ c < 0) (h2 : ¬ 255 < c) : (c.toInt8.toInt32 &&& 255).toUInt32.toUInt16.toUInt32.toInt32 = c := by
  have m := mask255 c.toInt8.toInt32
  rw [i2c_in m.1 (le255 m.2)]
  apply Int32.toInt_inj.mp
  have e := c_mask c.toInt8.toInt32 255 8 (by decide) (by decide)
  have b := c_i2b c
  rw [Int32.lt_iff_toInt_lt] at h1 h2
  have e1 : (255 : Int32).toInt = 255 := by decide
  have e0 : (0 : Int32).toInt = 0 := by decide
  have e2 : ((2 ^ 8 : Nat) : Int) = 256 := by decide
  rw [e, e2]
  omega
theorem ofNat_succ (i : Nat) : Int32.ofNat i + 1 = Int32.ofNat (i + 1) := by
  rw [Int32.ofNat_add]; rfl
theorem ofNat_toInt {i : Nat} (h : i < 2 ^ 31) : (Int32.ofNat i).toInt = i := Int32.toInt_ofNat_small h
theorem ofNat_clamp {i : Nat} (h : i < 2 ^ 31) : (Int32.ofNat i).toNatClampNeg = i := by
  simp only [Int32.toNatClampNeg, ofNat_toInt h, Int.toNat_natCast]
theorem ofNat_nn {i : Nat} (h : i < 2 ^ 31) : ¬ Int32.ofNat i < 0 := by
  rw [Int32.lt_iff_toInt_lt, ofNat_toInt h]
  have e0 : (0 : Int32).toInt = 0 := by decide
  omega
theorem clamp_toInt {z : Int32} (h : ¬ z < 0) : z.toInt = z.toNatClampNeg := nat_of h
theorem ofNat_lt {i : Nat} {z : Int32} (hz : ¬ z < 0) (h : i < z.toNatClampNeg) : Int32.ofNat i < z := by
  have q := (back32 hz).2
  rw [Int32.lt_iff_toInt_lt, ofNat_toInt (by omega), clamp_toInt hz]
  omega
theorem ofNat_ge {i : Nat} {z : Int32} (hz : ¬ z < 0) (hi : i < 2 ^ 31) (h : z.toNatClampNeg ≤ i) : ¬ Int32.ofNat i < z := by
  rw [Int32.lt_iff_toInt_lt, ofNat_toInt hi, clamp_toInt hz]
  omega
theorem arv_nn {Z : State} {h : Heap} {a : Addr} {k : ClassId} {ty : FieldType} {z : Int32} {vs : List Value} {d : Value} (F : Arv Z h a k ty z vs d) : ¬ z < 0 := by obtain ⟨_, _, _, _, q, _⟩ := F; exact q
theorem getD_int (cs : List Int32) (i : Nat) : (cs.map Value.int).getD i (.int 0) = .int (cs.getD i 0) := by
  simp only [List.getD_eq_getElem?_getD, List.getElem?_map]
  cases cs[i]? <;> rfl
theorem getD_low (cs : List Int32) (i : Nat) (h : i < cs.length) : (cs.map lowV).getD i (.int 0) = .int (cs.getD i 0).toInt8.toInt32 := by
  simp only [List.getD_eq_getElem?_getD, List.getElem?_map, List.getElem?_eq_getElem h]
  rfl
theorem set_low (cs : List Int32) (i m : Nat) (h : i < cs.length) (z : Value) : ((cs.take i).map lowV ++ List.replicate (m + 1) z).set i (lowV (cs.getD i 0)) = (cs.take (i + 1)).map lowV ++ List.replicate m z := by
  have hl : ((cs.take i).map lowV).length = i := by simp; omega
  have e : cs.getD i 0 = cs[i] := by simp [List.getD_eq_getElem?_getD, List.getElem?_eq_getElem h]
  rw [List.set_append_right _ _ (by omega), hl, Nat.sub_self, List.replicate_succ, List.set_cons_zero, List.take_succ_eq_append_getElem h, List.map_append, List.append_assoc, e]
  rfl
theorem getD_mem {cs : List Int32} {P : Int32 → Prop} (h : ∀ x ∈ cs, P x) {i : Nat} (hi : i < cs.length) : P (cs.getD i 0) := by
  have e : cs.getD i 0 = cs[i] := by simp [List.getD_eq_getElem?_getD, List.getElem?_eq_getElem hi]
  rw [e]; exact h _ (List.getElem_mem hi)
theorem own_back (x : Int32) : x + (128 : Int32) - (128 : Int32) = x := Int32.add_sub_cancel x 128
theorem own_cache {x : Int32} {n : Nat} (h1 : ¬ x < (-128 : Int32)) (h2 : ¬ (127 : Int32) < x) (hn : n = (256 : Int32).toNatClampNeg) : ¬ (x + (128 : Int32) < 0 ∨ n ≤ (x + (128 : Int32)).toNatClampNeg) := by
  have c := c_iadd x 128
  have r := rng32 (x + 128)
  rw [Int32.lt_iff_toInt_lt] at h1 h2 ⊢
  have e1 : (-128 : Int32).toInt = -128 := by decide
  have e2 : (127 : Int32).toInt = 127 := by decide
  have e3 : (128 : Int32).toInt = 128 := by decide
  have e0 : (0 : Int32).toInt = 0 := by decide
  have e4 : (256 : Int32).toNatClampNeg = 256 := by decide
  simp only [Int32.toNatClampNeg] at hn e4 ⊢
  omega
theorem own_coder0 {z : Int32} : ((z - z).toUInt32 >>> ((31 : Int32) &&& 31).toUInt32).toInt32.toInt8.toInt32 = (0 : Int32) := by
  rw [Int32.sub_self]; decide
theorem own_nz {z : Int32} {cs : List Int32} (hz : z.toNatClampNeg = cs.length) (h : cs ≠ []) : ¬ z = (0 : Int32) := fun e => by
  subst e
  have : (0 : Int32).toNatClampNeg = 0 := by decide
  rw [this] at hz
  exact h (List.length_eq_zero_iff.mp hz.symm)
theorem own_narc (u : Int32) : narrow .char (.int (u &&& (255 : Int32)).toUInt32.toUInt16.toUInt32.toInt32) = .int (u &&& (255 : Int32)).toUInt32.toUInt16.toUInt32.toInt32 := by
  show Value.int _ = _
  have m := mask255 u
  rw [i2c_in m.1 (le255 m.2), i2c_in m.1 (le255 m.2)]
theorem own_one {P : Int32 → Prop} {a : Int32} (h : P a) : ∀ x ∈ [a], P x := fun x hx => by cases List.mem_singleton.mp hx; exact h
theorem own_cons {P : Int32 → Prop} {a : Int32} {L : List Int32} (h : P a) (r : ∀ x ∈ L, P x) : ∀ x ∈ a :: L, P x := fun x hx => (List.mem_cons.mp hx).elim (fun e => e ▸ h) (r x)
theorem own_two {P : Int32 → Prop} {a b : Int32} (h : P a) (h' : P b) : ∀ x ∈ [a, b], P x := own_cons h (own_one h')
def stRef (Z : State) (C n d : String) : Addr := match (Term.static C n d).eval #[] Z none [] Z with
  | some (.ref a) => a
  | _ => 0
theorem stRef_of {Z : State} {args : Array Value} {C n d : String} {a : Addr} (h : (Term.static C n d).eval args Z none [] Z = some (.ref a)) : stRef Z C n d = a := by
  have q : (Term.static C n d).eval #[] Z none [] Z = some (.ref a) := h
  simp only [stRef, q]
theorem arv_of_arr {Z : State} {h : Heap} {a : Addr} {cl : Cell} {ty : FieldType} {z : Int32} {vs : List Value} {d : Value} (A : Arr Z h a cl ty) (hz : ¬ z < 0) (hs : cl.slots.size = z.toNatClampNeg) (H : ∀ i, i < cl.slots.size → cl.slots[i]? = some (vs.getD i d) ∧ fits ty (vs.getD i d) = true) : Arv Z h a cl.cls ty z vs d :=
  ⟨cl, A, rfl, hs, hz, fun i hi => (H i hi).1, fun i hi => (H i hi).2⟩
theorem arv_ext {Z : State} {h h' : Heap} {a : Addr} {k : ClassId} {ty : FieldType} {z : Int32} {vs : List Value} {d : Value} (F : Arv Z h a k ty z vs d) (E : Ext h h') : Arv Z h' a k ty z vs d := F.ext E
theorem own_len {Z : State} {args : Array Value} {t : Term} {a : Addr} {cl : Cell} {ty : FieldType} {z : Int32} (e : t.eval args Z none [] Z = some (.ref a)) (A : Arr Z Z.heap a cl ty) (h : (Term.length t).eval args Z none [] Z = some (.int z)) : cl.slots.size < 2 ^ 31 ∧ cl.slots.size.toInt32 = z := by
  have q := A.fin (Vm.Alike.refl _)
  simp only [Term.eval, e, q, Option.bind_eq_bind, Option.bind_some] at h
  split at h
  · rename_i hl
    exact ⟨hl, by simpa using h⟩
  · cases h
theorem own_sto {Z : State} {h : Heap} {a y : Addr} {k : ClassId} {ty : FieldType} {z : Int32} {vs : List Value} {d : Value} {C : String} (F : Arv Z h a k ty z vs d) (O : Ovr Z k C) (I : Ins Z h y C true) : Sto Z h a (.ref y) := by
  obtain ⟨cl, A, q, -⟩ := F
  exact Sto.ofV A q O I
def NFc (Z : State) (K : String) : Prop := ∃ t kt, Z.vm.findClass K = some t ∧ Z.vm.classes[t]? = some kt ∧ kt.isInterface = false
theorem own_face_inst {Z : State} {a0 : Array Value} {K : String} {n : Nat} (w : (Jvm.Cond.instantiable K n).before a0 Z = true) : NFc Z K := by
  obtain ⟨c, k, h1, h2, -, h4, -⟩ := Cond.instantiable_spec w
  exact ⟨c, k, h1, h2, by simpa using (Bool.or_eq_false_iff.mp h4).1⟩
theorem own_face_sel {Z : State} {a0 : Array Value} {K : String} {u z : MethodName} (w : (Jvm.Cond.selects K u z).before a0 Z = true) : NFc Z z.cls := by
  obtain ⟨c, r, m, -, -, h3, -, mk, h5, h6⟩ := Cond.selects_spec w
  exact ⟨m.cls, mk, findClass_of_methodNamed h3, h5, h6⟩
theorem own_root {Z : State} {a0 : Array Value} {O K : String} (w : (Jvm.Cond.noSuperclass O).before a0 Z = true) (hk : NFc Z K) (hn : O ≠ K) : NS Z O K := by
  obtain ⟨c, k, h1, h2, h3, -, -⟩ := Cond.noSuperclass_spec w
  obtain ⟨t, kt, g1, -⟩ := hk
  have ne := ids_ne h1 g1 hn
  refine ⟨c, t, h1, g1, fun fuel => ?_⟩
  cases fuel with
  | zero => rfl
  | succ f => simp [Vm.isSubclassAux, ne, h2, h3]
theorem own_nsno {Z : State} {a0 : Array Value} {C K : String} {n : Nat} (w : (Jvm.Cond.instantiable C n).before a0 Z = true) (hk : NFc Z K) (ns : NS Z C K) (hn : C ≠ K) : ∃ c t, Z.vm.findClass C = some c ∧ Z.vm.findClass K = some t ∧ Z.vm.assignable c t = false := by
  obtain ⟨c, t, h0, g0, n3⟩ := ns
  obtain ⟨c', k, h1, h2, h5, -⟩ := Cond.instantiable_spec w
  cases h0.symm.trans h1
  obtain ⟨t', kt, g1, g2, g7⟩ := hk
  cases g0.symm.trans g1
  have ne := ids_ne h0 g0 hn
  refine ⟨c, t, h0, g0, ?_⟩
  show Z.vm.assignableAux (255 + 1) c t = false
  cases hkk : kt.kind <;> simp [Vm.assignableAux, ne, h2, g2, h5, hkk, g7, Vm.isSubclass, n3]
theorem own_arv0 {Z : State} {h : Heap} {a : Addr} {cl : Cell} {ty : FieldType} {d : Value} (A : Arr Z h a cl ty) (l : cl.slots.size < 2 ^ 31 ∧ cl.slots.size.toInt32 = (0 : Int32)) : Arv Z h a cl.cls ty (0 : Int32) [] d := by
  have e : cl.slots.size = 0 := by
    have q := len_toInt l.1
    rw [l.2] at q
    have : (0 : Int32).toInt = 0 := by decide
    omega
  refine ⟨cl, A, rfl, by rw [e]; decide, by decide, fun i hi => ?_, fun i hi => ?_⟩ <;> (rw [e] at hi; exact absurd hi (Nat.not_lt_zero _))
theorem own_cat {v : Value} (h : v.isRef = true) : v.category = 1 := by rcases ref_cases h with rfl | ⟨_, rfl⟩ <;> rfl
theorem unt_ext {h h' : Heap} {a : Addr} (E : Ext h h') (U : Unt h a) : Unt h' a := by obtain ⟨c, q, r⟩ := U; exact ⟨c, E.2 _ _ q, r⟩
theorem own_selP {Z : State} {a0 : Array Value} {z u : MethodName} (w3 : (Jvm.Cond.selects u.cls u u).before a0 Z = true) (he : u.cls = z.cls) (hx : z.cls ≠ "java/lang/invoke/MethodHandle" ∧ z.cls ≠ "java/lang/invoke/VarHandle") (w2 : (Jvm.Cond.instanceMethod z).before a0 Z = true) (w5 : (Jvm.Cond.privateMethod z).before a0 Z = true) : (Jvm.Cond.selects z.cls z z).before a0 Z = true := by
  obtain ⟨mk, methM, hnamed, hmethM, hstM, habM⟩ := Cond.instanceMethod_spec w2
  obtain ⟨c2, r2, m2, q1, q2, q3, q4, kP, hkP, hkPi⟩ := Cond.selects_spec w3
  have e1 := findClass_of_methodNamed hnamed
  have e3 := findClass_of_methodNamed q3
  have hp := Cond.privateMethod_at w5 mk methM hnamed hmethM
  rw [he, e1] at e3
  have e4 := Option.some.inj e3
  rw [← e4] at hkP
  have hf := State.methodFound?_of_named hnamed hx
  have hs : selectMethod {} Z.vm mk.cls mk = .method mk := selectMethod_private hmethM hp
  show Cond.holds _ _ _ _ _ _ = true
  simp [Cond.holds, Cond.value, e1, hf, hnamed, hs, hkP, hkPi]
theorem own_elem {Z : State} {args : Array Value} {t : Term} {a : Addr} {cl : Cell} {ty : FieldType} {j : Int32} {v : Value} (e : t.eval args Z none [] Z = some (.ref a)) (A : Arr Z Z.heap a cl ty) (h : (Term.elem t (Term.int j)).eval args Z none [] Z = some v) : cl.slots[j.toNatClampNeg]? = some v := by
  have q := A.fin (Vm.Alike.refl _)
  simp only [Term.eval, e, q, Option.bind_eq_bind, Option.bind_some] at h
  split at h
  · cases h
  · exact h
theorem own_eqr {Z : State} {args : Array Value} {X F : Term} {y : Addr} (hF : F.eval args Z none [] Z = some (.ref y)) (h : (Cond.eq X F).value args Z none Z [] = some true) : X.eval args Z none [] Z = some (.ref y) := by
  simp only [Cond.value, hF] at h
  cases hX : X.eval args Z none [] Z with
  | none => simp [hX] at h
  | some x => cases x <;> simp [hX] at h ⊢; exact h
theorem own_eqn {Z : State} {args : Array Value} {X : Term} (h : (Cond.eq X Term.null).value args Z none Z [] = some true) : X.eval args Z none [] Z = some .null := by
  simp only [Cond.value, Term.eval] at h
  cases hX : X.eval args Z none [] Z with
  | none => simp [hX] at h
  | some x => cases x <;> simp [hX] at h ⊢
def own_eqb (us ws : List Int32) : Int32 := if us = ws then 1 else 0
theorem own_take_succ {us ws : List Int32} {i : Nat} (hu : i < us.length) (hw : i < ws.length) (h : us.take i = ws.take i) (e : us.getD i 0 = ws.getD i 0) : us.take (i + 1) = ws.take (i + 1) := by
  rw [List.take_succ_eq_append_getElem hu, List.take_succ_eq_append_getElem hw, h]
  simp [List.getD_eq_getElem?_getD, List.getElem?_eq_getElem hu, List.getElem?_eq_getElem hw] at e
  rw [e]
theorem own_low_map (cs : List Int32) : cs.map lowV = (cs.map (fun c => c.toInt8.toInt32)).map Value.int := by simp [lowV]
theorem own_eqb_pos {us ws : List Int32} (h : us = ws) : own_eqb us ws = 1 := if_pos h
theorem own_eqb_neg {us ws : List Int32} (h : ¬ us = ws) : own_eqb us ws = 0 := if_neg h
theorem own_eqb0 {us ws : List Int32} (h : own_eqb us ws = 0) : ¬ us = ws := fun e => by rw [own_eqb_pos e] at h; exact absurd h (by decide)
theorem own_eqb1 {us ws : List Int32} (h : ¬ own_eqb us ws = 0) : us = ws := Classical.byContradiction fun e => h (own_eqb_neg e)
theorem own_eqb0' {us ws : List Int32} (h : own_eqb ws us = 0) : ¬ us = ws := fun e => own_eqb0 h e.symm
theorem own_eqb_nar (us ws : List Int32) : narrow .boolean (.int (own_eqb us ws)) = .int (own_eqb us ws) := by
  by_cases h : us = ws
  · rw [own_eqb_pos h]; rfl
  · rw [own_eqb_neg h]; rfl
theorem own_idx {j z : Int32} (h1 : ¬ j < 0) (h2 : j < z) : j.toNatClampNeg < z.toNatClampNeg := by
  have e := clamp_toInt h1
  rw [Int32.lt_iff_toInt_lt] at h2
  simp only [Int32.toNatClampNeg] at e ⊢
  omega
theorem own_clamp_inj {x z : Int32} (h1 : ¬ x < 0) (h2 : ¬ z < 0) (h : x.toNatClampNeg = z.toNatClampNeg) : x = z := by
  have e1 := clamp_toInt h1
  have e2 := clamp_toInt h2
  apply Int32.toInt_inj.mp
  omega
theorem own_pad0 (m i : Nat) : ((List.replicate m (0 : Int32)).map Value.int).getD i (.int (0 : Int32)) = ([] : List Value).getD i (.int (0 : Int32)) := by
  simp only [List.map_replicate, List.getD_eq_getElem?_getD, List.getElem?_replicate]
  split <;> rfl
theorem own_set_mem {cs : List Int32} {P : Int32 → Prop} {i : Nat} {x : Int32} (h : ∀ y ∈ cs, P y) (hx : P x) : ∀ y ∈ cs.set i x, P y := fun y hy => by
  rcases List.mem_or_eq_of_mem_set hy with q | q
  · exact h y q
  · rw [q]; exact hx
theorem own_set_map (cs : List Int32) (i : Nat) (x : Int32) : (cs.map Value.int).set i (.int x) = (cs.set i x).map Value.int := by rw [List.map_set]
theorem own_arv_uniq {Z : State} {h : Heap} {t : Addr} {k k' : ClassId} {ty ty' : FieldType} {z z' : Int32} {us ws : List Int32} {d d' : Value} (A : Arv Z h t k ty z (us.map Value.int) d) (B : Arv Z h t k' ty' z' (ws.map Value.int) d') (hu : z.toNatClampNeg = us.length) (hw : z'.toNatClampNeg = ws.length) : us = ws := by
  obtain ⟨c, A1, -, A2, -, A3, -⟩ := A
  obtain ⟨c', B1, -, B2, -, B3, -⟩ := B
  cases A1.1.symm.trans B1.1
  apply List.ext_getElem (by omega)
  intro i h1 h2
  have q1 := A3 i (by omega)
  have q2 := B3 i (by omega)
  have q := Option.some.inj (q1.symm.trans q2)
  simp [List.getD_eq_getElem?_getD, List.getElem?_map, List.getElem?_eq_getElem h1, List.getElem?_eq_getElem h2] at q
  exact q
theorem own_fld_uniq {Z : State} {h : Heap} {a : Addr} {C n d : String} {x y : Addr} (F : Fld Z h a C n d (.ref x)) (G : Fld Z h a C n d (.ref y)) : x = y := Classical.byContradiction fun q => Fld.ne F G (fun e => q (Value.ref.inj e)) rfl
theorem own_rem {x : Int32} {m : Int32} (h : ¬ x < 0) (hm : (0 : Int32) < m) : ¬ x % m < 0 ∧ x % m < m := by
  have e := (c_iremV x m).1
  rw [Int32.lt_iff_toInt_lt] at h hm ⊢
  rw [Int32.lt_iff_toInt_lt]
  have e0 : (0 : Int32).toInt = 0 := by decide
  rw [e0] at h hm ⊢
  have := e (by omega) hm
  omega
theorem own_maskn (x m : Int32) (h : ¬ m < 0) : ¬ (x &&& m) < 0 := by
  have e0 : (0 : Int32).toInt = 0 := by decide
  rw [Int32.lt_iff_toInt_lt, e0] at h ⊢
  have q := c_and x m (by omega)
  omega
theorem own_remcap {x m : Int32} {c : Nat} (h : ¬ x < 0) (hm : (0 : Int32) < m) (hc : m.toNatClampNeg ≤ c + 1) : (x % m).toNatClampNeg ≤ c := by
  have q := own_rem h hm
  have r := own_idx q.1 q.2
  omega
end Jvm.OwnK

namespace Jvm.Pilot.@@N@@
open Jvm Jvm.ClassFile Sem Op Lib Jvm.Free Jvm.Stand Jvm.LawKit Jvm.RoadKit Bundle Jvm.OwnK Jvm.Pilot.@@N@@.Jvm.D
abbrev EL0 : List (String × Nat) := []
abbrev NR0 : Bool := false
abbrev KN0 : Bool := false
abbrev CAP : Nat := 2
def Stat (Z : State) : Prop := (∃ zc : Int32, Sta Z Z.heap "java/lang/String" "COMPACT_STRINGS" "Z" (.int zc) ∧ ¬ zc = 0) ∧ (∃ fm : Value, Sta Z Z.heap "jdk/internal/util/Preconditions" "SIOOBE_FORMATTER" "Ljava/util/function/BiFunction;" fm ∧ fm.isRef = true) ∧ (Sta Z Z.heap "java/lang/Integer$IntegerCache" "high" "I" (.int (127 : Int32)) ∧ ∃ (ca : Addr) (cl : Cell), Sta Z Z.heap "java/lang/Integer$IntegerCache" "cache" "[Ljava/lang/Integer;" (.ref ca) ∧ Bxs Z ca cl "java/lang/Integer" "I" (256 : Int32) (fun j => .int (j - 128))) ∧ True
theorem hs_c {Z : State} (h : Stat Z) : (∃ zc : Int32, Sta Z Z.heap "java/lang/String" "COMPACT_STRINGS" "Z" (.int zc) ∧ ¬ zc = 0) := h.1
theorem hs_f {Z : State} (h : Stat Z) : (∃ fm : Value, Sta Z Z.heap "jdk/internal/util/Preconditions" "SIOOBE_FORMATTER" "Ljava/util/function/BiFunction;" fm ∧ fm.isRef = true) := h.2.1
theorem hs_i {Z : State} (h : Stat Z) : (Sta Z Z.heap "java/lang/Integer$IntegerCache" "high" "I" (.int (127 : Int32)) ∧ ∃ (ca : Addr) (cl : Cell), Sta Z Z.heap "java/lang/Integer$IntegerCache" "cache" "[Ljava/lang/Integer;" (.ref ca) ∧ Bxs Z ca cl "java/lang/Integer" "I" (256 : Int32) (fun j => .int (j - 128))) := h.2.2.1
theorem own_and3 (x : Int32) : (x &&& (3 : Int32)) = (0 : Int32) ∨ (x &&& (3 : Int32)) = (1 : Int32) ∨ (x &&& (3 : Int32)) = (2 : Int32) ∨ (x &&& (3 : Int32)) = (3 : Int32) := by
  have h := c_and x 3 (by decide)
  simp only [← Int32.toInt_inj]
  have e0 : (0 : Int32).toInt = 0 := by decide
  have e1 : (1 : Int32).toInt = 1 := by decide
  have e2 : (2 : Int32).toInt = 2 := by decide
  have e3 : (3 : Int32).toInt = 3 := by decide
  omega
abbrev N_0 : MethodName := ⟨"java/lang/Number", "<init>", "()V"⟩
abbrev N_1 : MethodName := ⟨"java/lang/Integer", "<init>", "(I)V"⟩
abbrev N_2 : MethodName := ⟨"java/lang/Integer", "valueOf", "(I)Ljava/lang/Integer;"⟩
abbrev N_3 : MethodName := ⟨"java/lang/StringUTF16", "compress", "([CI[BII)I"⟩
abbrev N_4 : MethodName := ⟨"java/lang/StringUTF16", "compress", "([CII)[B"⟩
abbrev N_5 : MethodName := ⟨"java/lang/StringUTF16", "coderFromArrayLen", "([BI)B"⟩
abbrev N_6 : MethodName := ⟨"java/lang/String", "<init>", "([CIILjava/lang/Void;)V"⟩
abbrev N_7 : MethodName := ⟨"java/lang/String", "<init>", "([C)V"⟩
abbrev N_8 : MethodName := ⟨"java/lang/String", "coder", "()B"⟩
abbrev N_9 : MethodName := ⟨"java/lang/Math", "max", "(II)I"⟩
abbrev N_10 : MethodName := ⟨"java/lang/Math", "min", "(II)I"⟩
abbrev N_11 : MethodName := ⟨"com/example/beleg/beleg/AttributesClearPinLaw", "drawn", "(I)Ljava/lang/String;"⟩
abbrev N_12 : MethodName := ⟨"jdk/internal/util/ArraysSupport", "mismatch", "([B[BI)I"⟩
abbrev N_13 : MethodName := ⟨"java/lang/StringLatin1", "getChar", "([BI)C"⟩
abbrev N_14 : MethodName := ⟨"java/lang/StringLatin1", "compareTo", "([B[BII)I"⟩
abbrev N_15 : MethodName := ⟨"java/lang/StringLatin1", "compareTo", "([B[B)I"⟩
abbrev N_16 : MethodName := ⟨"java/lang/String", "compareTo", "(Ljava/lang/String;)I"⟩
abbrev N_17 : MethodName := ⟨"java/util/Objects", "requireNonNull", "(Ljava/lang/Object;Ljava/lang/String;)Ljava/lang/Object;"⟩
abbrev N_18 : MethodName := ⟨"com/example/beleg/beleg/Attributes", "<init>", "()V"⟩
abbrev N_19 : MethodName := ⟨"com/example/beleg/beleg/Attributes", "name", "(I)Ljava/lang/String;"⟩
abbrev N_20 : MethodName := ⟨"com/example/beleg/beleg/Attributes", "indexOf", "(Ljava/lang/String;)I"⟩
abbrev N_21 : MethodName := ⟨"com/example/beleg/beleg/Attributes", "insert", "(ILjava/lang/String;Ljava/lang/Object;)V"⟩
abbrev N_22 : MethodName := ⟨"com/example/beleg/beleg/Attributes", "put", "(Ljava/lang/String;Ljava/lang/Object;)V"⟩
abbrev N_23 : MethodName := ⟨"com/example/beleg/beleg/Attributes", "clear", "()V"⟩
abbrev N_24 : MethodName := ⟨"com/example/beleg/beleg/Attributes", "size", "()I"⟩
abbrev N_25 : MethodName := ⟨"com/example/beleg/beleg/Attributes", "has", "(Ljava/lang/String;)Z"⟩
abbrev N_26 : MethodName := ⟨"com/example/beleg/beleg/Attributes", "get", "(Ljava/lang/String;)Ljava/lang/Object;"⟩
theorem pd_0 : parseMethodDescriptor "()V" = some ⟨[], none⟩ := by decide +kernel
theorem pd_1 : parseMethodDescriptor "(I)V" = some ⟨[.int], none⟩ := by decide +kernel
theorem pd_2 : parseMethodDescriptor "([CI[BII)I" = some ⟨[(.array .char), .int, (.array .byte), .int, .int], some .int⟩ := by decide +kernel
theorem pd_3 : parseMethodDescriptor "([CII)[B" = some ⟨[(.array .char), .int, .int], some (.array .byte)⟩ := by decide +kernel
theorem pd_4 : parseMethodDescriptor "([BI)B" = some ⟨[(.array .byte), .int], some .byte⟩ := by decide +kernel
theorem pd_5 : parseMethodDescriptor "([CIILjava/lang/Void;)V" = some ⟨[(.array .char), .int, .int, (.object "java/lang/Void")], none⟩ := by decide +kernel
theorem pd_6 : parseMethodDescriptor "([C)V" = some ⟨[(.array .char)], none⟩ := by decide +kernel
theorem pd_7 : parseMethodDescriptor "(II)I" = some ⟨[.int, .int], some .int⟩ := by decide +kernel
theorem pd_8 : parseMethodDescriptor "([B[BI)I" = some ⟨[(.array .byte), (.array .byte), .int], some .int⟩ := by decide +kernel
theorem pd_9 : parseMethodDescriptor "([BI)C" = some ⟨[(.array .byte), .int], some .char⟩ := by decide +kernel
theorem pd_10 : parseMethodDescriptor "([B[BII)I" = some ⟨[(.array .byte), (.array .byte), .int, .int], some .int⟩ := by decide +kernel
theorem pd_11 : parseMethodDescriptor "()B" = some ⟨[], some .byte⟩ := by decide +kernel
theorem pd_12 : parseMethodDescriptor "([B[B)I" = some ⟨[(.array .byte), (.array .byte)], some .int⟩ := by decide +kernel
theorem pd_13 : parseMethodDescriptor "(Ljava/lang/Object;Ljava/lang/String;)Ljava/lang/Object;" = some ⟨[(.object "java/lang/Object"), (.object "java/lang/String")], some (.object "java/lang/Object")⟩ := by decide +kernel
theorem pd_14 : parseMethodDescriptor "(I)Ljava/lang/String;" = some ⟨[.int], some (.object "java/lang/String")⟩ := by decide +kernel
theorem pd_15 : parseMethodDescriptor "(Ljava/lang/String;)I" = some ⟨[(.object "java/lang/String")], some .int⟩ := by decide +kernel
theorem pd_16 : parseMethodDescriptor "(ILjava/lang/String;Ljava/lang/Object;)V" = some ⟨[.int, (.object "java/lang/String"), (.object "java/lang/Object")], none⟩ := by decide +kernel
theorem pd_17 : parseMethodDescriptor "()I" = some ⟨[], some .int⟩ := by decide +kernel
theorem pd_18 : parseMethodDescriptor "(Ljava/lang/String;)Z" = some ⟨[(.object "java/lang/String")], some .boolean⟩ := by decide +kernel
theorem pd_19 : parseMethodDescriptor "(Ljava/lang/String;)Ljava/lang/Object;" = some ⟨[(.object "java/lang/String")], some (.object "java/lang/Object")⟩ := by decide +kernel
theorem pd_20 : parseMethodDescriptor "(Ljava/lang/String;Ljava/lang/Object;)V" = some ⟨[(.object "java/lang/String"), (.object "java/lang/Object")], none⟩ := by decide +kernel
theorem pd_21 : parseMethodDescriptor "(I)Ljava/lang/Integer;" = some ⟨[.int], some (.object "java/lang/Integer")⟩ := by decide +kernel
theorem ic_m1 : Int32.ofInt (-1) = (-1 : Int32) := by decide
theorem ic_0 : Int32.ofInt (0) = (0 : Int32) := by decide
theorem ic_1 : Int32.ofInt (1) = (1 : Int32) := by decide
theorem ic_2 : Int32.ofInt (2) = (2 : Int32) := by decide
theorem ic_3 : Int32.ofInt (3) = (3 : Int32) := by decide
theorem ic_4 : Int32.ofInt (4) = (4 : Int32) := by decide
theorem icb_m128 : (Int8.ofInt (-128)).toInt32 = (-128 : Int32) := by decide
theorem icb_7 : (Int8.ofInt (7)).toInt32 = (7 : Int32) := by decide
theorem icb_8 : (Int8.ofInt (8)).toInt32 = (8 : Int32) := by decide
theorem icb_31 : (Int8.ofInt (31)).toInt32 = (31 : Int32) := by decide
theorem ics_128 : (Int16.ofInt (128)).toInt32 = (128 : Int32) := by decide
theorem ics_255 : (Int16.ofInt (255)).toInt32 = (255 : Int32) := by decide
theorem ics_1024 : (Int16.ofInt (1024)).toInt32 = (1024 : Int32) := by decide
theorem d_prog_3_method_1_0 : decode prog_3_method_1_code 0 = .ok (.aload_n 0, 1) := by decide +kernel
theorem d_prog_3_method_1_1 : decode prog_3_method_1_code 1 = .ok (.invokespecial 1, 3) := by decide +kernel
theorem d_prog_3_method_1_4 : decode prog_3_method_1_code 4 = .ok (.return_, 1) := by decide +kernel
theorem d_prog_3_method_6_0 : decode prog_3_method_6_code 0 = .ok (.aload_n 0, 1) := by decide +kernel
theorem d_prog_3_method_6_1 : decode prog_3_method_6_code 1 = .ok (.aconst_null, 1) := by decide +kernel
theorem d_prog_3_method_6_2 : decode prog_3_method_6_code 2 = .ok (.putfield 27, 3) := by decide +kernel
theorem d_prog_3_method_6_5 : decode prog_3_method_6_code 5 = .ok (.aload_n 0, 1) := by decide +kernel
theorem d_prog_3_method_6_6 : decode prog_3_method_6_code 6 = .ok (.iconst 0, 1) := by decide +kernel
theorem d_prog_3_method_6_7 : decode prog_3_method_6_code 7 = .ok (.putfield 31, 3) := by decide +kernel
theorem d_prog_3_method_6_10 : decode prog_3_method_6_code 10 = .ok (.aload_n 0, 1) := by decide +kernel
theorem d_prog_3_method_6_11 : decode prog_3_method_6_code 11 = .ok (.aconst_null, 1) := by decide +kernel
theorem d_prog_3_method_6_12 : decode prog_3_method_6_code 12 = .ok (.putfield 7, 3) := by decide +kernel
theorem d_prog_3_method_6_15 : decode prog_3_method_6_code 15 = .ok (.return_, 1) := by decide +kernel
theorem d_prog_3_method_3_0 : decode prog_3_method_3_code 0 = .ok (.aload_n 0, 1) := by decide +kernel
theorem d_prog_3_method_3_1 : decode prog_3_method_3_code 1 = .ok (.getfield 7, 3) := by decide +kernel
theorem d_prog_3_method_3_4 : decode prog_3_method_3_code 4 = .ok (.ifnull 15, 3) := by decide +kernel
theorem d_prog_3_method_3_19 : decode prog_3_method_3_code 19 = .ok (.aload_n 0, 1) := by decide +kernel
theorem d_prog_3_method_3_20 : decode prog_3_method_3_code 20 = .ok (.aload_n 1, 1) := by decide +kernel
theorem d_prog_3_method_3_21 : decode prog_3_method_3_code 21 = .ok (.invokevirtual 19, 3) := by decide +kernel
theorem d_prog_3_method_3_24 : decode prog_3_method_3_code 24 = .ok (.istore_n 3, 1) := by decide +kernel
theorem d_prog_3_method_3_25 : decode prog_3_method_3_code 25 = .ok (.iload_n 3, 1) := by decide +kernel
theorem d_prog_3_method_3_26 : decode prog_3_method_3_code 26 = .ok (.ifCond .lt 16, 3) := by decide +kernel
theorem d_prog_3_method_3_29 : decode prog_3_method_3_code 29 = .ok (.aload_n 0, 1) := by decide +kernel
theorem d_prog_3_method_3_30 : decode prog_3_method_3_code 30 = .ok (.getfield 27, 3) := by decide +kernel
theorem d_prog_3_method_3_33 : decode prog_3_method_3_code 33 = .ok (.iconst 2, 1) := by decide +kernel
theorem d_prog_3_method_3_34 : decode prog_3_method_3_code 34 = .ok (.iload_n 3, 1) := by decide +kernel
theorem d_prog_3_method_3_35 : decode prog_3_method_3_code 35 = .ok (.imul, 1) := by decide +kernel
theorem d_prog_3_method_3_36 : decode prog_3_method_3_code 36 = .ok (.iconst 1, 1) := by decide +kernel
theorem d_prog_3_method_3_37 : decode prog_3_method_3_code 37 = .ok (.iadd, 1) := by decide +kernel
theorem d_prog_3_method_3_38 : decode prog_3_method_3_code 38 = .ok (.aaload, 1) := by decide +kernel
theorem d_prog_3_method_3_39 : decode prog_3_method_3_code 39 = .ok (.goto 4, 3) := by decide +kernel
theorem d_prog_3_method_3_42 : decode prog_3_method_3_code 42 = .ok (.aconst_null, 1) := by decide +kernel
theorem d_prog_3_method_3_43 : decode prog_3_method_3_code 43 = .ok (.astore_n 2, 1) := by decide +kernel
theorem d_prog_3_method_3_44 : decode prog_3_method_3_code 44 = .ok (.aload_n 2, 1) := by decide +kernel
theorem d_prog_3_method_3_45 : decode prog_3_method_3_code 45 = .ok (.areturn, 1) := by decide +kernel
theorem d_prog_3_method_2_0 : decode prog_3_method_2_code 0 = .ok (.aload_n 0, 1) := by decide +kernel
theorem d_prog_3_method_2_1 : decode prog_3_method_2_code 1 = .ok (.getfield 7, 3) := by decide +kernel
theorem d_prog_3_method_2_4 : decode prog_3_method_2_code 4 = .ok (.ifnull 14, 3) := by decide +kernel
theorem d_prog_3_method_2_18 : decode prog_3_method_2_code 18 = .ok (.aload_n 0, 1) := by decide +kernel
theorem d_prog_3_method_2_19 : decode prog_3_method_2_code 19 = .ok (.aload_n 1, 1) := by decide +kernel
theorem d_prog_3_method_2_20 : decode prog_3_method_2_code 20 = .ok (.invokevirtual 19, 3) := by decide +kernel
theorem d_prog_3_method_2_23 : decode prog_3_method_2_code 23 = .ok (.ifCond .lt 7, 3) := by decide +kernel
theorem d_prog_3_method_2_30 : decode prog_3_method_2_code 30 = .ok (.iconst 0, 1) := by decide +kernel
theorem d_prog_3_method_2_31 : decode prog_3_method_2_code 31 = .ok (.ireturn, 1) := by decide +kernel
theorem d_prog_3_method_13_0 : decode prog_3_method_13_code 0 = .ok (.aload_n 1, 1) := by decide +kernel
theorem d_prog_3_method_13_1 : decode prog_3_method_13_code 1 = .ok (.ldc 95, 2) := by decide +kernel
theorem d_prog_3_method_13_3 : decode prog_3_method_13_code 3 = .ok (.invokestatic 96, 3) := by decide +kernel
theorem d_prog_3_method_13_6 : decode prog_3_method_13_code 6 = .ok (.pop, 1) := by decide +kernel
theorem d_prog_3_method_13_7 : decode prog_3_method_13_code 7 = .ok (.iconst 0, 1) := by decide +kernel
theorem d_prog_3_method_13_8 : decode prog_3_method_13_code 8 = .ok (.istore_n 2, 1) := by decide +kernel
theorem d_prog_3_method_13_9 : decode prog_3_method_13_code 9 = .ok (.aload_n 0, 1) := by decide +kernel
theorem d_prog_3_method_13_10 : decode prog_3_method_13_code 10 = .ok (.getfield 31, 3) := by decide +kernel
theorem d_prog_3_method_13_13 : decode prog_3_method_13_code 13 = .ok (.iconst 1, 1) := by decide +kernel
theorem d_prog_3_method_13_14 : decode prog_3_method_13_code 14 = .ok (.isub, 1) := by decide +kernel
theorem d_prog_3_method_13_15 : decode prog_3_method_13_code 15 = .ok (.istore_n 3, 1) := by decide +kernel
theorem d_prog_3_method_13_16 : decode prog_3_method_13_code 16 = .ok (.iload_n 2, 1) := by decide +kernel
theorem d_prog_3_method_13_17 : decode prog_3_method_13_code 17 = .ok (.iload_n 3, 1) := by decide +kernel
theorem d_prog_3_method_13_18 : decode prog_3_method_13_code 18 = .ok (.if_icmp .gt 51, 3) := by decide +kernel
theorem d_prog_3_method_13_21 : decode prog_3_method_13_code 21 = .ok (.iload_n 2, 1) := by decide +kernel
theorem d_prog_3_method_13_22 : decode prog_3_method_13_code 22 = .ok (.iload_n 3, 1) := by decide +kernel
theorem d_prog_3_method_13_23 : decode prog_3_method_13_code 23 = .ok (.iadd, 1) := by decide +kernel
theorem d_prog_3_method_13_24 : decode prog_3_method_13_code 24 = .ok (.iconst 1, 1) := by decide +kernel
theorem d_prog_3_method_13_25 : decode prog_3_method_13_code 25 = .ok (.iushr, 1) := by decide +kernel
theorem d_prog_3_method_13_26 : decode prog_3_method_13_code 26 = .ok (.istore 4, 2) := by decide +kernel
theorem d_prog_3_method_13_28 : decode prog_3_method_13_code 28 = .ok (.aload_n 0, 1) := by decide +kernel
theorem d_prog_3_method_13_29 : decode prog_3_method_13_code 29 = .ok (.iload 4, 2) := by decide +kernel
theorem d_prog_3_method_13_31 : decode prog_3_method_13_code 31 = .ok (.invokevirtual 73, 3) := by decide +kernel
theorem d_prog_3_method_13_34 : decode prog_3_method_13_code 34 = .ok (.aload_n 1, 1) := by decide +kernel
theorem d_prog_3_method_13_35 : decode prog_3_method_13_code 35 = .ok (.invokevirtual 87, 3) := by decide +kernel
theorem d_prog_3_method_13_38 : decode prog_3_method_13_code 38 = .ok (.istore 5, 2) := by decide +kernel
theorem d_prog_3_method_13_40 : decode prog_3_method_13_code 40 = .ok (.iload 5, 2) := by decide +kernel
theorem d_prog_3_method_13_42 : decode prog_3_method_13_code 42 = .ok (.ifCond .ne 6, 3) := by decide +kernel
theorem d_prog_3_method_13_45 : decode prog_3_method_13_code 45 = .ok (.iload 4, 2) := by decide +kernel
theorem d_prog_3_method_13_47 : decode prog_3_method_13_code 47 = .ok (.ireturn, 1) := by decide +kernel
theorem d_prog_3_method_13_48 : decode prog_3_method_13_code 48 = .ok (.iload 5, 2) := by decide +kernel
theorem d_prog_3_method_13_50 : decode prog_3_method_13_code 50 = .ok (.ifCond .ge 11, 3) := by decide +kernel
theorem d_prog_3_method_13_53 : decode prog_3_method_13_code 53 = .ok (.iload 4, 2) := by decide +kernel
theorem d_prog_3_method_13_55 : decode prog_3_method_13_code 55 = .ok (.iconst 1, 1) := by decide +kernel
theorem d_prog_3_method_13_56 : decode prog_3_method_13_code 56 = .ok (.iadd, 1) := by decide +kernel
theorem d_prog_3_method_13_57 : decode prog_3_method_13_code 57 = .ok (.istore_n 2, 1) := by decide +kernel
theorem d_prog_3_method_13_58 : decode prog_3_method_13_code 58 = .ok (.goto 8, 3) := by decide +kernel
theorem d_prog_3_method_13_61 : decode prog_3_method_13_code 61 = .ok (.iload 4, 2) := by decide +kernel
theorem d_prog_3_method_13_63 : decode prog_3_method_13_code 63 = .ok (.iconst 1, 1) := by decide +kernel
theorem d_prog_3_method_13_64 : decode prog_3_method_13_code 64 = .ok (.isub, 1) := by decide +kernel
theorem d_prog_3_method_13_65 : decode prog_3_method_13_code 65 = .ok (.istore_n 3, 1) := by decide +kernel
theorem d_prog_3_method_13_66 : decode prog_3_method_13_code 66 = .ok (.goto (-50), 3) := by decide +kernel
theorem d_prog_3_method_13_69 : decode prog_3_method_13_code 69 = .ok (.iload_n 2, 1) := by decide +kernel
theorem d_prog_3_method_13_70 : decode prog_3_method_13_code 70 = .ok (.ineg, 1) := by decide +kernel
theorem d_prog_3_method_13_71 : decode prog_3_method_13_code 71 = .ok (.iconst 1, 1) := by decide +kernel
theorem d_prog_3_method_13_72 : decode prog_3_method_13_code 72 = .ok (.isub, 1) := by decide +kernel
theorem d_prog_3_method_13_73 : decode prog_3_method_13_code 73 = .ok (.ireturn, 1) := by decide +kernel
theorem d_prog_3_method_14_0 : decode prog_3_method_14_code 0 = .ok (.aload_n 0, 1) := by decide +kernel
theorem d_prog_3_method_14_1 : decode prog_3_method_14_code 1 = .ok (.getfield 27, 3) := by decide +kernel
theorem d_prog_3_method_14_4 : decode prog_3_method_14_code 4 = .ok (.ifnull 17, 3) := by decide +kernel
theorem d_prog_3_method_14_7 : decode prog_3_method_14_code 7 = .ok (.iconst 2, 1) := by decide +kernel
theorem d_prog_3_method_14_8 : decode prog_3_method_14_code 8 = .ok (.aload_n 0, 1) := by decide +kernel
theorem d_prog_3_method_14_9 : decode prog_3_method_14_code 9 = .ok (.getfield 31, 3) := by decide +kernel
theorem d_prog_3_method_14_12 : decode prog_3_method_14_code 12 = .ok (.imul, 1) := by decide +kernel
theorem d_prog_3_method_14_13 : decode prog_3_method_14_code 13 = .ok (.aload_n 0, 1) := by decide +kernel
theorem d_prog_3_method_14_14 : decode prog_3_method_14_code 14 = .ok (.getfield 27, 3) := by decide +kernel
theorem d_prog_3_method_14_17 : decode prog_3_method_14_code 17 = .ok (.arraylength, 1) := by decide +kernel
theorem d_prog_3_method_14_18 : decode prog_3_method_14_code 18 = .ok (.if_icmp .ne 49, 3) := by decide +kernel
theorem d_prog_3_method_14_21 : decode prog_3_method_14_code 21 = .ok (.bipush 8, 2) := by decide +kernel
theorem d_prog_3_method_14_23 : decode prog_3_method_14_code 23 = .ok (.iconst 4, 1) := by decide +kernel
theorem d_prog_3_method_14_24 : decode prog_3_method_14_code 24 = .ok (.aload_n 0, 1) := by decide +kernel
theorem d_prog_3_method_14_25 : decode prog_3_method_14_code 25 = .ok (.getfield 31, 3) := by decide +kernel
theorem d_prog_3_method_14_28 : decode prog_3_method_14_code 28 = .ok (.imul, 1) := by decide +kernel
theorem d_prog_3_method_14_29 : decode prog_3_method_14_code 29 = .ok (.invokestatic 102, 3) := by decide +kernel
theorem d_prog_3_method_14_32 : decode prog_3_method_14_code 32 = .ok (.anewarray 2, 3) := by decide +kernel
theorem d_prog_3_method_14_35 : decode prog_3_method_14_code 35 = .ok (.astore 4, 2) := by decide +kernel
theorem d_prog_3_method_14_37 : decode prog_3_method_14_code 37 = .ok (.aload_n 0, 1) := by decide +kernel
theorem d_prog_3_method_14_38 : decode prog_3_method_14_code 38 = .ok (.getfield 27, 3) := by decide +kernel
theorem d_prog_3_method_14_41 : decode prog_3_method_14_code 41 = .ok (.ifnull 20, 3) := by decide +kernel
theorem d_prog_3_method_14_61 : decode prog_3_method_14_code 61 = .ok (.aload_n 0, 1) := by decide +kernel
theorem d_prog_3_method_14_62 : decode prog_3_method_14_code 62 = .ok (.aload 4, 2) := by decide +kernel
theorem d_prog_3_method_14_64 : decode prog_3_method_14_code 64 = .ok (.putfield 27, 3) := by decide +kernel
theorem d_prog_3_method_14_67 : decode prog_3_method_14_code 67 = .ok (.aload_n 0, 1) := by decide +kernel
theorem d_prog_3_method_14_68 : decode prog_3_method_14_code 68 = .ok (.getfield 27, 3) := by decide +kernel
theorem d_prog_3_method_14_71 : decode prog_3_method_14_code 71 = .ok (.iconst 2, 1) := by decide +kernel
theorem d_prog_3_method_14_72 : decode prog_3_method_14_code 72 = .ok (.iload_n 1, 1) := by decide +kernel
theorem d_prog_3_method_14_73 : decode prog_3_method_14_code 73 = .ok (.imul, 1) := by decide +kernel
theorem d_prog_3_method_14_74 : decode prog_3_method_14_code 74 = .ok (.aload_n 0, 1) := by decide +kernel
theorem d_prog_3_method_14_75 : decode prog_3_method_14_code 75 = .ok (.getfield 27, 3) := by decide +kernel
theorem d_prog_3_method_14_78 : decode prog_3_method_14_code 78 = .ok (.iconst 2, 1) := by decide +kernel
theorem d_prog_3_method_14_79 : decode prog_3_method_14_code 79 = .ok (.iload_n 1, 1) := by decide +kernel
theorem d_prog_3_method_14_80 : decode prog_3_method_14_code 80 = .ok (.imul, 1) := by decide +kernel
theorem d_prog_3_method_14_81 : decode prog_3_method_14_code 81 = .ok (.iconst 2, 1) := by decide +kernel
theorem d_prog_3_method_14_82 : decode prog_3_method_14_code 82 = .ok (.iadd, 1) := by decide +kernel
theorem d_prog_3_method_14_83 : decode prog_3_method_14_code 83 = .ok (.iconst 2, 1) := by decide +kernel
theorem d_prog_3_method_14_84 : decode prog_3_method_14_code 84 = .ok (.aload_n 0, 1) := by decide +kernel
theorem d_prog_3_method_14_85 : decode prog_3_method_14_code 85 = .ok (.getfield 31, 3) := by decide +kernel
theorem d_prog_3_method_14_88 : decode prog_3_method_14_code 88 = .ok (.iload_n 1, 1) := by decide +kernel
theorem d_prog_3_method_14_89 : decode prog_3_method_14_code 89 = .ok (.isub, 1) := by decide +kernel
theorem d_prog_3_method_14_90 : decode prog_3_method_14_code 90 = .ok (.imul, 1) := by decide +kernel
theorem d_prog_3_method_14_91 : decode prog_3_method_14_code 91 = .ok (.invokestatic 108, 3) := by decide +kernel
theorem d_prog_3_method_14_94 : decode prog_3_method_14_code 94 = .ok (.aload_n 0, 1) := by decide +kernel
theorem d_prog_3_method_14_95 : decode prog_3_method_14_code 95 = .ok (.getfield 27, 3) := by decide +kernel
theorem d_prog_3_method_14_98 : decode prog_3_method_14_code 98 = .ok (.iconst 2, 1) := by decide +kernel
theorem d_prog_3_method_14_99 : decode prog_3_method_14_code 99 = .ok (.iload_n 1, 1) := by decide +kernel
theorem d_prog_3_method_14_100 : decode prog_3_method_14_code 100 = .ok (.imul, 1) := by decide +kernel
theorem d_prog_3_method_14_101 : decode prog_3_method_14_code 101 = .ok (.aload_n 2, 1) := by decide +kernel
theorem d_prog_3_method_14_102 : decode prog_3_method_14_code 102 = .ok (.aastore, 1) := by decide +kernel
theorem d_prog_3_method_14_103 : decode prog_3_method_14_code 103 = .ok (.aload_n 0, 1) := by decide +kernel
theorem d_prog_3_method_14_104 : decode prog_3_method_14_code 104 = .ok (.getfield 27, 3) := by decide +kernel
theorem d_prog_3_method_14_107 : decode prog_3_method_14_code 107 = .ok (.iconst 2, 1) := by decide +kernel
theorem d_prog_3_method_14_108 : decode prog_3_method_14_code 108 = .ok (.iload_n 1, 1) := by decide +kernel
theorem d_prog_3_method_14_109 : decode prog_3_method_14_code 109 = .ok (.imul, 1) := by decide +kernel
theorem d_prog_3_method_14_110 : decode prog_3_method_14_code 110 = .ok (.iconst 1, 1) := by decide +kernel
theorem d_prog_3_method_14_111 : decode prog_3_method_14_code 111 = .ok (.iadd, 1) := by decide +kernel
theorem d_prog_3_method_14_112 : decode prog_3_method_14_code 112 = .ok (.aload_n 3, 1) := by decide +kernel
theorem d_prog_3_method_14_113 : decode prog_3_method_14_code 113 = .ok (.aastore, 1) := by decide +kernel
theorem d_prog_3_method_14_114 : decode prog_3_method_14_code 114 = .ok (.aload_n 0, 1) := by decide +kernel
theorem d_prog_3_method_14_115 : decode prog_3_method_14_code 115 = .ok (.dup, 1) := by decide +kernel
theorem d_prog_3_method_14_116 : decode prog_3_method_14_code 116 = .ok (.getfield 31, 3) := by decide +kernel
theorem d_prog_3_method_14_119 : decode prog_3_method_14_code 119 = .ok (.iconst 1, 1) := by decide +kernel
theorem d_prog_3_method_14_120 : decode prog_3_method_14_code 120 = .ok (.iadd, 1) := by decide +kernel
theorem d_prog_3_method_14_121 : decode prog_3_method_14_code 121 = .ok (.putfield 31, 3) := by decide +kernel
theorem d_prog_3_method_14_124 : decode prog_3_method_14_code 124 = .ok (.return_, 1) := by decide +kernel
theorem d_prog_3_method_12_0 : decode prog_3_method_12_code 0 = .ok (.aload_n 0, 1) := by decide +kernel
theorem d_prog_3_method_12_1 : decode prog_3_method_12_code 1 = .ok (.getfield 27, 3) := by decide +kernel
theorem d_prog_3_method_12_4 : decode prog_3_method_12_code 4 = .ok (.iconst 2, 1) := by decide +kernel
theorem d_prog_3_method_12_5 : decode prog_3_method_12_code 5 = .ok (.iload_n 1, 1) := by decide +kernel
theorem d_prog_3_method_12_6 : decode prog_3_method_12_code 6 = .ok (.imul, 1) := by decide +kernel
theorem d_prog_3_method_12_7 : decode prog_3_method_12_code 7 = .ok (.aaload, 1) := by decide +kernel
theorem d_prog_3_method_12_8 : decode prog_3_method_12_code 8 = .ok (.checkcast 85, 3) := by decide +kernel
theorem d_prog_3_method_12_11 : decode prog_3_method_12_code 11 = .ok (.areturn, 1) := by decide +kernel
theorem d_prog_3_method_4_0 : decode prog_3_method_4_code 0 = .ok (.aload_n 0, 1) := by decide +kernel
theorem d_prog_3_method_4_1 : decode prog_3_method_4_code 1 = .ok (.getfield 7, 3) := by decide +kernel
theorem d_prog_3_method_4_4 : decode prog_3_method_4_code 4 = .ok (.ifnonnull 65, 3) := by decide +kernel
theorem d_prog_3_method_4_7 : decode prog_3_method_4_code 7 = .ok (.aload_n 0, 1) := by decide +kernel
theorem d_prog_3_method_4_8 : decode prog_3_method_4_code 8 = .ok (.aload_n 1, 1) := by decide +kernel
theorem d_prog_3_method_4_9 : decode prog_3_method_4_code 9 = .ok (.invokevirtual 19, 3) := by decide +kernel
theorem d_prog_3_method_4_12 : decode prog_3_method_4_code 12 = .ok (.istore_n 3, 1) := by decide +kernel
theorem d_prog_3_method_4_13 : decode prog_3_method_4_code 13 = .ok (.iload_n 3, 1) := by decide +kernel
theorem d_prog_3_method_4_14 : decode prog_3_method_4_code 14 = .ok (.ifCond .lt 17, 3) := by decide +kernel
theorem d_prog_3_method_4_17 : decode prog_3_method_4_code 17 = .ok (.aload_n 0, 1) := by decide +kernel
theorem d_prog_3_method_4_18 : decode prog_3_method_4_code 18 = .ok (.getfield 27, 3) := by decide +kernel
theorem d_prog_3_method_4_21 : decode prog_3_method_4_code 21 = .ok (.iconst 2, 1) := by decide +kernel
theorem d_prog_3_method_4_22 : decode prog_3_method_4_code 22 = .ok (.iload_n 3, 1) := by decide +kernel
theorem d_prog_3_method_4_23 : decode prog_3_method_4_code 23 = .ok (.imul, 1) := by decide +kernel
theorem d_prog_3_method_4_24 : decode prog_3_method_4_code 24 = .ok (.iconst 1, 1) := by decide +kernel
theorem d_prog_3_method_4_25 : decode prog_3_method_4_code 25 = .ok (.iadd, 1) := by decide +kernel
theorem d_prog_3_method_4_26 : decode prog_3_method_4_code 26 = .ok (.aload_n 2, 1) := by decide +kernel
theorem d_prog_3_method_4_27 : decode prog_3_method_4_code 27 = .ok (.aastore, 1) := by decide +kernel
theorem d_prog_3_method_4_28 : decode prog_3_method_4_code 28 = .ok (.goto 41, 3) := by decide +kernel
theorem d_prog_3_method_4_31 : decode prog_3_method_4_code 31 = .ok (.iload_n 3, 1) := by decide +kernel
theorem d_prog_3_method_4_32 : decode prog_3_method_4_code 32 = .ok (.ineg, 1) := by decide +kernel
theorem d_prog_3_method_4_33 : decode prog_3_method_4_code 33 = .ok (.iconst 1, 1) := by decide +kernel
theorem d_prog_3_method_4_34 : decode prog_3_method_4_code 34 = .ok (.isub, 1) := by decide +kernel
theorem d_prog_3_method_4_35 : decode prog_3_method_4_code 35 = .ok (.aload_n 0, 1) := by decide +kernel
theorem d_prog_3_method_4_36 : decode prog_3_method_4_code 36 = .ok (.getfield 31, 3) := by decide +kernel
theorem d_prog_3_method_4_39 : decode prog_3_method_4_code 39 = .ok (.if_icmp .eq 13, 3) := by decide +kernel
theorem d_prog_3_method_4_42 : decode prog_3_method_4_code 42 = .ok (.aload_n 0, 1) := by decide +kernel
theorem d_prog_3_method_4_43 : decode prog_3_method_4_code 43 = .ok (.getfield 31, 3) := by decide +kernel
theorem d_prog_3_method_4_46 : decode prog_3_method_4_code 46 = .ok (.sipush 1024, 3) := by decide +kernel
theorem d_prog_3_method_4_49 : decode prog_3_method_4_code 49 = .ok (.if_icmp .ge 16, 3) := by decide +kernel
theorem d_prog_3_method_4_52 : decode prog_3_method_4_code 52 = .ok (.aload_n 0, 1) := by decide +kernel
theorem d_prog_3_method_4_53 : decode prog_3_method_4_code 53 = .ok (.iload_n 3, 1) := by decide +kernel
theorem d_prog_3_method_4_54 : decode prog_3_method_4_code 54 = .ok (.ineg, 1) := by decide +kernel
theorem d_prog_3_method_4_55 : decode prog_3_method_4_code 55 = .ok (.iconst 1, 1) := by decide +kernel
theorem d_prog_3_method_4_56 : decode prog_3_method_4_code 56 = .ok (.isub, 1) := by decide +kernel
theorem d_prog_3_method_4_57 : decode prog_3_method_4_code 57 = .ok (.aload_n 1, 1) := by decide +kernel
theorem d_prog_3_method_4_58 : decode prog_3_method_4_code 58 = .ok (.aload_n 2, 1) := by decide +kernel
theorem d_prog_3_method_4_59 : decode prog_3_method_4_code 59 = .ok (.invokevirtual 35, 3) := by decide +kernel
theorem d_prog_3_method_4_62 : decode prog_3_method_4_code 62 = .ok (.goto 7, 3) := by decide +kernel
theorem d_prog_3_method_4_69 : decode prog_3_method_4_code 69 = .ok (.aload_n 0, 1) := by decide +kernel
theorem d_prog_3_method_4_70 : decode prog_3_method_4_code 70 = .ok (.getfield 7, 3) := by decide +kernel
theorem d_prog_3_method_4_73 : decode prog_3_method_4_code 73 = .ok (.ifnull 13, 3) := by decide +kernel
theorem d_prog_3_method_4_86 : decode prog_3_method_4_code 86 = .ok (.return_, 1) := by decide +kernel
theorem d_prog_3_method_8_0 : decode prog_3_method_8_code 0 = .ok (.aload_n 0, 1) := by decide +kernel
theorem d_prog_3_method_8_1 : decode prog_3_method_8_code 1 = .ok (.getfield 7, 3) := by decide +kernel
theorem d_prog_3_method_8_4 : decode prog_3_method_8_code 4 = .ok (.ifnull 13, 3) := by decide +kernel
theorem d_prog_3_method_8_17 : decode prog_3_method_8_code 17 = .ok (.aload_n 0, 1) := by decide +kernel
theorem d_prog_3_method_8_18 : decode prog_3_method_8_code 18 = .ok (.getfield 31, 3) := by decide +kernel
theorem d_prog_3_method_8_21 : decode prog_3_method_8_code 21 = .ok (.ireturn, 1) := by decide +kernel
theorem d_method_2_0 : decode method_2_code 0 = .ok (.iconst 2, 1) := by decide +kernel
theorem d_method_2_1 : decode method_2_code 1 = .ok (.newarray .char, 2) := by decide +kernel
theorem d_method_2_3 : decode method_2_code 3 = .ok (.astore_n 1, 1) := by decide +kernel
theorem d_method_2_4 : decode method_2_code 4 = .ok (.aload_n 1, 1) := by decide +kernel
theorem d_method_2_5 : decode method_2_code 5 = .ok (.iconst 0, 1) := by decide +kernel
theorem d_method_2_6 : decode method_2_code 6 = .ok (.iload_n 0, 1) := by decide +kernel
theorem d_method_2_7 : decode method_2_code 7 = .ok (.sipush 255, 3) := by decide +kernel
theorem d_method_2_10 : decode method_2_code 10 = .ok (.iand, 1) := by decide +kernel
theorem d_method_2_11 : decode method_2_code 11 = .ok (.i2c, 1) := by decide +kernel
theorem d_method_2_12 : decode method_2_code 12 = .ok (.castore, 1) := by decide +kernel
theorem d_method_2_13 : decode method_2_code 13 = .ok (.aload_n 1, 1) := by decide +kernel
theorem d_method_2_14 : decode method_2_code 14 = .ok (.iconst 1, 1) := by decide +kernel
theorem d_method_2_15 : decode method_2_code 15 = .ok (.iload_n 0, 1) := by decide +kernel
theorem d_method_2_16 : decode method_2_code 16 = .ok (.bipush 8, 2) := by decide +kernel
theorem d_method_2_18 : decode method_2_code 18 = .ok (.iushr, 1) := by decide +kernel
theorem d_method_2_19 : decode method_2_code 19 = .ok (.sipush 255, 3) := by decide +kernel
theorem d_method_2_22 : decode method_2_code 22 = .ok (.iand, 1) := by decide +kernel
theorem d_method_2_23 : decode method_2_code 23 = .ok (.i2c, 1) := by decide +kernel
theorem d_method_2_24 : decode method_2_code 24 = .ok (.castore, 1) := by decide +kernel
theorem d_method_2_25 : decode method_2_code 25 = .ok (.new 7, 3) := by decide +kernel
theorem d_method_2_28 : decode method_2_code 28 = .ok (.dup, 1) := by decide +kernel
theorem d_method_2_29 : decode method_2_code 29 = .ok (.aload_n 1, 1) := by decide +kernel
theorem d_method_2_30 : decode method_2_code 30 = .ok (.invokespecial 9, 3) := by decide +kernel
theorem d_method_2_33 : decode method_2_code 33 = .ok (.areturn, 1) := by decide +kernel
theorem d_jdk_33_method_23_0 : decode jdk_33_method_23_code 0 = .ok (.aload_n 0, 1) := by decide +kernel
theorem d_jdk_33_method_23_1 : decode jdk_33_method_23_code 1 = .ok (.invokespecial 202, 3) := by decide +kernel
theorem d_jdk_33_method_23_4 : decode jdk_33_method_23_code 4 = .ok (.aload_n 0, 1) := by decide +kernel
theorem d_jdk_33_method_23_5 : decode jdk_33_method_23_code 5 = .ok (.iload_n 1, 1) := by decide +kernel
theorem d_jdk_33_method_23_6 : decode jdk_33_method_23_code 6 = .ok (.putfield 205, 3) := by decide +kernel
theorem d_jdk_33_method_23_9 : decode jdk_33_method_23_code 9 = .ok (.return_, 1) := by decide +kernel
theorem d_jdk_33_method_22_0 : decode jdk_33_method_22_code 0 = .ok (.iload_n 0, 1) := by decide +kernel
theorem d_jdk_33_method_22_1 : decode jdk_33_method_22_code 1 = .ok (.bipush (-128), 2) := by decide +kernel
theorem d_jdk_33_method_22_3 : decode jdk_33_method_22_code 3 = .ok (.if_icmp .lt 20, 3) := by decide +kernel
theorem d_jdk_33_method_22_6 : decode jdk_33_method_22_code 6 = .ok (.iload_n 0, 1) := by decide +kernel
theorem d_jdk_33_method_22_7 : decode jdk_33_method_22_code 7 = .ok (.getstatic 191, 3) := by decide +kernel
theorem d_jdk_33_method_22_10 : decode jdk_33_method_22_code 10 = .ok (.if_icmp .gt 13, 3) := by decide +kernel
theorem d_jdk_33_method_22_13 : decode jdk_33_method_22_code 13 = .ok (.getstatic 195, 3) := by decide +kernel
theorem d_jdk_33_method_22_16 : decode jdk_33_method_22_code 16 = .ok (.iload_n 0, 1) := by decide +kernel
theorem d_jdk_33_method_22_17 : decode jdk_33_method_22_code 17 = .ok (.sipush 128, 3) := by decide +kernel
theorem d_jdk_33_method_22_20 : decode jdk_33_method_22_code 20 = .ok (.iadd, 1) := by decide +kernel
theorem d_jdk_33_method_22_21 : decode jdk_33_method_22_code 21 = .ok (.aaload, 1) := by decide +kernel
theorem d_jdk_33_method_22_22 : decode jdk_33_method_22_code 22 = .ok (.areturn, 1) := by decide +kernel
theorem d_jdk_33_method_22_23 : decode jdk_33_method_22_code 23 = .ok (.new 1, 3) := by decide +kernel
theorem d_jdk_33_method_22_26 : decode jdk_33_method_22_code 26 = .ok (.dup, 1) := by decide +kernel
theorem d_jdk_33_method_22_27 : decode jdk_33_method_22_code 27 = .ok (.iload_n 0, 1) := by decide +kernel
theorem d_jdk_33_method_22_28 : decode jdk_33_method_22_code 28 = .ok (.invokespecial 199, 3) := by decide +kernel
theorem d_jdk_33_method_22_31 : decode jdk_33_method_22_code 31 = .ok (.areturn, 1) := by decide +kernel
theorem d_jdk_29_method_65_0 : decode jdk_29_method_65_code 0 = .ok (.iload_n 0, 1) := by decide +kernel
theorem d_jdk_29_method_65_1 : decode jdk_29_method_65_code 1 = .ok (.iload_n 1, 1) := by decide +kernel
theorem d_jdk_29_method_65_2 : decode jdk_29_method_65_code 2 = .ok (.if_icmp .lt 7, 3) := by decide +kernel
theorem d_jdk_29_method_65_5 : decode jdk_29_method_65_code 5 = .ok (.iload_n 0, 1) := by decide +kernel
theorem d_jdk_29_method_65_6 : decode jdk_29_method_65_code 6 = .ok (.goto 4, 3) := by decide +kernel
theorem d_jdk_29_method_65_9 : decode jdk_29_method_65_code 9 = .ok (.iload_n 1, 1) := by decide +kernel
theorem d_jdk_29_method_65_10 : decode jdk_29_method_65_code 10 = .ok (.ireturn, 1) := by decide +kernel
theorem d_jdk_29_method_69_0 : decode jdk_29_method_69_code 0 = .ok (.iload_n 0, 1) := by decide +kernel
theorem d_jdk_29_method_69_1 : decode jdk_29_method_69_code 1 = .ok (.iload_n 1, 1) := by decide +kernel
theorem d_jdk_29_method_69_2 : decode jdk_29_method_69_code 2 = .ok (.if_icmp .gt 7, 3) := by decide +kernel
theorem d_jdk_29_method_69_5 : decode jdk_29_method_69_code 5 = .ok (.iload_n 0, 1) := by decide +kernel
theorem d_jdk_29_method_69_6 : decode jdk_29_method_69_code 6 = .ok (.goto 4, 3) := by decide +kernel
theorem d_jdk_29_method_69_9 : decode jdk_29_method_69_code 9 = .ok (.iload_n 1, 1) := by decide +kernel
theorem d_jdk_29_method_69_10 : decode jdk_29_method_69_code 10 = .ok (.ireturn, 1) := by decide +kernel
theorem d_jdk_18_method_1_0 : decode jdk_18_method_1_code 0 = .ok (.aload_n 0, 1) := by decide +kernel
theorem d_jdk_18_method_1_1 : decode jdk_18_method_1_code 1 = .ok (.invokespecial 1, 3) := by decide +kernel
theorem d_jdk_18_method_1_4 : decode jdk_18_method_1_code 4 = .ok (.return_, 1) := by decide +kernel
theorem d_jdk_42_method_3_0 : decode jdk_42_method_3_code 0 = .ok (.aload_n 0, 1) := by decide +kernel
theorem d_jdk_42_method_3_1 : decode jdk_42_method_3_code 1 = .ok (.aload_n 1, 1) := by decide +kernel
theorem d_jdk_42_method_3_2 : decode jdk_42_method_3_code 2 = .ok (.iconst 0, 1) := by decide +kernel
theorem d_jdk_42_method_3_3 : decode jdk_42_method_3_code 3 = .ok (.aload_n 1, 1) := by decide +kernel
theorem d_jdk_42_method_3_4 : decode jdk_42_method_3_code 4 = .ok (.arraylength, 1) := by decide +kernel
theorem d_jdk_42_method_3_5 : decode jdk_42_method_3_code 5 = .ok (.aconst_null, 1) := by decide +kernel
theorem d_jdk_42_method_3_6 : decode jdk_42_method_3_code 6 = .ok (.invokespecial 27, 3) := by decide +kernel
theorem d_jdk_42_method_3_9 : decode jdk_42_method_3_code 9 = .ok (.return_, 1) := by decide +kernel
theorem d_jdk_42_method_149_0 : decode jdk_42_method_149_code 0 = .ok (.aload_n 0, 1) := by decide +kernel
theorem d_jdk_42_method_149_1 : decode jdk_42_method_149_code 1 = .ok (.invokespecial 1, 3) := by decide +kernel
theorem d_jdk_42_method_149_4 : decode jdk_42_method_149_code 4 = .ok (.iload_n 3, 1) := by decide +kernel
theorem d_jdk_42_method_149_5 : decode jdk_42_method_149_code 5 = .ok (.ifCond .ne 22, 3) := by decide +kernel
theorem d_jdk_42_method_149_27 : decode jdk_42_method_149_code 27 = .ok (.getstatic 38, 3) := by decide +kernel
theorem d_jdk_42_method_149_30 : decode jdk_42_method_149_code 30 = .ok (.ifCond .eq 28, 3) := by decide +kernel
theorem d_jdk_42_method_149_33 : decode jdk_42_method_149_code 33 = .ok (.aload_n 1, 1) := by decide +kernel
theorem d_jdk_42_method_149_34 : decode jdk_42_method_149_code 34 = .ok (.iload_n 2, 1) := by decide +kernel
theorem d_jdk_42_method_149_35 : decode jdk_42_method_149_code 35 = .ok (.iload_n 3, 1) := by decide +kernel
theorem d_jdk_42_method_149_36 : decode jdk_42_method_149_code 36 = .ok (.invokestatic 177, 3) := by decide +kernel
theorem d_jdk_42_method_149_39 : decode jdk_42_method_149_code 39 = .ok (.astore 5, 2) := by decide +kernel
theorem d_jdk_42_method_149_41 : decode jdk_42_method_149_code 41 = .ok (.aload_n 0, 1) := by decide +kernel
theorem d_jdk_42_method_149_42 : decode jdk_42_method_149_code 42 = .ok (.aload 5, 2) := by decide +kernel
theorem d_jdk_42_method_149_44 : decode jdk_42_method_149_code 44 = .ok (.iload_n 3, 1) := by decide +kernel
theorem d_jdk_42_method_149_45 : decode jdk_42_method_149_code 45 = .ok (.invokestatic 47, 3) := by decide +kernel
theorem d_jdk_42_method_149_48 : decode jdk_42_method_149_code 48 = .ok (.putfield 15, 3) := by decide +kernel
theorem d_jdk_42_method_149_51 : decode jdk_42_method_149_code 51 = .ok (.aload_n 0, 1) := by decide +kernel
theorem d_jdk_42_method_149_52 : decode jdk_42_method_149_code 52 = .ok (.aload 5, 2) := by decide +kernel
theorem d_jdk_42_method_149_54 : decode jdk_42_method_149_code 54 = .ok (.putfield 9, 3) := by decide +kernel
theorem d_jdk_42_method_149_57 : decode jdk_42_method_149_code 57 = .ok (.return_, 1) := by decide +kernel
theorem d_jdk_42_method_152_0 : decode jdk_42_method_152_code 0 = .ok (.getstatic 38, 3) := by decide +kernel
theorem d_jdk_42_method_152_3 : decode jdk_42_method_152_code 3 = .ok (.ifCond .eq 10, 3) := by decide +kernel
theorem d_jdk_42_method_152_6 : decode jdk_42_method_152_code 6 = .ok (.aload_n 0, 1) := by decide +kernel
theorem d_jdk_42_method_152_7 : decode jdk_42_method_152_code 7 = .ok (.getfield 15, 3) := by decide +kernel
theorem d_jdk_42_method_152_10 : decode jdk_42_method_152_code 10 = .ok (.goto 4, 3) := by decide +kernel
theorem d_jdk_42_method_152_14 : decode jdk_42_method_152_code 14 = .ok (.ireturn, 1) := by decide +kernel
theorem d_jdk_42_method_71_0 : decode jdk_42_method_71_code 0 = .ok (.aload_n 0, 1) := by decide +kernel
theorem d_jdk_42_method_71_1 : decode jdk_42_method_71_code 1 = .ok (.getfield 9, 3) := by decide +kernel
theorem d_jdk_42_method_71_4 : decode jdk_42_method_71_code 4 = .ok (.astore_n 2, 1) := by decide +kernel
theorem d_jdk_42_method_71_5 : decode jdk_42_method_71_code 5 = .ok (.aload_n 1, 1) := by decide +kernel
theorem d_jdk_42_method_71_6 : decode jdk_42_method_71_code 6 = .ok (.getfield 9, 3) := by decide +kernel
theorem d_jdk_42_method_71_9 : decode jdk_42_method_71_code 9 = .ok (.astore_n 3, 1) := by decide +kernel
theorem d_jdk_42_method_71_10 : decode jdk_42_method_71_code 10 = .ok (.aload_n 0, 1) := by decide +kernel
theorem d_jdk_42_method_71_11 : decode jdk_42_method_71_code 11 = .ok (.invokevirtual 335, 3) := by decide +kernel
theorem d_jdk_42_method_71_14 : decode jdk_42_method_71_code 14 = .ok (.istore 4, 2) := by decide +kernel
theorem d_jdk_42_method_71_16 : decode jdk_42_method_71_code 16 = .ok (.iload 4, 2) := by decide +kernel
theorem d_jdk_42_method_71_18 : decode jdk_42_method_71_code 18 = .ok (.aload_n 1, 1) := by decide +kernel
theorem d_jdk_42_method_71_19 : decode jdk_42_method_71_code 19 = .ok (.invokevirtual 335, 3) := by decide +kernel
theorem d_jdk_42_method_71_22 : decode jdk_42_method_71_code 22 = .ok (.if_icmp .ne 22, 3) := by decide +kernel
theorem d_jdk_42_method_71_25 : decode jdk_42_method_71_code 25 = .ok (.iload 4, 2) := by decide +kernel
theorem d_jdk_42_method_71_27 : decode jdk_42_method_71_code 27 = .ok (.ifCond .ne 11, 3) := by decide +kernel
theorem d_jdk_42_method_71_30 : decode jdk_42_method_71_code 30 = .ok (.aload_n 2, 1) := by decide +kernel
theorem d_jdk_42_method_71_31 : decode jdk_42_method_71_code 31 = .ok (.aload_n 3, 1) := by decide +kernel
theorem d_jdk_42_method_71_32 : decode jdk_42_method_71_code 32 = .ok (.invokestatic 586, 3) := by decide +kernel
theorem d_jdk_42_method_71_35 : decode jdk_42_method_71_code 35 = .ok (.goto 8, 3) := by decide +kernel
theorem d_jdk_42_method_71_43 : decode jdk_42_method_71_code 43 = .ok (.ireturn, 1) := by decide +kernel
theorem d_jdk_43_method_14_0 : decode jdk_43_method_14_code 0 = .ok (.aload_n 0, 1) := by decide +kernel
theorem d_jdk_43_method_14_1 : decode jdk_43_method_14_code 1 = .ok (.arraylength, 1) := by decide +kernel
theorem d_jdk_43_method_14_2 : decode jdk_43_method_14_code 2 = .ok (.istore_n 2, 1) := by decide +kernel
theorem d_jdk_43_method_14_3 : decode jdk_43_method_14_code 3 = .ok (.aload_n 1, 1) := by decide +kernel
theorem d_jdk_43_method_14_4 : decode jdk_43_method_14_code 4 = .ok (.arraylength, 1) := by decide +kernel
theorem d_jdk_43_method_14_5 : decode jdk_43_method_14_code 5 = .ok (.istore_n 3, 1) := by decide +kernel
theorem d_jdk_43_method_14_6 : decode jdk_43_method_14_code 6 = .ok (.aload_n 0, 1) := by decide +kernel
theorem d_jdk_43_method_14_7 : decode jdk_43_method_14_code 7 = .ok (.aload_n 1, 1) := by decide +kernel
theorem d_jdk_43_method_14_8 : decode jdk_43_method_14_code 8 = .ok (.iload_n 2, 1) := by decide +kernel
theorem d_jdk_43_method_14_9 : decode jdk_43_method_14_code 9 = .ok (.iload_n 3, 1) := by decide +kernel
theorem d_jdk_43_method_14_10 : decode jdk_43_method_14_code 10 = .ok (.invokestatic 34, 3) := by decide +kernel
theorem d_jdk_43_method_14_13 : decode jdk_43_method_14_code 13 = .ok (.ireturn, 1) := by decide +kernel
theorem d_jdk_43_method_15_0 : decode jdk_43_method_15_code 0 = .ok (.iload_n 2, 1) := by decide +kernel
theorem d_jdk_43_method_15_1 : decode jdk_43_method_15_code 1 = .ok (.iload_n 3, 1) := by decide +kernel
theorem d_jdk_43_method_15_2 : decode jdk_43_method_15_code 2 = .ok (.invokestatic 38, 3) := by decide +kernel
theorem d_jdk_43_method_15_5 : decode jdk_43_method_15_code 5 = .ok (.istore 4, 2) := by decide +kernel
theorem d_jdk_43_method_15_7 : decode jdk_43_method_15_code 7 = .ok (.aload_n 0, 1) := by decide +kernel
theorem d_jdk_43_method_15_8 : decode jdk_43_method_15_code 8 = .ok (.aload_n 1, 1) := by decide +kernel
theorem d_jdk_43_method_15_9 : decode jdk_43_method_15_code 9 = .ok (.iload 4, 2) := by decide +kernel
theorem d_jdk_43_method_15_11 : decode jdk_43_method_15_code 11 = .ok (.invokestatic 44, 3) := by decide +kernel
theorem d_jdk_43_method_15_14 : decode jdk_43_method_15_code 14 = .ok (.istore 5, 2) := by decide +kernel
theorem d_jdk_43_method_15_16 : decode jdk_43_method_15_code 16 = .ok (.iload 5, 2) := by decide +kernel
theorem d_jdk_43_method_15_18 : decode jdk_43_method_15_code 18 = .ok (.ifCond .ge 9, 3) := by decide +kernel
theorem d_jdk_43_method_15_21 : decode jdk_43_method_15_code 21 = .ok (.iload_n 2, 1) := by decide +kernel
theorem d_jdk_43_method_15_22 : decode jdk_43_method_15_code 22 = .ok (.iload_n 3, 1) := by decide +kernel
theorem d_jdk_43_method_15_23 : decode jdk_43_method_15_code 23 = .ok (.isub, 1) := by decide +kernel
theorem d_jdk_43_method_15_24 : decode jdk_43_method_15_code 24 = .ok (.goto 16, 3) := by decide +kernel
theorem d_jdk_43_method_15_27 : decode jdk_43_method_15_code 27 = .ok (.aload_n 0, 1) := by decide +kernel
theorem d_jdk_43_method_15_28 : decode jdk_43_method_15_code 28 = .ok (.iload 5, 2) := by decide +kernel
theorem d_jdk_43_method_15_30 : decode jdk_43_method_15_code 30 = .ok (.invokestatic 50, 3) := by decide +kernel
theorem d_jdk_43_method_15_33 : decode jdk_43_method_15_code 33 = .ok (.aload_n 1, 1) := by decide +kernel
theorem d_jdk_43_method_15_34 : decode jdk_43_method_15_code 34 = .ok (.iload 5, 2) := by decide +kernel
theorem d_jdk_43_method_15_36 : decode jdk_43_method_15_code 36 = .ok (.invokestatic 50, 3) := by decide +kernel
theorem d_jdk_43_method_15_39 : decode jdk_43_method_15_code 39 = .ok (.isub, 1) := by decide +kernel
theorem d_jdk_43_method_15_40 : decode jdk_43_method_15_code 40 = .ok (.ireturn, 1) := by decide +kernel
theorem d_jdk_43_method_44_0 : decode jdk_43_method_44_code 0 = .ok (.aload_n 0, 1) := by decide +kernel
theorem d_jdk_43_method_44_1 : decode jdk_43_method_44_code 1 = .ok (.iload_n 1, 1) := by decide +kernel
theorem d_jdk_43_method_44_2 : decode jdk_43_method_44_code 2 = .ok (.baload, 1) := by decide +kernel
theorem d_jdk_43_method_44_3 : decode jdk_43_method_44_code 3 = .ok (.sipush 255, 3) := by decide +kernel
theorem d_jdk_43_method_44_6 : decode jdk_43_method_44_code 6 = .ok (.iand, 1) := by decide +kernel
theorem d_jdk_43_method_44_7 : decode jdk_43_method_44_code 7 = .ok (.i2c, 1) := by decide +kernel
theorem d_jdk_43_method_44_8 : decode jdk_43_method_44_code 8 = .ok (.ireturn, 1) := by decide +kernel
theorem d_jdk_52_method_15_0 : decode jdk_52_method_15_code 0 = .ok (.iload_n 1, 1) := by decide +kernel
theorem d_jdk_52_method_15_1 : decode jdk_52_method_15_code 1 = .ok (.aload_n 0, 1) := by decide +kernel
theorem d_jdk_52_method_15_2 : decode jdk_52_method_15_code 2 = .ok (.arraylength, 1) := by decide +kernel
theorem d_jdk_52_method_15_3 : decode jdk_52_method_15_code 3 = .ok (.isub, 1) := by decide +kernel
theorem d_jdk_52_method_15_4 : decode jdk_52_method_15_code 4 = .ok (.bipush 31, 2) := by decide +kernel
theorem d_jdk_52_method_15_6 : decode jdk_52_method_15_code 6 = .ok (.iushr, 1) := by decide +kernel
theorem d_jdk_52_method_15_7 : decode jdk_52_method_15_code 7 = .ok (.i2b, 1) := by decide +kernel
theorem d_jdk_52_method_15_8 : decode jdk_52_method_15_code 8 = .ok (.ireturn, 1) := by decide +kernel
theorem d_jdk_52_method_16_0 : decode jdk_52_method_16_code 0 = .ok (.iload_n 2, 1) := by decide +kernel
theorem d_jdk_52_method_16_1 : decode jdk_52_method_16_code 1 = .ok (.newarray .byte, 2) := by decide +kernel
theorem d_jdk_52_method_16_3 : decode jdk_52_method_16_code 3 = .ok (.astore_n 3, 1) := by decide +kernel
theorem d_jdk_52_method_16_4 : decode jdk_52_method_16_code 4 = .ok (.aload_n 0, 1) := by decide +kernel
theorem d_jdk_52_method_16_5 : decode jdk_52_method_16_code 5 = .ok (.iload_n 1, 1) := by decide +kernel
theorem d_jdk_52_method_16_6 : decode jdk_52_method_16_code 6 = .ok (.aload_n 3, 1) := by decide +kernel
theorem d_jdk_52_method_16_7 : decode jdk_52_method_16_code 7 = .ok (.iconst 0, 1) := by decide +kernel
theorem d_jdk_52_method_16_8 : decode jdk_52_method_16_code 8 = .ok (.iload_n 2, 1) := by decide +kernel
theorem d_jdk_52_method_16_9 : decode jdk_52_method_16_code 9 = .ok (.invokestatic 115, 3) := by decide +kernel
theorem d_jdk_52_method_16_12 : decode jdk_52_method_16_code 12 = .ok (.istore 4, 2) := by decide +kernel
theorem d_jdk_52_method_16_14 : decode jdk_52_method_16_code 14 = .ok (.iload 4, 2) := by decide +kernel
theorem d_jdk_52_method_16_16 : decode jdk_52_method_16_code 16 = .ok (.iload_n 2, 1) := by decide +kernel
theorem d_jdk_52_method_16_17 : decode jdk_52_method_16_code 17 = .ok (.if_icmp .eq 40, 3) := by decide +kernel
theorem d_jdk_52_method_16_57 : decode jdk_52_method_16_code 57 = .ok (.aload_n 3, 1) := by decide +kernel
theorem d_jdk_52_method_16_58 : decode jdk_52_method_16_code 58 = .ok (.areturn, 1) := by decide +kernel
theorem d_jdk_52_method_21_0 : decode jdk_52_method_21_code 0 = .ok (.iconst 0, 1) := by decide +kernel
theorem d_jdk_52_method_21_1 : decode jdk_52_method_21_code 1 = .ok (.istore 5, 2) := by decide +kernel
theorem d_jdk_52_method_21_3 : decode jdk_52_method_21_code 3 = .ok (.iload 5, 2) := by decide +kernel
theorem d_jdk_52_method_21_5 : decode jdk_52_method_21_code 5 = .ok (.iload 4, 2) := by decide +kernel
theorem d_jdk_52_method_21_7 : decode jdk_52_method_21_code 7 = .ok (.if_icmp .ge 37, 3) := by decide +kernel
theorem d_jdk_52_method_21_10 : decode jdk_52_method_21_code 10 = .ok (.aload_n 0, 1) := by decide +kernel
theorem d_jdk_52_method_21_11 : decode jdk_52_method_21_code 11 = .ok (.iload_n 1, 1) := by decide +kernel
theorem d_jdk_52_method_21_12 : decode jdk_52_method_21_code 12 = .ok (.caload, 1) := by decide +kernel
theorem d_jdk_52_method_21_13 : decode jdk_52_method_21_code 13 = .ok (.istore 6, 2) := by decide +kernel
theorem d_jdk_52_method_21_15 : decode jdk_52_method_21_code 15 = .ok (.iload 6, 2) := by decide +kernel
theorem d_jdk_52_method_21_17 : decode jdk_52_method_21_code 17 = .ok (.sipush 255, 3) := by decide +kernel
theorem d_jdk_52_method_21_20 : decode jdk_52_method_21_code 20 = .ok (.if_icmp .le 6, 3) := by decide +kernel
theorem d_jdk_52_method_21_26 : decode jdk_52_method_21_code 26 = .ok (.aload_n 2, 1) := by decide +kernel
theorem d_jdk_52_method_21_27 : decode jdk_52_method_21_code 27 = .ok (.iload_n 3, 1) := by decide +kernel
theorem d_jdk_52_method_21_28 : decode jdk_52_method_21_code 28 = .ok (.iload 6, 2) := by decide +kernel
theorem d_jdk_52_method_21_30 : decode jdk_52_method_21_code 30 = .ok (.i2b, 1) := by decide +kernel
theorem d_jdk_52_method_21_31 : decode jdk_52_method_21_code 31 = .ok (.bastore, 1) := by decide +kernel
theorem d_jdk_52_method_21_32 : decode jdk_52_method_21_code 32 = .ok (.iinc 1 1, 3) := by decide +kernel
theorem d_jdk_52_method_21_35 : decode jdk_52_method_21_code 35 = .ok (.iinc 3 1, 3) := by decide +kernel
theorem d_jdk_52_method_21_38 : decode jdk_52_method_21_code 38 = .ok (.iinc 5 1, 3) := by decide +kernel
theorem d_jdk_52_method_21_41 : decode jdk_52_method_21_code 41 = .ok (.goto (-38), 3) := by decide +kernel
theorem d_jdk_52_method_21_44 : decode jdk_52_method_21_code 44 = .ok (.iload 4, 2) := by decide +kernel
theorem d_jdk_52_method_21_46 : decode jdk_52_method_21_code 46 = .ok (.ireturn, 1) := by decide +kernel
theorem d_jdk_31_method_11_0 : decode jdk_31_method_11_code 0 = .ok (.aload_n 0, 1) := by decide +kernel
theorem d_jdk_31_method_11_1 : decode jdk_31_method_11_code 1 = .ok (.ifnonnull 12, 3) := by decide +kernel
theorem d_jdk_31_method_11_13 : decode jdk_31_method_11_code 13 = .ok (.aload_n 0, 1) := by decide +kernel
theorem d_jdk_31_method_11_14 : decode jdk_31_method_11_code 14 = .ok (.areturn, 1) := by decide +kernel
theorem d_jdk_48_method_13_0 : decode jdk_48_method_13_code 0 = .ok (.iconst 0, 1) := by decide +kernel
theorem d_jdk_48_method_13_1 : decode jdk_48_method_13_code 1 = .ok (.istore_n 3, 1) := by decide +kernel
theorem d_jdk_48_method_13_2 : decode jdk_48_method_13_code 2 = .ok (.iload_n 2, 1) := by decide +kernel
theorem d_jdk_48_method_13_3 : decode jdk_48_method_13_code 3 = .ok (.bipush 7, 2) := by decide +kernel
theorem d_jdk_48_method_13_5 : decode jdk_48_method_13_code 5 = .ok (.if_icmp .le 44, 3) := by decide +kernel
theorem d_jdk_48_method_13_49 : decode jdk_48_method_13_code 49 = .ok (.iload_n 3, 1) := by decide +kernel
theorem d_jdk_48_method_13_50 : decode jdk_48_method_13_code 50 = .ok (.iload_n 2, 1) := by decide +kernel
theorem d_jdk_48_method_13_51 : decode jdk_48_method_13_code 51 = .ok (.if_icmp .ge 20, 3) := by decide +kernel
theorem d_jdk_48_method_13_54 : decode jdk_48_method_13_code 54 = .ok (.aload_n 0, 1) := by decide +kernel
theorem d_jdk_48_method_13_55 : decode jdk_48_method_13_code 55 = .ok (.iload_n 3, 1) := by decide +kernel
theorem d_jdk_48_method_13_56 : decode jdk_48_method_13_code 56 = .ok (.baload, 1) := by decide +kernel
theorem d_jdk_48_method_13_57 : decode jdk_48_method_13_code 57 = .ok (.aload_n 1, 1) := by decide +kernel
theorem d_jdk_48_method_13_58 : decode jdk_48_method_13_code 58 = .ok (.iload_n 3, 1) := by decide +kernel
theorem d_jdk_48_method_13_59 : decode jdk_48_method_13_code 59 = .ok (.baload, 1) := by decide +kernel
theorem d_jdk_48_method_13_60 : decode jdk_48_method_13_code 60 = .ok (.if_icmp .eq 5, 3) := by decide +kernel
theorem d_jdk_48_method_13_63 : decode jdk_48_method_13_code 63 = .ok (.iload_n 3, 1) := by decide +kernel
theorem d_jdk_48_method_13_64 : decode jdk_48_method_13_code 64 = .ok (.ireturn, 1) := by decide +kernel
theorem d_jdk_48_method_13_65 : decode jdk_48_method_13_code 65 = .ok (.iinc 3 1, 3) := by decide +kernel
theorem d_jdk_48_method_13_68 : decode jdk_48_method_13_code 68 = .ok (.goto (-19), 3) := by decide +kernel
theorem d_jdk_48_method_13_71 : decode jdk_48_method_13_code 71 = .ok (.iconst (-1), 1) := by decide +kernel
theorem d_jdk_48_method_13_72 : decode jdk_48_method_13_code 72 = .ok (.ireturn, 1) := by decide +kernel
theorem w_0 {Z : State} {a0 : Array Value} (hw : ∀ d ∈ tables_1, d.before a0 Z = true) : (Jvm.Cond.methodLink "com/example/beleg/beleg/AttributesClearPinLaw" (12 : Nat) ({ cls := "com/example/beleg/beleg/AttributesClearPinLaw", name := "drawn", desc := "(I)Ljava/lang/String;" } : Jvm.MethodName)).before a0 Z = true := hw _ (List.mem_of_getElem? (i := 0) rfl)
theorem w_1 {Z : State} {a0 : Array Value} (hw : ∀ d ∈ tables_1, d.before a0 Z = true) : (Jvm.Cond.static ({ cls := "com/example/beleg/beleg/AttributesClearPinLaw", name := "drawn", desc := "(I)Ljava/lang/String;" } : Jvm.MethodName)).before a0 Z = true := hw _ (List.mem_of_getElem? (i := 1) rfl)
theorem w_2 {Z : State} {a0 : Array Value} (hw : ∀ d ∈ tables_1, d.before a0 Z = true) : (Jvm.Cond.initialized "com/example/beleg/beleg/AttributesClearPinLaw").before a0 Z = true := hw _ (List.mem_of_getElem? (i := 2) rfl)
theorem w_3 {Z : State} {a0 : Array Value} (hw : ∀ d ∈ tables_1, d.before a0 Z = true) : (Jvm.Cond.code ({ cls := "com/example/beleg/beleg/AttributesClearPinLaw", name := "drawn", desc := "(I)Ljava/lang/String;" } : Jvm.MethodName) method_2_code (2 : Nat) (Option.some (Jvm.ClassFile.FieldType.object "java/lang/String"))).before a0 Z = true := hw _ (List.mem_of_getElem? (i := 3) rfl)
theorem w_4 {Z : State} {a0 : Array Value} (hw : ∀ d ∈ tables_1, d.before a0 Z = true) : (Jvm.Cond.arrayClass Jvm.ClassFile.FieldType.char).before a0 Z = true := hw _ (List.mem_of_getElem? (i := 4) rfl)
theorem w_5 {Z : State} {a0 : Array Value} (hw : ∀ d ∈ tables_1, d.before a0 Z = true) : (Jvm.Cond.classLink "com/example/beleg/beleg/AttributesClearPinLaw" (7 : Nat) "java/lang/String").before a0 Z = true := hw _ (List.mem_of_getElem? (i := 5) rfl)
theorem w_6 {Z : State} {a0 : Array Value} (hw : ∀ d ∈ tables_1, d.before a0 Z = true) : (Jvm.Cond.instantiable "java/lang/String" (4 : Nat)).before a0 Z = true := hw _ (List.mem_of_getElem? (i := 6) rfl)
theorem w_7 {Z : State} {a0 : Array Value} (hw : ∀ d ∈ tables_1, d.before a0 Z = true) : (Jvm.Cond.initialized "java/lang/String").before a0 Z = true := hw _ (List.mem_of_getElem? (i := 7) rfl)
theorem w_8 {Z : State} {a0 : Array Value} (hw : ∀ d ∈ tables_1, d.before a0 Z = true) : (Jvm.Cond.methodLink "com/example/beleg/beleg/AttributesClearPinLaw" (9 : Nat) ({ cls := "java/lang/String", name := "<init>", desc := "([C)V" } : Jvm.MethodName)).before a0 Z = true := hw _ (List.mem_of_getElem? (i := 8) rfl)
theorem w_9 {Z : State} {a0 : Array Value} (hw : ∀ d ∈ tables_1, d.before a0 Z = true) : (Jvm.Cond.instanceMethod ({ cls := "java/lang/String", name := "<init>", desc := "([C)V" } : Jvm.MethodName)).before a0 Z = true := hw _ (List.mem_of_getElem? (i := 9) rfl)
theorem w_10 {Z : State} {a0 : Array Value} (hw : ∀ d ∈ tables_1, d.before a0 Z = true) : (Jvm.Cond.code ({ cls := "java/lang/String", name := "<init>", desc := "([C)V" } : Jvm.MethodName) jdk_42_method_3_code (2 : Nat) (Option.none : Option Jvm.ClassFile.FieldType)).before a0 Z = true := hw _ (List.mem_of_getElem? (i := 10) rfl)
theorem w_11 {Z : State} {a0 : Array Value} (hw : ∀ d ∈ tables_1, d.before a0 Z = true) : (Jvm.Cond.methodLink "java/lang/String" (27 : Nat) ({ cls := "java/lang/String", name := "<init>", desc := "([CIILjava/lang/Void;)V" } : Jvm.MethodName)).before a0 Z = true := hw _ (List.mem_of_getElem? (i := 11) rfl)
theorem w_12 {Z : State} {a0 : Array Value} (hw : ∀ d ∈ tables_1, d.before a0 Z = true) : (Jvm.Cond.instanceMethod ({ cls := "java/lang/String", name := "<init>", desc := "([CIILjava/lang/Void;)V" } : Jvm.MethodName)).before a0 Z = true := hw _ (List.mem_of_getElem? (i := 12) rfl)
theorem w_14 {Z : State} {a0 : Array Value} (hw : ∀ d ∈ tables_1, d.before a0 Z = true) : (Jvm.Cond.code ({ cls := "java/lang/String", name := "<init>", desc := "([CIILjava/lang/Void;)V" } : Jvm.MethodName) jdk_42_method_149_code (6 : Nat) (Option.none : Option Jvm.ClassFile.FieldType)).before a0 Z = true := hw _ (List.mem_of_getElem? (i := 14) rfl)
theorem w_15 {Z : State} {a0 : Array Value} (hw : ∀ d ∈ tables_1, d.before a0 Z = true) : (Jvm.Cond.methodLink "java/lang/String" (1 : Nat) ({ cls := "java/lang/Object", name := "<init>", desc := "()V" } : Jvm.MethodName)).before a0 Z = true := hw _ (List.mem_of_getElem? (i := 15) rfl)
theorem w_16 {Z : State} {a0 : Array Value} (hw : ∀ d ∈ tables_1, d.before a0 Z = true) : (Jvm.Cond.instanceMethod ({ cls := "java/lang/Object", name := "<init>", desc := "()V" } : Jvm.MethodName)).before a0 Z = true := hw _ (List.mem_of_getElem? (i := 16) rfl)
theorem w_17 {Z : State} {a0 : Array Value} (hw : ∀ d ∈ tables_1, d.before a0 Z = true) : (Jvm.Cond.code ({ cls := "java/lang/Object", name := "<init>", desc := "()V" } : Jvm.MethodName) object_method_1_code (1 : Nat) (Option.none : Option Jvm.ClassFile.FieldType)).before a0 Z = true := hw _ (List.mem_of_getElem? (i := 17) rfl)
theorem w_18 {Z : State} {a0 : Array Value} (hw : ∀ d ∈ tables_1, d.before a0 Z = true) : (Jvm.Cond.fieldLink "java/lang/String" (38 : Nat) "java/lang/String" "COMPACT_STRINGS" "Z").before a0 Z = true := hw _ (List.mem_of_getElem? (i := 18) rfl)
theorem w_19 {Z : State} {a0 : Array Value} (hw : ∀ d ∈ tables_1, d.before a0 Z = true) : (Jvm.Cond.methodLink "java/lang/String" (177 : Nat) ({ cls := "java/lang/StringUTF16", name := "compress", desc := "([CII)[B" } : Jvm.MethodName)).before a0 Z = true := hw _ (List.mem_of_getElem? (i := 19) rfl)
theorem w_20 {Z : State} {a0 : Array Value} (hw : ∀ d ∈ tables_1, d.before a0 Z = true) : (Jvm.Cond.static ({ cls := "java/lang/StringUTF16", name := "compress", desc := "([CII)[B" } : Jvm.MethodName)).before a0 Z = true := hw _ (List.mem_of_getElem? (i := 20) rfl)
theorem w_21 {Z : State} {a0 : Array Value} (hw : ∀ d ∈ tables_1, d.before a0 Z = true) : (Jvm.Cond.initialized "java/lang/StringUTF16").before a0 Z = true := hw _ (List.mem_of_getElem? (i := 21) rfl)
theorem w_22 {Z : State} {a0 : Array Value} (hw : ∀ d ∈ tables_1, d.before a0 Z = true) : (Jvm.Cond.code ({ cls := "java/lang/StringUTF16", name := "compress", desc := "([CII)[B" } : Jvm.MethodName) jdk_52_method_16_code (6 : Nat) (Option.some (Jvm.ClassFile.FieldType.array Jvm.ClassFile.FieldType.byte))).before a0 Z = true := hw _ (List.mem_of_getElem? (i := 22) rfl)
theorem w_23 {Z : State} {a0 : Array Value} (hw : ∀ d ∈ tables_1, d.before a0 Z = true) : (Jvm.Cond.arrayClass Jvm.ClassFile.FieldType.byte).before a0 Z = true := hw _ (List.mem_of_getElem? (i := 23) rfl)
theorem w_24 {Z : State} {a0 : Array Value} (hw : ∀ d ∈ tables_1, d.before a0 Z = true) : (Jvm.Cond.methodLink "java/lang/StringUTF16" (115 : Nat) ({ cls := "java/lang/StringUTF16", name := "compress", desc := "([CI[BII)I" } : Jvm.MethodName)).before a0 Z = true := hw _ (List.mem_of_getElem? (i := 24) rfl)
theorem w_25 {Z : State} {a0 : Array Value} (hw : ∀ d ∈ tables_1, d.before a0 Z = true) : (Jvm.Cond.static ({ cls := "java/lang/StringUTF16", name := "compress", desc := "([CI[BII)I" } : Jvm.MethodName)).before a0 Z = true := hw _ (List.mem_of_getElem? (i := 25) rfl)
theorem w_26 {Z : State} {a0 : Array Value} (hw : ∀ d ∈ tables_1, d.before a0 Z = true) : (Jvm.Cond.code ({ cls := "java/lang/StringUTF16", name := "compress", desc := "([CI[BII)I" } : Jvm.MethodName) jdk_52_method_21_code (7 : Nat) (Option.some Jvm.ClassFile.FieldType.int)).before a0 Z = true := hw _ (List.mem_of_getElem? (i := 26) rfl)
theorem w_27 {Z : State} {a0 : Array Value} (hw : ∀ d ∈ tables_1, d.before a0 Z = true) : (Jvm.Cond.methodLink "java/lang/String" (47 : Nat) ({ cls := "java/lang/StringUTF16", name := "coderFromArrayLen", desc := "([BI)B" } : Jvm.MethodName)).before a0 Z = true := hw _ (List.mem_of_getElem? (i := 27) rfl)
theorem w_28 {Z : State} {a0 : Array Value} (hw : ∀ d ∈ tables_1, d.before a0 Z = true) : (Jvm.Cond.static ({ cls := "java/lang/StringUTF16", name := "coderFromArrayLen", desc := "([BI)B" } : Jvm.MethodName)).before a0 Z = true := hw _ (List.mem_of_getElem? (i := 28) rfl)
theorem w_29 {Z : State} {a0 : Array Value} (hw : ∀ d ∈ tables_1, d.before a0 Z = true) : (Jvm.Cond.code ({ cls := "java/lang/StringUTF16", name := "coderFromArrayLen", desc := "([BI)B" } : Jvm.MethodName) jdk_52_method_15_code (2 : Nat) (Option.some Jvm.ClassFile.FieldType.byte)).before a0 Z = true := hw _ (List.mem_of_getElem? (i := 29) rfl)
theorem w_30 {Z : State} {a0 : Array Value} (hw : ∀ d ∈ tables_1, d.before a0 Z = true) : (Jvm.Cond.fieldLink "java/lang/String" (15 : Nat) "java/lang/String" "coder" "B").before a0 Z = true := hw _ (List.mem_of_getElem? (i := 30) rfl)
theorem w_31 {Z : State} {a0 : Array Value} (hw : ∀ d ∈ tables_1, d.before a0 Z = true) : (Jvm.Cond.laysFinal "java/lang/String" "java/lang/String" "coder" "B").before a0 Z = true := hw _ (List.mem_of_getElem? (i := 31) rfl)
theorem w_32 {Z : State} {a0 : Array Value} (hw : ∀ d ∈ tables_1, d.before a0 Z = true) : (Jvm.Cond.fieldLink "java/lang/String" (9 : Nat) "java/lang/String" "value" "[B").before a0 Z = true := hw _ (List.mem_of_getElem? (i := 32) rfl)
theorem w_33 {Z : State} {a0 : Array Value} (hw : ∀ d ∈ tables_1, d.before a0 Z = true) : (Jvm.Cond.laysFinal "java/lang/String" "java/lang/String" "value" "[B").before a0 Z = true := hw _ (List.mem_of_getElem? (i := 33) rfl)
theorem w_34 {Z : State} {a0 : Array Value} (hw : ∀ d ∈ tables_1, d.before a0 Z = true) : (Jvm.Cond.methodLink "com/example/beleg/beleg/AttributesClearPinLaw" (18 : Nat) ({ cls := "java/lang/Integer", name := "valueOf", desc := "(I)Ljava/lang/Integer;" } : Jvm.MethodName)).before a0 Z = true := hw _ (List.mem_of_getElem? (i := 34) rfl)
theorem w_35 {Z : State} {a0 : Array Value} (hw : ∀ d ∈ tables_1, d.before a0 Z = true) : (Jvm.Cond.static ({ cls := "java/lang/Integer", name := "valueOf", desc := "(I)Ljava/lang/Integer;" } : Jvm.MethodName)).before a0 Z = true := hw _ (List.mem_of_getElem? (i := 35) rfl)
theorem w_36 {Z : State} {a0 : Array Value} (hw : ∀ d ∈ tables_1, d.before a0 Z = true) : (Jvm.Cond.initialized "java/lang/Integer").before a0 Z = true := hw _ (List.mem_of_getElem? (i := 36) rfl)
theorem w_37 {Z : State} {a0 : Array Value} (hw : ∀ d ∈ tables_1, d.before a0 Z = true) : (Jvm.Cond.code ({ cls := "java/lang/Integer", name := "valueOf", desc := "(I)Ljava/lang/Integer;" } : Jvm.MethodName) jdk_33_method_22_code (1 : Nat) (Option.some (Jvm.ClassFile.FieldType.object "java/lang/Integer"))).before a0 Z = true := hw _ (List.mem_of_getElem? (i := 37) rfl)
theorem w_38 {Z : State} {a0 : Array Value} (hw : ∀ d ∈ tables_1, d.before a0 Z = true) : (Jvm.Cond.fieldLink "java/lang/Integer" (191 : Nat) "java/lang/Integer$IntegerCache" "high" "I").before a0 Z = true := hw _ (List.mem_of_getElem? (i := 38) rfl)
theorem w_39 {Z : State} {a0 : Array Value} (hw : ∀ d ∈ tables_1, d.before a0 Z = true) : (Jvm.Cond.initialized "java/lang/Integer$IntegerCache").before a0 Z = true := hw _ (List.mem_of_getElem? (i := 39) rfl)
theorem w_40 {Z : State} {a0 : Array Value} (hw : ∀ d ∈ tables_1, d.before a0 Z = true) : (Jvm.Cond.fieldLink "java/lang/Integer" (195 : Nat) "java/lang/Integer$IntegerCache" "cache" "[Ljava/lang/Integer;").before a0 Z = true := hw _ (List.mem_of_getElem? (i := 40) rfl)
theorem w_41 {Z : State} {a0 : Array Value} (hw : ∀ d ∈ tables_1, d.before a0 Z = true) : (Jvm.Cond.classLink "com/example/beleg/beleg/AttributesClearPinLaw" (24 : Nat) "com/example/beleg/beleg/Attributes").before a0 Z = true := hw _ (List.mem_of_getElem? (i := 41) rfl)
theorem w_42 {Z : State} {a0 : Array Value} (hw : ∀ d ∈ tables_1, d.before a0 Z = true) : (Jvm.Cond.instantiable "com/example/beleg/beleg/Attributes" (3 : Nat)).before a0 Z = true := hw _ (List.mem_of_getElem? (i := 42) rfl)
theorem w_43 {Z : State} {a0 : Array Value} (hw : ∀ d ∈ tables_1, d.before a0 Z = true) : (Jvm.Cond.initialized "com/example/beleg/beleg/Attributes").before a0 Z = true := hw _ (List.mem_of_getElem? (i := 43) rfl)
theorem w_44 {Z : State} {a0 : Array Value} (hw : ∀ d ∈ tables_1, d.before a0 Z = true) : (Jvm.Cond.methodLink "com/example/beleg/beleg/AttributesClearPinLaw" (26 : Nat) ({ cls := "com/example/beleg/beleg/Attributes", name := "<init>", desc := "()V" } : Jvm.MethodName)).before a0 Z = true := hw _ (List.mem_of_getElem? (i := 44) rfl)
theorem w_45 {Z : State} {a0 : Array Value} (hw : ∀ d ∈ tables_1, d.before a0 Z = true) : (Jvm.Cond.instanceMethod ({ cls := "com/example/beleg/beleg/Attributes", name := "<init>", desc := "()V" } : Jvm.MethodName)).before a0 Z = true := hw _ (List.mem_of_getElem? (i := 45) rfl)
theorem w_46 {Z : State} {a0 : Array Value} (hw : ∀ d ∈ tables_1, d.before a0 Z = true) : (Jvm.Cond.code ({ cls := "com/example/beleg/beleg/Attributes", name := "<init>", desc := "()V" } : Jvm.MethodName) prog_3_method_1_code (1 : Nat) (Option.none : Option Jvm.ClassFile.FieldType)).before a0 Z = true := hw _ (List.mem_of_getElem? (i := 46) rfl)
theorem w_47 {Z : State} {a0 : Array Value} (hw : ∀ d ∈ tables_1, d.before a0 Z = true) : (Jvm.Cond.methodLink "com/example/beleg/beleg/Attributes" (1 : Nat) ({ cls := "java/lang/Object", name := "<init>", desc := "()V" } : Jvm.MethodName)).before a0 Z = true := hw _ (List.mem_of_getElem? (i := 47) rfl)
theorem w_48 {Z : State} {a0 : Array Value} (hw : ∀ d ∈ tables_1, d.before a0 Z = true) : (Jvm.Cond.methodLink "com/example/beleg/beleg/AttributesClearPinLaw" (27 : Nat) ({ cls := "com/example/beleg/beleg/Attributes", name := "put", desc := "(Ljava/lang/String;Ljava/lang/Object;)V" } : Jvm.MethodName)).before a0 Z = true := hw _ (List.mem_of_getElem? (i := 48) rfl)
theorem w_49 {Z : State} {a0 : Array Value} (hw : ∀ d ∈ tables_1, d.before a0 Z = true) : (Jvm.Cond.declares ({ cls := "com/example/beleg/beleg/Attributes", name := "put", desc := "(Ljava/lang/String;Ljava/lang/Object;)V" } : Jvm.MethodName)).before a0 Z = true := hw _ (List.mem_of_getElem? (i := 49) rfl)
theorem w_50 {Z : State} {a0 : Array Value} (hw : ∀ d ∈ tables_1, d.before a0 Z = true) : (Jvm.Cond.instanceMethod ({ cls := "com/example/beleg/beleg/Attributes", name := "put", desc := "(Ljava/lang/String;Ljava/lang/Object;)V" } : Jvm.MethodName)).before a0 Z = true := hw _ (List.mem_of_getElem? (i := 50) rfl)
theorem w_51 {Z : State} {a0 : Array Value} (hw : ∀ d ∈ tables_1, d.before a0 Z = true) : (Jvm.Cond.selects "com/example/beleg/beleg/Attributes" ({ cls := "com/example/beleg/beleg/Attributes", name := "put", desc := "(Ljava/lang/String;Ljava/lang/Object;)V" } : Jvm.MethodName) ({ cls := "com/example/beleg/beleg/Attributes", name := "put", desc := "(Ljava/lang/String;Ljava/lang/Object;)V" } : Jvm.MethodName)).before a0 Z = true := hw _ (List.mem_of_getElem? (i := 51) rfl)
theorem w_52 {Z : State} {a0 : Array Value} (hw : ∀ d ∈ tables_1, d.before a0 Z = true) : (Jvm.Cond.code ({ cls := "com/example/beleg/beleg/Attributes", name := "put", desc := "(Ljava/lang/String;Ljava/lang/Object;)V" } : Jvm.MethodName) prog_3_method_4_code (4 : Nat) (Option.none : Option Jvm.ClassFile.FieldType)).before a0 Z = true := hw _ (List.mem_of_getElem? (i := 52) rfl)
theorem w_53 {Z : State} {a0 : Array Value} (hw : ∀ d ∈ tables_1, d.before a0 Z = true) : (Jvm.Cond.fieldLink "com/example/beleg/beleg/Attributes" (7 : Nat) "com/example/beleg/beleg/Attributes" "tree" "Ljava/util/TreeMap;").before a0 Z = true := hw _ (List.mem_of_getElem? (i := 53) rfl)
theorem w_54 {Z : State} {a0 : Array Value} (hw : ∀ d ∈ tables_1, d.before a0 Z = true) : (Jvm.Cond.lays "com/example/beleg/beleg/Attributes" "com/example/beleg/beleg/Attributes" "tree" "Ljava/util/TreeMap;").before a0 Z = true := hw _ (List.mem_of_getElem? (i := 54) rfl)
theorem w_55 {Z : State} {a0 : Array Value} (hw : ∀ d ∈ tables_1, d.before a0 Z = true) : (Jvm.Cond.methodLink "com/example/beleg/beleg/Attributes" (19 : Nat) ({ cls := "com/example/beleg/beleg/Attributes", name := "indexOf", desc := "(Ljava/lang/String;)I" } : Jvm.MethodName)).before a0 Z = true := hw _ (List.mem_of_getElem? (i := 55) rfl)
theorem w_56 {Z : State} {a0 : Array Value} (hw : ∀ d ∈ tables_1, d.before a0 Z = true) : (Jvm.Cond.instanceMethod ({ cls := "com/example/beleg/beleg/Attributes", name := "indexOf", desc := "(Ljava/lang/String;)I" } : Jvm.MethodName)).before a0 Z = true := hw _ (List.mem_of_getElem? (i := 56) rfl)
theorem w_57 {Z : State} {a0 : Array Value} (hw : ∀ d ∈ tables_1, d.before a0 Z = true) : (Jvm.Cond.privateMethod ({ cls := "com/example/beleg/beleg/Attributes", name := "indexOf", desc := "(Ljava/lang/String;)I" } : Jvm.MethodName)).before a0 Z = true := hw _ (List.mem_of_getElem? (i := 57) rfl)
theorem w_58 {Z : State} {a0 : Array Value} (hw : ∀ d ∈ tables_1, d.before a0 Z = true) : (Jvm.Cond.code ({ cls := "com/example/beleg/beleg/Attributes", name := "indexOf", desc := "(Ljava/lang/String;)I" } : Jvm.MethodName) prog_3_method_13_code (6 : Nat) (Option.some Jvm.ClassFile.FieldType.int)).before a0 Z = true := hw _ (List.mem_of_getElem? (i := 58) rfl)
theorem w_59 {Z : State} {a0 : Array Value} (hw : ∀ d ∈ tables_1, d.before a0 Z = true) : (Jvm.Cond.stringLink "com/example/beleg/beleg/Attributes" (95 : Nat) "name").before a0 Z = true := hw _ (List.mem_of_getElem? (i := 59) rfl)
theorem w_60 {Z : State} {a0 : Array Value} (hw : ∀ d ∈ tables_1, d.before a0 Z = true) : (Jvm.Cond.soleField "java/lang/String" "value").before a0 Z = true := hw _ (List.mem_of_getElem? (i := 60) rfl)
theorem w_61 {Z : State} {a0 : Array Value} (hw : ∀ d ∈ tables_1, d.before a0 Z = true) : (Jvm.Cond.soleField "java/lang/String" "coder").before a0 Z = true := hw _ (List.mem_of_getElem? (i := 61) rfl)
theorem w_62 {Z : State} {a0 : Array Value} (hw : ∀ d ∈ tables_1, d.before a0 Z = true) : (Jvm.Cond.methodLink "com/example/beleg/beleg/Attributes" (96 : Nat) ({ cls := "java/util/Objects", name := "requireNonNull", desc := "(Ljava/lang/Object;Ljava/lang/String;)Ljava/lang/Object;" } : Jvm.MethodName)).before a0 Z = true := hw _ (List.mem_of_getElem? (i := 62) rfl)
theorem w_63 {Z : State} {a0 : Array Value} (hw : ∀ d ∈ tables_1, d.before a0 Z = true) : (Jvm.Cond.static ({ cls := "java/util/Objects", name := "requireNonNull", desc := "(Ljava/lang/Object;Ljava/lang/String;)Ljava/lang/Object;" } : Jvm.MethodName)).before a0 Z = true := hw _ (List.mem_of_getElem? (i := 63) rfl)
theorem w_64 {Z : State} {a0 : Array Value} (hw : ∀ d ∈ tables_1, d.before a0 Z = true) : (Jvm.Cond.initialized "java/util/Objects").before a0 Z = true := hw _ (List.mem_of_getElem? (i := 64) rfl)
theorem w_65 {Z : State} {a0 : Array Value} (hw : ∀ d ∈ tables_1, d.before a0 Z = true) : (Jvm.Cond.code ({ cls := "java/util/Objects", name := "requireNonNull", desc := "(Ljava/lang/Object;Ljava/lang/String;)Ljava/lang/Object;" } : Jvm.MethodName) jdk_31_method_11_code (2 : Nat) (Option.some (Jvm.ClassFile.FieldType.object "java/lang/Object"))).before a0 Z = true := hw _ (List.mem_of_getElem? (i := 65) rfl)
theorem w_66 {Z : State} {a0 : Array Value} (hw : ∀ d ∈ tables_1, d.before a0 Z = true) : (Jvm.Cond.fieldLink "com/example/beleg/beleg/Attributes" (31 : Nat) "com/example/beleg/beleg/Attributes" "size" "I").before a0 Z = true := hw _ (List.mem_of_getElem? (i := 66) rfl)
theorem w_67 {Z : State} {a0 : Array Value} (hw : ∀ d ∈ tables_1, d.before a0 Z = true) : (Jvm.Cond.lays "com/example/beleg/beleg/Attributes" "com/example/beleg/beleg/Attributes" "size" "I").before a0 Z = true := hw _ (List.mem_of_getElem? (i := 67) rfl)
theorem w_68 {Z : State} {a0 : Array Value} (hw : ∀ d ∈ tables_1, d.before a0 Z = true) : (Jvm.Cond.methodLink "com/example/beleg/beleg/Attributes" (35 : Nat) ({ cls := "com/example/beleg/beleg/Attributes", name := "insert", desc := "(ILjava/lang/String;Ljava/lang/Object;)V" } : Jvm.MethodName)).before a0 Z = true := hw _ (List.mem_of_getElem? (i := 68) rfl)
theorem w_69 {Z : State} {a0 : Array Value} (hw : ∀ d ∈ tables_1, d.before a0 Z = true) : (Jvm.Cond.instanceMethod ({ cls := "com/example/beleg/beleg/Attributes", name := "insert", desc := "(ILjava/lang/String;Ljava/lang/Object;)V" } : Jvm.MethodName)).before a0 Z = true := hw _ (List.mem_of_getElem? (i := 69) rfl)
theorem w_70 {Z : State} {a0 : Array Value} (hw : ∀ d ∈ tables_1, d.before a0 Z = true) : (Jvm.Cond.privateMethod ({ cls := "com/example/beleg/beleg/Attributes", name := "insert", desc := "(ILjava/lang/String;Ljava/lang/Object;)V" } : Jvm.MethodName)).before a0 Z = true := hw _ (List.mem_of_getElem? (i := 70) rfl)
theorem w_71 {Z : State} {a0 : Array Value} (hw : ∀ d ∈ tables_1, d.before a0 Z = true) : (Jvm.Cond.code ({ cls := "com/example/beleg/beleg/Attributes", name := "insert", desc := "(ILjava/lang/String;Ljava/lang/Object;)V" } : Jvm.MethodName) prog_3_method_14_code (5 : Nat) (Option.none : Option Jvm.ClassFile.FieldType)).before a0 Z = true := hw _ (List.mem_of_getElem? (i := 71) rfl)
theorem w_72 {Z : State} {a0 : Array Value} (hw : ∀ d ∈ tables_1, d.before a0 Z = true) : (Jvm.Cond.fieldLink "com/example/beleg/beleg/Attributes" (27 : Nat) "com/example/beleg/beleg/Attributes" "entries" "[Ljava/lang/Object;").before a0 Z = true := hw _ (List.mem_of_getElem? (i := 72) rfl)
theorem w_73 {Z : State} {a0 : Array Value} (hw : ∀ d ∈ tables_1, d.before a0 Z = true) : (Jvm.Cond.lays "com/example/beleg/beleg/Attributes" "com/example/beleg/beleg/Attributes" "entries" "[Ljava/lang/Object;").before a0 Z = true := hw _ (List.mem_of_getElem? (i := 73) rfl)
theorem w_74 {Z : State} {a0 : Array Value} (hw : ∀ d ∈ tables_1, d.before a0 Z = true) : (Jvm.Cond.methodLink "com/example/beleg/beleg/Attributes" (102 : Nat) ({ cls := "java/lang/Math", name := "max", desc := "(II)I" } : Jvm.MethodName)).before a0 Z = true := hw _ (List.mem_of_getElem? (i := 74) rfl)
theorem w_75 {Z : State} {a0 : Array Value} (hw : ∀ d ∈ tables_1, d.before a0 Z = true) : (Jvm.Cond.static ({ cls := "java/lang/Math", name := "max", desc := "(II)I" } : Jvm.MethodName)).before a0 Z = true := hw _ (List.mem_of_getElem? (i := 75) rfl)
theorem w_76 {Z : State} {a0 : Array Value} (hw : ∀ d ∈ tables_1, d.before a0 Z = true) : (Jvm.Cond.initialized "java/lang/Math").before a0 Z = true := hw _ (List.mem_of_getElem? (i := 76) rfl)
theorem w_77 {Z : State} {a0 : Array Value} (hw : ∀ d ∈ tables_1, d.before a0 Z = true) : (Jvm.Cond.code ({ cls := "java/lang/Math", name := "max", desc := "(II)I" } : Jvm.MethodName) jdk_29_method_65_code (2 : Nat) (Option.some Jvm.ClassFile.FieldType.int)).before a0 Z = true := hw _ (List.mem_of_getElem? (i := 77) rfl)
theorem w_78 {Z : State} {a0 : Array Value} (hw : ∀ d ∈ tables_1, d.before a0 Z = true) : (Jvm.Cond.classLink "com/example/beleg/beleg/Attributes" (2 : Nat) "java/lang/Object").before a0 Z = true := hw _ (List.mem_of_getElem? (i := 78) rfl)
theorem w_79 {Z : State} {a0 : Array Value} (hw : ∀ d ∈ tables_1, d.before a0 Z = true) : (Jvm.Cond.arrayOver (Jvm.ClassFile.FieldType.object "java/lang/Object")).before a0 Z = true := hw _ (List.mem_of_getElem? (i := 79) rfl)
theorem w_80 {Z : State} {a0 : Array Value} (hw : ∀ d ∈ tables_1, d.before a0 Z = true) : (Jvm.Cond.methodLink "com/example/beleg/beleg/Attributes" (108 : Nat) ({ cls := "java/lang/System", name := "arraycopy", desc := "(Ljava/lang/Object;ILjava/lang/Object;II)V" } : Jvm.MethodName)).before a0 Z = true := hw _ (List.mem_of_getElem? (i := 80) rfl)
theorem w_81 {Z : State} {a0 : Array Value} (hw : ∀ d ∈ tables_1, d.before a0 Z = true) : (Jvm.Cond.static ({ cls := "java/lang/System", name := "arraycopy", desc := "(Ljava/lang/Object;ILjava/lang/Object;II)V" } : Jvm.MethodName)).before a0 Z = true := hw _ (List.mem_of_getElem? (i := 81) rfl)
theorem w_82 {Z : State} {a0 : Array Value} (hw : ∀ d ∈ tables_1, d.before a0 Z = true) : (Jvm.Cond.initialized "java/lang/System").before a0 Z = true := hw _ (List.mem_of_getElem? (i := 82) rfl)
theorem w_83 {Z : State} {a0 : Array Value} (hw : ∀ d ∈ tables_1, d.before a0 Z = true) : (Jvm.Cond.native ({ cls := "java/lang/System", name := "arraycopy", desc := "(Ljava/lang/Object;ILjava/lang/Object;II)V" } : Jvm.MethodName)).before a0 Z = true := hw _ (List.mem_of_getElem? (i := 83) rfl)
theorem w_84 {Z : State} {a0 : Array Value} (hw : ∀ d ∈ tables_1, d.before a0 Z = true) : (Jvm.Cond.castable "java/lang/String" "java/lang/Object").before a0 Z = true := hw _ (List.mem_of_getElem? (i := 84) rfl)
theorem w_85 {Z : State} {a0 : Array Value} (hw : ∀ d ∈ tables_1, d.before a0 Z = true) : (Jvm.Cond.castable "java/lang/Integer" "java/lang/Object").before a0 Z = true := hw _ (List.mem_of_getElem? (i := 85) rfl)
theorem w_86 {Z : State} {a0 : Array Value} (hw : ∀ d ∈ tables_1, d.before a0 Z = true) : (Jvm.Cond.methodLink "com/example/beleg/beleg/AttributesClearPinLaw" (31 : Nat) ({ cls := "com/example/beleg/beleg/Attributes", name := "clear", desc := "()V" } : Jvm.MethodName)).before a0 Z = true := hw _ (List.mem_of_getElem? (i := 86) rfl)
theorem w_87 {Z : State} {a0 : Array Value} (hw : ∀ d ∈ tables_1, d.before a0 Z = true) : (Jvm.Cond.declares ({ cls := "com/example/beleg/beleg/Attributes", name := "clear", desc := "()V" } : Jvm.MethodName)).before a0 Z = true := hw _ (List.mem_of_getElem? (i := 87) rfl)
theorem w_88 {Z : State} {a0 : Array Value} (hw : ∀ d ∈ tables_1, d.before a0 Z = true) : (Jvm.Cond.instanceMethod ({ cls := "com/example/beleg/beleg/Attributes", name := "clear", desc := "()V" } : Jvm.MethodName)).before a0 Z = true := hw _ (List.mem_of_getElem? (i := 88) rfl)
theorem w_89 {Z : State} {a0 : Array Value} (hw : ∀ d ∈ tables_1, d.before a0 Z = true) : (Jvm.Cond.selects "com/example/beleg/beleg/Attributes" ({ cls := "com/example/beleg/beleg/Attributes", name := "clear", desc := "()V" } : Jvm.MethodName) ({ cls := "com/example/beleg/beleg/Attributes", name := "clear", desc := "()V" } : Jvm.MethodName)).before a0 Z = true := hw _ (List.mem_of_getElem? (i := 89) rfl)
theorem w_90 {Z : State} {a0 : Array Value} (hw : ∀ d ∈ tables_1, d.before a0 Z = true) : (Jvm.Cond.code ({ cls := "com/example/beleg/beleg/Attributes", name := "clear", desc := "()V" } : Jvm.MethodName) prog_3_method_6_code (1 : Nat) (Option.none : Option Jvm.ClassFile.FieldType)).before a0 Z = true := hw _ (List.mem_of_getElem? (i := 90) rfl)
theorem w_91 {Z : State} {a0 : Array Value} (hw : ∀ d ∈ tables_1, d.before a0 Z = true) : (Jvm.Cond.methodLink "com/example/beleg/beleg/AttributesClearPinLaw" (34 : Nat) ({ cls := "com/example/beleg/beleg/Attributes", name := "size", desc := "()I" } : Jvm.MethodName)).before a0 Z = true := hw _ (List.mem_of_getElem? (i := 91) rfl)
theorem w_92 {Z : State} {a0 : Array Value} (hw : ∀ d ∈ tables_1, d.before a0 Z = true) : (Jvm.Cond.declares ({ cls := "com/example/beleg/beleg/Attributes", name := "size", desc := "()I" } : Jvm.MethodName)).before a0 Z = true := hw _ (List.mem_of_getElem? (i := 92) rfl)
theorem w_93 {Z : State} {a0 : Array Value} (hw : ∀ d ∈ tables_1, d.before a0 Z = true) : (Jvm.Cond.instanceMethod ({ cls := "com/example/beleg/beleg/Attributes", name := "size", desc := "()I" } : Jvm.MethodName)).before a0 Z = true := hw _ (List.mem_of_getElem? (i := 93) rfl)
theorem w_94 {Z : State} {a0 : Array Value} (hw : ∀ d ∈ tables_1, d.before a0 Z = true) : (Jvm.Cond.selects "com/example/beleg/beleg/Attributes" ({ cls := "com/example/beleg/beleg/Attributes", name := "size", desc := "()I" } : Jvm.MethodName) ({ cls := "com/example/beleg/beleg/Attributes", name := "size", desc := "()I" } : Jvm.MethodName)).before a0 Z = true := hw _ (List.mem_of_getElem? (i := 94) rfl)
theorem w_95 {Z : State} {a0 : Array Value} (hw : ∀ d ∈ tables_1, d.before a0 Z = true) : (Jvm.Cond.code ({ cls := "com/example/beleg/beleg/Attributes", name := "size", desc := "()I" } : Jvm.MethodName) prog_3_method_8_code (1 : Nat) (Option.some Jvm.ClassFile.FieldType.int)).before a0 Z = true := hw _ (List.mem_of_getElem? (i := 95) rfl)
theorem w_96 {Z : State} {a0 : Array Value} (hw : ∀ d ∈ tables_1, d.before a0 Z = true) : (Jvm.Cond.methodLink "com/example/beleg/beleg/AttributesClearPinLaw" (38 : Nat) ({ cls := "com/example/beleg/beleg/Attributes", name := "has", desc := "(Ljava/lang/String;)Z" } : Jvm.MethodName)).before a0 Z = true := hw _ (List.mem_of_getElem? (i := 96) rfl)
theorem w_97 {Z : State} {a0 : Array Value} (hw : ∀ d ∈ tables_1, d.before a0 Z = true) : (Jvm.Cond.declares ({ cls := "com/example/beleg/beleg/Attributes", name := "has", desc := "(Ljava/lang/String;)Z" } : Jvm.MethodName)).before a0 Z = true := hw _ (List.mem_of_getElem? (i := 97) rfl)
theorem w_98 {Z : State} {a0 : Array Value} (hw : ∀ d ∈ tables_1, d.before a0 Z = true) : (Jvm.Cond.instanceMethod ({ cls := "com/example/beleg/beleg/Attributes", name := "has", desc := "(Ljava/lang/String;)Z" } : Jvm.MethodName)).before a0 Z = true := hw _ (List.mem_of_getElem? (i := 98) rfl)
theorem w_99 {Z : State} {a0 : Array Value} (hw : ∀ d ∈ tables_1, d.before a0 Z = true) : (Jvm.Cond.selects "com/example/beleg/beleg/Attributes" ({ cls := "com/example/beleg/beleg/Attributes", name := "has", desc := "(Ljava/lang/String;)Z" } : Jvm.MethodName) ({ cls := "com/example/beleg/beleg/Attributes", name := "has", desc := "(Ljava/lang/String;)Z" } : Jvm.MethodName)).before a0 Z = true := hw _ (List.mem_of_getElem? (i := 99) rfl)
theorem w_100 {Z : State} {a0 : Array Value} (hw : ∀ d ∈ tables_1, d.before a0 Z = true) : (Jvm.Cond.code ({ cls := "com/example/beleg/beleg/Attributes", name := "has", desc := "(Ljava/lang/String;)Z" } : Jvm.MethodName) prog_3_method_2_code (2 : Nat) (Option.some Jvm.ClassFile.FieldType.boolean)).before a0 Z = true := hw _ (List.mem_of_getElem? (i := 100) rfl)
theorem w_101 {Z : State} {a0 : Array Value} (hw : ∀ d ∈ tables_1, d.before a0 Z = true) : (Jvm.Cond.methodLink "com/example/beleg/beleg/AttributesClearPinLaw" (42 : Nat) ({ cls := "com/example/beleg/beleg/Attributes", name := "get", desc := "(Ljava/lang/String;)Ljava/lang/Object;" } : Jvm.MethodName)).before a0 Z = true := hw _ (List.mem_of_getElem? (i := 101) rfl)
theorem w_102 {Z : State} {a0 : Array Value} (hw : ∀ d ∈ tables_1, d.before a0 Z = true) : (Jvm.Cond.declares ({ cls := "com/example/beleg/beleg/Attributes", name := "get", desc := "(Ljava/lang/String;)Ljava/lang/Object;" } : Jvm.MethodName)).before a0 Z = true := hw _ (List.mem_of_getElem? (i := 102) rfl)
theorem w_103 {Z : State} {a0 : Array Value} (hw : ∀ d ∈ tables_1, d.before a0 Z = true) : (Jvm.Cond.instanceMethod ({ cls := "com/example/beleg/beleg/Attributes", name := "get", desc := "(Ljava/lang/String;)Ljava/lang/Object;" } : Jvm.MethodName)).before a0 Z = true := hw _ (List.mem_of_getElem? (i := 103) rfl)
theorem w_104 {Z : State} {a0 : Array Value} (hw : ∀ d ∈ tables_1, d.before a0 Z = true) : (Jvm.Cond.selects "com/example/beleg/beleg/Attributes" ({ cls := "com/example/beleg/beleg/Attributes", name := "get", desc := "(Ljava/lang/String;)Ljava/lang/Object;" } : Jvm.MethodName) ({ cls := "com/example/beleg/beleg/Attributes", name := "get", desc := "(Ljava/lang/String;)Ljava/lang/Object;" } : Jvm.MethodName)).before a0 Z = true := hw _ (List.mem_of_getElem? (i := 104) rfl)
theorem w_105 {Z : State} {a0 : Array Value} (hw : ∀ d ∈ tables_1, d.before a0 Z = true) : (Jvm.Cond.code ({ cls := "com/example/beleg/beleg/Attributes", name := "get", desc := "(Ljava/lang/String;)Ljava/lang/Object;" } : Jvm.MethodName) prog_3_method_3_code (4 : Nat) (Option.some (Jvm.ClassFile.FieldType.object "java/lang/Object"))).before a0 Z = true := hw _ (List.mem_of_getElem? (i := 105) rfl)
theorem w_106 {Z : State} {a0 : Array Value} (hw : ∀ d ∈ tables_1, d.before a0 Z = true) : (Jvm.Cond.methodLink "com/example/beleg/beleg/Attributes" (73 : Nat) ({ cls := "com/example/beleg/beleg/Attributes", name := "name", desc := "(I)Ljava/lang/String;" } : Jvm.MethodName)).before a0 Z = true := hw _ (List.mem_of_getElem? (i := 106) rfl)
theorem w_107 {Z : State} {a0 : Array Value} (hw : ∀ d ∈ tables_1, d.before a0 Z = true) : (Jvm.Cond.instanceMethod ({ cls := "com/example/beleg/beleg/Attributes", name := "name", desc := "(I)Ljava/lang/String;" } : Jvm.MethodName)).before a0 Z = true := hw _ (List.mem_of_getElem? (i := 107) rfl)
theorem w_108 {Z : State} {a0 : Array Value} (hw : ∀ d ∈ tables_1, d.before a0 Z = true) : (Jvm.Cond.privateMethod ({ cls := "com/example/beleg/beleg/Attributes", name := "name", desc := "(I)Ljava/lang/String;" } : Jvm.MethodName)).before a0 Z = true := hw _ (List.mem_of_getElem? (i := 108) rfl)
theorem w_109 {Z : State} {a0 : Array Value} (hw : ∀ d ∈ tables_1, d.before a0 Z = true) : (Jvm.Cond.code ({ cls := "com/example/beleg/beleg/Attributes", name := "name", desc := "(I)Ljava/lang/String;" } : Jvm.MethodName) prog_3_method_12_code (2 : Nat) (Option.some (Jvm.ClassFile.FieldType.object "java/lang/String"))).before a0 Z = true := hw _ (List.mem_of_getElem? (i := 109) rfl)
theorem w_110 {Z : State} {a0 : Array Value} (hw : ∀ d ∈ tables_1, d.before a0 Z = true) : (Jvm.Cond.classLink "com/example/beleg/beleg/Attributes" (85 : Nat) "java/lang/String").before a0 Z = true := hw _ (List.mem_of_getElem? (i := 110) rfl)
theorem w_111 {Z : State} {a0 : Array Value} (hw : ∀ d ∈ tables_1, d.before a0 Z = true) : (Jvm.Cond.methodLink "com/example/beleg/beleg/Attributes" (87 : Nat) ({ cls := "java/lang/String", name := "compareTo", desc := "(Ljava/lang/String;)I" } : Jvm.MethodName)).before a0 Z = true := hw _ (List.mem_of_getElem? (i := 111) rfl)
theorem w_112 {Z : State} {a0 : Array Value} (hw : ∀ d ∈ tables_1, d.before a0 Z = true) : (Jvm.Cond.declares ({ cls := "java/lang/String", name := "compareTo", desc := "(Ljava/lang/String;)I" } : Jvm.MethodName)).before a0 Z = true := hw _ (List.mem_of_getElem? (i := 112) rfl)
theorem w_113 {Z : State} {a0 : Array Value} (hw : ∀ d ∈ tables_1, d.before a0 Z = true) : (Jvm.Cond.instanceMethod ({ cls := "java/lang/String", name := "compareTo", desc := "(Ljava/lang/String;)I" } : Jvm.MethodName)).before a0 Z = true := hw _ (List.mem_of_getElem? (i := 113) rfl)
theorem w_114 {Z : State} {a0 : Array Value} (hw : ∀ d ∈ tables_1, d.before a0 Z = true) : (Jvm.Cond.selects "java/lang/String" ({ cls := "java/lang/String", name := "compareTo", desc := "(Ljava/lang/String;)I" } : Jvm.MethodName) ({ cls := "java/lang/String", name := "compareTo", desc := "(Ljava/lang/String;)I" } : Jvm.MethodName)).before a0 Z = true := hw _ (List.mem_of_getElem? (i := 114) rfl)
theorem w_115 {Z : State} {a0 : Array Value} (hw : ∀ d ∈ tables_1, d.before a0 Z = true) : (Jvm.Cond.code ({ cls := "java/lang/String", name := "compareTo", desc := "(Ljava/lang/String;)I" } : Jvm.MethodName) jdk_42_method_71_code (5 : Nat) (Option.some Jvm.ClassFile.FieldType.int)).before a0 Z = true := hw _ (List.mem_of_getElem? (i := 115) rfl)
theorem w_116 {Z : State} {a0 : Array Value} (hw : ∀ d ∈ tables_1, d.before a0 Z = true) : (Jvm.Cond.methodLink "java/lang/String" (335 : Nat) ({ cls := "java/lang/String", name := "coder", desc := "()B" } : Jvm.MethodName)).before a0 Z = true := hw _ (List.mem_of_getElem? (i := 116) rfl)
theorem w_117 {Z : State} {a0 : Array Value} (hw : ∀ d ∈ tables_1, d.before a0 Z = true) : (Jvm.Cond.declares ({ cls := "java/lang/String", name := "coder", desc := "()B" } : Jvm.MethodName)).before a0 Z = true := hw _ (List.mem_of_getElem? (i := 117) rfl)
theorem w_118 {Z : State} {a0 : Array Value} (hw : ∀ d ∈ tables_1, d.before a0 Z = true) : (Jvm.Cond.instanceMethod ({ cls := "java/lang/String", name := "coder", desc := "()B" } : Jvm.MethodName)).before a0 Z = true := hw _ (List.mem_of_getElem? (i := 118) rfl)
theorem w_119 {Z : State} {a0 : Array Value} (hw : ∀ d ∈ tables_1, d.before a0 Z = true) : (Jvm.Cond.selects "java/lang/String" ({ cls := "java/lang/String", name := "coder", desc := "()B" } : Jvm.MethodName) ({ cls := "java/lang/String", name := "coder", desc := "()B" } : Jvm.MethodName)).before a0 Z = true := hw _ (List.mem_of_getElem? (i := 119) rfl)
theorem w_120 {Z : State} {a0 : Array Value} (hw : ∀ d ∈ tables_1, d.before a0 Z = true) : (Jvm.Cond.code ({ cls := "java/lang/String", name := "coder", desc := "()B" } : Jvm.MethodName) jdk_42_method_152_code (1 : Nat) (Option.some Jvm.ClassFile.FieldType.byte)).before a0 Z = true := hw _ (List.mem_of_getElem? (i := 120) rfl)
theorem w_121 {Z : State} {a0 : Array Value} (hw : ∀ d ∈ tables_1, d.before a0 Z = true) : (Jvm.Cond.methodLink "java/lang/String" (586 : Nat) ({ cls := "java/lang/StringLatin1", name := "compareTo", desc := "([B[B)I" } : Jvm.MethodName)).before a0 Z = true := hw _ (List.mem_of_getElem? (i := 121) rfl)
theorem w_122 {Z : State} {a0 : Array Value} (hw : ∀ d ∈ tables_1, d.before a0 Z = true) : (Jvm.Cond.static ({ cls := "java/lang/StringLatin1", name := "compareTo", desc := "([B[B)I" } : Jvm.MethodName)).before a0 Z = true := hw _ (List.mem_of_getElem? (i := 122) rfl)
theorem w_123 {Z : State} {a0 : Array Value} (hw : ∀ d ∈ tables_1, d.before a0 Z = true) : (Jvm.Cond.initialized "java/lang/StringLatin1").before a0 Z = true := hw _ (List.mem_of_getElem? (i := 123) rfl)
theorem w_124 {Z : State} {a0 : Array Value} (hw : ∀ d ∈ tables_1, d.before a0 Z = true) : (Jvm.Cond.code ({ cls := "java/lang/StringLatin1", name := "compareTo", desc := "([B[B)I" } : Jvm.MethodName) jdk_43_method_14_code (4 : Nat) (Option.some Jvm.ClassFile.FieldType.int)).before a0 Z = true := hw _ (List.mem_of_getElem? (i := 124) rfl)
theorem w_125 {Z : State} {a0 : Array Value} (hw : ∀ d ∈ tables_1, d.before a0 Z = true) : (Jvm.Cond.methodLink "java/lang/StringLatin1" (34 : Nat) ({ cls := "java/lang/StringLatin1", name := "compareTo", desc := "([B[BII)I" } : Jvm.MethodName)).before a0 Z = true := hw _ (List.mem_of_getElem? (i := 125) rfl)
theorem w_126 {Z : State} {a0 : Array Value} (hw : ∀ d ∈ tables_1, d.before a0 Z = true) : (Jvm.Cond.static ({ cls := "java/lang/StringLatin1", name := "compareTo", desc := "([B[BII)I" } : Jvm.MethodName)).before a0 Z = true := hw _ (List.mem_of_getElem? (i := 126) rfl)
theorem w_127 {Z : State} {a0 : Array Value} (hw : ∀ d ∈ tables_1, d.before a0 Z = true) : (Jvm.Cond.code ({ cls := "java/lang/StringLatin1", name := "compareTo", desc := "([B[BII)I" } : Jvm.MethodName) jdk_43_method_15_code (6 : Nat) (Option.some Jvm.ClassFile.FieldType.int)).before a0 Z = true := hw _ (List.mem_of_getElem? (i := 127) rfl)
theorem w_128 {Z : State} {a0 : Array Value} (hw : ∀ d ∈ tables_1, d.before a0 Z = true) : (Jvm.Cond.methodLink "java/lang/StringLatin1" (38 : Nat) ({ cls := "java/lang/Math", name := "min", desc := "(II)I" } : Jvm.MethodName)).before a0 Z = true := hw _ (List.mem_of_getElem? (i := 128) rfl)
theorem w_129 {Z : State} {a0 : Array Value} (hw : ∀ d ∈ tables_1, d.before a0 Z = true) : (Jvm.Cond.static ({ cls := "java/lang/Math", name := "min", desc := "(II)I" } : Jvm.MethodName)).before a0 Z = true := hw _ (List.mem_of_getElem? (i := 129) rfl)
theorem w_130 {Z : State} {a0 : Array Value} (hw : ∀ d ∈ tables_1, d.before a0 Z = true) : (Jvm.Cond.code ({ cls := "java/lang/Math", name := "min", desc := "(II)I" } : Jvm.MethodName) jdk_29_method_69_code (2 : Nat) (Option.some Jvm.ClassFile.FieldType.int)).before a0 Z = true := hw _ (List.mem_of_getElem? (i := 130) rfl)
theorem w_131 {Z : State} {a0 : Array Value} (hw : ∀ d ∈ tables_1, d.before a0 Z = true) : (Jvm.Cond.methodLink "java/lang/StringLatin1" (44 : Nat) ({ cls := "jdk/internal/util/ArraysSupport", name := "mismatch", desc := "([B[BI)I" } : Jvm.MethodName)).before a0 Z = true := hw _ (List.mem_of_getElem? (i := 131) rfl)
theorem w_132 {Z : State} {a0 : Array Value} (hw : ∀ d ∈ tables_1, d.before a0 Z = true) : (Jvm.Cond.static ({ cls := "jdk/internal/util/ArraysSupport", name := "mismatch", desc := "([B[BI)I" } : Jvm.MethodName)).before a0 Z = true := hw _ (List.mem_of_getElem? (i := 132) rfl)
theorem w_133 {Z : State} {a0 : Array Value} (hw : ∀ d ∈ tables_1, d.before a0 Z = true) : (Jvm.Cond.initialized "jdk/internal/util/ArraysSupport").before a0 Z = true := hw _ (List.mem_of_getElem? (i := 133) rfl)
theorem w_134 {Z : State} {a0 : Array Value} (hw : ∀ d ∈ tables_1, d.before a0 Z = true) : (Jvm.Cond.code ({ cls := "jdk/internal/util/ArraysSupport", name := "mismatch", desc := "([B[BI)I" } : Jvm.MethodName) jdk_48_method_13_code (4 : Nat) (Option.some Jvm.ClassFile.FieldType.int)).before a0 Z = true := hw _ (List.mem_of_getElem? (i := 134) rfl)
theorem w_135 {Z : State} {a0 : Array Value} (hw : ∀ d ∈ tables_1, d.before a0 Z = true) : (Jvm.Cond.methodLink "java/lang/StringLatin1" (50 : Nat) ({ cls := "java/lang/StringLatin1", name := "getChar", desc := "([BI)C" } : Jvm.MethodName)).before a0 Z = true := hw _ (List.mem_of_getElem? (i := 135) rfl)
theorem w_136 {Z : State} {a0 : Array Value} (hw : ∀ d ∈ tables_1, d.before a0 Z = true) : (Jvm.Cond.static ({ cls := "java/lang/StringLatin1", name := "getChar", desc := "([BI)C" } : Jvm.MethodName)).before a0 Z = true := hw _ (List.mem_of_getElem? (i := 136) rfl)
theorem w_137 {Z : State} {a0 : Array Value} (hw : ∀ d ∈ tables_1, d.before a0 Z = true) : (Jvm.Cond.code ({ cls := "java/lang/StringLatin1", name := "getChar", desc := "([BI)C" } : Jvm.MethodName) jdk_43_method_44_code (2 : Nat) (Option.some Jvm.ClassFile.FieldType.char)).before a0 Z = true := hw _ (List.mem_of_getElem? (i := 137) rfl)
theorem w_138 {Z : State} {a0 : Array Value} (hw : ∀ d ∈ tables_1, d.before a0 Z = true) : (Jvm.Cond.classLink "java/lang/Integer" (1 : Nat) "java/lang/Integer").before a0 Z = true := hw _ (List.mem_of_getElem? (i := 138) rfl)
theorem w_139 {Z : State} {a0 : Array Value} (hw : ∀ d ∈ tables_1, d.before a0 Z = true) : (Jvm.Cond.instantiable "java/lang/Integer" (1 : Nat)).before a0 Z = true := hw _ (List.mem_of_getElem? (i := 139) rfl)
theorem w_140 {Z : State} {a0 : Array Value} (hw : ∀ d ∈ tables_1, d.before a0 Z = true) : (Jvm.Cond.methodLink "java/lang/Integer" (199 : Nat) ({ cls := "java/lang/Integer", name := "<init>", desc := "(I)V" } : Jvm.MethodName)).before a0 Z = true := hw _ (List.mem_of_getElem? (i := 140) rfl)
theorem w_141 {Z : State} {a0 : Array Value} (hw : ∀ d ∈ tables_1, d.before a0 Z = true) : (Jvm.Cond.instanceMethod ({ cls := "java/lang/Integer", name := "<init>", desc := "(I)V" } : Jvm.MethodName)).before a0 Z = true := hw _ (List.mem_of_getElem? (i := 141) rfl)
theorem w_143 {Z : State} {a0 : Array Value} (hw : ∀ d ∈ tables_1, d.before a0 Z = true) : (Jvm.Cond.code ({ cls := "java/lang/Integer", name := "<init>", desc := "(I)V" } : Jvm.MethodName) jdk_33_method_23_code (2 : Nat) (Option.none : Option Jvm.ClassFile.FieldType)).before a0 Z = true := hw _ (List.mem_of_getElem? (i := 143) rfl)
theorem w_144 {Z : State} {a0 : Array Value} (hw : ∀ d ∈ tables_1, d.before a0 Z = true) : (Jvm.Cond.methodLink "java/lang/Integer" (202 : Nat) ({ cls := "java/lang/Number", name := "<init>", desc := "()V" } : Jvm.MethodName)).before a0 Z = true := hw _ (List.mem_of_getElem? (i := 144) rfl)
theorem w_145 {Z : State} {a0 : Array Value} (hw : ∀ d ∈ tables_1, d.before a0 Z = true) : (Jvm.Cond.instanceMethod ({ cls := "java/lang/Number", name := "<init>", desc := "()V" } : Jvm.MethodName)).before a0 Z = true := hw _ (List.mem_of_getElem? (i := 145) rfl)
theorem w_148 {Z : State} {a0 : Array Value} (hw : ∀ d ∈ tables_1, d.before a0 Z = true) : (Jvm.Cond.initialized "java/lang/Number").before a0 Z = true := hw _ (List.mem_of_getElem? (i := 148) rfl)
theorem w_149 {Z : State} {a0 : Array Value} (hw : ∀ d ∈ tables_1, d.before a0 Z = true) : (Jvm.Cond.code ({ cls := "java/lang/Number", name := "<init>", desc := "()V" } : Jvm.MethodName) jdk_18_method_1_code (1 : Nat) (Option.none : Option Jvm.ClassFile.FieldType)).before a0 Z = true := hw _ (List.mem_of_getElem? (i := 149) rfl)
theorem w_150 {Z : State} {a0 : Array Value} (hw : ∀ d ∈ tables_1, d.before a0 Z = true) : (Jvm.Cond.methodLink "java/lang/Number" (1 : Nat) ({ cls := "java/lang/Object", name := "<init>", desc := "()V" } : Jvm.MethodName)).before a0 Z = true := hw _ (List.mem_of_getElem? (i := 150) rfl)
theorem w_151 {Z : State} {a0 : Array Value} (hw : ∀ d ∈ tables_1, d.before a0 Z = true) : (Jvm.Cond.fieldLink "java/lang/Integer" (205 : Nat) "java/lang/Integer" "value" "I").before a0 Z = true := hw _ (List.mem_of_getElem? (i := 151) rfl)
theorem w_152 {Z : State} {a0 : Array Value} (hw : ∀ d ∈ tables_1, d.before a0 Z = true) : (Jvm.Cond.laysFinal "java/lang/Integer" "java/lang/Integer" "value" "I").before a0 Z = true := hw _ (List.mem_of_getElem? (i := 152) rfl)
theorem sA {Z : State} {a0 : Array Value} (hw : ∀ d ∈ tables_1, d.before a0 Z = true) : ∀ a ∈ Bundle.stringAtoms, a.before a0 Z = true := fun a ha => by
  simp only [Bundle.stringAtoms, List.mem_cons, List.not_mem_nil, or_false] at ha
  rcases ha with rfl | rfl | rfl | rfl | rfl | rfl | rfl
  · exact w_7 hw
  · exact w_6 hw
  · exact w_23 hw
  · exact w_33 hw
  · exact w_31 hw
  · exact w_60 hw
  · exact w_61 hw
abbrev R_m_number : Room := { frames := 1, cells := 0, slots := 0, locals := 12 }
theorem pn_m_number : plainFor (⟨"java/lang/Number", "<init>", "()V"⟩ : MethodName) = true := by first | (refine plainFor_of_name ?_; simp [plainName, overriddenIn]; done) | decide +kernel
abbrev Q_m_number (Z : State) (a : Addr) (h0 : Heap) : Option Value → Heap → List Addr → Prop := fun res h' SN => res = none ∧ SN = [] ∧ h0 = h'
theorem ef_m_number (mid : MethodId) (a : Addr) : entryFrame mid #[(.ref a)] 1 = mkF mid 0 #[.val (.ref a)] [] := by first | (simp [entryFrame, mkF, argsToLocals, Value.category]; done) | rfl
set_option maxRecDepth 65536 in
set_option maxHeartbeats 40000000 in
theorem m_number {l : Launch} {Z : State} {a0 : Array Value} {n0 : Nat} (hw : ∀ d ∈ tables_1, d.before a0 Z = true) (hs : Stat Z) (a : Addr) (h0 : Heap) :
    Met l Z EL0 n0 NR0 KN0 N_0 jdk_18_method_1_code 1 (Option.none : Option Jvm.ClassFile.FieldType) R_m_number [] #[(.ref a)] h0 (Q_m_number Z a h0) := by
  refine Met.of_go pn_m_number (fun mid => ef_m_number mid a ) ?_
  intro hO hWS
  refine Go.aload_n (pc' := 1) d_jdk_18_method_1_0 rfl rfl rfl ?_
  refine Go.initO (pc' := 4) (W := 0) d_jdk_18_method_1_1 rfl (w_150 hw) (w_16 hw) (w_17 hw) rfl (by decide) (Nat.le_of_eq rfl) (by decide) ?_
  exact Go.retV d_jdk_18_method_1_4 rfl (by decide) (by decide) [] sn0 ⟨rfl, rfl, rfl⟩
abbrev R_m_integer : Room := { frames := 2, cells := 0, slots := 0, locals := 24 }
theorem pn_m_integer : plainFor (⟨"java/lang/Integer", "<init>", "(I)V"⟩ : MethodName) = true := by first | (refine plainFor_of_name ?_; simp [plainName, overriddenIn]; done) | decide +kernel
abbrev Q_m_integer (Z : State) (a : Addr) (x : Int32) (o : Int32) (h0 : Heap) : Option Value → Heap → List Addr → Prop := fun res h' SN => res = none ∧ SN = [] ∧ Exa Z h' a "java/lang/Integer" ∧ Fld Z h' a "java/lang/Integer" "value" "I" (.int x)
theorem ef_m_integer (mid : MethodId) (a : Addr) (x : Int32) (o : Int32) : entryFrame mid #[(.ref a), (.int x)] 2 = mkF mid 0 #[.val (.ref a), .val (.int x)] [] := by first | (simp [entryFrame, mkF, argsToLocals, Value.category]; done) | rfl
set_option maxRecDepth 65536 in
set_option maxHeartbeats 40000000 in
theorem m_integer {l : Launch} {Z : State} {a0 : Array Value} {n0 : Nat} (hw : ∀ d ∈ tables_1, d.before a0 Z = true) (hs : Stat Z) (a : Addr) (x : Int32) (o : Int32) (h0 : Heap) (E_a : Exa Z h0 a "java/lang/Integer") (F_a_value : Fld Z h0 a "java/lang/Integer" "value" "I" (.int o)) :
    Met l Z EL0 n0 NR0 KN0 N_1 jdk_33_method_23_code 2 (Option.none : Option Jvm.ClassFile.FieldType) R_m_integer [a] #[(.ref a), (.int x)] h0 (Q_m_integer Z a x o h0) := by
  refine Met.of_go pn_m_integer (fun mid => ef_m_integer mid a x o ) ?_
  intro hO hWS
  refine Go.aload_n (pc' := 1) d_jdk_33_method_23_0 rfl rfl rfl ?_
  refine Go.callI (pc' := 4) (z := N_0) (a := a) d_jdk_33_method_23_1 rfl rfl (w_144 hw) (w_145 hw) (w_149 hw) (by decide) (argsL := []) (rest := []) (Pays.of_met (W := 0) (len := 3) (m_number hw hs a h0) (w_149 hw) (w_148 hw) (by decide) (by decide)) rfl rfl (lenOf pd_0 rfl) rfl (Nat.le_of_eq rfl) mem0 (by decide) (by decide) ?_
  rintro _ _ _ - - ⟨rfl, rfl, rfl⟩
  change Go _ _ _ _ _ _ _ _ _ _ _ _ _ _ [a] h0 0 0 4 #[.val (.ref a), .val (.int x)] []
  refine Go.aload_n (pc' := 5) d_jdk_33_method_23_4 rfl rfl rfl ?_
  refine Go.iload_n (pc' := 6) d_jdk_33_method_23_5 rfl rfl ?_
  refine Go.putF (pc' := 9) d_jdk_33_method_23_6 rfl (List.mem_of_getElem? (i := 0) rfl) (host := "") (Or.inl (w_151 hw)) Via.refl F_a_value E_a (Or.inr ⟨(w_152 hw), rfl, rfl⟩) (w_139 hw) (ty := .int) (by decide) rfl rfl ?_
  intro h1 W2
  replace F_a_value := F_a_value.same W2
  replace E_a := E_a.wr W2
  change Go _ _ _ _ _ _ _ _ _ _ _ _ _ _ [a] h1 0 0 9 #[.val (.ref a), .val (.int x)] []
  exact Go.retV d_jdk_33_method_23_9 rfl (by decide) (by decide) [] sn0 ⟨rfl, rfl, E_a, F_a_value⟩
abbrev R_m_valueOf : Room := { frames := 3, cells := 1, slots := 1, locals := 38 }
theorem pn_m_valueOf : plainFor (⟨"java/lang/Integer", "valueOf", "(I)Ljava/lang/Integer;"⟩ : MethodName) = true := by first | (refine plainFor_of_name ?_; simp [plainName, overriddenIn]; done) | decide +kernel
abbrev Q_m_valueOf (Z : State) (x : Int32) (h0 : Heap) : Option Value → Heap → List Addr → Prop := fun res h' SN => ∃ (b : Addr), res = some (.ref b) ∧ SN = [] ∧ Exa Z h' b "java/lang/Integer" ∧ Fld Z h' b "java/lang/Integer" "value" "I" (.int x)
theorem ef_m_valueOf (mid : MethodId) (x : Int32) : entryFrame mid #[(.int x)] 1 = mkF mid 0 #[.val (.int x)] [] := by first | (simp [entryFrame, mkF, argsToLocals, Value.category]; done) | rfl
set_option maxRecDepth 65536 in
set_option maxHeartbeats 40000000 in
theorem m_valueOf {l : Launch} {Z : State} {a0 : Array Value} {n0 : Nat} (hw : ∀ d ∈ tables_1, d.before a0 Z = true) (hs : Stat Z) (x : Int32) (h0 : Heap) :
    Met l Z EL0 n0 NR0 KN0 N_2 jdk_33_method_22_code 1 (Option.some (Jvm.ClassFile.FieldType.object "java/lang/Integer")) R_m_valueOf [] #[(.int x)] h0 (Q_m_valueOf Z x h0) := by
  refine Met.of_go pn_m_valueOf (fun mid => ef_m_valueOf mid x ) ?_
  intro hO hWS
  obtain ⟨S_hi, ca, cl, S_ca, Bx⟩ := hs_i hs
  refine Go.iload_n (pc' := 1) d_jdk_33_method_22_0 rfl rfl ?_
  refine Go.bipush (pc' := 3) d_jdk_33_method_22_1 rfl icb_m128 ?_
  by_cases h1 : x < (-128 : Int32)
  · skip
    refine Go.icmpY (pc' := 23) d_jdk_33_method_22_3 (by decide) (by decide) (tlt (h1 : x < (-128 : Int32))).1 ?_
    refine Go.newO (pc' := 26) d_jdk_33_method_22_23 rfl (w_138 hw) (w_139 hw) (w_36 hw) (by decide) (by decide) ?_
    intro h3 b4 g5 ge_b4 x6 E_b4 D_b4 U_b4
    have F_b4_value : Fld Z h3 b4 "java/lang/Integer" "value" "I" (.int (0 : Int32)) := D_b4 (Or.inr (w_152 hw)) (ty := .int) (by decide)
    change Go _ _ _ _ _ _ _ _ _ _ _ _ _ _ [b4] h3 1 1 26 #[.val (.int x)] [(.ref b4)]
    refine Go.dup (pc' := 27) d_jdk_33_method_22_26 rfl rfl ?_
    refine Go.iload_n (pc' := 28) d_jdk_33_method_22_27 rfl rfl ?_
    refine Go.callI (pc' := 31) (z := N_1) (a := b4) d_jdk_33_method_22_28 rfl rfl (w_140 hw) (w_141 hw) (w_143 hw) (by decide) (argsL := [(.int x)]) (rest := [(.ref b4)]) (Pays.of_met (W := 1) (len := 3) (m_integer hw hs b4 x (0 : Int32) h3 E_b4 F_b4_value) (w_143 hw) (w_36 hw) (by decide) (by decide)) rfl rfl (lenOf pd_1 rfl) rfl (Nat.le_of_eq rfl) (memS (List.mem_of_getElem? (i := 0) rfl) mem0) (by decide) (by decide) ?_
    rintro _ h7 _ K8 le9 ⟨rfl, rfl, p10, p11⟩
    replace E_b4 := E_b4.keep K8
    have F_b4_value := p11
    change Go _ _ _ _ _ _ _ _ _ _ _ _ _ _ [b4] h7 1 1 31 #[.val (.int x)] [(.ref b4)]
    exact Go.retA d_jdk_33_method_22_31 rfl rfl rfl (by decide) (by decide) [] sn0 ⟨b4, rfl, rfl, E_b4, F_b4_value⟩
  · skip
    refine Go.icmpN (pc' := 6) d_jdk_33_method_22_3 rfl (flt (h1 : ¬ (x < (-128 : Int32)))).1 ?_
    refine Go.iload_n (pc' := 7) d_jdk_33_method_22_6 rfl rfl ?_
    refine Go.getS (pc' := 10) d_jdk_33_method_22_7 rfl (host := "") (Or.inl (w_38 hw)) Via.refl S_hi ?_
    by_cases h2 : (127 : Int32) < x
    · skip
      refine Go.icmpY (pc' := 23) d_jdk_33_method_22_10 (by decide) (by decide) (tlt (h2 : (127 : Int32) < x)).2.2.1 ?_
      refine Go.newO (pc' := 26) d_jdk_33_method_22_23 rfl (w_138 hw) (w_139 hw) (w_36 hw) (by decide) (by decide) ?_
      intro h12 b13 g14 ge_b13 x15 E_b13 D_b13 U_b13
      have F_b13_value : Fld Z h12 b13 "java/lang/Integer" "value" "I" (.int (0 : Int32)) := D_b13 (Or.inr (w_152 hw)) (ty := .int) (by decide)
      change Go _ _ _ _ _ _ _ _ _ _ _ _ _ _ [b13] h12 1 1 26 #[.val (.int x)] [(.ref b13)]
      refine Go.dup (pc' := 27) d_jdk_33_method_22_26 rfl rfl ?_
      refine Go.iload_n (pc' := 28) d_jdk_33_method_22_27 rfl rfl ?_
      refine Go.callI (pc' := 31) (z := N_1) (a := b13) d_jdk_33_method_22_28 rfl rfl (w_140 hw) (w_141 hw) (w_143 hw) (by decide) (argsL := [(.int x)]) (rest := [(.ref b13)]) (Pays.of_met (W := 1) (len := 3) (m_integer hw hs b13 x (0 : Int32) h12 E_b13 F_b13_value) (w_143 hw) (w_36 hw) (by decide) (by decide)) rfl rfl (lenOf pd_1 rfl) rfl (Nat.le_of_eq rfl) (memS (List.mem_of_getElem? (i := 0) rfl) mem0) (by decide) (by decide) ?_
      rintro _ h16 _ K17 le18 ⟨rfl, rfl, p19, p20⟩
      replace E_b13 := E_b13.keep K17
      have F_b13_value := p20
      change Go _ _ _ _ _ _ _ _ _ _ _ _ _ _ [b13] h16 1 1 31 #[.val (.int x)] [(.ref b13)]
      exact Go.retA d_jdk_33_method_22_31 rfl rfl rfl (by decide) (by decide) [] sn0 ⟨b13, rfl, rfl, E_b13, F_b13_value⟩
    · skip
      refine Go.icmpN (pc' := 13) d_jdk_33_method_22_10 rfl (flt (h2 : ¬ ((127 : Int32) < x))).2.2.1 ?_
      refine Go.getS (pc' := 16) d_jdk_33_method_22_13 rfl (host := "") (Or.inl (w_40 hw)) Via.refl S_ca ?_
      refine Go.iload_n (pc' := 17) d_jdk_33_method_22_16 rfl rfl ?_
      refine Go.sipush (pc' := 20) d_jdk_33_method_22_17 rfl ics_128 ?_
      refine Go.iadd (pc' := 21) d_jdk_33_method_22_20 rfl ?_
      have hin := own_cache h1 h2 Bx.2.1
      obtain ⟨bx, e1, e2, e3⟩ := Bx.2.2.2 (x + (128 : Int32)) hin
      replace e3 : Fld Z Z.heap bx "java/lang/Integer" "value" "I" (.int (x + (128 : Int32) - (128 : Int32))) := e3
      rw [own_back x] at e3
      refine Go.aaload (pc' := 22) (v := (.ref bx)) d_jdk_33_method_22_21 rfl (Bx.1.ext hO.2) rfl hin e1 ?_
      exact Go.retA d_jdk_33_method_22_22 rfl rfl rfl (by decide) (by decide) [] sn0 ⟨bx, rfl, rfl, e2.ext hO.2, e3.ext hO.2⟩
abbrev R_m_cmpL : Room := { frames := 0, cells := 0, slots := 0, locals := 0 }
set_option maxRecDepth 65536 in
set_option maxHeartbeats 40000000 in
theorem m_cmpL_loop {l : Launch} {Z : State} {n0 : Nat} {h0 : Heap} {Q : Option Value → Heap → List Addr → Prop} {c t : Addr} {kc kt : ClassId} {cs : List Int32} {z : Int32} (hz : z.toNatClampNeg = cs.length) (hcs : ∀ x ∈ cs, ¬ x < 0 ∧ ¬ 255 < x) (ne_c_t : c ≠ t)
    (K : ∀ h' o, Arv Z h' t kt .byte z (cs.map lowV) (.int (0 : Int32)) → Go l Z EL0 n0 NR0 KN0 N_3 jdk_52_method_21_code 7 (Option.some Jvm.ClassFile.FieldType.int) R_m_cmpL h0 [t] Q [t] h' 0 0 44 #[.val (.ref c), .val (.int (Int32.ofNat cs.length)), .val (.ref t), .val (.int (Int32.ofNat cs.length)), .val (.int z), .val (.int (Int32.ofNat cs.length)), o] []) :
    ∀ (m i : Nat) (h : Heap) (o : Slot), i + m = cs.length → One o → Arv Z h c kc .char z (cs.map Value.int) (.int (0 : Int32)) → Arv Z h t kt .byte z ((cs.take i).map lowV ++ List.replicate m (.int (0 : Int32))) (.int (0 : Int32)) →
      Go l Z EL0 n0 NR0 KN0 N_3 jdk_52_method_21_code 7 (Option.some Jvm.ClassFile.FieldType.int) R_m_cmpL h0 [t] Q [t] h 0 0 3 #[.val (.ref c), .val (.int (Int32.ofNat i)), .val (.ref t), .val (.int (Int32.ofNat i)), .val (.int z), .val (.int (Int32.ofNat i)), o] [] := by
  intro m
  induction m with
  | zero =>
    intro i h o hi ho V_c V_t
    obtain rfl : i = cs.length := by omega
    have zn := arv_nn V_c
    have q := (back32 zn).2
    refine Go.iload (pc' := 5) d_jdk_52_method_21_3 rfl rfl ?_
    refine Go.iload (pc' := 7) d_jdk_52_method_21_5 rfl rfl ?_
    refine Go.icmpY (pc' := 44) d_jdk_52_method_21_7 (by decide) (by decide) (flt (ofNat_ge zn (by omega) (Nat.le_of_eq hz) : ¬ ((Int32.ofNat cs.length) < z))).2.1 ?_
    refine K h o ?_
    simpa using V_t
  | succ m ih =>
    intro i h o hi ho V_c V_t
    have zn := arv_nn V_c
    have q := (back32 zn).2
    have hi2 : i < cs.length := by omega
    have b1 := getD_mem hcs hi2
    have ci := ofNat_clamp (i := i) (by omega)
    have nn := ofNat_nn (i := i) (by omega)
    have lt := ofNat_lt (i := i) zn (by omega)
    refine Go.iload (pc' := 5) d_jdk_52_method_21_3 rfl rfl ?_
    refine Go.iload (pc' := 7) d_jdk_52_method_21_5 rfl rfl ?_
    refine Go.icmpN (pc' := 10) d_jdk_52_method_21_7 rfl (tlt (lt : (Int32.ofNat i) < z)).2.1 ?_
    refine Go.aload_n (pc' := 11) d_jdk_52_method_21_10 rfl rfl rfl ?_
    refine Go.iload_n (pc' := 12) d_jdk_52_method_21_11 rfl rfl ?_
    refine Go.caloadV (pc' := 13) (v := (.int (cs.getD i 0))) d_jdk_52_method_21_12 rfl V_c ⟨nn, lt⟩ (by rw [ci]; exact getD_int cs i) ?_
    refine Go.istoreS (pc' := 15) (Ls' := #[.val (.ref c), .val (.int (Int32.ofNat i)), .val (.ref t), .val (.int (Int32.ofNat i)), .val (.int z), .val (.int (Int32.ofNat i)), .val (.int (cs.getD i 0))]) d_jdk_52_method_21_13 rfl rfl ho rfl ?_
    refine Go.iload (pc' := 17) d_jdk_52_method_21_15 rfl rfl ?_
    refine Go.sipush (pc' := 20) d_jdk_52_method_21_17 rfl ics_255 ?_
    refine Go.icmpY (pc' := 26) d_jdk_52_method_21_20 (by decide) (by decide) (flt (b1.2 : ¬ ((255 : Int32) < (cs.getD i 0)))).2.2.2 ?_
    refine Go.aload_n (pc' := 27) d_jdk_52_method_21_26 rfl rfl rfl ?_
    refine Go.iload_n (pc' := 28) d_jdk_52_method_21_27 rfl rfl ?_
    refine Go.iload (pc' := 30) d_jdk_52_method_21_28 rfl rfl ?_
    refine Go.i2b (pc' := 31) d_jdk_52_method_21_30 rfl ?_
    refine Go.bastoreV (pc' := 32) (i := i) d_jdk_52_method_21_31 rfl (List.mem_of_getElem? (i := 0) rfl) V_t ⟨nn, lt⟩ ci (by simp; omega) ?_
    intro h2 W2 V_t2
    rw [nar_byte] at V_t2
    have V_t3 := V_t2
    rw [show (Value.int (cs.getD i 0).toInt8.toInt32) = lowV (cs.getD i 0) from rfl, set_low cs i m hi2] at V_t3
    replace V_c := V_c.other W2 ne_c_t
    change Go _ _ _ _ _ _ _ _ _ _ _ _ _ _ [t] h2 0 0 32 #[.val (.ref c), .val (.int (Int32.ofNat i)), .val (.ref t), .val (.int (Int32.ofNat i)), .val (.int z), .val (.int (Int32.ofNat i)), .val (.int (cs.getD i 0))] []
    refine Go.iinc (pc' := 35) (Ls' := #[.val (.ref c), .val (.int ((Int32.ofNat i) + (1 : Int32))), .val (.ref t), .val (.int (Int32.ofNat i)), .val (.int z), .val (.int (Int32.ofNat i)), .val (.int (cs.getD i 0))]) d_jdk_52_method_21_32 rfl ic_1 rfl rfl ?_
    refine Go.iinc (pc' := 38) (Ls' := #[.val (.ref c), .val (.int ((Int32.ofNat i) + (1 : Int32))), .val (.ref t), .val (.int ((Int32.ofNat i) + (1 : Int32))), .val (.int z), .val (.int (Int32.ofNat i)), .val (.int (cs.getD i 0))]) d_jdk_52_method_21_35 rfl ic_1 rfl rfl ?_
    refine Go.iinc (pc' := 41) (Ls' := #[.val (.ref c), .val (.int ((Int32.ofNat i) + (1 : Int32))), .val (.ref t), .val (.int ((Int32.ofNat i) + (1 : Int32))), .val (.int z), .val (.int ((Int32.ofNat i) + (1 : Int32))), .val (.int (cs.getD i 0))]) d_jdk_52_method_21_38 rfl ic_1 rfl rfl ?_
    refine Go.goto (pc' := 3) d_jdk_52_method_21_41 (by decide) (by decide) ?_
    rw [ofNat_succ i]
    exact ih (i + 1) h2 _ (by omega) (One.val rfl) V_c V_t3
theorem pn_m_cmpL : plainFor (⟨"java/lang/StringUTF16", "compress", "([CI[BII)I"⟩ : MethodName) = true := by first | (refine plainFor_of_name ?_; simp [plainName, overriddenIn]; done) | decide +kernel
theorem ef_m_cmpL (m : MethodId) (c t : Addr) (z : Int32) : entryFrame m #[(.ref c), (.int (0 : Int32)), (.ref t), (.int (0 : Int32)), (.int z)] 7 = mkF m 0 #[.val (.ref c), .val (.int (0 : Int32)), .val (.ref t), .val (.int (0 : Int32)), .val (.int z), .unset, .unset] [] := by first | (simp [entryFrame, mkF, argsToLocals, Value.category]; done) | rfl
set_option maxRecDepth 65536 in
set_option maxHeartbeats 40000000 in
theorem m_cmpL {l : Launch} {Z : State} {a0 : Array Value} {n0 : Nat} (hw : ∀ d ∈ tables_1, d.before a0 Z = true) (hs : Stat Z) (c t : Addr) (kc kt : ClassId) (cs : List Int32) (z : Int32) (h0 : Heap) (V_c : Arv Z h0 c kc .char z (cs.map Value.int) (.int (0 : Int32))) (V_t : Arv Z h0 t kt .byte z (List.replicate cs.length (.int (0 : Int32))) (.int (0 : Int32))) (hz : z.toNatClampNeg = cs.length) (hcs : ∀ x ∈ cs, ¬ x < 0 ∧ ¬ 255 < x) (ne_c_t : c ≠ t) :
    Met l Z EL0 n0 NR0 KN0 N_3 jdk_52_method_21_code 7 (Option.some Jvm.ClassFile.FieldType.int) R_m_cmpL [t] #[(.ref c), (.int (0 : Int32)), (.ref t), (.int (0 : Int32)), (.int z)] h0 (fun v h' SN => v = some (.int z) ∧ SN = [] ∧ Arv Z h' t kt .byte z (cs.map lowV) (.int (0 : Int32))) := by
  refine Met.of_go pn_m_cmpL (fun m => ef_m_cmpL m c t z) ?_
  intro hO hWS
  refine Go.iconst (pc' := 1) d_jdk_52_method_21_0 rfl ic_0 ?_
  refine Go.istore (pc' := 3) (Ls' := #[.val (.ref c), .val (.int (0 : Int32)), .val (.ref t), .val (.int (0 : Int32)), .val (.int z), .val (.int (0 : Int32)), .unset]) d_jdk_52_method_21_1 rfl rfl ?_
  refine m_cmpL_loop (kc := kc) hz hcs ne_c_t (fun h' o V => ?_) cs.length 0 h0 _ (by omega) One.u V_c (by simpa using V_t)
  refine Go.iload (pc' := 46) d_jdk_52_method_21_44 rfl rfl ?_
  exact Go.retI d_jdk_52_method_21_46 rfl (by decide) (by decide) [] sn0 ⟨rfl, rfl, V⟩
abbrev R_m_cmp : Room := { frames := 1, cells := 1, slots := 2, locals := 18 }
theorem pn_m_cmp : plainFor (⟨"java/lang/StringUTF16", "compress", "([CII)[B"⟩ : MethodName) = true := by first | (refine plainFor_of_name ?_; simp [plainName, overriddenIn]; done) | decide +kernel
abbrev Q_m_cmp (Z : State) (c : Addr) (kc : ClassId) (cs : List Int32) (z : Int32) (h0 : Heap) : Option Value → Heap → List Addr → Prop := fun res h' SN => ∃ (t : Addr) (kt : ClassId), res = some (.ref t) ∧ SN = [] ∧ h0.size ≤ t ∧ Arv Z h' t kt .byte z (cs.map lowV) (.int (0 : Int32))
theorem ef_m_cmp (mid : MethodId) (c : Addr) (kc : ClassId) (cs : List Int32) (z : Int32) : entryFrame mid #[(.ref c), (.int (0 : Int32)), (.int z)] 6 = mkF mid 0 #[.val (.ref c), .val (.int (0 : Int32)), .val (.int z), .unset, .unset, .unset] [] := by first | (simp [entryFrame, mkF, argsToLocals, Value.category]; done) | rfl
set_option maxRecDepth 65536 in
set_option maxHeartbeats 40000000 in
theorem m_cmp {l : Launch} {Z : State} {a0 : Array Value} {n0 : Nat} (hw : ∀ d ∈ tables_1, d.before a0 Z = true) (hs : Stat Z) (c : Addr) (kc : ClassId) (cs : List Int32) (z : Int32) (h0 : Heap) (V_c : Arv Z h0 c kc .char z (cs.map Value.int) (.int (0 : Int32))) (hz : z.toNatClampNeg = cs.length) (hcs : ∀ x ∈ cs, ¬ x < 0 ∧ ¬ 255 < x) (hcap : z.toNatClampNeg ≤ CAP) :
    Met l Z EL0 n0 NR0 KN0 N_4 jdk_52_method_16_code 6 (Option.some (Jvm.ClassFile.FieldType.array Jvm.ClassFile.FieldType.byte)) R_m_cmp [] #[(.ref c), (.int (0 : Int32)), (.int z)] h0 (Q_m_cmp Z c kc cs z h0) := by
  refine Met.of_go pn_m_cmp (fun mid => ef_m_cmp mid c kc cs z ) ?_
  intro hO hWS
  have zn := arv_nn V_c
  refine Go.iload_n (pc' := 1) d_jdk_52_method_16_0 rfl rfl ?_
  refine Go.newP (pc' := 3) (cap := CAP) (ad := "[B") d_jdk_52_method_16_1 rfl (w_23 hw) (by decide) zn hcap (by decide) (by decide) (by decide) ?_
  intro h1 b1 g1 ge_b1 k1 x1 V_b1 E_b1
  have o_c_b1 : c ≠ b1 := Nat.ne_of_lt (Nat.lt_of_lt_of_le V_c.lt (Nat.le_of_eq g1))
  replace V_c := V_c.ext x1
  replace V_b1 : Arv Z h1 b1 k1 .byte z (List.replicate cs.length (.int (0 : Int32))) (.int (0 : Int32)) := V_b1.pad (fun i => pad_rep [] _ cs.length i)
  change Go _ _ _ _ _ _ _ _ _ _ _ _ _ _ [b1] h1 1 2 3 #[.val (.ref c), .val (.int (0 : Int32)), .val (.int z), .unset, .unset, .unset] [(.ref b1)]
  refine Go.astore_n (pc' := 4) (Ls' := #[.val (.ref c), .val (.int (0 : Int32)), .val (.int z), .val (.ref b1), .unset, .unset]) d_jdk_52_method_16_3 rfl rfl rfl ?_
  refine Go.aload_n (pc' := 5) d_jdk_52_method_16_4 rfl rfl rfl ?_
  refine Go.iload_n (pc' := 6) d_jdk_52_method_16_5 rfl rfl ?_
  refine Go.aload_n (pc' := 7) d_jdk_52_method_16_6 rfl rfl rfl ?_
  refine Go.iconst (pc' := 8) d_jdk_52_method_16_7 rfl ic_0 ?_
  refine Go.iload_n (pc' := 9) d_jdk_52_method_16_8 rfl rfl ?_
  refine Go.callS (pc' := 12) (z := N_3) d_jdk_52_method_16_9 rfl (w_24 hw) (w_25 hw) (w_21 hw) (w_26 hw) (by decide) (argsL := [(.ref c), (.int (0 : Int32)), (.ref b1), (.int (0 : Int32)), (.int z)]) (rest := []) (Pays.of_met (W := 0) (len := 3) (m_cmpL hw hs c b1 kc k1 cs z h1 V_c V_b1 (hz) (hcs) o_c_b1) (w_26 hw) (w_21 hw) (by decide) (by decide)) rfl rfl (lenOf pd_2 rfl) rfl (Nat.le_of_eq rfl) (memS (List.mem_of_getElem? (i := 0) rfl) mem0) (by decide) (by decide) ?_
  rintro _ h21 _ K22 le23 ⟨rfl, rfl, p24⟩
  replace V_c := V_c.keep K22 (ninS o_c_b1 nin0)
  have V_b1 := p24
  change Go _ _ _ _ _ _ _ _ _ _ _ _ _ _ [b1] h21 1 2 12 #[.val (.ref c), .val (.int (0 : Int32)), .val (.int z), .val (.ref b1), .unset, .unset] [(.int z)]
  refine Go.istore (pc' := 14) (Ls' := #[.val (.ref c), .val (.int (0 : Int32)), .val (.int z), .val (.ref b1), .val (.int z), .unset]) d_jdk_52_method_16_12 rfl rfl ?_
  refine Go.iload (pc' := 16) d_jdk_52_method_16_14 rfl rfl ?_
  refine Go.iload_n (pc' := 17) d_jdk_52_method_16_16 rfl rfl ?_
  refine Go.icmpY (pc' := 57) d_jdk_52_method_16_17 (by decide) (by decide) (teq (rfl : z = z)).1 ?_
  refine Go.aload_n (pc' := 58) d_jdk_52_method_16_57 rfl rfl rfl ?_
  exact Go.retA d_jdk_52_method_16_58 rfl rfl rfl (by decide) (by decide) [] sn0 ⟨b1, k1, rfl, rfl, ge_b1, V_b1⟩
abbrev R_m_cfl : Room := { frames := 0, cells := 0, slots := 0, locals := 0 }
theorem pn_m_cfl : plainFor (⟨"java/lang/StringUTF16", "coderFromArrayLen", "([BI)B"⟩ : MethodName) = true := by first | (refine plainFor_of_name ?_; simp [plainName, overriddenIn]; done) | decide +kernel
abbrev Q_m_cfl (Z : State) (t : Addr) (kt : ClassId) (z : Int32) (vs : List Value) (h0 : Heap) : Option Value → Heap → List Addr → Prop := fun res h' SN => res = some (.int (0 : Int32)) ∧ SN = [] ∧ h0 = h'
theorem ef_m_cfl (mid : MethodId) (t : Addr) (kt : ClassId) (z : Int32) (vs : List Value) : entryFrame mid #[(.ref t), (.int z)] 2 = mkF mid 0 #[.val (.ref t), .val (.int z)] [] := by first | (simp [entryFrame, mkF, argsToLocals, Value.category]; done) | rfl
set_option maxRecDepth 65536 in
set_option maxHeartbeats 40000000 in
theorem m_cfl {l : Launch} {Z : State} {a0 : Array Value} {n0 : Nat} (hw : ∀ d ∈ tables_1, d.before a0 Z = true) (hs : Stat Z) (t : Addr) (kt : ClassId) (z : Int32) (vs : List Value) (h0 : Heap) (V_t : Arv Z h0 t kt .byte z vs (.int (0 : Int32))) :
    Met l Z EL0 n0 NR0 KN0 N_5 jdk_52_method_15_code 2 (Option.some Jvm.ClassFile.FieldType.byte) R_m_cfl [] #[(.ref t), (.int z)] h0 (Q_m_cfl Z t kt z vs h0) := by
  refine Met.of_go pn_m_cfl (fun mid => ef_m_cfl mid t kt z vs ) ?_
  intro hO hWS
  refine Go.iload_n (pc' := 1) d_jdk_52_method_15_0 rfl rfl ?_
  refine Go.aload_n (pc' := 2) d_jdk_52_method_15_1 rfl rfl rfl ?_
  refine Go.lenV (pc' := 3) d_jdk_52_method_15_2 rfl V_t ?_
  refine Go.isub (pc' := 4) d_jdk_52_method_15_3 rfl ?_
  refine Go.bipush (pc' := 6) d_jdk_52_method_15_4 rfl icb_31 ?_
  refine Go.iushr (pc' := 7) d_jdk_52_method_15_6 rfl ?_
  refine Go.i2b (pc' := 8) d_jdk_52_method_15_7 rfl ?_
  rw [own_coder0]
  exact Go.retS (ty := .byte) d_jdk_52_method_15_8 rfl (by simp) rfl (by decide) (by decide) [] sn0 ⟨rfl, rfl, rfl⟩
abbrev R_m_str4 : Room := { frames := 2, cells := 1, slots := 2, locals := 35 }
theorem pn_m_str4 : plainFor (⟨"java/lang/String", "<init>", "([CIILjava/lang/Void;)V"⟩ : MethodName) = true := by first | (refine plainFor_of_name ?_; simp [plainName, overriddenIn]; done) | decide +kernel
abbrev Q_m_str4 (Z : State) (a : Addr) (c : Addr) (kc : ClassId) (cs : List Int32) (z : Int32) (h0 : Heap) : Option Value → Heap → List Addr → Prop := fun res h' SN => ∃ (t : Addr) (kt : ClassId), res = none ∧ SN = [] ∧ Exa Z h' a "java/lang/String" ∧ Fld Z h' a "java/lang/String" "coder" "B" (.int (0 : Int32)) ∧ Fld Z h' a "java/lang/String" "value" "[B" (.ref t) ∧ Arv Z h' t kt .byte z (cs.map lowV) (.int (0 : Int32)) ∧ h0.size ≤ t
theorem ef_m_str4 (mid : MethodId) (a : Addr) (c : Addr) (kc : ClassId) (cs : List Int32) (z : Int32) : entryFrame mid #[(.ref a), (.ref c), (.int (0 : Int32)), (.int z), .null] 6 = mkF mid 0 #[.val (.ref a), .val (.ref c), .val (.int (0 : Int32)), .val (.int z), .val .null, .unset] [] := by first | (simp [entryFrame, mkF, argsToLocals, Value.category]; done) | rfl
set_option maxRecDepth 65536 in
set_option maxHeartbeats 40000000 in
theorem m_str4 {l : Launch} {Z : State} {a0 : Array Value} {n0 : Nat} (hw : ∀ d ∈ tables_1, d.before a0 Z = true) (hs : Stat Z) (a : Addr) (c : Addr) (kc : ClassId) (cs : List Int32) (z : Int32) (h0 : Heap) (E_a : Exa Z h0 a "java/lang/String") (F_a_coder : Fld Z h0 a "java/lang/String" "coder" "B" (.int (0 : Int32))) (F_a_value : Fld Z h0 a "java/lang/String" "value" "[B" .null) (V_c : Arv Z h0 c kc .char z (cs.map Value.int) (.int (0 : Int32))) (hz : z.toNatClampNeg = cs.length) (hcs : ∀ x ∈ cs, ¬ x < 0 ∧ ¬ 255 < x) (hcs0 : cs ≠ []) (hcap : z.toNatClampNeg ≤ CAP) (ne_c_a : c ≠ a) :
    Met l Z EL0 n0 NR0 KN0 N_6 jdk_42_method_149_code 6 (Option.none : Option Jvm.ClassFile.FieldType) R_m_str4 [a] #[(.ref a), (.ref c), (.int (0 : Int32)), (.int z), .null] h0 (Q_m_str4 Z a c kc cs z h0) := by
  refine Met.of_go pn_m_str4 (fun mid => ef_m_str4 mid a c kc cs z ) ?_
  intro hO hWS
  obtain ⟨zc, S_c, hzc⟩ := hs_c hs
  have zn := arv_nn V_c
  refine Go.aload_n (pc' := 1) d_jdk_42_method_149_0 rfl rfl rfl ?_
  refine Go.initO (pc' := 4) (W := 0) d_jdk_42_method_149_1 rfl (w_15 hw) (w_16 hw) (w_17 hw) rfl (by decide) (Nat.le_of_eq rfl) (by decide) ?_
  refine Go.iload_n (pc' := 5) d_jdk_42_method_149_4 rfl rfl ?_
  refine Go.ifY (pc' := 27) d_jdk_42_method_149_5 (by decide) (by decide) ((if0 _ _).trans (feq (own_nz hz hcs0 : ¬ (z = (0 : Int32)))).2) ?_
  refine Go.getS (pc' := 30) d_jdk_42_method_149_27 rfl (host := "") (Or.inl (w_18 hw)) Via.refl S_c ?_
  refine Go.ifN (pc' := 33) d_jdk_42_method_149_30 rfl ((if0 _ _).trans (feq (hzc : ¬ (zc = (0 : Int32)))).1) ?_
  refine Go.aload_n (pc' := 34) d_jdk_42_method_149_33 rfl rfl rfl ?_
  refine Go.iload_n (pc' := 35) d_jdk_42_method_149_34 rfl rfl ?_
  refine Go.iload_n (pc' := 36) d_jdk_42_method_149_35 rfl rfl ?_
  refine Go.callS (pc' := 39) (z := N_4) d_jdk_42_method_149_36 rfl (w_19 hw) (w_20 hw) (w_21 hw) (w_22 hw) (by decide) (argsL := [(.ref c), (.int (0 : Int32)), (.int z)]) (rest := []) (Pays.of_met (W := 0) (len := 3) (m_cmp hw hs c kc cs z h0 V_c (hz) (hcs) (hcap)) (w_22 hw) (w_21 hw) (by decide) (by decide)) rfl rfl (lenOf pd_3 rfl) rfl (Nat.le_of_eq rfl) mem0 (by decide) (by decide) ?_
  rintro _ h27 _ K28 le29 ⟨b25, q26, rfl, rfl, p30, p31⟩
  have o_a_b25 : a ≠ b25 := Nat.ne_of_lt (Nat.lt_of_lt_of_le E_a.lt p30)
  have o_c_b25 : c ≠ b25 := Nat.ne_of_lt (Nat.lt_of_lt_of_le V_c.lt p30)
  have ge_b25 := Nat.le_trans le29 p30
  replace E_a := E_a.keep K28
  replace F_a_coder := F_a_coder.keep K28 nin0
  replace F_a_value := F_a_value.keep K28 nin0
  replace V_c := V_c.keep K28 nin0
  have V_b25 := p31
  change Go _ _ _ _ _ _ _ _ _ _ _ _ _ _ [a] h27 1 2 39 #[.val (.ref a), .val (.ref c), .val (.int (0 : Int32)), .val (.int z), .val .null, .unset] [(.ref b25)]
  refine Go.astore (pc' := 41) (Ls' := #[.val (.ref a), .val (.ref c), .val (.int (0 : Int32)), .val (.int z), .val .null, .val (.ref b25)]) d_jdk_42_method_149_39 rfl rfl rfl ?_
  refine Go.aload_n (pc' := 42) d_jdk_42_method_149_41 rfl rfl rfl ?_
  refine Go.aload (pc' := 44) d_jdk_42_method_149_42 rfl rfl rfl ?_
  refine Go.iload_n (pc' := 45) d_jdk_42_method_149_44 rfl rfl ?_
  refine Go.callS (pc' := 48) (z := N_5) d_jdk_42_method_149_45 rfl (w_27 hw) (w_28 hw) (w_21 hw) (w_29 hw) (by decide) (argsL := [(.ref b25), (.int z)]) (rest := [(.ref a)]) (Pays.of_met (W := 1) (len := 3) (m_cfl hw hs b25 q26 z (cs.map lowV) h27 V_b25) (w_29 hw) (w_21 hw) (by decide) (by decide)) rfl rfl (lenOf pd_4 rfl) rfl (Nat.le_of_eq rfl) mem0 (by decide) (by decide) ?_
  rintro _ _ _ - - ⟨rfl, rfl, rfl⟩
  change Go _ _ _ _ _ _ _ _ _ _ _ _ _ _ [a] h27 1 2 48 #[.val (.ref a), .val (.ref c), .val (.int (0 : Int32)), .val (.int z), .val .null, .val (.ref b25)] [(.int (0 : Int32)), (.ref a)]
  refine Go.putFN (pc' := 51) (v' := (.int (0 : Int32))) d_jdk_42_method_149_48 rfl (List.mem_of_getElem? (i := 0) rfl) (w_30 hw) Via.refl F_a_coder E_a (Or.inr ⟨(w_31 hw), rfl, rfl⟩) (w_6 hw) (ty := .byte) (by decide) rfl rfl ?_
  intro h32 W33
  replace F_a_coder := F_a_coder.same W33
  replace E_a := E_a.wr W33
  replace F_a_value := F_a_value.other W33 (Or.inr (slot_ne (Or.inr (w_33 hw)) (Or.inr (w_31 hw)) (by decide) (t := (.array .byte)) (t' := .byte) (by decide) (by decide)))
  replace V_c := V_c.other W33 ne_c_a
  replace V_b25 := V_b25.other W33 (Ne.symm o_a_b25)
  change Go _ _ _ _ _ _ _ _ _ _ _ _ _ _ [a] h32 1 2 51 #[.val (.ref a), .val (.ref c), .val (.int (0 : Int32)), .val (.int z), .val .null, .val (.ref b25)] []
  refine Go.aload_n (pc' := 52) d_jdk_42_method_149_51 rfl rfl rfl ?_
  refine Go.aload (pc' := 54) d_jdk_42_method_149_52 rfl rfl rfl ?_
  refine Go.putF (pc' := 57) d_jdk_42_method_149_54 rfl (List.mem_of_getElem? (i := 0) rfl) (host := "") (Or.inl (w_32 hw)) Via.refl F_a_value E_a (Or.inr ⟨(w_33 hw), rfl, rfl⟩) (w_6 hw) (ty := (.array .byte)) (by decide) rfl rfl ?_
  intro h34 W35
  replace F_a_value := F_a_value.same W35
  replace E_a := E_a.wr W35
  replace V_c := V_c.other W35 ne_c_a
  replace V_b25 := V_b25.other W35 (Ne.symm o_a_b25)
  replace F_a_coder := F_a_coder.other W35 (Or.inr (slot_ne (Or.inr (w_31 hw)) (Or.inr (w_33 hw)) (by decide) (t := .byte) (t' := (.array .byte)) (by decide) (by decide)))
  change Go _ _ _ _ _ _ _ _ _ _ _ _ _ _ [a] h34 1 2 57 #[.val (.ref a), .val (.ref c), .val (.int (0 : Int32)), .val (.int z), .val .null, .val (.ref b25)] []
  exact Go.retV d_jdk_42_method_149_57 rfl (by decide) (by decide) [] sn0 ⟨b25, q26, rfl, rfl, E_a, F_a_coder, F_a_value, V_b25, ge_b25⟩
abbrev R_m_str : Room := { frames := 3, cells := 1, slots := 2, locals := 52 }
theorem pn_m_str : plainFor (⟨"java/lang/String", "<init>", "([C)V"⟩ : MethodName) = true := by first | (refine plainFor_of_name ?_; simp [plainName, overriddenIn]; done) | decide +kernel
abbrev Q_m_str (Z : State) (a : Addr) (c : Addr) (kc : ClassId) (cs : List Int32) (z : Int32) (h0 : Heap) : Option Value → Heap → List Addr → Prop := fun res h' SN => ∃ (t : Addr) (kt : ClassId), res = none ∧ SN = [] ∧ Exa Z h' a "java/lang/String" ∧ Fld Z h' a "java/lang/String" "coder" "B" (.int (0 : Int32)) ∧ Fld Z h' a "java/lang/String" "value" "[B" (.ref t) ∧ Arv Z h' t kt .byte z (cs.map lowV) (.int (0 : Int32)) ∧ h0.size ≤ t
theorem ef_m_str (mid : MethodId) (a : Addr) (c : Addr) (kc : ClassId) (cs : List Int32) (z : Int32) : entryFrame mid #[(.ref a), (.ref c)] 2 = mkF mid 0 #[.val (.ref a), .val (.ref c)] [] := by first | (simp [entryFrame, mkF, argsToLocals, Value.category]; done) | rfl
set_option maxRecDepth 65536 in
set_option maxHeartbeats 40000000 in
theorem m_str {l : Launch} {Z : State} {a0 : Array Value} {n0 : Nat} (hw : ∀ d ∈ tables_1, d.before a0 Z = true) (hs : Stat Z) (a : Addr) (c : Addr) (kc : ClassId) (cs : List Int32) (z : Int32) (h0 : Heap) (E_a : Exa Z h0 a "java/lang/String") (F_a_coder : Fld Z h0 a "java/lang/String" "coder" "B" (.int (0 : Int32))) (F_a_value : Fld Z h0 a "java/lang/String" "value" "[B" .null) (V_c : Arv Z h0 c kc .char z (cs.map Value.int) (.int (0 : Int32))) (hz : z.toNatClampNeg = cs.length) (hcs : ∀ x ∈ cs, ¬ x < 0 ∧ ¬ 255 < x) (hcs0 : cs ≠ []) (hcap : z.toNatClampNeg ≤ CAP) (ne_c_a : c ≠ a) :
    Met l Z EL0 n0 NR0 KN0 N_7 jdk_42_method_3_code 2 (Option.none : Option Jvm.ClassFile.FieldType) R_m_str [a] #[(.ref a), (.ref c)] h0 (Q_m_str Z a c kc cs z h0) := by
  refine Met.of_go pn_m_str (fun mid => ef_m_str mid a c kc cs z ) ?_
  intro hO hWS
  refine Go.aload_n (pc' := 1) d_jdk_42_method_3_0 rfl rfl rfl ?_
  refine Go.aload_n (pc' := 2) d_jdk_42_method_3_1 rfl rfl rfl ?_
  refine Go.iconst (pc' := 3) d_jdk_42_method_3_2 rfl ic_0 ?_
  refine Go.aload_n (pc' := 4) d_jdk_42_method_3_3 rfl rfl rfl ?_
  refine Go.lenV (pc' := 5) d_jdk_42_method_3_4 rfl V_c ?_
  refine Go.aconst_null (pc' := 6) d_jdk_42_method_3_5 rfl ?_
  refine Go.callI (pc' := 9) (z := N_6) (a := a) d_jdk_42_method_3_6 rfl rfl (w_11 hw) (w_12 hw) (w_14 hw) (by decide) (argsL := [(.ref c), (.int (0 : Int32)), (.int z), .null]) (rest := []) (Pays.of_met (W := 0) (len := 3) (m_str4 hw hs a c kc cs z h0 E_a F_a_coder F_a_value V_c (hz) (hcs) (hcs0) (hcap) ne_c_a) (w_14 hw) (w_7 hw) (by decide) (by decide)) rfl rfl (lenOf pd_5 rfl) rfl (Nat.le_of_eq rfl) (memS (List.mem_of_getElem? (i := 0) rfl) mem0) (by decide) (by decide) ?_
  rintro _ h38 _ K39 le40 ⟨b36, q37, rfl, rfl, p41, p42, p43, p44, p45⟩
  have o_a_b36 : a ≠ b36 := Nat.ne_of_lt (Nat.lt_of_lt_of_le E_a.lt p45)
  have o_c_b36 : c ≠ b36 := Nat.ne_of_lt (Nat.lt_of_lt_of_le V_c.lt p45)
  have ge_b36 := Nat.le_trans le40 p45
  replace E_a := E_a.keep K39
  replace V_c := V_c.keep K39 (ninS ne_c_a nin0)
  have F_a_coder := p42
  have F_a_value := p43
  have V_b36 := p44
  change Go _ _ _ _ _ _ _ _ _ _ _ _ _ _ [a] h38 1 2 9 #[.val (.ref a), .val (.ref c)] []
  exact Go.retV d_jdk_42_method_3_9 rfl (by decide) (by decide) [] sn0 ⟨b36, q37, rfl, rfl, E_a, F_a_coder, F_a_value, V_b36, ge_b36⟩
abbrev R_m_coder : Room := { frames := 0, cells := 0, slots := 0, locals := 0 }
theorem pn_m_coder : plainFor (⟨"java/lang/String", "coder", "()B"⟩ : MethodName) = true := by first | (refine plainFor_of_name ?_; simp [plainName, overriddenIn]; done) | decide +kernel
abbrev Q_m_coder (Z : State) (a : Addr) (h0 : Heap) : Option Value → Heap → List Addr → Prop := fun res h' SN => res = some (.int (0 : Int32)) ∧ SN = [] ∧ h0 = h'
theorem ef_m_coder (mid : MethodId) (a : Addr) : entryFrame mid #[(.ref a)] 1 = mkF mid 0 #[.val (.ref a)] [] := by first | (simp [entryFrame, mkF, argsToLocals, Value.category]; done) | rfl
set_option maxRecDepth 65536 in
set_option maxHeartbeats 40000000 in
theorem m_coder {l : Launch} {Z : State} {a0 : Array Value} {n0 : Nat} (hw : ∀ d ∈ tables_1, d.before a0 Z = true) (hs : Stat Z) (a : Addr) (h0 : Heap) (F_a_coder : Fld Z h0 a "java/lang/String" "coder" "B" (.int (0 : Int32))) :
    Met l Z EL0 n0 NR0 KN0 N_8 jdk_42_method_152_code 1 (Option.some Jvm.ClassFile.FieldType.byte) R_m_coder [] #[(.ref a)] h0 (Q_m_coder Z a h0) := by
  refine Met.of_go pn_m_coder (fun mid => ef_m_coder mid a ) ?_
  intro hO hWS
  obtain ⟨zc, S_c, hzc⟩ := hs_c hs
  refine Go.getS (pc' := 3) d_jdk_42_method_152_0 rfl (host := "") (Or.inl (w_18 hw)) Via.refl S_c ?_
  refine Go.ifN (pc' := 6) d_jdk_42_method_152_3 rfl ((if0 _ _).trans (feq (hzc : ¬ (zc = (0 : Int32)))).1) ?_
  refine Go.aload_n (pc' := 7) d_jdk_42_method_152_6 rfl rfl rfl ?_
  refine Go.getF (pc' := 10) d_jdk_42_method_152_7 rfl (host := "") (Or.inl (w_30 hw)) Via.refl F_a_coder ?_
  refine Go.goto (pc' := 14) d_jdk_42_method_152_10 (by decide) (by decide) ?_
  exact Go.retS (ty := .byte) d_jdk_42_method_152_14 rfl (by simp) rfl (by decide) (by decide) [] sn0 ⟨rfl, rfl, rfl⟩
abbrev R_m_max : Room := { frames := 0, cells := 0, slots := 0, locals := 0 }
theorem pn_m_max : plainFor (⟨"java/lang/Math", "max", "(II)I"⟩ : MethodName) = true := by first | (refine plainFor_of_name ?_; simp [plainName, overriddenIn]; done) | decide +kernel
abbrev Q_m_max (Z : State) (x : Int32) (z : Int32) (h0 : Heap) : Option Value → Heap → List Addr → Prop := fun res h' SN => res = some (.int (if x < z then z else x)) ∧ SN = [] ∧ h0 = h'
theorem ef_m_max (mid : MethodId) (x : Int32) (z : Int32) : entryFrame mid #[(.int x), (.int z)] 2 = mkF mid 0 #[.val (.int x), .val (.int z)] [] := by first | (simp [entryFrame, mkF, argsToLocals, Value.category]; done) | rfl
set_option maxRecDepth 65536 in
set_option maxHeartbeats 40000000 in
theorem m_max {l : Launch} {Z : State} {a0 : Array Value} {n0 : Nat} (hw : ∀ d ∈ tables_1, d.before a0 Z = true) (hs : Stat Z) (x : Int32) (z : Int32) (h0 : Heap) :
    Met l Z EL0 n0 NR0 KN0 N_9 jdk_29_method_65_code 2 (Option.some Jvm.ClassFile.FieldType.int) R_m_max [] #[(.int x), (.int z)] h0 (Q_m_max Z x z h0) := by
  refine Met.of_go pn_m_max (fun mid => ef_m_max mid x z ) ?_
  intro hO hWS
  refine Go.iload_n (pc' := 1) d_jdk_29_method_65_0 rfl rfl ?_
  refine Go.iload_n (pc' := 2) d_jdk_29_method_65_1 rfl rfl ?_
  by_cases h1 : x < z
  · skip
    refine Go.icmpY (pc' := 9) d_jdk_29_method_65_2 (by decide) (by decide) (tlt (h1 : x < z)).1 ?_
    refine Go.iload_n (pc' := 10) d_jdk_29_method_65_9 rfl rfl ?_
    exact Go.retI d_jdk_29_method_65_10 rfl (by decide) (by decide) [] sn0 ⟨by rw [if_pos h1], rfl, rfl⟩
  · skip
    refine Go.icmpN (pc' := 5) d_jdk_29_method_65_2 rfl (flt (h1 : ¬ (x < z))).1 ?_
    refine Go.iload_n (pc' := 6) d_jdk_29_method_65_5 rfl rfl ?_
    refine Go.goto (pc' := 10) d_jdk_29_method_65_6 (by decide) (by decide) ?_
    exact Go.retI d_jdk_29_method_65_10 rfl (by decide) (by decide) [] sn0 ⟨by rw [if_neg h1], rfl, rfl⟩
abbrev R_m_min : Room := { frames := 0, cells := 0, slots := 0, locals := 0 }
theorem pn_m_min : plainFor (⟨"java/lang/Math", "min", "(II)I"⟩ : MethodName) = true := by first | (refine plainFor_of_name ?_; simp [plainName, overriddenIn]; done) | decide +kernel
abbrev Q_m_min (Z : State) (x : Int32) (z : Int32) (h0 : Heap) : Option Value → Heap → List Addr → Prop := fun res h' SN => res = some (.int (if z < x then z else x)) ∧ SN = [] ∧ h0 = h'
theorem ef_m_min (mid : MethodId) (x : Int32) (z : Int32) : entryFrame mid #[(.int x), (.int z)] 2 = mkF mid 0 #[.val (.int x), .val (.int z)] [] := by first | (simp [entryFrame, mkF, argsToLocals, Value.category]; done) | rfl
set_option maxRecDepth 65536 in
set_option maxHeartbeats 40000000 in
theorem m_min {l : Launch} {Z : State} {a0 : Array Value} {n0 : Nat} (hw : ∀ d ∈ tables_1, d.before a0 Z = true) (hs : Stat Z) (x : Int32) (z : Int32) (h0 : Heap) :
    Met l Z EL0 n0 NR0 KN0 N_10 jdk_29_method_69_code 2 (Option.some Jvm.ClassFile.FieldType.int) R_m_min [] #[(.int x), (.int z)] h0 (Q_m_min Z x z h0) := by
  refine Met.of_go pn_m_min (fun mid => ef_m_min mid x z ) ?_
  intro hO hWS
  refine Go.iload_n (pc' := 1) d_jdk_29_method_69_0 rfl rfl ?_
  refine Go.iload_n (pc' := 2) d_jdk_29_method_69_1 rfl rfl ?_
  by_cases h1 : z < x
  · skip
    refine Go.icmpY (pc' := 9) d_jdk_29_method_69_2 (by decide) (by decide) (tlt (h1 : z < x)).2.2.1 ?_
    refine Go.iload_n (pc' := 10) d_jdk_29_method_69_9 rfl rfl ?_
    exact Go.retI d_jdk_29_method_69_10 rfl (by decide) (by decide) [] sn0 ⟨by rw [if_pos h1], rfl, rfl⟩
  · skip
    refine Go.icmpN (pc' := 5) d_jdk_29_method_69_2 rfl (flt (h1 : ¬ (z < x))).2.2.1 ?_
    refine Go.iload_n (pc' := 6) d_jdk_29_method_69_5 rfl rfl ?_
    refine Go.goto (pc' := 10) d_jdk_29_method_69_6 (by decide) (by decide) ?_
    exact Go.retI d_jdk_29_method_69_10 rfl (by decide) (by decide) [] sn0 ⟨by rw [if_neg h1], rfl, rfl⟩
abbrev R_m_drawn : Room := { frames := 4, cells := 3, slots := 8, locals := 66 }
theorem pn_m_drawn : plainFor (⟨"com/example/beleg/beleg/AttributesClearPinLaw", "drawn", "(I)Ljava/lang/String;"⟩ : MethodName) = true := by first | (refine plainFor_of_name ?_; simp [plainName, overriddenIn]; done) | decide +kernel
abbrev Q_m_drawn (Z : State) (p : Int32) (h0 : Heap) : Option Value → Heap → List Addr → Prop := fun res h' SN => ∃ (s : Addr) (t : Addr) (kt : ClassId) (u0 : Int32) (u1 : Int32), res = some (.ref s) ∧ SN = [] ∧ h0.size ≤ s ∧ h0.size ≤ t ∧ Exa Z h' s "java/lang/String" ∧ Fld Z h' s "java/lang/String" "coder" "B" (.int (0 : Int32)) ∧ Fld Z h' s "java/lang/String" "value" "[B" (.ref t) ∧ Arv Z h' t kt .byte (2 : Int32) [(.int u0), (.int u1)] (.int (0 : Int32))
theorem ef_m_drawn (mid : MethodId) (p : Int32) : entryFrame mid #[(.int p)] 2 = mkF mid 0 #[.val (.int p), .unset] [] := by first | (simp [entryFrame, mkF, argsToLocals, Value.category]; done) | rfl
set_option maxRecDepth 65536 in
set_option maxHeartbeats 40000000 in
theorem m_drawn {l : Launch} {Z : State} {a0 : Array Value} {n0 : Nat} (hw : ∀ d ∈ tables_1, d.before a0 Z = true) (hs : Stat Z) (p : Int32) (h0 : Heap) :
    Met l Z EL0 n0 NR0 KN0 N_11 method_2_code 2 (Option.some (Jvm.ClassFile.FieldType.object "java/lang/String")) R_m_drawn [] #[(.int p)] h0 (Q_m_drawn Z p h0) := by
  refine Met.of_go pn_m_drawn (fun mid => ef_m_drawn mid p ) ?_
  intro hO hWS
  refine Go.iconst (pc' := 1) d_method_2_0 rfl ic_2 ?_
  refine Go.newP (pc' := 3) (cap := 2) (ad := "[C") d_method_2_1 rfl (w_4 hw) (by decide) (by decide) (by decide) (by decide) (by decide) (by decide) ?_
  intro h46 b47 g48 ge_b47 q50 x49 V_b47 E_b47
  replace V_b47 : Arv Z h46 b47 q50 .char (2 : Int32) [(.int (0 : Int32)), (.int (0 : Int32))] (.int (0 : Int32)) := V_b47.pad (pad_rep [] _ 2)
  change Go _ _ _ _ _ _ _ _ _ _ _ _ _ _ [b47] h46 1 2 3 #[.val (.int p), .unset] [(.ref b47)]
  refine Go.astore_n (pc' := 4) (Ls' := #[.val (.int p), .val (.ref b47)]) d_method_2_3 rfl rfl rfl ?_
  refine Go.aload_n (pc' := 5) d_method_2_4 rfl rfl rfl ?_
  refine Go.iconst (pc' := 6) d_method_2_5 rfl ic_0 ?_
  refine Go.iload_n (pc' := 7) d_method_2_6 rfl rfl ?_
  refine Go.sipush (pc' := 10) d_method_2_7 rfl ics_255 ?_
  refine Go.iand (pc' := 11) d_method_2_10 rfl ?_
  refine Go.i2c (pc' := 12) d_method_2_11 rfl ?_
  rw [i2c_mask]
  have b_c0 := mask255 p
  generalize h_c0 : (p &&& (255 : Int32)) = c0 at b_c0 ⊢
  refine Go.castoreV (pc' := 13) (i := 0) d_method_2_12 rfl (List.mem_of_getElem? (i := 0) rfl) V_b47 (by decide) (by decide) (by simp) ?_
  rw [nar_char b_c0.1 (le255 b_c0.2)]
  intro h51 W52 V_b47'
  replace E_b47 := E_b47.wr W52
  replace V_b47 : Arv Z h51 b47 q50 .char (2 : Int32) [(.int c0), (.int (0 : Int32))] (.int (0 : Int32)) := V_b47'
  change Go _ _ _ _ _ _ _ _ _ _ _ _ _ _ [b47] h51 1 2 13 #[.val (.int p), .val (.ref b47)] []
  refine Go.aload_n (pc' := 14) d_method_2_13 rfl rfl rfl ?_
  refine Go.iconst (pc' := 15) d_method_2_14 rfl ic_1 ?_
  refine Go.iload_n (pc' := 16) d_method_2_15 rfl rfl ?_
  refine Go.bipush (pc' := 18) d_method_2_16 rfl icb_8 ?_
  refine Go.iushr (pc' := 19) d_method_2_18 rfl ?_
  refine Go.sipush (pc' := 22) d_method_2_19 rfl ics_255 ?_
  refine Go.iand (pc' := 23) d_method_2_22 rfl ?_
  refine Go.i2c (pc' := 24) d_method_2_23 rfl ?_
  rw [i2c_mask]
  have b_c1 := mask255 ((p.toUInt32 >>> ((8 : Int32) &&& 31).toUInt32).toInt32)
  generalize h_c1 : (((p.toUInt32 >>> ((8 : Int32) &&& 31).toUInt32).toInt32) &&& (255 : Int32)) = c1 at b_c1 ⊢
  refine Go.castoreV (pc' := 25) (i := 1) d_method_2_24 rfl (List.mem_of_getElem? (i := 0) rfl) V_b47 (by decide) (by decide) (by simp) ?_
  rw [nar_char b_c1.1 (le255 b_c1.2)]
  intro h53 W54 V_b47'
  replace E_b47 := E_b47.wr W54
  replace V_b47 : Arv Z h53 b47 q50 .char (2 : Int32) [(.int c0), (.int c1)] (.int (0 : Int32)) := V_b47'
  change Go _ _ _ _ _ _ _ _ _ _ _ _ _ _ [b47] h53 1 2 25 #[.val (.int p), .val (.ref b47)] []
  refine Go.newO (pc' := 28) d_method_2_25 rfl (w_5 hw) (w_6 hw) (w_7 hw) (by decide) (by decide) ?_
  intro h55 b56 g57 ge_b56 x58 E_b56 D_b56 U_b56
  have o_b47_b56 : b47 ≠ b56 := Nat.ne_of_lt (Nat.lt_of_lt_of_le E_b47.lt (Nat.le_of_eq g57))
  replace E_b47 := E_b47.ext x58
  replace V_b47 := V_b47.ext x58
  have F_b56_coder : Fld Z h55 b56 "java/lang/String" "coder" "B" (.int (0 : Int32)) := D_b56 (Or.inr (w_31 hw)) (ty := .byte) (by decide)
  have F_b56_value : Fld Z h55 b56 "java/lang/String" "value" "[B" .null := D_b56 (Or.inr (w_33 hw)) (ty := (.array .byte)) (by decide)
  change Go _ _ _ _ _ _ _ _ _ _ _ _ _ _ [b56, b47] h55 2 6 28 #[.val (.int p), .val (.ref b47)] [(.ref b56)]
  refine Go.dup (pc' := 29) d_method_2_28 rfl rfl ?_
  refine Go.aload_n (pc' := 30) d_method_2_29 rfl rfl rfl ?_
  refine Go.callI (pc' := 33) (z := N_7) (a := b56) d_method_2_30 rfl rfl (w_8 hw) (w_9 hw) (w_10 hw) (by decide) (argsL := [(.ref b47)]) (rest := [(.ref b56)]) (Pays.of_met (W := 1) (len := 3) (m_str hw hs b56 b47 q50 [c0, c1] (2 : Int32) h55 E_b56 F_b56_coder F_b56_value V_b47 (rfl) (own_cons b_c0 (own_one b_c1)) (by simp) (by decide) o_b47_b56) (w_10 hw) (w_7 hw) (by decide) (by decide)) rfl rfl (lenOf pd_6 rfl) rfl (Nat.le_of_eq rfl) (memS (List.mem_of_getElem? (i := 0) rfl) mem0) (by decide) (by decide) ?_
  rintro _ h61 _ K62 le63 ⟨b59, q60, rfl, rfl, p64, p65, p66, p67, p68⟩
  have o_b47_b59 : b47 ≠ b59 := Nat.ne_of_lt (Nat.lt_of_lt_of_le E_b47.lt p68)
  have o_b56_b59 : b56 ≠ b59 := Nat.ne_of_lt (Nat.lt_of_lt_of_le E_b56.lt p68)
  have ge_b59 := Nat.le_trans le63 p68
  replace E_b47 := E_b47.keep K62
  replace V_b47 := V_b47.keep K62 (ninS o_b47_b56 nin0)
  replace E_b56 := E_b56.keep K62
  have F_b56_coder := p65
  have F_b56_value := p66
  have V_b59 := p67
  change Go _ _ _ _ _ _ _ _ _ _ _ _ _ _ [b56, b47] h61 3 8 33 #[.val (.int p), .val (.ref b47)] [(.ref b56)]
  exact Go.retA d_method_2_33 rfl rfl rfl (by decide) (by decide) [] sn0 ⟨b56, b59, q60, _, _, rfl, rfl, ge_b56, ge_b59, E_b56, F_b56_coder, F_b56_value, V_b59⟩
abbrev R_m_mis : Room := { frames := 0, cells := 0, slots := 0, locals := 0 }
theorem pn_m_mis : plainFor (⟨"jdk/internal/util/ArraysSupport", "mismatch", "([B[BI)I"⟩ : MethodName) = true := by first | (refine plainFor_of_name ?_; simp [plainName, overriddenIn]; done) | decide +kernel
abbrev Q_m_mis (Z : State) (t : Addr) (s : Addr) (kt : ClassId) (ks : ClassId) (u0 : Int32) (u1 : Int32) (w0 : Int32) (w1 : Int32) (h0 : Heap) : Option Value → Heap → List Addr → Prop := fun res h' SN => ∃ (r : Int32), res = some (.int r) ∧ SN = [] ∧ h0 = h' ∧ (r = (-1 : Int32) ∨ r = (0 : Int32) ∨ r = (1 : Int32)) ∧ (u0 = w0 → u1 = w1 → r = (-1 : Int32))
theorem ef_m_mis (mid : MethodId) (t : Addr) (s : Addr) (kt : ClassId) (ks : ClassId) (u0 : Int32) (u1 : Int32) (w0 : Int32) (w1 : Int32) : entryFrame mid #[(.ref t), (.ref s), (.int (2 : Int32))] 4 = mkF mid 0 #[.val (.ref t), .val (.ref s), .val (.int (2 : Int32)), .unset] [] := by first | (simp [entryFrame, mkF, argsToLocals, Value.category]; done) | rfl
set_option maxRecDepth 65536 in
set_option maxHeartbeats 40000000 in
theorem m_mis {l : Launch} {Z : State} {a0 : Array Value} {n0 : Nat} (hw : ∀ d ∈ tables_1, d.before a0 Z = true) (hs : Stat Z) (t : Addr) (s : Addr) (kt : ClassId) (ks : ClassId) (u0 : Int32) (u1 : Int32) (w0 : Int32) (w1 : Int32) (h0 : Heap) (V_t : Arv Z h0 t kt .byte (2 : Int32) [(.int u0), (.int u1)] (.int (0 : Int32))) (V_s : Arv Z h0 s ks .byte (2 : Int32) [(.int w0), (.int w1)] (.int (0 : Int32))) :
    Met l Z EL0 n0 NR0 KN0 N_12 jdk_48_method_13_code 4 (Option.some Jvm.ClassFile.FieldType.int) R_m_mis [] #[(.ref t), (.ref s), (.int (2 : Int32))] h0 (Q_m_mis Z t s kt ks u0 u1 w0 w1 h0) := by
  refine Met.of_go pn_m_mis (fun mid => ef_m_mis mid t s kt ks u0 u1 w0 w1 ) ?_
  intro hO hWS
  refine Go.iconst (pc' := 1) d_jdk_48_method_13_0 rfl ic_0 ?_
  refine Go.istore_n (pc' := 2) (Ls' := #[.val (.ref t), .val (.ref s), .val (.int (2 : Int32)), .val (.int (0 : Int32))]) d_jdk_48_method_13_1 rfl rfl ?_
  refine Go.iload_n (pc' := 3) d_jdk_48_method_13_2 rfl rfl ?_
  refine Go.bipush (pc' := 5) d_jdk_48_method_13_3 rfl icb_7 ?_
  refine Go.icmpY (pc' := 49) d_jdk_48_method_13_5 (by decide) (by decide) (flt (by decide : ¬ ((7 : Int32) < (2 : Int32)))).2.2.2 ?_
  refine Go.iload_n (pc' := 50) d_jdk_48_method_13_49 rfl rfl ?_
  refine Go.iload_n (pc' := 51) d_jdk_48_method_13_50 rfl rfl ?_
  refine Go.icmpN (pc' := 54) d_jdk_48_method_13_51 rfl (tlt (by decide : (0 : Int32) < (2 : Int32))).2.1 ?_
  refine Go.aload_n (pc' := 55) d_jdk_48_method_13_54 rfl rfl rfl ?_
  refine Go.iload_n (pc' := 56) d_jdk_48_method_13_55 rfl rfl ?_
  refine Go.baloadV (pc' := 57) (v := (.int u0)) d_jdk_48_method_13_56 rfl V_t (by decide) rfl ?_
  refine Go.aload_n (pc' := 58) d_jdk_48_method_13_57 rfl rfl rfl ?_
  refine Go.iload_n (pc' := 59) d_jdk_48_method_13_58 rfl rfl ?_
  refine Go.baloadV (pc' := 60) (v := (.int w0)) d_jdk_48_method_13_59 rfl V_s (by decide) rfl ?_
  by_cases h1 : u0 = w0
  · skip
    refine Go.icmpY (pc' := 65) d_jdk_48_method_13_60 (by decide) (by decide) (teq (h1 : u0 = w0)).1 ?_
    refine Go.iinc (pc' := 68) (Ls' := #[.val (.ref t), .val (.ref s), .val (.int (2 : Int32)), .val (.int ((0 : Int32) + (1 : Int32)))]) d_jdk_48_method_13_65 rfl ic_1 rfl rfl ?_
    rw [show ((0 : Int32) + (1 : Int32)) = (1 : Int32) from by decide]
    refine Go.goto (pc' := 49) d_jdk_48_method_13_68 (by decide) (by decide) ?_
    refine Go.iload_n (pc' := 50) d_jdk_48_method_13_49 rfl rfl ?_
    refine Go.iload_n (pc' := 51) d_jdk_48_method_13_50 rfl rfl ?_
    refine Go.icmpN (pc' := 54) d_jdk_48_method_13_51 rfl (tlt (by decide : (1 : Int32) < (2 : Int32))).2.1 ?_
    refine Go.aload_n (pc' := 55) d_jdk_48_method_13_54 rfl rfl rfl ?_
    refine Go.iload_n (pc' := 56) d_jdk_48_method_13_55 rfl rfl ?_
    refine Go.baloadV (pc' := 57) (v := (.int u1)) d_jdk_48_method_13_56 rfl V_t (by decide) rfl ?_
    refine Go.aload_n (pc' := 58) d_jdk_48_method_13_57 rfl rfl rfl ?_
    refine Go.iload_n (pc' := 59) d_jdk_48_method_13_58 rfl rfl ?_
    refine Go.baloadV (pc' := 60) (v := (.int w1)) d_jdk_48_method_13_59 rfl V_s (by decide) rfl ?_
    by_cases h2 : u1 = w1
    · skip
      refine Go.icmpY (pc' := 65) d_jdk_48_method_13_60 (by decide) (by decide) (teq (h2 : u1 = w1)).1 ?_
      refine Go.iinc (pc' := 68) (Ls' := #[.val (.ref t), .val (.ref s), .val (.int (2 : Int32)), .val (.int ((1 : Int32) + (1 : Int32)))]) d_jdk_48_method_13_65 rfl ic_1 rfl rfl ?_
      rw [show ((1 : Int32) + (1 : Int32)) = (2 : Int32) from by decide]
      refine Go.goto (pc' := 49) d_jdk_48_method_13_68 (by decide) (by decide) ?_
      refine Go.iload_n (pc' := 50) d_jdk_48_method_13_49 rfl rfl ?_
      refine Go.iload_n (pc' := 51) d_jdk_48_method_13_50 rfl rfl ?_
      refine Go.icmpY (pc' := 71) d_jdk_48_method_13_51 (by decide) (by decide) (flt (by decide : ¬ ((2 : Int32) < (2 : Int32)))).2.1 ?_
      refine Go.iconst (pc' := 72) d_jdk_48_method_13_71 rfl ic_m1 ?_
      exact Go.retI d_jdk_48_method_13_72 rfl (by decide) (by decide) [] sn0 ⟨_, rfl, rfl, rfl, Or.inl rfl, fun _ _ => rfl⟩
    · skip
      refine Go.icmpN (pc' := 63) d_jdk_48_method_13_60 rfl (feq (h2 : ¬ (u1 = w1))).1 ?_
      refine Go.iload_n (pc' := 64) d_jdk_48_method_13_63 rfl rfl ?_
      exact Go.retI d_jdk_48_method_13_64 rfl (by decide) (by decide) [] sn0 ⟨_, rfl, rfl, rfl, Or.inr (Or.inr rfl), fun _ q => absurd q h2⟩
  · skip
    refine Go.icmpN (pc' := 63) d_jdk_48_method_13_60 rfl (feq (h1 : ¬ (u0 = w0))).1 ?_
    refine Go.iload_n (pc' := 64) d_jdk_48_method_13_63 rfl rfl ?_
    exact Go.retI d_jdk_48_method_13_64 rfl (by decide) (by decide) [] sn0 ⟨_, rfl, rfl, rfl, Or.inr (Or.inl rfl), fun q _ => absurd q h1⟩
abbrev R_m_gch : Room := { frames := 0, cells := 0, slots := 0, locals := 0 }
theorem pn_m_gch : plainFor (⟨"java/lang/StringLatin1", "getChar", "([BI)C"⟩ : MethodName) = true := by first | (refine plainFor_of_name ?_; simp [plainName, overriddenIn]; done) | decide +kernel
abbrev Q_m_gch (Z : State) (t : Addr) (kt : ClassId) (vs : List Value) (j : Int32) (u : Int32) (h0 : Heap) : Option Value → Heap → List Addr → Prop := fun res h' SN => res = some (.int (u &&& (255 : Int32)).toUInt32.toUInt16.toUInt32.toInt32) ∧ SN = [] ∧ h0 = h'
theorem ef_m_gch (mid : MethodId) (t : Addr) (kt : ClassId) (vs : List Value) (j : Int32) (u : Int32) : entryFrame mid #[(.ref t), (.int j)] 2 = mkF mid 0 #[.val (.ref t), .val (.int j)] [] := by first | (simp [entryFrame, mkF, argsToLocals, Value.category]; done) | rfl
set_option maxRecDepth 65536 in
set_option maxHeartbeats 40000000 in
theorem m_gch {l : Launch} {Z : State} {a0 : Array Value} {n0 : Nat} (hw : ∀ d ∈ tables_1, d.before a0 Z = true) (hs : Stat Z) (t : Addr) (kt : ClassId) (vs : List Value) (j : Int32) (u : Int32) (h0 : Heap) (V_t : Arv Z h0 t kt .byte (2 : Int32) vs (.int (0 : Int32))) (hj : ¬ j < 0 ∧ j < (2 : Int32)) (hu : vs.getD j.toNatClampNeg (.int (0 : Int32)) = .int u) :
    Met l Z EL0 n0 NR0 KN0 N_13 jdk_43_method_44_code 2 (Option.some Jvm.ClassFile.FieldType.char) R_m_gch [] #[(.ref t), (.int j)] h0 (Q_m_gch Z t kt vs j u h0) := by
  refine Met.of_go pn_m_gch (fun mid => ef_m_gch mid t kt vs j u ) ?_
  intro hO hWS
  refine Go.aload_n (pc' := 1) d_jdk_43_method_44_0 rfl rfl rfl ?_
  refine Go.iload_n (pc' := 2) d_jdk_43_method_44_1 rfl rfl ?_
  refine Go.baloadV (pc' := 3) (v := (.int u)) d_jdk_43_method_44_2 rfl V_t hj hu ?_
  refine Go.sipush (pc' := 6) d_jdk_43_method_44_3 rfl ics_255 ?_
  refine Go.iand (pc' := 7) d_jdk_43_method_44_6 rfl ?_
  refine Go.i2c (pc' := 8) d_jdk_43_method_44_7 rfl ?_
  exact Go.retS (ty := .char) d_jdk_43_method_44_8 rfl (by simp) (own_narc u) (by decide) (by decide) [] sn0 ⟨rfl, rfl, rfl⟩
abbrev R_m_cmp4 : Room := { frames := 1, cells := 0, slots := 0, locals := 15 }
theorem pn_m_cmp4 : plainFor (⟨"java/lang/StringLatin1", "compareTo", "([B[BII)I"⟩ : MethodName) = true := by first | (refine plainFor_of_name ?_; simp [plainName, overriddenIn]; done) | decide +kernel
abbrev Q_m_cmp4 (Z : State) (t : Addr) (s : Addr) (kt : ClassId) (ks : ClassId) (u0 : Int32) (u1 : Int32) (w0 : Int32) (w1 : Int32) (h0 : Heap) : Option Value → Heap → List Addr → Prop := fun res h' SN => ∃ (r : Int32), res = some (.int r) ∧ SN = [] ∧ h0 = h' ∧ (u0 = w0 → u1 = w1 → r = (0 : Int32))
theorem ef_m_cmp4 (mid : MethodId) (t : Addr) (s : Addr) (kt : ClassId) (ks : ClassId) (u0 : Int32) (u1 : Int32) (w0 : Int32) (w1 : Int32) : entryFrame mid #[(.ref t), (.ref s), (.int (2 : Int32)), (.int (2 : Int32))] 6 = mkF mid 0 #[.val (.ref t), .val (.ref s), .val (.int (2 : Int32)), .val (.int (2 : Int32)), .unset, .unset] [] := by first | (simp [entryFrame, mkF, argsToLocals, Value.category]; done) | rfl
set_option maxRecDepth 65536 in
set_option maxHeartbeats 40000000 in
theorem m_cmp4 {l : Launch} {Z : State} {a0 : Array Value} {n0 : Nat} (hw : ∀ d ∈ tables_1, d.before a0 Z = true) (hs : Stat Z) (t : Addr) (s : Addr) (kt : ClassId) (ks : ClassId) (u0 : Int32) (u1 : Int32) (w0 : Int32) (w1 : Int32) (h0 : Heap) (V_t : Arv Z h0 t kt .byte (2 : Int32) [(.int u0), (.int u1)] (.int (0 : Int32))) (V_s : Arv Z h0 s ks .byte (2 : Int32) [(.int w0), (.int w1)] (.int (0 : Int32))) :
    Met l Z EL0 n0 NR0 KN0 N_14 jdk_43_method_15_code 6 (Option.some Jvm.ClassFile.FieldType.int) R_m_cmp4 [] #[(.ref t), (.ref s), (.int (2 : Int32)), (.int (2 : Int32))] h0 (Q_m_cmp4 Z t s kt ks u0 u1 w0 w1 h0) := by
  refine Met.of_go pn_m_cmp4 (fun mid => ef_m_cmp4 mid t s kt ks u0 u1 w0 w1 ) ?_
  intro hO hWS
  refine Go.iload_n (pc' := 1) d_jdk_43_method_15_0 rfl rfl ?_
  refine Go.iload_n (pc' := 2) d_jdk_43_method_15_1 rfl rfl ?_
  refine Go.callS (pc' := 5) (z := N_10) d_jdk_43_method_15_2 rfl (w_128 hw) (w_129 hw) (w_76 hw) (w_130 hw) (by decide) (argsL := [(.int (2 : Int32)), (.int (2 : Int32))]) (rest := []) (Pays.of_met (W := 0) (len := 3) (m_min hw hs (2 : Int32) (2 : Int32) h0) (w_130 hw) (w_76 hw) (by decide) (by decide)) rfl rfl (lenOf pd_7 rfl) rfl (Nat.le_of_eq rfl) mem0 (by decide) (by decide) ?_
  rintro _ _ _ - - ⟨rfl, rfl, rfl⟩
  change Go _ _ _ _ _ _ _ _ _ _ _ _ _ _ [] h0 0 0 5 #[.val (.ref t), .val (.ref s), .val (.int (2 : Int32)), .val (.int (2 : Int32)), .unset, .unset] [(.int (if (2 : Int32) < (2 : Int32) then (2 : Int32) else (2 : Int32)))]
  rw [show (if (2 : Int32) < (2 : Int32) then (2 : Int32) else (2 : Int32)) = (2 : Int32) from by decide]
  refine Go.istore (pc' := 7) (Ls' := #[.val (.ref t), .val (.ref s), .val (.int (2 : Int32)), .val (.int (2 : Int32)), .val (.int (2 : Int32)), .unset]) d_jdk_43_method_15_5 rfl rfl ?_
  refine Go.aload_n (pc' := 8) d_jdk_43_method_15_7 rfl rfl rfl ?_
  refine Go.aload_n (pc' := 9) d_jdk_43_method_15_8 rfl rfl rfl ?_
  refine Go.iload (pc' := 11) d_jdk_43_method_15_9 rfl rfl ?_
  refine Go.callS (pc' := 14) (z := N_12) d_jdk_43_method_15_11 rfl (w_131 hw) (w_132 hw) (w_133 hw) (w_134 hw) (by decide) (argsL := [(.ref t), (.ref s), (.int (2 : Int32))]) (rest := []) (Pays.of_met (W := 0) (len := 3) (m_mis hw hs t s kt ks u0 u1 w0 w1 h0 V_t V_s) (w_134 hw) (w_133 hw) (by decide) (by decide)) rfl rfl (lenOf pd_8 rfl) rfl (Nat.le_of_eq rfl) mem0 (by decide) (by decide) ?_
  rintro _ _ _ - - ⟨i69, rfl, rfl, rfl, p70, p71⟩
  change Go _ _ _ _ _ _ _ _ _ _ _ _ _ _ [] h0 0 0 14 #[.val (.ref t), .val (.ref s), .val (.int (2 : Int32)), .val (.int (2 : Int32)), .val (.int (2 : Int32)), .unset] [(.int i69)]
  refine Go.istore (pc' := 16) (Ls' := #[.val (.ref t), .val (.ref s), .val (.int (2 : Int32)), .val (.int (2 : Int32)), .val (.int (2 : Int32)), .val (.int i69)]) d_jdk_43_method_15_14 rfl rfl ?_
  refine Go.iload (pc' := 18) d_jdk_43_method_15_16 rfl rfl ?_
  rcases p70 with rfl | rfl | rfl
  · skip
    refine Go.ifN (pc' := 21) d_jdk_43_method_15_18 rfl ((if0 _ _).trans (tlt (by decide : (-1 : Int32) < (0 : Int32))).2.1) ?_
    refine Go.iload_n (pc' := 22) d_jdk_43_method_15_21 rfl rfl ?_
    refine Go.iload_n (pc' := 23) d_jdk_43_method_15_22 rfl rfl ?_
    refine Go.isub (pc' := 24) d_jdk_43_method_15_23 rfl ?_
    rw [show ((2 : Int32) - (2 : Int32)) = (0 : Int32) from by decide]
    refine Go.goto (pc' := 40) d_jdk_43_method_15_24 (by decide) (by decide) ?_
    exact Go.retI d_jdk_43_method_15_40 rfl (by decide) (by decide) [] sn0 ⟨_, rfl, rfl, rfl, fun _ _ => by decide⟩
  · skip
    refine Go.ifY (pc' := 27) d_jdk_43_method_15_18 (by decide) (by decide) ((if0 _ _).trans (flt (by decide : ¬ ((0 : Int32) < (0 : Int32)))).2.1) ?_
    refine Go.aload_n (pc' := 28) d_jdk_43_method_15_27 rfl rfl rfl ?_
    refine Go.iload (pc' := 30) d_jdk_43_method_15_28 rfl rfl ?_
    refine Go.callS (pc' := 33) (z := N_13) d_jdk_43_method_15_30 rfl (w_135 hw) (w_136 hw) (w_123 hw) (w_137 hw) (by decide) (argsL := [(.ref t), (.int (0 : Int32))]) (rest := []) (Pays.of_met (W := 0) (len := 3) (m_gch hw hs t kt [(.int u0), (.int u1)] (0 : Int32) u0 h0 V_t (by decide) (rfl)) (w_137 hw) (w_123 hw) (by decide) (by decide)) rfl rfl (lenOf pd_9 rfl) rfl (Nat.le_of_eq rfl) mem0 (by decide) (by decide) ?_
    rintro _ _ _ - - ⟨rfl, rfl, rfl⟩
    change Go _ _ _ _ _ _ _ _ _ _ _ _ _ _ [] h0 0 0 33 #[.val (.ref t), .val (.ref s), .val (.int (2 : Int32)), .val (.int (2 : Int32)), .val (.int (2 : Int32)), .val (.int (0 : Int32))] [(.int (u0 &&& (255 : Int32)).toUInt32.toUInt16.toUInt32.toInt32)]
    refine Go.aload_n (pc' := 34) d_jdk_43_method_15_33 rfl rfl rfl ?_
    refine Go.iload (pc' := 36) d_jdk_43_method_15_34 rfl rfl ?_
    refine Go.callS (pc' := 39) (z := N_13) d_jdk_43_method_15_36 rfl (w_135 hw) (w_136 hw) (w_123 hw) (w_137 hw) (by decide) (argsL := [(.ref s), (.int (0 : Int32))]) (rest := [(.int (u0 &&& (255 : Int32)).toUInt32.toUInt16.toUInt32.toInt32)]) (Pays.of_met (W := 1) (len := 3) (m_gch hw hs s ks [(.int w0), (.int w1)] (0 : Int32) w0 h0 V_s (by decide) (rfl)) (w_137 hw) (w_123 hw) (by decide) (by decide)) rfl rfl (lenOf pd_9 rfl) rfl (Nat.le_of_eq rfl) mem0 (by decide) (by decide) ?_
    rintro _ _ _ - - ⟨rfl, rfl, rfl⟩
    change Go _ _ _ _ _ _ _ _ _ _ _ _ _ _ [] h0 0 0 39 #[.val (.ref t), .val (.ref s), .val (.int (2 : Int32)), .val (.int (2 : Int32)), .val (.int (2 : Int32)), .val (.int (0 : Int32))] [(.int (w0 &&& (255 : Int32)).toUInt32.toUInt16.toUInt32.toInt32), (.int (u0 &&& (255 : Int32)).toUInt32.toUInt16.toUInt32.toInt32)]
    refine Go.isub (pc' := 40) d_jdk_43_method_15_39 rfl ?_
    exact Go.retI d_jdk_43_method_15_40 rfl (by decide) (by decide) [] sn0 ⟨_, rfl, rfl, rfl, fun q1 q2 => absurd (p71 q1 q2) (by decide)⟩
  · skip
    refine Go.ifY (pc' := 27) d_jdk_43_method_15_18 (by decide) (by decide) ((if0 _ _).trans (flt (by decide : ¬ ((1 : Int32) < (0 : Int32)))).2.1) ?_
    refine Go.aload_n (pc' := 28) d_jdk_43_method_15_27 rfl rfl rfl ?_
    refine Go.iload (pc' := 30) d_jdk_43_method_15_28 rfl rfl ?_
    refine Go.callS (pc' := 33) (z := N_13) d_jdk_43_method_15_30 rfl (w_135 hw) (w_136 hw) (w_123 hw) (w_137 hw) (by decide) (argsL := [(.ref t), (.int (1 : Int32))]) (rest := []) (Pays.of_met (W := 0) (len := 3) (m_gch hw hs t kt [(.int u0), (.int u1)] (1 : Int32) u1 h0 V_t (by decide) (rfl)) (w_137 hw) (w_123 hw) (by decide) (by decide)) rfl rfl (lenOf pd_9 rfl) rfl (Nat.le_of_eq rfl) mem0 (by decide) (by decide) ?_
    rintro _ _ _ - - ⟨rfl, rfl, rfl⟩
    change Go _ _ _ _ _ _ _ _ _ _ _ _ _ _ [] h0 0 0 33 #[.val (.ref t), .val (.ref s), .val (.int (2 : Int32)), .val (.int (2 : Int32)), .val (.int (2 : Int32)), .val (.int (1 : Int32))] [(.int (u1 &&& (255 : Int32)).toUInt32.toUInt16.toUInt32.toInt32)]
    refine Go.aload_n (pc' := 34) d_jdk_43_method_15_33 rfl rfl rfl ?_
    refine Go.iload (pc' := 36) d_jdk_43_method_15_34 rfl rfl ?_
    refine Go.callS (pc' := 39) (z := N_13) d_jdk_43_method_15_36 rfl (w_135 hw) (w_136 hw) (w_123 hw) (w_137 hw) (by decide) (argsL := [(.ref s), (.int (1 : Int32))]) (rest := [(.int (u1 &&& (255 : Int32)).toUInt32.toUInt16.toUInt32.toInt32)]) (Pays.of_met (W := 1) (len := 3) (m_gch hw hs s ks [(.int w0), (.int w1)] (1 : Int32) w1 h0 V_s (by decide) (rfl)) (w_137 hw) (w_123 hw) (by decide) (by decide)) rfl rfl (lenOf pd_9 rfl) rfl (Nat.le_of_eq rfl) mem0 (by decide) (by decide) ?_
    rintro _ _ _ - - ⟨rfl, rfl, rfl⟩
    change Go _ _ _ _ _ _ _ _ _ _ _ _ _ _ [] h0 0 0 39 #[.val (.ref t), .val (.ref s), .val (.int (2 : Int32)), .val (.int (2 : Int32)), .val (.int (2 : Int32)), .val (.int (1 : Int32))] [(.int (w1 &&& (255 : Int32)).toUInt32.toUInt16.toUInt32.toInt32), (.int (u1 &&& (255 : Int32)).toUInt32.toUInt16.toUInt32.toInt32)]
    refine Go.isub (pc' := 40) d_jdk_43_method_15_39 rfl ?_
    exact Go.retI d_jdk_43_method_15_40 rfl (by decide) (by decide) [] sn0 ⟨_, rfl, rfl, rfl, fun q1 q2 => absurd (p71 q1 q2) (by decide)⟩
abbrev R_m_cmp2 : Room := { frames := 2, cells := 0, slots := 0, locals := 32 }
theorem pn_m_cmp2 : plainFor (⟨"java/lang/StringLatin1", "compareTo", "([B[B)I"⟩ : MethodName) = true := by first | (refine plainFor_of_name ?_; simp [plainName, overriddenIn]; done) | decide +kernel
abbrev Q_m_cmp2 (Z : State) (t : Addr) (s : Addr) (kt : ClassId) (ks : ClassId) (u0 : Int32) (u1 : Int32) (w0 : Int32) (w1 : Int32) (h0 : Heap) : Option Value → Heap → List Addr → Prop := fun res h' SN => ∃ (r : Int32), res = some (.int r) ∧ SN = [] ∧ h0 = h' ∧ (u0 = w0 → u1 = w1 → r = (0 : Int32))
theorem ef_m_cmp2 (mid : MethodId) (t : Addr) (s : Addr) (kt : ClassId) (ks : ClassId) (u0 : Int32) (u1 : Int32) (w0 : Int32) (w1 : Int32) : entryFrame mid #[(.ref t), (.ref s)] 4 = mkF mid 0 #[.val (.ref t), .val (.ref s), .unset, .unset] [] := by first | (simp [entryFrame, mkF, argsToLocals, Value.category]; done) | rfl
set_option maxRecDepth 65536 in
set_option maxHeartbeats 40000000 in
theorem m_cmp2 {l : Launch} {Z : State} {a0 : Array Value} {n0 : Nat} (hw : ∀ d ∈ tables_1, d.before a0 Z = true) (hs : Stat Z) (t : Addr) (s : Addr) (kt : ClassId) (ks : ClassId) (u0 : Int32) (u1 : Int32) (w0 : Int32) (w1 : Int32) (h0 : Heap) (V_t : Arv Z h0 t kt .byte (2 : Int32) [(.int u0), (.int u1)] (.int (0 : Int32))) (V_s : Arv Z h0 s ks .byte (2 : Int32) [(.int w0), (.int w1)] (.int (0 : Int32))) :
    Met l Z EL0 n0 NR0 KN0 N_15 jdk_43_method_14_code 4 (Option.some Jvm.ClassFile.FieldType.int) R_m_cmp2 [] #[(.ref t), (.ref s)] h0 (Q_m_cmp2 Z t s kt ks u0 u1 w0 w1 h0) := by
  refine Met.of_go pn_m_cmp2 (fun mid => ef_m_cmp2 mid t s kt ks u0 u1 w0 w1 ) ?_
  intro hO hWS
  refine Go.aload_n (pc' := 1) d_jdk_43_method_14_0 rfl rfl rfl ?_
  refine Go.lenV (pc' := 2) d_jdk_43_method_14_1 rfl V_t ?_
  refine Go.istore_n (pc' := 3) (Ls' := #[.val (.ref t), .val (.ref s), .val (.int (2 : Int32)), .unset]) d_jdk_43_method_14_2 rfl rfl ?_
  refine Go.aload_n (pc' := 4) d_jdk_43_method_14_3 rfl rfl rfl ?_
  refine Go.lenV (pc' := 5) d_jdk_43_method_14_4 rfl V_s ?_
  refine Go.istore_n (pc' := 6) (Ls' := #[.val (.ref t), .val (.ref s), .val (.int (2 : Int32)), .val (.int (2 : Int32))]) d_jdk_43_method_14_5 rfl rfl ?_
  refine Go.aload_n (pc' := 7) d_jdk_43_method_14_6 rfl rfl rfl ?_
  refine Go.aload_n (pc' := 8) d_jdk_43_method_14_7 rfl rfl rfl ?_
  refine Go.iload_n (pc' := 9) d_jdk_43_method_14_8 rfl rfl ?_
  refine Go.iload_n (pc' := 10) d_jdk_43_method_14_9 rfl rfl ?_
  refine Go.callS (pc' := 13) (z := N_14) d_jdk_43_method_14_10 rfl (w_125 hw) (w_126 hw) (w_123 hw) (w_127 hw) (by decide) (argsL := [(.ref t), (.ref s), (.int (2 : Int32)), (.int (2 : Int32))]) (rest := []) (Pays.of_met (W := 0) (len := 3) (m_cmp4 hw hs t s kt ks u0 u1 w0 w1 h0 V_t V_s) (w_127 hw) (w_123 hw) (by decide) (by decide)) rfl rfl (lenOf pd_10 rfl) rfl (Nat.le_of_eq rfl) mem0 (by decide) (by decide) ?_
  rintro _ _ _ - - ⟨i72, rfl, rfl, rfl, p73⟩
  change Go _ _ _ _ _ _ _ _ _ _ _ _ _ _ [] h0 0 0 13 #[.val (.ref t), .val (.ref s), .val (.int (2 : Int32)), .val (.int (2 : Int32))] [(.int i72)]
  exact Go.retI d_jdk_43_method_14_13 rfl (by decide) (by decide) [] sn0 ⟨_, rfl, rfl, rfl, p73⟩
abbrev R_m_cto : Room := { frames := 3, cells := 0, slots := 0, locals := 47 }
theorem pn_m_cto : plainFor (⟨"java/lang/String", "compareTo", "(Ljava/lang/String;)I"⟩ : MethodName) = true := by first | (refine plainFor_of_name ?_; simp [plainName, overriddenIn]; done) | decide +kernel
abbrev Q_m_cto (Z : State) (a : Addr) (b : Addr) (t : Addr) (s : Addr) (kt : ClassId) (ks : ClassId) (u0 : Int32) (u1 : Int32) (w0 : Int32) (w1 : Int32) (h0 : Heap) : Option Value → Heap → List Addr → Prop := fun res h' SN => ∃ (r : Int32), res = some (.int r) ∧ SN = [] ∧ h0 = h' ∧ (u0 = w0 → u1 = w1 → r = (0 : Int32))
theorem ef_m_cto (mid : MethodId) (a : Addr) (b : Addr) (t : Addr) (s : Addr) (kt : ClassId) (ks : ClassId) (u0 : Int32) (u1 : Int32) (w0 : Int32) (w1 : Int32) : entryFrame mid #[(.ref a), (.ref b)] 5 = mkF mid 0 #[.val (.ref a), .val (.ref b), .unset, .unset, .unset] [] := by first | (simp [entryFrame, mkF, argsToLocals, Value.category]; done) | rfl
set_option maxRecDepth 65536 in
set_option maxHeartbeats 40000000 in
theorem m_cto {l : Launch} {Z : State} {a0 : Array Value} {n0 : Nat} (hw : ∀ d ∈ tables_1, d.before a0 Z = true) (hs : Stat Z) (a : Addr) (b : Addr) (t : Addr) (s : Addr) (kt : ClassId) (ks : ClassId) (u0 : Int32) (u1 : Int32) (w0 : Int32) (w1 : Int32) (h0 : Heap) (E_a : Exa Z h0 a "java/lang/String") (F_a_coder : Fld Z h0 a "java/lang/String" "coder" "B" (.int (0 : Int32))) (F_a_value : Fld Z h0 a "java/lang/String" "value" "[B" (.ref t)) (V_t : Arv Z h0 t kt .byte (2 : Int32) [(.int u0), (.int u1)] (.int (0 : Int32))) (E_b : Exa Z h0 b "java/lang/String") (F_b_coder : Fld Z h0 b "java/lang/String" "coder" "B" (.int (0 : Int32))) (F_b_value : Fld Z h0 b "java/lang/String" "value" "[B" (.ref s)) (V_s : Arv Z h0 s ks .byte (2 : Int32) [(.int w0), (.int w1)] (.int (0 : Int32))) :
    Met l Z EL0 n0 NR0 KN0 N_16 jdk_42_method_71_code 5 (Option.some Jvm.ClassFile.FieldType.int) R_m_cto [] #[(.ref a), (.ref b)] h0 (Q_m_cto Z a b t s kt ks u0 u1 w0 w1 h0) := by
  refine Met.of_go pn_m_cto (fun mid => ef_m_cto mid a b t s kt ks u0 u1 w0 w1 ) ?_
  intro hO hWS
  refine Go.aload_n (pc' := 1) d_jdk_42_method_71_0 rfl rfl rfl ?_
  refine Go.getF (pc' := 4) d_jdk_42_method_71_1 rfl (host := "") (Or.inl (w_32 hw)) Via.refl F_a_value ?_
  refine Go.astore_n (pc' := 5) (Ls' := #[.val (.ref a), .val (.ref b), .val (.ref t), .unset, .unset]) d_jdk_42_method_71_4 rfl rfl rfl ?_
  refine Go.aload_n (pc' := 6) d_jdk_42_method_71_5 rfl rfl rfl ?_
  refine Go.getF (pc' := 9) d_jdk_42_method_71_6 rfl (host := "") (Or.inl (w_32 hw)) Via.refl F_b_value ?_
  refine Go.astore_n (pc' := 10) (Ls' := #[.val (.ref a), .val (.ref b), .val (.ref t), .val (.ref s), .unset]) d_jdk_42_method_71_9 rfl rfl rfl ?_
  refine Go.aload_n (pc' := 11) d_jdk_42_method_71_10 rfl rfl rfl ?_
  refine Go.callV (pc' := 14) (u := N_8) (z := N_8) (a := a) d_jdk_42_method_71_11 rfl (w_116 hw) (w_117 hw) (nf (w_119 hw) rfl) (w_119 hw) (w_118 hw) (by decide) E_a (argsL := []) (rest := []) (Pays.of_met (W := 0) (len := 3) (m_coder hw hs a h0 F_a_coder) (w_120 hw) (w_7 hw) (by decide) (by decide)) rfl rfl (lenOf pd_11 rfl) rfl (Nat.le_of_eq rfl) mem0 (by decide) (by decide) ?_
  rintro _ _ _ - - ⟨rfl, rfl, rfl⟩
  change Go _ _ _ _ _ _ _ _ _ _ _ _ _ _ [] h0 0 0 14 #[.val (.ref a), .val (.ref b), .val (.ref t), .val (.ref s), .unset] [(.int (0 : Int32))]
  refine Go.istore (pc' := 16) (Ls' := #[.val (.ref a), .val (.ref b), .val (.ref t), .val (.ref s), .val (.int (0 : Int32))]) d_jdk_42_method_71_14 rfl rfl ?_
  refine Go.iload (pc' := 18) d_jdk_42_method_71_16 rfl rfl ?_
  refine Go.aload_n (pc' := 19) d_jdk_42_method_71_18 rfl rfl rfl ?_
  refine Go.callV (pc' := 22) (u := N_8) (z := N_8) (a := b) d_jdk_42_method_71_19 rfl (w_116 hw) (w_117 hw) (nf (w_119 hw) rfl) (w_119 hw) (w_118 hw) (by decide) E_b (argsL := []) (rest := [(.int (0 : Int32))]) (Pays.of_met (W := 1) (len := 3) (m_coder hw hs b h0 F_b_coder) (w_120 hw) (w_7 hw) (by decide) (by decide)) rfl rfl (lenOf pd_11 rfl) rfl (Nat.le_of_eq rfl) mem0 (by decide) (by decide) ?_
  rintro _ _ _ - - ⟨rfl, rfl, rfl⟩
  change Go _ _ _ _ _ _ _ _ _ _ _ _ _ _ [] h0 0 0 22 #[.val (.ref a), .val (.ref b), .val (.ref t), .val (.ref s), .val (.int (0 : Int32))] [(.int (0 : Int32)), (.int (0 : Int32))]
  refine Go.icmpN (pc' := 25) d_jdk_42_method_71_22 rfl (teq (rfl : (0 : Int32) = (0 : Int32))).2 ?_
  refine Go.iload (pc' := 27) d_jdk_42_method_71_25 rfl rfl ?_
  refine Go.ifN (pc' := 30) d_jdk_42_method_71_27 rfl ((if0 _ _).trans (teq (rfl : (0 : Int32) = (0 : Int32))).2) ?_
  refine Go.aload_n (pc' := 31) d_jdk_42_method_71_30 rfl rfl rfl ?_
  refine Go.aload_n (pc' := 32) d_jdk_42_method_71_31 rfl rfl rfl ?_
  refine Go.callS (pc' := 35) (z := N_15) d_jdk_42_method_71_32 rfl (w_121 hw) (w_122 hw) (w_123 hw) (w_124 hw) (by decide) (argsL := [(.ref t), (.ref s)]) (rest := []) (Pays.of_met (W := 0) (len := 3) (m_cmp2 hw hs t s kt ks u0 u1 w0 w1 h0 V_t V_s) (w_124 hw) (w_123 hw) (by decide) (by decide)) rfl rfl (lenOf pd_12 rfl) rfl (Nat.le_of_eq rfl) mem0 (by decide) (by decide) ?_
  rintro _ _ _ - - ⟨i74, rfl, rfl, rfl, p75⟩
  change Go _ _ _ _ _ _ _ _ _ _ _ _ _ _ [] h0 0 0 35 #[.val (.ref a), .val (.ref b), .val (.ref t), .val (.ref s), .val (.int (0 : Int32))] [(.int i74)]
  refine Go.goto (pc' := 43) d_jdk_42_method_71_35 (by decide) (by decide) ?_
  exact Go.retI d_jdk_42_method_71_43 rfl (by decide) (by decide) [] sn0 ⟨_, rfl, rfl, rfl, p75⟩
abbrev R_m_rnn2 : Room := { frames := 0, cells := 0, slots := 0, locals := 0 }
theorem pn_m_rnn2 : plainFor (⟨"java/util/Objects", "requireNonNull", "(Ljava/lang/Object;Ljava/lang/String;)Ljava/lang/Object;"⟩ : MethodName) = true := by first | (refine plainFor_of_name ?_; simp [plainName, overriddenIn]; done) | decide +kernel
abbrev Q_m_rnn2 (Z : State) (y : Addr) (s : Addr) (h0 : Heap) : Option Value → Heap → List Addr → Prop := fun res h' SN => res = some (.ref y) ∧ SN = [] ∧ h0 = h'
theorem ef_m_rnn2 (mid : MethodId) (y : Addr) (s : Addr) : entryFrame mid #[(.ref y), (.ref s)] 2 = mkF mid 0 #[.val (.ref y), .val (.ref s)] [] := by first | (simp [entryFrame, mkF, argsToLocals, Value.category]; done) | rfl
set_option maxRecDepth 65536 in
set_option maxHeartbeats 40000000 in
theorem m_rnn2 {l : Launch} {Z : State} {a0 : Array Value} {n0 : Nat} (hw : ∀ d ∈ tables_1, d.before a0 Z = true) (hs : Stat Z) (y : Addr) (s : Addr) (h0 : Heap) :
    Met l Z EL0 n0 NR0 KN0 N_17 jdk_31_method_11_code 2 (Option.some (Jvm.ClassFile.FieldType.object "java/lang/Object")) R_m_rnn2 [] #[(.ref y), (.ref s)] h0 (Q_m_rnn2 Z y s h0) := by
  refine Met.of_go pn_m_rnn2 (fun mid => ef_m_rnn2 mid y s ) ?_
  intro hO hWS
  refine Go.aload_n (pc' := 1) d_jdk_31_method_11_0 rfl rfl rfl ?_
  refine Go.ifnonnullY (pc' := 13) d_jdk_31_method_11_1 (by decide) (by decide) ?_
  refine Go.aload_n (pc' := 14) d_jdk_31_method_11_13 rfl rfl rfl ?_
  exact Go.retA d_jdk_31_method_11_14 rfl rfl rfl (by decide) (by decide) [] sn0 ⟨rfl, rfl, rfl⟩
abbrev R_m_ainit : Room := { frames := 1, cells := 0, slots := 0, locals := 12 }
theorem pn_m_ainit : plainFor (⟨"com/example/beleg/beleg/Attributes", "<init>", "()V"⟩ : MethodName) = true := by first | (refine plainFor_of_name ?_; simp [plainName, overriddenIn]; done) | decide +kernel
abbrev Q_m_ainit (Z : State) (a : Addr) (h0 : Heap) : Option Value → Heap → List Addr → Prop := fun res h' SN => res = none ∧ SN = [] ∧ h0 = h'
theorem ef_m_ainit (mid : MethodId) (a : Addr) : entryFrame mid #[(.ref a)] 1 = mkF mid 0 #[.val (.ref a)] [] := by first | (simp [entryFrame, mkF, argsToLocals, Value.category]; done) | rfl
set_option maxRecDepth 65536 in
set_option maxHeartbeats 40000000 in
theorem m_ainit {l : Launch} {Z : State} {a0 : Array Value} {n0 : Nat} (hw : ∀ d ∈ tables_1, d.before a0 Z = true) (hs : Stat Z) (a : Addr) (h0 : Heap) :
    Met l Z EL0 n0 NR0 KN0 N_18 prog_3_method_1_code 1 (Option.none : Option Jvm.ClassFile.FieldType) R_m_ainit [] #[(.ref a)] h0 (Q_m_ainit Z a h0) := by
  refine Met.of_go pn_m_ainit (fun mid => ef_m_ainit mid a ) ?_
  intro hO hWS
  refine Go.aload_n (pc' := 1) d_prog_3_method_1_0 rfl rfl rfl ?_
  refine Go.initO (pc' := 4) (W := 0) d_prog_3_method_1_1 rfl (w_47 hw) (w_16 hw) (w_17 hw) rfl (by decide) (Nat.le_of_eq rfl) (by decide) ?_
  exact Go.retV d_prog_3_method_1_4 rfl (by decide) (by decide) [] sn0 ⟨rfl, rfl, rfl⟩
abbrev R_m_name : Room := { frames := 0, cells := 0, slots := 0, locals := 0 }
theorem pn_m_name : plainFor (⟨"com/example/beleg/beleg/Attributes", "name", "(I)Ljava/lang/String;"⟩ : MethodName) = true := by first | (refine plainFor_of_name ?_; simp [plainName, overriddenIn]; done) | decide +kernel
abbrev Q_m_name (Z : State) (a : Addr) (e : Addr) (ke : ClassId) (s : Addr) (y : Addr) (h0 : Heap) : Option Value → Heap → List Addr → Prop := fun res h' SN => res = some (.ref s) ∧ SN = [] ∧ h0 = h'
theorem ef_m_name (mid : MethodId) (a : Addr) (e : Addr) (ke : ClassId) (s : Addr) (y : Addr) : entryFrame mid #[(.ref a), (.int (0 : Int32))] 2 = mkF mid 0 #[.val (.ref a), .val (.int (0 : Int32))] [] := by first | (simp [entryFrame, mkF, argsToLocals, Value.category]; done) | rfl
set_option maxRecDepth 65536 in
set_option maxHeartbeats 40000000 in
theorem m_name {l : Launch} {Z : State} {a0 : Array Value} {n0 : Nat} (hw : ∀ d ∈ tables_1, d.before a0 Z = true) (hs : Stat Z) (a : Addr) (e : Addr) (ke : ClassId) (s : Addr) (y : Addr) (h0 : Heap) (F_a_entries : Fld Z h0 a "com/example/beleg/beleg/Attributes" "entries" "[Ljava/lang/Object;" (.ref e)) (V_e : Arv Z h0 e ke (.object "java/lang/Object") (8 : Int32) [(.ref s), (.ref y), .null, .null, .null, .null, .null, .null] .null) (E_s : Exa Z h0 s "java/lang/String") :
    Met l Z EL0 n0 NR0 KN0 N_19 prog_3_method_12_code 2 (Option.some (Jvm.ClassFile.FieldType.object "java/lang/String")) R_m_name [] #[(.ref a), (.int (0 : Int32))] h0 (Q_m_name Z a e ke s y h0) := by
  refine Met.of_go pn_m_name (fun mid => ef_m_name mid a e ke s y ) ?_
  intro hO hWS
  refine Go.aload_n (pc' := 1) d_prog_3_method_12_0 rfl rfl rfl ?_
  refine Go.getF (pc' := 4) d_prog_3_method_12_1 rfl (host := "") (Or.inl (w_72 hw)) Via.refl F_a_entries ?_
  refine Go.iconst (pc' := 5) d_prog_3_method_12_4 rfl ic_2 ?_
  refine Go.iload_n (pc' := 6) d_prog_3_method_12_5 rfl rfl ?_
  refine Go.imul (pc' := 7) d_prog_3_method_12_6 rfl ?_
  rw [show ((2 : Int32) * (0 : Int32)) = (0 : Int32) from by decide]
  refine Go.aaloadV (pc' := 8) (v := (.ref s)) d_prog_3_method_12_7 rfl V_e rfl (by decide) rfl ?_
  refine Go.castY (pc' := 11) d_prog_3_method_12_8 rfl (w_110 hw) (Ins.self E_s) ?_
  exact Go.retA d_prog_3_method_12_11 rfl rfl rfl (by decide) (by decide) [] sn0 ⟨rfl, rfl, rfl⟩
abbrev R_m_idx0 : Room := { frames := 1, cells := 2, slots := 20, locals := 13 }
theorem pn_m_idx0 : plainFor (⟨"com/example/beleg/beleg/Attributes", "indexOf", "(Ljava/lang/String;)I"⟩ : MethodName) = true := by first | (refine plainFor_of_name ?_; simp [plainName, overriddenIn]; done) | decide +kernel
abbrev Q_m_idx0 (Z : State) (a : Addr) (n : Addr) (h0 : Heap) : Option Value → Heap → List Addr → Prop := fun res h' SN => res = some (.int (-1 : Int32)) ∧ SN = [] ∧ True
theorem ef_m_idx0 (mid : MethodId) (a : Addr) (n : Addr) : entryFrame mid #[(.ref a), (.ref n)] 6 = mkF mid 0 #[.val (.ref a), .val (.ref n), .unset, .unset, .unset, .unset] [] := by first | (simp [entryFrame, mkF, argsToLocals, Value.category]; done) | rfl
set_option maxRecDepth 65536 in
set_option maxHeartbeats 40000000 in
theorem m_idx0 {l : Launch} {Z : State} {a0 : Array Value} {n0 : Nat} (hw : ∀ d ∈ tables_1, d.before a0 Z = true) (hs : Stat Z) (a : Addr) (n : Addr) (h0 : Heap) (F_a_size : Fld Z h0 a "com/example/beleg/beleg/Attributes" "size" "I" (.int (0 : Int32))) :
    Met l Z EL0 n0 NR0 KN0 N_20 prog_3_method_13_code 6 (Option.some Jvm.ClassFile.FieldType.int) R_m_idx0 [] #[(.ref a), (.ref n)] h0 (Q_m_idx0 Z a n h0) := by
  refine Met.of_go pn_m_idx0 (fun mid => ef_m_idx0 mid a n ) ?_
  intro hO hWS
  refine Go.aload_n (pc' := 1) d_prog_3_method_13_0 rfl rfl rfl ?_
  refine Go.ldcO (pc' := 3) (nn := 16) rfl d_prog_3_method_13_1 rfl (w_59 hw) (sA hw) (by decide) (by decide) (by decide) (by decide) ?_
  intro h76 s77 x78
  replace F_a_size := F_a_size.ext x78
  change Go _ _ _ _ _ _ _ _ _ _ _ _ _ _ [] h76 2 20 3 #[.val (.ref a), .val (.ref n), .unset, .unset, .unset, .unset] [(.ref s77), (.ref n)]
  refine Go.callS (pc' := 6) (z := N_17) d_prog_3_method_13_3 rfl (w_62 hw) (w_63 hw) (w_64 hw) (w_65 hw) (by decide) (argsL := [(.ref n), (.ref s77)]) (rest := []) (Pays.of_met (W := 0) (len := 3) (m_rnn2 hw hs n s77 h76) (w_65 hw) (w_64 hw) (by decide) (by decide)) rfl rfl (lenOf pd_13 rfl) rfl (Nat.le_of_eq rfl) mem0 (by decide) (by decide) ?_
  rintro _ _ _ - - ⟨rfl, rfl, rfl⟩
  change Go _ _ _ _ _ _ _ _ _ _ _ _ _ _ [] h76 2 20 6 #[.val (.ref a), .val (.ref n), .unset, .unset, .unset, .unset] [(.ref n)]
  refine Go.pop (pc' := 7) d_prog_3_method_13_6 rfl rfl ?_
  refine Go.iconst (pc' := 8) d_prog_3_method_13_7 rfl ic_0 ?_
  refine Go.istore_n (pc' := 9) (Ls' := #[.val (.ref a), .val (.ref n), .val (.int (0 : Int32)), .unset, .unset, .unset]) d_prog_3_method_13_8 rfl rfl ?_
  refine Go.aload_n (pc' := 10) d_prog_3_method_13_9 rfl rfl rfl ?_
  refine Go.getF (pc' := 13) d_prog_3_method_13_10 rfl (host := "") (Or.inl (w_66 hw)) Via.refl F_a_size ?_
  refine Go.iconst (pc' := 14) d_prog_3_method_13_13 rfl ic_1 ?_
  refine Go.isub (pc' := 15) d_prog_3_method_13_14 rfl ?_
  rw [show ((0 : Int32) - (1 : Int32)) = (-1 : Int32) from by decide]
  refine Go.istore_n (pc' := 16) (Ls' := #[.val (.ref a), .val (.ref n), .val (.int (0 : Int32)), .val (.int (-1 : Int32)), .unset, .unset]) d_prog_3_method_13_15 rfl rfl ?_
  refine Go.iload_n (pc' := 17) d_prog_3_method_13_16 rfl rfl ?_
  refine Go.iload_n (pc' := 18) d_prog_3_method_13_17 rfl rfl ?_
  refine Go.icmpY (pc' := 69) d_prog_3_method_13_18 (by decide) (by decide) (tlt (by decide : (-1 : Int32) < (0 : Int32))).2.2.1 ?_
  refine Go.iload_n (pc' := 70) d_prog_3_method_13_69 rfl rfl ?_
  refine Go.ineg (pc' := 71) d_prog_3_method_13_70 rfl ?_
  rw [show (-(0 : Int32)) = (0 : Int32) from by decide]
  refine Go.iconst (pc' := 72) d_prog_3_method_13_71 rfl ic_1 ?_
  refine Go.isub (pc' := 73) d_prog_3_method_13_72 rfl ?_
  rw [show ((0 : Int32) - (1 : Int32)) = (-1 : Int32) from by decide]
  exact Go.retI d_prog_3_method_13_73 rfl (by decide) (by decide) [] sn0 ⟨rfl, rfl, trivial⟩
abbrev R_m_idx1s : Room := { frames := 4, cells := 2, slots := 20, locals := 63 }
theorem pn_m_idx1s : plainFor (⟨"com/example/beleg/beleg/Attributes", "indexOf", "(Ljava/lang/String;)I"⟩ : MethodName) = true := by first | (refine plainFor_of_name ?_; simp [plainName, overriddenIn]; done) | decide +kernel
abbrev Q_m_idx1s (Z : State) (a : Addr) (s : Addr) (e : Addr) (ke : ClassId) (y : Addr) (t : Addr) (kt : ClassId) (u0 : Int32) (u1 : Int32) (h0 : Heap) : Option Value → Heap → List Addr → Prop := fun res h' SN => res = some (.int (0 : Int32)) ∧ SN = [] ∧ True
theorem ef_m_idx1s (mid : MethodId) (a : Addr) (s : Addr) (e : Addr) (ke : ClassId) (y : Addr) (t : Addr) (kt : ClassId) (u0 : Int32) (u1 : Int32) : entryFrame mid #[(.ref a), (.ref s)] 6 = mkF mid 0 #[.val (.ref a), .val (.ref s), .unset, .unset, .unset, .unset] [] := by first | (simp [entryFrame, mkF, argsToLocals, Value.category]; done) | rfl
set_option maxRecDepth 65536 in
set_option maxHeartbeats 40000000 in
theorem m_idx1s {l : Launch} {Z : State} {a0 : Array Value} {n0 : Nat} (hw : ∀ d ∈ tables_1, d.before a0 Z = true) (hs : Stat Z) (a : Addr) (s : Addr) (e : Addr) (ke : ClassId) (y : Addr) (t : Addr) (kt : ClassId) (u0 : Int32) (u1 : Int32) (h0 : Heap) (E_a : Exa Z h0 a "com/example/beleg/beleg/Attributes") (F_a_size : Fld Z h0 a "com/example/beleg/beleg/Attributes" "size" "I" (.int (1 : Int32))) (F_a_entries : Fld Z h0 a "com/example/beleg/beleg/Attributes" "entries" "[Ljava/lang/Object;" (.ref e)) (V_e : Arv Z h0 e ke (.object "java/lang/Object") (8 : Int32) [(.ref s), (.ref y), .null, .null, .null, .null, .null, .null] .null) (E_s : Exa Z h0 s "java/lang/String") (F_s_coder : Fld Z h0 s "java/lang/String" "coder" "B" (.int (0 : Int32))) (F_s_value : Fld Z h0 s "java/lang/String" "value" "[B" (.ref t)) (V_t : Arv Z h0 t kt .byte (2 : Int32) [(.int u0), (.int u1)] (.int (0 : Int32))) :
    Met l Z EL0 n0 NR0 KN0 N_20 prog_3_method_13_code 6 (Option.some Jvm.ClassFile.FieldType.int) R_m_idx1s [] #[(.ref a), (.ref s)] h0 (Q_m_idx1s Z a s e ke y t kt u0 u1 h0) := by
  refine Met.of_go pn_m_idx1s (fun mid => ef_m_idx1s mid a s e ke y t kt u0 u1 ) ?_
  intro hO hWS
  refine Go.aload_n (pc' := 1) d_prog_3_method_13_0 rfl rfl rfl ?_
  refine Go.ldcO (pc' := 3) (nn := 16) rfl d_prog_3_method_13_1 rfl (w_59 hw) (sA hw) (by decide) (by decide) (by decide) (by decide) ?_
  intro h79 s80 x81
  replace E_a := E_a.ext x81
  replace F_a_size := F_a_size.ext x81
  replace F_a_entries := F_a_entries.ext x81
  replace V_e := V_e.ext x81
  replace E_s := E_s.ext x81
  replace F_s_coder := F_s_coder.ext x81
  replace F_s_value := F_s_value.ext x81
  replace V_t := V_t.ext x81
  change Go _ _ _ _ _ _ _ _ _ _ _ _ _ _ [] h79 2 20 3 #[.val (.ref a), .val (.ref s), .unset, .unset, .unset, .unset] [(.ref s80), (.ref s)]
  refine Go.callS (pc' := 6) (z := N_17) d_prog_3_method_13_3 rfl (w_62 hw) (w_63 hw) (w_64 hw) (w_65 hw) (by decide) (argsL := [(.ref s), (.ref s80)]) (rest := []) (Pays.of_met (W := 0) (len := 3) (m_rnn2 hw hs s s80 h79) (w_65 hw) (w_64 hw) (by decide) (by decide)) rfl rfl (lenOf pd_13 rfl) rfl (Nat.le_of_eq rfl) mem0 (by decide) (by decide) ?_
  rintro _ _ _ - - ⟨rfl, rfl, rfl⟩
  change Go _ _ _ _ _ _ _ _ _ _ _ _ _ _ [] h79 2 20 6 #[.val (.ref a), .val (.ref s), .unset, .unset, .unset, .unset] [(.ref s)]
  refine Go.pop (pc' := 7) d_prog_3_method_13_6 rfl rfl ?_
  refine Go.iconst (pc' := 8) d_prog_3_method_13_7 rfl ic_0 ?_
  refine Go.istore_n (pc' := 9) (Ls' := #[.val (.ref a), .val (.ref s), .val (.int (0 : Int32)), .unset, .unset, .unset]) d_prog_3_method_13_8 rfl rfl ?_
  refine Go.aload_n (pc' := 10) d_prog_3_method_13_9 rfl rfl rfl ?_
  refine Go.getF (pc' := 13) d_prog_3_method_13_10 rfl (host := "") (Or.inl (w_66 hw)) Via.refl F_a_size ?_
  refine Go.iconst (pc' := 14) d_prog_3_method_13_13 rfl ic_1 ?_
  refine Go.isub (pc' := 15) d_prog_3_method_13_14 rfl ?_
  rw [show ((1 : Int32) - (1 : Int32)) = (0 : Int32) from by decide]
  refine Go.istore_n (pc' := 16) (Ls' := #[.val (.ref a), .val (.ref s), .val (.int (0 : Int32)), .val (.int (0 : Int32)), .unset, .unset]) d_prog_3_method_13_15 rfl rfl ?_
  refine Go.iload_n (pc' := 17) d_prog_3_method_13_16 rfl rfl ?_
  refine Go.iload_n (pc' := 18) d_prog_3_method_13_17 rfl rfl ?_
  refine Go.icmpN (pc' := 21) d_prog_3_method_13_18 rfl (flt (by decide : ¬ ((0 : Int32) < (0 : Int32)))).2.2.1 ?_
  refine Go.iload_n (pc' := 22) d_prog_3_method_13_21 rfl rfl ?_
  refine Go.iload_n (pc' := 23) d_prog_3_method_13_22 rfl rfl ?_
  refine Go.iadd (pc' := 24) d_prog_3_method_13_23 rfl ?_
  rw [show ((0 : Int32) + (0 : Int32)) = (0 : Int32) from by decide]
  refine Go.iconst (pc' := 25) d_prog_3_method_13_24 rfl ic_1 ?_
  refine Go.iushr (pc' := 26) d_prog_3_method_13_25 rfl ?_
  rw [show (((0 : Int32).toUInt32 >>> ((1 : Int32) &&& 31).toUInt32).toInt32) = (0 : Int32) from by decide]
  refine Go.istore (pc' := 28) (Ls' := #[.val (.ref a), .val (.ref s), .val (.int (0 : Int32)), .val (.int (0 : Int32)), .val (.int (0 : Int32)), .unset]) d_prog_3_method_13_26 rfl rfl ?_
  refine Go.aload_n (pc' := 29) d_prog_3_method_13_28 rfl rfl rfl ?_
  refine Go.iload (pc' := 31) d_prog_3_method_13_29 rfl rfl ?_
  refine Go.callP (pc' := 34) (z := N_19) (a := a) d_prog_3_method_13_31 rfl (w_106 hw) (w_107 hw) (own_selP (z := N_19) (u := ({ cls := "com/example/beleg/beleg/Attributes", name := "put", desc := "(Ljava/lang/String;Ljava/lang/Object;)V" } : Jvm.MethodName)) (w_51 hw) rfl (by decide) (w_107 hw) (w_108 hw)) (w_108 hw) (w_109 hw) (by decide) E_a (argsL := [(.int (0 : Int32))]) (rest := []) (Pays.of_met (W := 0) (len := 3) (m_name hw hs a e ke s y h79 F_a_entries V_e E_s) (w_109 hw) (w_43 hw) (by decide) (by decide)) rfl rfl (lenOf pd_14 rfl) rfl (Nat.le_of_eq rfl) mem0 (by decide) (by decide) ?_
  rintro _ _ _ - - ⟨rfl, rfl, rfl⟩
  change Go _ _ _ _ _ _ _ _ _ _ _ _ _ _ [] h79 2 20 34 #[.val (.ref a), .val (.ref s), .val (.int (0 : Int32)), .val (.int (0 : Int32)), .val (.int (0 : Int32)), .unset] [(.ref s)]
  refine Go.aload_n (pc' := 35) d_prog_3_method_13_34 rfl rfl rfl ?_
  refine Go.callV (pc' := 38) (u := N_16) (z := N_16) (a := s) d_prog_3_method_13_35 rfl (w_111 hw) (w_112 hw) (nf (w_114 hw) rfl) (w_114 hw) (w_113 hw) (by decide) E_s (argsL := [(.ref s)]) (rest := []) (Pays.of_met (W := 0) (len := 3) (m_cto hw hs s s t t kt kt u0 u1 u0 u1 h79 E_s F_s_coder F_s_value V_t E_s F_s_coder F_s_value V_t) (w_115 hw) (w_7 hw) (by decide) (by decide)) rfl rfl (lenOf pd_15 rfl) rfl (Nat.le_of_eq rfl) mem0 (by decide) (by decide) ?_
  rintro _ _ _ - - ⟨i82, rfl, rfl, rfl, p83⟩
  change Go _ _ _ _ _ _ _ _ _ _ _ _ _ _ [] h79 2 20 38 #[.val (.ref a), .val (.ref s), .val (.int (0 : Int32)), .val (.int (0 : Int32)), .val (.int (0 : Int32)), .unset] [(.int i82)]
  refine Go.istore (pc' := 40) (Ls' := #[.val (.ref a), .val (.ref s), .val (.int (0 : Int32)), .val (.int (0 : Int32)), .val (.int (0 : Int32)), .val (.int i82)]) d_prog_3_method_13_38 rfl rfl ?_
  refine Go.iload (pc' := 42) d_prog_3_method_13_40 rfl rfl ?_
  obtain rfl := p83 rfl rfl
  refine Go.ifN (pc' := 45) d_prog_3_method_13_42 rfl ((if0 _ _).trans (teq (rfl : (0 : Int32) = (0 : Int32))).2) ?_
  refine Go.iload (pc' := 47) d_prog_3_method_13_45 rfl rfl ?_
  exact Go.retI d_prog_3_method_13_47 rfl (by decide) (by decide) [] sn0 ⟨rfl, rfl, trivial⟩
abbrev R_m_idx1 : Room := { frames := 4, cells := 2, slots := 20, locals := 63 }
theorem pn_m_idx1 : plainFor (⟨"com/example/beleg/beleg/Attributes", "indexOf", "(Ljava/lang/String;)I"⟩ : MethodName) = true := by first | (refine plainFor_of_name ?_; simp [plainName, overriddenIn]; done) | decide +kernel
abbrev Q_m_idx1 (Z : State) (a : Addr) (n : Addr) (e : Addr) (ke : ClassId) (s : Addr) (y : Addr) (t : Addr) (kt : ClassId) (u0 : Int32) (u1 : Int32) (t2 : Addr) (kt2 : ClassId) (w0 : Int32) (w1 : Int32) (h0 : Heap) : Option Value → Heap → List Addr → Prop := fun res h' SN => ∃ (r : Int32), res = some (.int r) ∧ SN = [] ∧ (r = (0 : Int32) ∨ r = (-2 : Int32) ∨ r = (-1 : Int32))
theorem ef_m_idx1 (mid : MethodId) (a : Addr) (n : Addr) (e : Addr) (ke : ClassId) (s : Addr) (y : Addr) (t : Addr) (kt : ClassId) (u0 : Int32) (u1 : Int32) (t2 : Addr) (kt2 : ClassId) (w0 : Int32) (w1 : Int32) : entryFrame mid #[(.ref a), (.ref n)] 6 = mkF mid 0 #[.val (.ref a), .val (.ref n), .unset, .unset, .unset, .unset] [] := by first | (simp [entryFrame, mkF, argsToLocals, Value.category]; done) | rfl
set_option maxRecDepth 65536 in
set_option maxHeartbeats 40000000 in
theorem m_idx1 {l : Launch} {Z : State} {a0 : Array Value} {n0 : Nat} (hw : ∀ d ∈ tables_1, d.before a0 Z = true) (hs : Stat Z) (a : Addr) (n : Addr) (e : Addr) (ke : ClassId) (s : Addr) (y : Addr) (t : Addr) (kt : ClassId) (u0 : Int32) (u1 : Int32) (t2 : Addr) (kt2 : ClassId) (w0 : Int32) (w1 : Int32) (h0 : Heap) (E_a : Exa Z h0 a "com/example/beleg/beleg/Attributes") (F_a_size : Fld Z h0 a "com/example/beleg/beleg/Attributes" "size" "I" (.int (1 : Int32))) (F_a_entries : Fld Z h0 a "com/example/beleg/beleg/Attributes" "entries" "[Ljava/lang/Object;" (.ref e)) (V_e : Arv Z h0 e ke (.object "java/lang/Object") (8 : Int32) [(.ref s), (.ref y), .null, .null, .null, .null, .null, .null] .null) (E_s : Exa Z h0 s "java/lang/String") (F_s_coder : Fld Z h0 s "java/lang/String" "coder" "B" (.int (0 : Int32))) (F_s_value : Fld Z h0 s "java/lang/String" "value" "[B" (.ref t)) (V_t : Arv Z h0 t kt .byte (2 : Int32) [(.int u0), (.int u1)] (.int (0 : Int32))) (E_n : Exa Z h0 n "java/lang/String") (F_n_coder : Fld Z h0 n "java/lang/String" "coder" "B" (.int (0 : Int32))) (F_n_value : Fld Z h0 n "java/lang/String" "value" "[B" (.ref t2)) (V_t2 : Arv Z h0 t2 kt2 .byte (2 : Int32) [(.int w0), (.int w1)] (.int (0 : Int32))) :
    Met l Z EL0 n0 NR0 KN0 N_20 prog_3_method_13_code 6 (Option.some Jvm.ClassFile.FieldType.int) R_m_idx1 [] #[(.ref a), (.ref n)] h0 (Q_m_idx1 Z a n e ke s y t kt u0 u1 t2 kt2 w0 w1 h0) := by
  refine Met.of_go pn_m_idx1 (fun mid => ef_m_idx1 mid a n e ke s y t kt u0 u1 t2 kt2 w0 w1 ) ?_
  intro hO hWS
  refine Go.aload_n (pc' := 1) d_prog_3_method_13_0 rfl rfl rfl ?_
  refine Go.ldcO (pc' := 3) (nn := 16) rfl d_prog_3_method_13_1 rfl (w_59 hw) (sA hw) (by decide) (by decide) (by decide) (by decide) ?_
  intro h84 s85 x86
  replace E_a := E_a.ext x86
  replace F_a_size := F_a_size.ext x86
  replace F_a_entries := F_a_entries.ext x86
  replace V_e := V_e.ext x86
  replace E_s := E_s.ext x86
  replace F_s_coder := F_s_coder.ext x86
  replace F_s_value := F_s_value.ext x86
  replace V_t := V_t.ext x86
  replace E_n := E_n.ext x86
  replace F_n_coder := F_n_coder.ext x86
  replace F_n_value := F_n_value.ext x86
  replace V_t2 := V_t2.ext x86
  change Go _ _ _ _ _ _ _ _ _ _ _ _ _ _ [] h84 2 20 3 #[.val (.ref a), .val (.ref n), .unset, .unset, .unset, .unset] [(.ref s85), (.ref n)]
  refine Go.callS (pc' := 6) (z := N_17) d_prog_3_method_13_3 rfl (w_62 hw) (w_63 hw) (w_64 hw) (w_65 hw) (by decide) (argsL := [(.ref n), (.ref s85)]) (rest := []) (Pays.of_met (W := 0) (len := 3) (m_rnn2 hw hs n s85 h84) (w_65 hw) (w_64 hw) (by decide) (by decide)) rfl rfl (lenOf pd_13 rfl) rfl (Nat.le_of_eq rfl) mem0 (by decide) (by decide) ?_
  rintro _ _ _ - - ⟨rfl, rfl, rfl⟩
  change Go _ _ _ _ _ _ _ _ _ _ _ _ _ _ [] h84 2 20 6 #[.val (.ref a), .val (.ref n), .unset, .unset, .unset, .unset] [(.ref n)]
  refine Go.pop (pc' := 7) d_prog_3_method_13_6 rfl rfl ?_
  refine Go.iconst (pc' := 8) d_prog_3_method_13_7 rfl ic_0 ?_
  refine Go.istore_n (pc' := 9) (Ls' := #[.val (.ref a), .val (.ref n), .val (.int (0 : Int32)), .unset, .unset, .unset]) d_prog_3_method_13_8 rfl rfl ?_
  refine Go.aload_n (pc' := 10) d_prog_3_method_13_9 rfl rfl rfl ?_
  refine Go.getF (pc' := 13) d_prog_3_method_13_10 rfl (host := "") (Or.inl (w_66 hw)) Via.refl F_a_size ?_
  refine Go.iconst (pc' := 14) d_prog_3_method_13_13 rfl ic_1 ?_
  refine Go.isub (pc' := 15) d_prog_3_method_13_14 rfl ?_
  rw [show ((1 : Int32) - (1 : Int32)) = (0 : Int32) from by decide]
  refine Go.istore_n (pc' := 16) (Ls' := #[.val (.ref a), .val (.ref n), .val (.int (0 : Int32)), .val (.int (0 : Int32)), .unset, .unset]) d_prog_3_method_13_15 rfl rfl ?_
  refine Go.iload_n (pc' := 17) d_prog_3_method_13_16 rfl rfl ?_
  refine Go.iload_n (pc' := 18) d_prog_3_method_13_17 rfl rfl ?_
  refine Go.icmpN (pc' := 21) d_prog_3_method_13_18 rfl (flt (by decide : ¬ ((0 : Int32) < (0 : Int32)))).2.2.1 ?_
  refine Go.iload_n (pc' := 22) d_prog_3_method_13_21 rfl rfl ?_
  refine Go.iload_n (pc' := 23) d_prog_3_method_13_22 rfl rfl ?_
  refine Go.iadd (pc' := 24) d_prog_3_method_13_23 rfl ?_
  rw [show ((0 : Int32) + (0 : Int32)) = (0 : Int32) from by decide]
  refine Go.iconst (pc' := 25) d_prog_3_method_13_24 rfl ic_1 ?_
  refine Go.iushr (pc' := 26) d_prog_3_method_13_25 rfl ?_
  rw [show (((0 : Int32).toUInt32 >>> ((1 : Int32) &&& 31).toUInt32).toInt32) = (0 : Int32) from by decide]
  refine Go.istore (pc' := 28) (Ls' := #[.val (.ref a), .val (.ref n), .val (.int (0 : Int32)), .val (.int (0 : Int32)), .val (.int (0 : Int32)), .unset]) d_prog_3_method_13_26 rfl rfl ?_
  refine Go.aload_n (pc' := 29) d_prog_3_method_13_28 rfl rfl rfl ?_
  refine Go.iload (pc' := 31) d_prog_3_method_13_29 rfl rfl ?_
  refine Go.callP (pc' := 34) (z := N_19) (a := a) d_prog_3_method_13_31 rfl (w_106 hw) (w_107 hw) (own_selP (z := N_19) (u := ({ cls := "com/example/beleg/beleg/Attributes", name := "put", desc := "(Ljava/lang/String;Ljava/lang/Object;)V" } : Jvm.MethodName)) (w_51 hw) rfl (by decide) (w_107 hw) (w_108 hw)) (w_108 hw) (w_109 hw) (by decide) E_a (argsL := [(.int (0 : Int32))]) (rest := []) (Pays.of_met (W := 0) (len := 3) (m_name hw hs a e ke s y h84 F_a_entries V_e E_s) (w_109 hw) (w_43 hw) (by decide) (by decide)) rfl rfl (lenOf pd_14 rfl) rfl (Nat.le_of_eq rfl) mem0 (by decide) (by decide) ?_
  rintro _ _ _ - - ⟨rfl, rfl, rfl⟩
  change Go _ _ _ _ _ _ _ _ _ _ _ _ _ _ [] h84 2 20 34 #[.val (.ref a), .val (.ref n), .val (.int (0 : Int32)), .val (.int (0 : Int32)), .val (.int (0 : Int32)), .unset] [(.ref s)]
  refine Go.aload_n (pc' := 35) d_prog_3_method_13_34 rfl rfl rfl ?_
  refine Go.callV (pc' := 38) (u := N_16) (z := N_16) (a := s) d_prog_3_method_13_35 rfl (w_111 hw) (w_112 hw) (nf (w_114 hw) rfl) (w_114 hw) (w_113 hw) (by decide) E_s (argsL := [(.ref n)]) (rest := []) (Pays.of_met (W := 0) (len := 3) (m_cto hw hs s n t t2 kt kt2 u0 u1 w0 w1 h84 E_s F_s_coder F_s_value V_t E_n F_n_coder F_n_value V_t2) (w_115 hw) (w_7 hw) (by decide) (by decide)) rfl rfl (lenOf pd_15 rfl) rfl (Nat.le_of_eq rfl) mem0 (by decide) (by decide) ?_
  rintro _ _ _ - - ⟨i87, rfl, rfl, rfl, p88⟩
  change Go _ _ _ _ _ _ _ _ _ _ _ _ _ _ [] h84 2 20 38 #[.val (.ref a), .val (.ref n), .val (.int (0 : Int32)), .val (.int (0 : Int32)), .val (.int (0 : Int32)), .unset] [(.int i87)]
  refine Go.istore (pc' := 40) (Ls' := #[.val (.ref a), .val (.ref n), .val (.int (0 : Int32)), .val (.int (0 : Int32)), .val (.int (0 : Int32)), .val (.int i87)]) d_prog_3_method_13_38 rfl rfl ?_
  refine Go.iload (pc' := 42) d_prog_3_method_13_40 rfl rfl ?_
  by_cases h1 : i87 = (0 : Int32)
  · skip
    refine Go.ifN (pc' := 45) d_prog_3_method_13_42 rfl ((if0 _ _).trans (teq (h1 : i87 = (0 : Int32))).2) ?_
    refine Go.iload (pc' := 47) d_prog_3_method_13_45 rfl rfl ?_
    exact Go.retI d_prog_3_method_13_47 rfl (by decide) (by decide) [] sn0 ⟨_, rfl, rfl, Or.inl rfl⟩
  · skip
    refine Go.ifY (pc' := 48) d_prog_3_method_13_42 (by decide) (by decide) ((if0 _ _).trans (feq (h1 : ¬ (i87 = (0 : Int32)))).2) ?_
    refine Go.iload (pc' := 50) d_prog_3_method_13_48 rfl rfl ?_
    by_cases h2 : i87 < (0 : Int32)
    · skip
      refine Go.ifN (pc' := 53) d_prog_3_method_13_50 rfl ((if0 _ _).trans (tlt (h2 : i87 < (0 : Int32))).2.1) ?_
      refine Go.iload (pc' := 55) d_prog_3_method_13_53 rfl rfl ?_
      refine Go.iconst (pc' := 56) d_prog_3_method_13_55 rfl ic_1 ?_
      refine Go.iadd (pc' := 57) d_prog_3_method_13_56 rfl ?_
      rw [show ((0 : Int32) + (1 : Int32)) = (1 : Int32) from by decide]
      refine Go.istore_n (pc' := 58) (Ls' := #[.val (.ref a), .val (.ref n), .val (.int (1 : Int32)), .val (.int (0 : Int32)), .val (.int (0 : Int32)), .val (.int i87)]) d_prog_3_method_13_57 rfl rfl ?_
      refine Go.goto (pc' := 66) d_prog_3_method_13_58 (by decide) (by decide) ?_
      refine Go.goto (pc' := 16) d_prog_3_method_13_66 (by decide) (by decide) ?_
      refine Go.iload_n (pc' := 17) d_prog_3_method_13_16 rfl rfl ?_
      refine Go.iload_n (pc' := 18) d_prog_3_method_13_17 rfl rfl ?_
      refine Go.icmpY (pc' := 69) d_prog_3_method_13_18 (by decide) (by decide) (tlt (by decide : (0 : Int32) < (1 : Int32))).2.2.1 ?_
      refine Go.iload_n (pc' := 70) d_prog_3_method_13_69 rfl rfl ?_
      refine Go.ineg (pc' := 71) d_prog_3_method_13_70 rfl ?_
      rw [show (-(1 : Int32)) = (-1 : Int32) from by decide]
      refine Go.iconst (pc' := 72) d_prog_3_method_13_71 rfl ic_1 ?_
      refine Go.isub (pc' := 73) d_prog_3_method_13_72 rfl ?_
      rw [show ((-1 : Int32) - (1 : Int32)) = (-2 : Int32) from by decide]
      exact Go.retI d_prog_3_method_13_73 rfl (by decide) (by decide) [] sn0 ⟨_, rfl, rfl, Or.inr (Or.inl rfl)⟩
    · skip
      refine Go.ifY (pc' := 61) d_prog_3_method_13_50 (by decide) (by decide) ((if0 _ _).trans (flt (h2 : ¬ (i87 < (0 : Int32)))).2.1) ?_
      refine Go.iload (pc' := 63) d_prog_3_method_13_61 rfl rfl ?_
      refine Go.iconst (pc' := 64) d_prog_3_method_13_63 rfl ic_1 ?_
      refine Go.isub (pc' := 65) d_prog_3_method_13_64 rfl ?_
      rw [show ((0 : Int32) - (1 : Int32)) = (-1 : Int32) from by decide]
      refine Go.istore_n (pc' := 66) (Ls' := #[.val (.ref a), .val (.ref n), .val (.int (0 : Int32)), .val (.int (-1 : Int32)), .val (.int (0 : Int32)), .val (.int i87)]) d_prog_3_method_13_65 rfl rfl ?_
      refine Go.goto (pc' := 16) d_prog_3_method_13_66 (by decide) (by decide) ?_
      refine Go.iload_n (pc' := 17) d_prog_3_method_13_16 rfl rfl ?_
      refine Go.iload_n (pc' := 18) d_prog_3_method_13_17 rfl rfl ?_
      refine Go.icmpY (pc' := 69) d_prog_3_method_13_18 (by decide) (by decide) (tlt (by decide : (-1 : Int32) < (0 : Int32))).2.2.1 ?_
      refine Go.iload_n (pc' := 70) d_prog_3_method_13_69 rfl rfl ?_
      refine Go.ineg (pc' := 71) d_prog_3_method_13_70 rfl ?_
      rw [show (-(0 : Int32)) = (0 : Int32) from by decide]
      refine Go.iconst (pc' := 72) d_prog_3_method_13_71 rfl ic_1 ?_
      refine Go.isub (pc' := 73) d_prog_3_method_13_72 rfl ?_
      rw [show ((0 : Int32) - (1 : Int32)) = (-1 : Int32) from by decide]
      exact Go.retI d_prog_3_method_13_73 rfl (by decide) (by decide) [] sn0 ⟨_, rfl, rfl, Or.inr (Or.inr rfl)⟩
abbrev R_m_ins0 : Room := { frames := 1, cells := 1, slots := 8, locals := 24 }
theorem pn_m_ins0 : plainFor (⟨"com/example/beleg/beleg/Attributes", "insert", "(ILjava/lang/String;Ljava/lang/Object;)V"⟩ : MethodName) = true := by first | (refine plainFor_of_name ?_; simp [plainName, overriddenIn]; done) | decide +kernel
abbrev Q_m_ins0 (Z : State) (a : Addr) (s : Addr) (y : Addr) (h0 : Heap) : Option Value → Heap → List Addr → Prop := fun res h' SN => ∃ (e : Addr) (ke : ClassId), res = none ∧ SN = [e] ∧ Exa Z h' a "com/example/beleg/beleg/Attributes" ∧ Fld Z h' a "com/example/beleg/beleg/Attributes" "entries" "[Ljava/lang/Object;" (.ref e) ∧ Fld Z h' a "com/example/beleg/beleg/Attributes" "size" "I" (.int (1 : Int32)) ∧ Fld Z h' a "com/example/beleg/beleg/Attributes" "tree" "Ljava/util/TreeMap;" .null ∧ h0.size ≤ e ∧ Arv Z h' e ke (.object "java/lang/Object") (8 : Int32) [(.ref s), (.ref y), .null, .null, .null, .null, .null, .null] .null ∧ Ovr Z ke "java/lang/Object"
theorem ef_m_ins0 (mid : MethodId) (a : Addr) (s : Addr) (y : Addr) : entryFrame mid #[(.ref a), (.int (0 : Int32)), (.ref s), (.ref y)] 5 = mkF mid 0 #[.val (.ref a), .val (.int (0 : Int32)), .val (.ref s), .val (.ref y), .unset] [] := by first | (simp [entryFrame, mkF, argsToLocals, Value.category]; done) | rfl
set_option maxRecDepth 65536 in
set_option maxHeartbeats 40000000 in
theorem m_ins0 {l : Launch} {Z : State} {a0 : Array Value} {n0 : Nat} (hw : ∀ d ∈ tables_1, d.before a0 Z = true) (hs : Stat Z) (a : Addr) (s : Addr) (y : Addr) (h0 : Heap) (E_a : Exa Z h0 a "com/example/beleg/beleg/Attributes") (F_a_entries : Fld Z h0 a "com/example/beleg/beleg/Attributes" "entries" "[Ljava/lang/Object;" .null) (F_a_size : Fld Z h0 a "com/example/beleg/beleg/Attributes" "size" "I" (.int (0 : Int32))) (F_a_tree : Fld Z h0 a "com/example/beleg/beleg/Attributes" "tree" "Ljava/util/TreeMap;" .null) (E_s : Exa Z h0 s "java/lang/String") (E_y : Exa Z h0 y "java/lang/Integer") (ne_s_a : s ≠ a) (ne_y_a : y ≠ a) :
    Met l Z EL0 n0 NR0 KN0 N_21 prog_3_method_14_code 5 (Option.none : Option Jvm.ClassFile.FieldType) R_m_ins0 [a] #[(.ref a), (.int (0 : Int32)), (.ref s), (.ref y)] h0 (Q_m_ins0 Z a s y h0) := by
  refine Met.of_go pn_m_ins0 (fun mid => ef_m_ins0 mid a s y ) ?_
  intro hO hWS
  refine Go.aload_n (pc' := 1) d_prog_3_method_14_0 rfl rfl rfl ?_
  refine Go.getF (pc' := 4) d_prog_3_method_14_1 rfl (host := "") (Or.inl (w_72 hw)) Via.refl F_a_entries ?_
  refine Go.ifnullY (pc' := 21) d_prog_3_method_14_4 (by decide) (by decide) ?_
  refine Go.bipush (pc' := 23) d_prog_3_method_14_21 rfl icb_8 ?_
  refine Go.iconst (pc' := 24) d_prog_3_method_14_23 rfl ic_4 ?_
  refine Go.aload_n (pc' := 25) d_prog_3_method_14_24 rfl rfl rfl ?_
  refine Go.getF (pc' := 28) d_prog_3_method_14_25 rfl (host := "") (Or.inl (w_66 hw)) Via.refl F_a_size ?_
  refine Go.imul (pc' := 29) d_prog_3_method_14_28 rfl ?_
  rw [show ((4 : Int32) * (0 : Int32)) = (0 : Int32) from by decide]
  refine Go.callS (pc' := 32) (z := N_9) d_prog_3_method_14_29 rfl (w_74 hw) (w_75 hw) (w_76 hw) (w_77 hw) (by decide) (argsL := [(.int (8 : Int32)), (.int (0 : Int32))]) (rest := []) (Pays.of_met (W := 0) (len := 3) (m_max hw hs (8 : Int32) (0 : Int32) h0) (w_77 hw) (w_76 hw) (by decide) (by decide)) rfl rfl (lenOf pd_7 rfl) rfl (Nat.le_of_eq rfl) mem0 (by decide) (by decide) ?_
  rintro _ _ _ - - ⟨rfl, rfl, rfl⟩
  change Go _ _ _ _ _ _ _ _ _ _ _ _ _ _ [a] h0 0 0 32 #[.val (.ref a), .val (.int (0 : Int32)), .val (.ref s), .val (.ref y), .unset] [(.int (if (8 : Int32) < (0 : Int32) then (0 : Int32) else (8 : Int32)))]
  rw [show (if (8 : Int32) < (0 : Int32) then (0 : Int32) else (8 : Int32)) = (8 : Int32) from by decide]
  refine Go.newR (pc' := 35) (cap := 8) (ad := "[Ljava/lang/Object;") d_prog_3_method_14_32 rfl (w_78 hw) (w_79 hw) (by decide) (by decide) (by decide) (by decide) (by decide) (by decide) ?_
  intro h89 b90 g91 ge_b90 q93 x92 V_b90 E_b90 O_b90
  have o_a_b90 : a ≠ b90 := Nat.ne_of_lt (Nat.lt_of_lt_of_le E_a.lt (Nat.le_of_eq g91))
  have o_s_b90 : s ≠ b90 := Nat.ne_of_lt (Nat.lt_of_lt_of_le E_s.lt (Nat.le_of_eq g91))
  have o_y_b90 : y ≠ b90 := Nat.ne_of_lt (Nat.lt_of_lt_of_le E_y.lt (Nat.le_of_eq g91))
  replace E_a := E_a.ext x92
  replace F_a_entries := F_a_entries.ext x92
  replace F_a_size := F_a_size.ext x92
  replace F_a_tree := F_a_tree.ext x92
  replace E_s := E_s.ext x92
  replace E_y := E_y.ext x92
  replace V_b90 : Arv Z h89 b90 q93 (.object "java/lang/Object") (8 : Int32) [.null, .null, .null, .null, .null, .null, .null, .null] .null := V_b90.pad (pad_rep [] _ 8)
  change Go _ _ _ _ _ _ _ _ _ _ _ _ _ _ [b90, a] h89 1 8 35 #[.val (.ref a), .val (.int (0 : Int32)), .val (.ref s), .val (.ref y), .unset] [(.ref b90)]
  refine Go.astore (pc' := 37) (Ls' := #[.val (.ref a), .val (.int (0 : Int32)), .val (.ref s), .val (.ref y), .val (.ref b90)]) d_prog_3_method_14_35 rfl rfl rfl ?_
  refine Go.aload_n (pc' := 38) d_prog_3_method_14_37 rfl rfl rfl ?_
  refine Go.getF (pc' := 41) d_prog_3_method_14_38 rfl (host := "") (Or.inl (w_72 hw)) Via.refl F_a_entries ?_
  refine Go.ifnullY (pc' := 61) d_prog_3_method_14_41 (by decide) (by decide) ?_
  refine Go.aload_n (pc' := 62) d_prog_3_method_14_61 rfl rfl rfl ?_
  refine Go.aload (pc' := 64) d_prog_3_method_14_62 rfl rfl rfl ?_
  refine Go.putF (pc' := 67) d_prog_3_method_14_64 rfl (List.mem_of_getElem? (i := 1) rfl) (host := "") (Or.inl (w_72 hw)) Via.refl F_a_entries E_a (Or.inl (w_73 hw)) (w_42 hw) (ty := (.array (.object "java/lang/Object"))) (by decide) rfl rfl ?_
  intro h94 W95
  replace F_a_entries := F_a_entries.same W95
  replace E_a := E_a.wr W95
  replace F_a_size := F_a_size.other W95 (Or.inr (slot_ne (Or.inl (w_67 hw)) (Or.inl (w_73 hw)) (by decide) (t := .int) (t' := (.array (.object "java/lang/Object"))) (by decide) (by decide)))
  replace F_a_tree := F_a_tree.other W95 (Or.inr (slot_ne (Or.inl (w_54 hw)) (Or.inl (w_73 hw)) (by decide) (t := (.object "java/util/TreeMap")) (t' := (.array (.object "java/lang/Object"))) (by decide) (by decide)))
  replace E_s := E_s.wr W95
  replace E_y := E_y.wr W95
  replace V_b90 := V_b90.other W95 (Ne.symm o_a_b90)
  replace E_b90 := E_b90.wr W95
  change Go _ _ _ _ _ _ _ _ _ _ _ _ _ _ [b90, a] h94 1 8 67 #[.val (.ref a), .val (.int (0 : Int32)), .val (.ref s), .val (.ref y), .val (.ref b90)] []
  refine Go.aload_n (pc' := 68) d_prog_3_method_14_67 rfl rfl rfl ?_
  refine Go.getF (pc' := 71) d_prog_3_method_14_68 rfl (host := "") (Or.inl (w_72 hw)) Via.refl F_a_entries ?_
  refine Go.iconst (pc' := 72) d_prog_3_method_14_71 rfl ic_2 ?_
  refine Go.iload_n (pc' := 73) d_prog_3_method_14_72 rfl rfl ?_
  refine Go.imul (pc' := 74) d_prog_3_method_14_73 rfl ?_
  rw [show ((2 : Int32) * (0 : Int32)) = (0 : Int32) from by decide]
  refine Go.aload_n (pc' := 75) d_prog_3_method_14_74 rfl rfl rfl ?_
  refine Go.getF (pc' := 78) d_prog_3_method_14_75 rfl (host := "") (Or.inl (w_72 hw)) Via.refl F_a_entries ?_
  refine Go.iconst (pc' := 79) d_prog_3_method_14_78 rfl ic_2 ?_
  refine Go.iload_n (pc' := 80) d_prog_3_method_14_79 rfl rfl ?_
  refine Go.imul (pc' := 81) d_prog_3_method_14_80 rfl ?_
  rw [show ((2 : Int32) * (0 : Int32)) = (0 : Int32) from by decide]
  refine Go.iconst (pc' := 82) d_prog_3_method_14_81 rfl ic_2 ?_
  refine Go.iadd (pc' := 83) d_prog_3_method_14_82 rfl ?_
  rw [show ((0 : Int32) + (2 : Int32)) = (2 : Int32) from by decide]
  refine Go.iconst (pc' := 84) d_prog_3_method_14_83 rfl ic_2 ?_
  refine Go.aload_n (pc' := 85) d_prog_3_method_14_84 rfl rfl rfl ?_
  refine Go.getF (pc' := 88) d_prog_3_method_14_85 rfl (host := "") (Or.inl (w_66 hw)) Via.refl F_a_size ?_
  refine Go.iload_n (pc' := 89) d_prog_3_method_14_88 rfl rfl ?_
  refine Go.isub (pc' := 90) d_prog_3_method_14_89 rfl ?_
  rw [show ((0 : Int32) - (0 : Int32)) = (0 : Int32) from by decide]
  refine Go.imul (pc' := 91) d_prog_3_method_14_90 rfl ?_
  rw [show ((2 : Int32) * (0 : Int32)) = (0 : Int32) from by decide]
  refine Go.cpA (pc' := 94) (W := 0) (us := []) d_prog_3_method_14_91 rfl (List.mem_of_getElem? (i := 0) rfl) (w_80 hw) (w_83 hw) (w_81 hw) (w_82 hw) V_b90 V_b90 (Or.inr ⟨rfl, rfl, trivial⟩) (by first | decide | exact Nat.le_of_ble_eq_true rfl) (by first | decide | exact Nat.le_of_ble_eq_true rfl) (by first | decide | exact Nat.le_of_ble_eq_true rfl) (by first | decide | exact Nat.le_of_ble_eq_true rfl) (by first | decide | exact Nat.le_of_ble_eq_true rfl) rfl (by first | decide | exact Nat.le_of_ble_eq_true rfl) rfl (by decide) (Nat.le_of_eq rfl) (by decide) ?_
  intro h96 K97 V_b90'
  replace E_a := E_a.keep K97
  replace F_a_size := F_a_size.keep K97 (ninS o_a_b90 nin0)
  replace F_a_tree := F_a_tree.keep K97 (ninS o_a_b90 nin0)
  replace E_s := E_s.keep K97
  replace E_y := E_y.keep K97
  replace E_b90 := E_b90.keep K97
  replace F_a_entries := F_a_entries.keep K97 (ninS o_a_b90 nin0)
  replace V_b90 : Arv Z h96 b90 q93 (.object "java/lang/Object") (8 : Int32) [.null, .null, .null, .null, .null, .null, .null, .null] .null := V_b90'
  change Go _ _ _ _ _ _ _ _ _ _ _ _ _ _ [b90, a] h96 1 8 94 #[.val (.ref a), .val (.int (0 : Int32)), .val (.ref s), .val (.ref y), .val (.ref b90)] []
  refine Go.aload_n (pc' := 95) d_prog_3_method_14_94 rfl rfl rfl ?_
  refine Go.getF (pc' := 98) d_prog_3_method_14_95 rfl (host := "") (Or.inl (w_72 hw)) Via.refl F_a_entries ?_
  refine Go.iconst (pc' := 99) d_prog_3_method_14_98 rfl ic_2 ?_
  refine Go.iload_n (pc' := 100) d_prog_3_method_14_99 rfl rfl ?_
  refine Go.imul (pc' := 101) d_prog_3_method_14_100 rfl ?_
  rw [show ((2 : Int32) * (0 : Int32)) = (0 : Int32) from by decide]
  refine Go.aload_n (pc' := 102) d_prog_3_method_14_101 rfl rfl rfl ?_
  refine Go.aastoreV (pc' := 103) (i := 0) d_prog_3_method_14_102 rfl (List.mem_of_getElem? (i := 0) rfl) V_b90 rfl rfl (fun cl A q => Sto.ofV A q O_b90 (Ins.of_exa E_s (w_84 hw))) (by decide) (by decide) (by first | decide | exact Nat.le_of_ble_eq_true rfl) ?_
  intro h98 W99 V_b90'
  replace E_a := E_a.wr W99
  replace F_a_size := F_a_size.other W99 (Or.inl o_a_b90)
  replace F_a_tree := F_a_tree.other W99 (Or.inl o_a_b90)
  replace E_s := E_s.wr W99
  replace E_y := E_y.wr W99
  replace E_b90 := E_b90.wr W99
  replace F_a_entries := F_a_entries.other W99 (Or.inl o_a_b90)
  replace V_b90 : Arv Z h98 b90 q93 (.object "java/lang/Object") (8 : Int32) [(.ref s), .null, .null, .null, .null, .null, .null, .null] .null := V_b90'
  change Go _ _ _ _ _ _ _ _ _ _ _ _ _ _ [b90, a] h98 1 8 103 #[.val (.ref a), .val (.int (0 : Int32)), .val (.ref s), .val (.ref y), .val (.ref b90)] []
  refine Go.aload_n (pc' := 104) d_prog_3_method_14_103 rfl rfl rfl ?_
  refine Go.getF (pc' := 107) d_prog_3_method_14_104 rfl (host := "") (Or.inl (w_72 hw)) Via.refl F_a_entries ?_
  refine Go.iconst (pc' := 108) d_prog_3_method_14_107 rfl ic_2 ?_
  refine Go.iload_n (pc' := 109) d_prog_3_method_14_108 rfl rfl ?_
  refine Go.imul (pc' := 110) d_prog_3_method_14_109 rfl ?_
  rw [show ((2 : Int32) * (0 : Int32)) = (0 : Int32) from by decide]
  refine Go.iconst (pc' := 111) d_prog_3_method_14_110 rfl ic_1 ?_
  refine Go.iadd (pc' := 112) d_prog_3_method_14_111 rfl ?_
  rw [show ((0 : Int32) + (1 : Int32)) = (1 : Int32) from by decide]
  refine Go.aload_n (pc' := 113) d_prog_3_method_14_112 rfl rfl rfl ?_
  refine Go.aastoreV (pc' := 114) (i := 1) d_prog_3_method_14_113 rfl (List.mem_of_getElem? (i := 0) rfl) V_b90 rfl rfl (fun cl A q => Sto.ofV A q O_b90 (Ins.of_exa E_y (w_85 hw))) (by decide) (by decide) (by first | decide | exact Nat.le_of_ble_eq_true rfl) ?_
  intro h100 W101 V_b90'
  replace E_a := E_a.wr W101
  replace F_a_size := F_a_size.other W101 (Or.inl o_a_b90)
  replace F_a_tree := F_a_tree.other W101 (Or.inl o_a_b90)
  replace E_s := E_s.wr W101
  replace E_y := E_y.wr W101
  replace E_b90 := E_b90.wr W101
  replace F_a_entries := F_a_entries.other W101 (Or.inl o_a_b90)
  replace V_b90 : Arv Z h100 b90 q93 (.object "java/lang/Object") (8 : Int32) [(.ref s), (.ref y), .null, .null, .null, .null, .null, .null] .null := V_b90'
  change Go _ _ _ _ _ _ _ _ _ _ _ _ _ _ [b90, a] h100 1 8 114 #[.val (.ref a), .val (.int (0 : Int32)), .val (.ref s), .val (.ref y), .val (.ref b90)] []
  refine Go.aload_n (pc' := 115) d_prog_3_method_14_114 rfl rfl rfl ?_
  refine Go.dup (pc' := 116) d_prog_3_method_14_115 rfl rfl ?_
  refine Go.getF (pc' := 119) d_prog_3_method_14_116 rfl (host := "") (Or.inl (w_66 hw)) Via.refl F_a_size ?_
  refine Go.iconst (pc' := 120) d_prog_3_method_14_119 rfl ic_1 ?_
  refine Go.iadd (pc' := 121) d_prog_3_method_14_120 rfl ?_
  rw [show ((0 : Int32) + (1 : Int32)) = (1 : Int32) from by decide]
  refine Go.putF (pc' := 124) d_prog_3_method_14_121 rfl (List.mem_of_getElem? (i := 1) rfl) (host := "") (Or.inl (w_66 hw)) Via.refl F_a_size E_a (Or.inl (w_67 hw)) (w_42 hw) (ty := .int) (by decide) rfl rfl ?_
  intro h102 W103
  replace F_a_size := F_a_size.same W103
  replace E_a := E_a.wr W103
  replace F_a_tree := F_a_tree.other W103 (Or.inr (slot_ne (Or.inl (w_54 hw)) (Or.inl (w_67 hw)) (by decide) (t := (.object "java/util/TreeMap")) (t' := .int) (by decide) (by decide)))
  replace E_s := E_s.wr W103
  replace E_y := E_y.wr W103
  replace E_b90 := E_b90.wr W103
  replace F_a_entries := F_a_entries.other W103 (Or.inr (slot_ne (Or.inl (w_73 hw)) (Or.inl (w_67 hw)) (by decide) (t := (.array (.object "java/lang/Object"))) (t' := .int) (by decide) (by decide)))
  replace V_b90 := V_b90.other W103 (Ne.symm o_a_b90)
  change Go _ _ _ _ _ _ _ _ _ _ _ _ _ _ [b90, a] h102 1 8 124 #[.val (.ref a), .val (.int (0 : Int32)), .val (.ref s), .val (.ref y), .val (.ref b90)] []
  exact Go.retV d_prog_3_method_14_124 rfl (by decide) (by decide) [b90] (snS ⟨(List.mem_of_getElem? (i := 0) rfl), ge_b90⟩ sn0) ⟨b90, q93, rfl, rfl, E_a, F_a_entries, F_a_size, F_a_tree, ge_b90, V_b90, O_b90⟩
abbrev R_m_put0 : Room := { frames := 2, cells := 3, slots := 28, locals := 40 }
theorem pn_m_put0 : plainFor (⟨"com/example/beleg/beleg/Attributes", "put", "(Ljava/lang/String;Ljava/lang/Object;)V"⟩ : MethodName) = true := by first | (refine plainFor_of_name ?_; simp [plainName, overriddenIn]; done) | decide +kernel
abbrev Q_m_put0 (Z : State) (a : Addr) (s : Addr) (y : Addr) (h0 : Heap) : Option Value → Heap → List Addr → Prop := fun res h' SN => ∃ (e : Addr) (ke : ClassId), res = none ∧ SN = [e] ∧ Exa Z h' a "com/example/beleg/beleg/Attributes" ∧ Fld Z h' a "com/example/beleg/beleg/Attributes" "entries" "[Ljava/lang/Object;" (.ref e) ∧ Fld Z h' a "com/example/beleg/beleg/Attributes" "size" "I" (.int (1 : Int32)) ∧ Fld Z h' a "com/example/beleg/beleg/Attributes" "tree" "Ljava/util/TreeMap;" .null ∧ h0.size ≤ e ∧ Arv Z h' e ke (.object "java/lang/Object") (8 : Int32) [(.ref s), (.ref y), .null, .null, .null, .null, .null, .null] .null ∧ Ovr Z ke "java/lang/Object"
theorem ef_m_put0 (mid : MethodId) (a : Addr) (s : Addr) (y : Addr) : entryFrame mid #[(.ref a), (.ref s), (.ref y)] 4 = mkF mid 0 #[.val (.ref a), .val (.ref s), .val (.ref y), .unset] [] := by first | (simp [entryFrame, mkF, argsToLocals, Value.category]; done) | rfl
set_option maxRecDepth 65536 in
set_option maxHeartbeats 40000000 in
theorem m_put0 {l : Launch} {Z : State} {a0 : Array Value} {n0 : Nat} (hw : ∀ d ∈ tables_1, d.before a0 Z = true) (hs : Stat Z) (a : Addr) (s : Addr) (y : Addr) (h0 : Heap) (E_a : Exa Z h0 a "com/example/beleg/beleg/Attributes") (F_a_entries : Fld Z h0 a "com/example/beleg/beleg/Attributes" "entries" "[Ljava/lang/Object;" .null) (F_a_size : Fld Z h0 a "com/example/beleg/beleg/Attributes" "size" "I" (.int (0 : Int32))) (F_a_tree : Fld Z h0 a "com/example/beleg/beleg/Attributes" "tree" "Ljava/util/TreeMap;" .null) (E_s : Exa Z h0 s "java/lang/String") (E_y : Exa Z h0 y "java/lang/Integer") (ne_s_a : s ≠ a) (ne_y_a : y ≠ a) :
    Met l Z EL0 n0 NR0 KN0 N_22 prog_3_method_4_code 4 (Option.none : Option Jvm.ClassFile.FieldType) R_m_put0 [a] #[(.ref a), (.ref s), (.ref y)] h0 (Q_m_put0 Z a s y h0) := by
  refine Met.of_go pn_m_put0 (fun mid => ef_m_put0 mid a s y ) ?_
  intro hO hWS
  refine Go.aload_n (pc' := 1) d_prog_3_method_4_0 rfl rfl rfl ?_
  refine Go.getF (pc' := 4) d_prog_3_method_4_1 rfl (host := "") (Or.inl (w_53 hw)) Via.refl F_a_tree ?_
  refine Go.ifnonnullN (pc' := 7) d_prog_3_method_4_4 rfl ?_
  refine Go.aload_n (pc' := 8) d_prog_3_method_4_7 rfl rfl rfl ?_
  refine Go.aload_n (pc' := 9) d_prog_3_method_4_8 rfl rfl rfl ?_
  refine Go.callP (pc' := 12) (z := N_20) (a := a) d_prog_3_method_4_9 rfl (w_55 hw) (w_56 hw) (own_selP (z := N_20) (u := ({ cls := "com/example/beleg/beleg/Attributes", name := "put", desc := "(Ljava/lang/String;Ljava/lang/Object;)V" } : Jvm.MethodName)) (w_51 hw) rfl (by decide) (w_56 hw) (w_57 hw)) (w_57 hw) (w_58 hw) (by decide) E_a (argsL := [(.ref s)]) (rest := []) (Pays.of_met (W := 0) (len := 3) (m_idx0 hw hs a s h0 F_a_size) (w_58 hw) (w_43 hw) (by decide) (by decide)) rfl rfl (lenOf pd_15 rfl) rfl (Nat.le_of_eq rfl) mem0 (by decide) (by decide) ?_
  rintro _ h104 _ K105 le106 ⟨rfl, rfl, p107⟩
  replace E_a := E_a.keep K105
  replace F_a_entries := F_a_entries.keep K105 nin0
  replace F_a_size := F_a_size.keep K105 nin0
  replace F_a_tree := F_a_tree.keep K105 nin0
  replace E_s := E_s.keep K105
  replace E_y := E_y.keep K105
  change Go _ _ _ _ _ _ _ _ _ _ _ _ _ _ [a] h104 2 20 12 #[.val (.ref a), .val (.ref s), .val (.ref y), .unset] [(.int (-1 : Int32))]
  refine Go.istore_n (pc' := 13) (Ls' := #[.val (.ref a), .val (.ref s), .val (.ref y), .val (.int (-1 : Int32))]) d_prog_3_method_4_12 rfl rfl ?_
  refine Go.iload_n (pc' := 14) d_prog_3_method_4_13 rfl rfl ?_
  refine Go.ifY (pc' := 31) d_prog_3_method_4_14 (by decide) (by decide) ((if0 _ _).trans (tlt (by decide : (-1 : Int32) < (0 : Int32))).1) ?_
  refine Go.iload_n (pc' := 32) d_prog_3_method_4_31 rfl rfl ?_
  refine Go.ineg (pc' := 33) d_prog_3_method_4_32 rfl ?_
  rw [show (-(-1 : Int32)) = (1 : Int32) from by decide]
  refine Go.iconst (pc' := 34) d_prog_3_method_4_33 rfl ic_1 ?_
  refine Go.isub (pc' := 35) d_prog_3_method_4_34 rfl ?_
  rw [show ((1 : Int32) - (1 : Int32)) = (0 : Int32) from by decide]
  refine Go.aload_n (pc' := 36) d_prog_3_method_4_35 rfl rfl rfl ?_
  refine Go.getF (pc' := 39) d_prog_3_method_4_36 rfl (host := "") (Or.inl (w_66 hw)) Via.refl F_a_size ?_
  refine Go.icmpY (pc' := 52) d_prog_3_method_4_39 (by decide) (by decide) (teq (rfl : (0 : Int32) = (0 : Int32))).1 ?_
  refine Go.aload_n (pc' := 53) d_prog_3_method_4_52 rfl rfl rfl ?_
  refine Go.iload_n (pc' := 54) d_prog_3_method_4_53 rfl rfl ?_
  refine Go.ineg (pc' := 55) d_prog_3_method_4_54 rfl ?_
  rw [show (-(-1 : Int32)) = (1 : Int32) from by decide]
  refine Go.iconst (pc' := 56) d_prog_3_method_4_55 rfl ic_1 ?_
  refine Go.isub (pc' := 57) d_prog_3_method_4_56 rfl ?_
  rw [show ((1 : Int32) - (1 : Int32)) = (0 : Int32) from by decide]
  refine Go.aload_n (pc' := 58) d_prog_3_method_4_57 rfl rfl rfl ?_
  refine Go.aload_n (pc' := 59) d_prog_3_method_4_58 rfl rfl rfl ?_
  refine Go.callP (pc' := 62) (z := N_21) (a := a) d_prog_3_method_4_59 rfl (w_68 hw) (w_69 hw) (own_selP (z := N_21) (u := ({ cls := "com/example/beleg/beleg/Attributes", name := "put", desc := "(Ljava/lang/String;Ljava/lang/Object;)V" } : Jvm.MethodName)) (w_51 hw) rfl (by decide) (w_69 hw) (w_70 hw)) (w_70 hw) (w_71 hw) (by decide) E_a (argsL := [(.int (0 : Int32)), (.ref s), (.ref y)]) (rest := []) (Pays.of_met (W := 0) (len := 3) (m_ins0 hw hs a s y h104 E_a F_a_entries F_a_size F_a_tree E_s E_y ne_s_a ne_y_a) (w_71 hw) (w_43 hw) (by decide) (by decide)) rfl rfl (lenOf pd_16 rfl) rfl (Nat.le_of_eq rfl) (memS (List.mem_of_getElem? (i := 0) rfl) mem0) (by decide) (by decide) ?_
  rintro _ h110 _ K111 le112 ⟨b108, q109, rfl, rfl, p113, p114, p115, p116, p117, p118, p119⟩
  have o_a_b108 : a ≠ b108 := Nat.ne_of_lt (Nat.lt_of_lt_of_le E_a.lt p117)
  have o_s_b108 : s ≠ b108 := Nat.ne_of_lt (Nat.lt_of_lt_of_le E_s.lt p117)
  have o_y_b108 : y ≠ b108 := Nat.ne_of_lt (Nat.lt_of_lt_of_le E_y.lt p117)
  have ge_b108 := Nat.le_trans le112 p117
  replace E_a := E_a.keep K111
  replace E_s := E_s.keep K111
  replace E_y := E_y.keep K111
  have F_a_entries := p114
  have F_a_size := p115
  have F_a_tree := p116
  have V_b108 := p118
  change Go _ _ _ _ _ _ _ _ _ _ _ _ _ _ [b108, a] h110 3 28 62 #[.val (.ref a), .val (.ref s), .val (.ref y), .val (.int (-1 : Int32))] []
  refine Go.goto (pc' := 69) d_prog_3_method_4_62 (by decide) (by decide) ?_
  refine Go.aload_n (pc' := 70) d_prog_3_method_4_69 rfl rfl rfl ?_
  refine Go.getF (pc' := 73) d_prog_3_method_4_70 rfl (host := "") (Or.inl (w_53 hw)) Via.refl F_a_tree ?_
  refine Go.ifnullY (pc' := 86) d_prog_3_method_4_73 (by decide) (by decide) ?_
  exact Go.retV d_prog_3_method_4_86 rfl (by decide) (by decide) [b108] (snS ⟨(List.mem_of_getElem? (i := 0) rfl), ge_b108⟩ sn0) ⟨b108, q109, rfl, rfl, E_a, F_a_entries, F_a_size, F_a_tree, ge_b108, V_b108, p119⟩
abbrev R_m_ins1_00 : Room := { frames := 1, cells := 0, slots := 0, locals := 24 }
theorem pn_m_ins1_00 : plainFor (⟨"com/example/beleg/beleg/Attributes", "insert", "(ILjava/lang/String;Ljava/lang/Object;)V"⟩ : MethodName) = true := by first | (refine plainFor_of_name ?_; simp [plainName, overriddenIn]; done) | decide +kernel
abbrev Q_m_ins1_00 (Z : State) (a : Addr) (n : Addr) (y2 : Addr) (e : Addr) (ke : ClassId) (s : Addr) (y : Addr) (h0 : Heap) : Option Value → Heap → List Addr → Prop := fun res h' SN => ∃ (ve :  Value) (sz : Int32), res = none ∧ SN = [] ∧ Exa Z h' a "com/example/beleg/beleg/Attributes" ∧ Fld Z h' a "com/example/beleg/beleg/Attributes" "entries" "[Ljava/lang/Object;" ve ∧ Fld Z h' a "com/example/beleg/beleg/Attributes" "size" "I" (.int sz) ∧ Fld Z h' a "com/example/beleg/beleg/Attributes" "tree" "Ljava/util/TreeMap;" .null
theorem ef_m_ins1_00 (mid : MethodId) (a : Addr) (n : Addr) (y2 : Addr) (e : Addr) (ke : ClassId) (s : Addr) (y : Addr) : entryFrame mid #[(.ref a), (.int (0 : Int32)), (.ref n), (.ref y2)] 5 = mkF mid 0 #[.val (.ref a), .val (.int (0 : Int32)), .val (.ref n), .val (.ref y2), .unset] [] := by first | (simp [entryFrame, mkF, argsToLocals, Value.category]; done) | rfl
set_option maxRecDepth 65536 in
set_option maxHeartbeats 40000000 in
theorem m_ins1_00 {l : Launch} {Z : State} {a0 : Array Value} {n0 : Nat} (hw : ∀ d ∈ tables_1, d.before a0 Z = true) (hs : Stat Z) (a : Addr) (n : Addr) (y2 : Addr) (e : Addr) (ke : ClassId) (s : Addr) (y : Addr) (h0 : Heap) (E_a : Exa Z h0 a "com/example/beleg/beleg/Attributes") (F_a_entries : Fld Z h0 a "com/example/beleg/beleg/Attributes" "entries" "[Ljava/lang/Object;" (.ref e)) (F_a_size : Fld Z h0 a "com/example/beleg/beleg/Attributes" "size" "I" (.int (1 : Int32))) (F_a_tree : Fld Z h0 a "com/example/beleg/beleg/Attributes" "tree" "Ljava/util/TreeMap;" .null) (V_e : Arv Z h0 e ke (.object "java/lang/Object") (8 : Int32) [(.ref s), (.ref y), .null, .null, .null, .null, .null, .null] .null) (E_s : Exa Z h0 s "java/lang/String") (E_y : Exa Z h0 y "java/lang/Integer") (E_n : Exa Z h0 n "java/lang/String") (E_y2 : Exa Z h0 y2 "java/lang/Integer") (hov : Ovr Z ke "java/lang/Object") (ne_e_a : e ≠ a) (ne_s_e : s ≠ e) (ne_y_e : y ≠ e) (ne_n_e : n ≠ e) (ne_y2_e : y2 ≠ e) :
    Met l Z EL0 n0 NR0 KN0 N_21 prog_3_method_14_code 5 (Option.none : Option Jvm.ClassFile.FieldType) R_m_ins1_00 [a, e] #[(.ref a), (.int (0 : Int32)), (.ref n), (.ref y2)] h0 (Q_m_ins1_00 Z a n y2 e ke s y h0) := by
  refine Met.of_go pn_m_ins1_00 (fun mid => ef_m_ins1_00 mid a n y2 e ke s y ) ?_
  intro hO hWS
  refine Go.aload_n (pc' := 1) d_prog_3_method_14_0 rfl rfl rfl ?_
  refine Go.getF (pc' := 4) d_prog_3_method_14_1 rfl (host := "") (Or.inl (w_72 hw)) Via.refl F_a_entries ?_
  refine Go.ifnullN (pc' := 7) d_prog_3_method_14_4 rfl ?_
  refine Go.iconst (pc' := 8) d_prog_3_method_14_7 rfl ic_2 ?_
  refine Go.aload_n (pc' := 9) d_prog_3_method_14_8 rfl rfl rfl ?_
  refine Go.getF (pc' := 12) d_prog_3_method_14_9 rfl (host := "") (Or.inl (w_66 hw)) Via.refl F_a_size ?_
  refine Go.imul (pc' := 13) d_prog_3_method_14_12 rfl ?_
  rw [show ((2 : Int32) * (1 : Int32)) = (2 : Int32) from by decide]
  refine Go.aload_n (pc' := 14) d_prog_3_method_14_13 rfl rfl rfl ?_
  refine Go.getF (pc' := 17) d_prog_3_method_14_14 rfl (host := "") (Or.inl (w_72 hw)) Via.refl F_a_entries ?_
  refine Go.lenV (pc' := 18) d_prog_3_method_14_17 rfl V_e ?_
  refine Go.icmpY (pc' := 67) d_prog_3_method_14_18 (by decide) (by decide) (feq (by decide : ¬ ((2 : Int32) = (8 : Int32)))).2 ?_
  refine Go.aload_n (pc' := 68) d_prog_3_method_14_67 rfl rfl rfl ?_
  refine Go.getF (pc' := 71) d_prog_3_method_14_68 rfl (host := "") (Or.inl (w_72 hw)) Via.refl F_a_entries ?_
  refine Go.iconst (pc' := 72) d_prog_3_method_14_71 rfl ic_2 ?_
  refine Go.iload_n (pc' := 73) d_prog_3_method_14_72 rfl rfl ?_
  refine Go.imul (pc' := 74) d_prog_3_method_14_73 rfl ?_
  rw [show ((2 : Int32) * (0 : Int32)) = (0 : Int32) from by decide]
  refine Go.aload_n (pc' := 75) d_prog_3_method_14_74 rfl rfl rfl ?_
  refine Go.getF (pc' := 78) d_prog_3_method_14_75 rfl (host := "") (Or.inl (w_72 hw)) Via.refl F_a_entries ?_
  refine Go.iconst (pc' := 79) d_prog_3_method_14_78 rfl ic_2 ?_
  refine Go.iload_n (pc' := 80) d_prog_3_method_14_79 rfl rfl ?_
  refine Go.imul (pc' := 81) d_prog_3_method_14_80 rfl ?_
  rw [show ((2 : Int32) * (0 : Int32)) = (0 : Int32) from by decide]
  refine Go.iconst (pc' := 82) d_prog_3_method_14_81 rfl ic_2 ?_
  refine Go.iadd (pc' := 83) d_prog_3_method_14_82 rfl ?_
  rw [show ((0 : Int32) + (2 : Int32)) = (2 : Int32) from by decide]
  refine Go.iconst (pc' := 84) d_prog_3_method_14_83 rfl ic_2 ?_
  refine Go.aload_n (pc' := 85) d_prog_3_method_14_84 rfl rfl rfl ?_
  refine Go.getF (pc' := 88) d_prog_3_method_14_85 rfl (host := "") (Or.inl (w_66 hw)) Via.refl F_a_size ?_
  refine Go.iload_n (pc' := 89) d_prog_3_method_14_88 rfl rfl ?_
  refine Go.isub (pc' := 90) d_prog_3_method_14_89 rfl ?_
  rw [show ((1 : Int32) - (0 : Int32)) = (1 : Int32) from by decide]
  refine Go.imul (pc' := 91) d_prog_3_method_14_90 rfl ?_
  rw [show ((2 : Int32) * (1 : Int32)) = (2 : Int32) from by decide]
  refine Go.cpA (pc' := 94) (W := 0) (us := [(.ref s), (.ref y)]) d_prog_3_method_14_91 rfl (List.mem_of_getElem? (i := 1) rfl) (w_80 hw) (w_83 hw) (w_81 hw) (w_82 hw) V_e V_e (Or.inr ⟨rfl, rfl, own_sto V_e hov (Ins.of_exa E_s (w_84 hw)), own_sto V_e hov (Ins.of_exa E_y (w_85 hw)), trivial⟩) (by first | decide | exact Nat.le_of_ble_eq_true rfl) (by first | decide | exact Nat.le_of_ble_eq_true rfl) (by first | decide | exact Nat.le_of_ble_eq_true rfl) (by first | decide | exact Nat.le_of_ble_eq_true rfl) (by first | decide | exact Nat.le_of_ble_eq_true rfl) rfl (by first | decide | exact Nat.le_of_ble_eq_true rfl) rfl (by decide) (Nat.le_of_eq rfl) (by decide) ?_
  intro h120 K121 V_e'
  replace E_a := E_a.keep K121
  replace F_a_entries := F_a_entries.keep K121 (ninS (Ne.symm ne_e_a) nin0)
  replace F_a_size := F_a_size.keep K121 (ninS (Ne.symm ne_e_a) nin0)
  replace F_a_tree := F_a_tree.keep K121 (ninS (Ne.symm ne_e_a) nin0)
  replace E_s := E_s.keep K121
  replace E_y := E_y.keep K121
  replace E_n := E_n.keep K121
  replace E_y2 := E_y2.keep K121
  replace V_e : Arv Z h120 e ke (.object "java/lang/Object") (8 : Int32) [(.ref s), (.ref y), (.ref s), (.ref y), .null, .null, .null, .null] .null := V_e'
  change Go _ _ _ _ _ _ _ _ _ _ _ _ _ _ [a, e] h120 0 0 94 #[.val (.ref a), .val (.int (0 : Int32)), .val (.ref n), .val (.ref y2), .unset] []
  refine Go.aload_n (pc' := 95) d_prog_3_method_14_94 rfl rfl rfl ?_
  refine Go.getF (pc' := 98) d_prog_3_method_14_95 rfl (host := "") (Or.inl (w_72 hw)) Via.refl F_a_entries ?_
  refine Go.iconst (pc' := 99) d_prog_3_method_14_98 rfl ic_2 ?_
  refine Go.iload_n (pc' := 100) d_prog_3_method_14_99 rfl rfl ?_
  refine Go.imul (pc' := 101) d_prog_3_method_14_100 rfl ?_
  rw [show ((2 : Int32) * (0 : Int32)) = (0 : Int32) from by decide]
  refine Go.aload_n (pc' := 102) d_prog_3_method_14_101 rfl rfl rfl ?_
  refine Go.aastoreV (pc' := 103) (i := 0) d_prog_3_method_14_102 rfl (List.mem_of_getElem? (i := 1) rfl) V_e rfl rfl (fun cl A q => Sto.ofV A q hov (Ins.of_exa E_n (w_84 hw))) (by decide) (by decide) (by first | decide | exact Nat.le_of_ble_eq_true rfl) ?_
  intro h122 W123 V_e'
  replace E_a := E_a.wr W123
  replace F_a_entries := F_a_entries.other W123 (Or.inl (Ne.symm ne_e_a))
  replace F_a_size := F_a_size.other W123 (Or.inl (Ne.symm ne_e_a))
  replace F_a_tree := F_a_tree.other W123 (Or.inl (Ne.symm ne_e_a))
  replace E_s := E_s.wr W123
  replace E_y := E_y.wr W123
  replace E_n := E_n.wr W123
  replace E_y2 := E_y2.wr W123
  replace V_e : Arv Z h122 e ke (.object "java/lang/Object") (8 : Int32) [(.ref n), (.ref y), (.ref s), (.ref y), .null, .null, .null, .null] .null := V_e'
  change Go _ _ _ _ _ _ _ _ _ _ _ _ _ _ [a, e] h122 0 0 103 #[.val (.ref a), .val (.int (0 : Int32)), .val (.ref n), .val (.ref y2), .unset] []
  refine Go.aload_n (pc' := 104) d_prog_3_method_14_103 rfl rfl rfl ?_
  refine Go.getF (pc' := 107) d_prog_3_method_14_104 rfl (host := "") (Or.inl (w_72 hw)) Via.refl F_a_entries ?_
  refine Go.iconst (pc' := 108) d_prog_3_method_14_107 rfl ic_2 ?_
  refine Go.iload_n (pc' := 109) d_prog_3_method_14_108 rfl rfl ?_
  refine Go.imul (pc' := 110) d_prog_3_method_14_109 rfl ?_
  rw [show ((2 : Int32) * (0 : Int32)) = (0 : Int32) from by decide]
  refine Go.iconst (pc' := 111) d_prog_3_method_14_110 rfl ic_1 ?_
  refine Go.iadd (pc' := 112) d_prog_3_method_14_111 rfl ?_
  rw [show ((0 : Int32) + (1 : Int32)) = (1 : Int32) from by decide]
  refine Go.aload_n (pc' := 113) d_prog_3_method_14_112 rfl rfl rfl ?_
  refine Go.aastoreV (pc' := 114) (i := 1) d_prog_3_method_14_113 rfl (List.mem_of_getElem? (i := 1) rfl) V_e rfl rfl (fun cl A q => Sto.ofV A q hov (Ins.of_exa E_y2 (w_85 hw))) (by decide) (by decide) (by first | decide | exact Nat.le_of_ble_eq_true rfl) ?_
  intro h124 W125 V_e'
  replace E_a := E_a.wr W125
  replace F_a_entries := F_a_entries.other W125 (Or.inl (Ne.symm ne_e_a))
  replace F_a_size := F_a_size.other W125 (Or.inl (Ne.symm ne_e_a))
  replace F_a_tree := F_a_tree.other W125 (Or.inl (Ne.symm ne_e_a))
  replace E_s := E_s.wr W125
  replace E_y := E_y.wr W125
  replace E_n := E_n.wr W125
  replace E_y2 := E_y2.wr W125
  replace V_e : Arv Z h124 e ke (.object "java/lang/Object") (8 : Int32) [(.ref n), (.ref y2), (.ref s), (.ref y), .null, .null, .null, .null] .null := V_e'
  change Go _ _ _ _ _ _ _ _ _ _ _ _ _ _ [a, e] h124 0 0 114 #[.val (.ref a), .val (.int (0 : Int32)), .val (.ref n), .val (.ref y2), .unset] []
  refine Go.aload_n (pc' := 115) d_prog_3_method_14_114 rfl rfl rfl ?_
  refine Go.dup (pc' := 116) d_prog_3_method_14_115 rfl rfl ?_
  refine Go.getF (pc' := 119) d_prog_3_method_14_116 rfl (host := "") (Or.inl (w_66 hw)) Via.refl F_a_size ?_
  refine Go.iconst (pc' := 120) d_prog_3_method_14_119 rfl ic_1 ?_
  refine Go.iadd (pc' := 121) d_prog_3_method_14_120 rfl ?_
  rw [show ((1 : Int32) + (1 : Int32)) = (2 : Int32) from by decide]
  refine Go.putF (pc' := 124) d_prog_3_method_14_121 rfl (List.mem_of_getElem? (i := 0) rfl) (host := "") (Or.inl (w_66 hw)) Via.refl F_a_size E_a (Or.inl (w_67 hw)) (w_42 hw) (ty := .int) (by decide) rfl rfl ?_
  intro h126 W127
  replace F_a_size := F_a_size.same W127
  replace E_a := E_a.wr W127
  replace F_a_entries := F_a_entries.other W127 (Or.inr (slot_ne (Or.inl (w_73 hw)) (Or.inl (w_67 hw)) (by decide) (t := (.array (.object "java/lang/Object"))) (t' := .int) (by decide) (by decide)))
  replace F_a_tree := F_a_tree.other W127 (Or.inr (slot_ne (Or.inl (w_54 hw)) (Or.inl (w_67 hw)) (by decide) (t := (.object "java/util/TreeMap")) (t' := .int) (by decide) (by decide)))
  replace E_s := E_s.wr W127
  replace E_y := E_y.wr W127
  replace E_n := E_n.wr W127
  replace E_y2 := E_y2.wr W127
  replace V_e := V_e.other W127 ne_e_a
  change Go _ _ _ _ _ _ _ _ _ _ _ _ _ _ [a, e] h126 0 0 124 #[.val (.ref a), .val (.int (0 : Int32)), .val (.ref n), .val (.ref y2), .unset] []
  exact Go.retV d_prog_3_method_14_124 rfl (by decide) (by decide) [] sn0 ⟨_, _, rfl, rfl, E_a, F_a_entries, F_a_size, F_a_tree⟩
abbrev R_m_ins1_01 : Room := { frames := 1, cells := 0, slots := 0, locals := 24 }
theorem pn_m_ins1_01 : plainFor (⟨"com/example/beleg/beleg/Attributes", "insert", "(ILjava/lang/String;Ljava/lang/Object;)V"⟩ : MethodName) = true := by first | (refine plainFor_of_name ?_; simp [plainName, overriddenIn]; done) | decide +kernel
abbrev Q_m_ins1_01 (Z : State) (a : Addr) (n : Addr) (e : Addr) (ke : ClassId) (s : Addr) (y : Addr) (h0 : Heap) : Option Value → Heap → List Addr → Prop := fun res h' SN => ∃ (ve :  Value) (sz : Int32), res = none ∧ SN = [] ∧ Exa Z h' a "com/example/beleg/beleg/Attributes" ∧ Fld Z h' a "com/example/beleg/beleg/Attributes" "entries" "[Ljava/lang/Object;" ve ∧ Fld Z h' a "com/example/beleg/beleg/Attributes" "size" "I" (.int sz) ∧ Fld Z h' a "com/example/beleg/beleg/Attributes" "tree" "Ljava/util/TreeMap;" .null
theorem ef_m_ins1_01 (mid : MethodId) (a : Addr) (n : Addr) (e : Addr) (ke : ClassId) (s : Addr) (y : Addr) : entryFrame mid #[(.ref a), (.int (0 : Int32)), (.ref n), .null] 5 = mkF mid 0 #[.val (.ref a), .val (.int (0 : Int32)), .val (.ref n), .val .null, .unset] [] := by first | (simp [entryFrame, mkF, argsToLocals, Value.category]; done) | rfl
set_option maxRecDepth 65536 in
set_option maxHeartbeats 40000000 in
theorem m_ins1_01 {l : Launch} {Z : State} {a0 : Array Value} {n0 : Nat} (hw : ∀ d ∈ tables_1, d.before a0 Z = true) (hs : Stat Z) (a : Addr) (n : Addr) (e : Addr) (ke : ClassId) (s : Addr) (y : Addr) (h0 : Heap) (E_a : Exa Z h0 a "com/example/beleg/beleg/Attributes") (F_a_entries : Fld Z h0 a "com/example/beleg/beleg/Attributes" "entries" "[Ljava/lang/Object;" (.ref e)) (F_a_size : Fld Z h0 a "com/example/beleg/beleg/Attributes" "size" "I" (.int (1 : Int32))) (F_a_tree : Fld Z h0 a "com/example/beleg/beleg/Attributes" "tree" "Ljava/util/TreeMap;" .null) (V_e : Arv Z h0 e ke (.object "java/lang/Object") (8 : Int32) [(.ref s), (.ref y), .null, .null, .null, .null, .null, .null] .null) (E_s : Exa Z h0 s "java/lang/String") (E_y : Exa Z h0 y "java/lang/Integer") (E_n : Exa Z h0 n "java/lang/String") (hov : Ovr Z ke "java/lang/Object") (ne_e_a : e ≠ a) (ne_s_e : s ≠ e) (ne_y_e : y ≠ e) (ne_n_e : n ≠ e) :
    Met l Z EL0 n0 NR0 KN0 N_21 prog_3_method_14_code 5 (Option.none : Option Jvm.ClassFile.FieldType) R_m_ins1_01 [a, e] #[(.ref a), (.int (0 : Int32)), (.ref n), .null] h0 (Q_m_ins1_01 Z a n e ke s y h0) := by
  refine Met.of_go pn_m_ins1_01 (fun mid => ef_m_ins1_01 mid a n e ke s y ) ?_
  intro hO hWS
  refine Go.aload_n (pc' := 1) d_prog_3_method_14_0 rfl rfl rfl ?_
  refine Go.getF (pc' := 4) d_prog_3_method_14_1 rfl (host := "") (Or.inl (w_72 hw)) Via.refl F_a_entries ?_
  refine Go.ifnullN (pc' := 7) d_prog_3_method_14_4 rfl ?_
  refine Go.iconst (pc' := 8) d_prog_3_method_14_7 rfl ic_2 ?_
  refine Go.aload_n (pc' := 9) d_prog_3_method_14_8 rfl rfl rfl ?_
  refine Go.getF (pc' := 12) d_prog_3_method_14_9 rfl (host := "") (Or.inl (w_66 hw)) Via.refl F_a_size ?_
  refine Go.imul (pc' := 13) d_prog_3_method_14_12 rfl ?_
  rw [show ((2 : Int32) * (1 : Int32)) = (2 : Int32) from by decide]
  refine Go.aload_n (pc' := 14) d_prog_3_method_14_13 rfl rfl rfl ?_
  refine Go.getF (pc' := 17) d_prog_3_method_14_14 rfl (host := "") (Or.inl (w_72 hw)) Via.refl F_a_entries ?_
  refine Go.lenV (pc' := 18) d_prog_3_method_14_17 rfl V_e ?_
  refine Go.icmpY (pc' := 67) d_prog_3_method_14_18 (by decide) (by decide) (feq (by decide : ¬ ((2 : Int32) = (8 : Int32)))).2 ?_
  refine Go.aload_n (pc' := 68) d_prog_3_method_14_67 rfl rfl rfl ?_
  refine Go.getF (pc' := 71) d_prog_3_method_14_68 rfl (host := "") (Or.inl (w_72 hw)) Via.refl F_a_entries ?_
  refine Go.iconst (pc' := 72) d_prog_3_method_14_71 rfl ic_2 ?_
  refine Go.iload_n (pc' := 73) d_prog_3_method_14_72 rfl rfl ?_
  refine Go.imul (pc' := 74) d_prog_3_method_14_73 rfl ?_
  rw [show ((2 : Int32) * (0 : Int32)) = (0 : Int32) from by decide]
  refine Go.aload_n (pc' := 75) d_prog_3_method_14_74 rfl rfl rfl ?_
  refine Go.getF (pc' := 78) d_prog_3_method_14_75 rfl (host := "") (Or.inl (w_72 hw)) Via.refl F_a_entries ?_
  refine Go.iconst (pc' := 79) d_prog_3_method_14_78 rfl ic_2 ?_
  refine Go.iload_n (pc' := 80) d_prog_3_method_14_79 rfl rfl ?_
  refine Go.imul (pc' := 81) d_prog_3_method_14_80 rfl ?_
  rw [show ((2 : Int32) * (0 : Int32)) = (0 : Int32) from by decide]
  refine Go.iconst (pc' := 82) d_prog_3_method_14_81 rfl ic_2 ?_
  refine Go.iadd (pc' := 83) d_prog_3_method_14_82 rfl ?_
  rw [show ((0 : Int32) + (2 : Int32)) = (2 : Int32) from by decide]
  refine Go.iconst (pc' := 84) d_prog_3_method_14_83 rfl ic_2 ?_
  refine Go.aload_n (pc' := 85) d_prog_3_method_14_84 rfl rfl rfl ?_
  refine Go.getF (pc' := 88) d_prog_3_method_14_85 rfl (host := "") (Or.inl (w_66 hw)) Via.refl F_a_size ?_
  refine Go.iload_n (pc' := 89) d_prog_3_method_14_88 rfl rfl ?_
  refine Go.isub (pc' := 90) d_prog_3_method_14_89 rfl ?_
  rw [show ((1 : Int32) - (0 : Int32)) = (1 : Int32) from by decide]
  refine Go.imul (pc' := 91) d_prog_3_method_14_90 rfl ?_
  rw [show ((2 : Int32) * (1 : Int32)) = (2 : Int32) from by decide]
  refine Go.cpA (pc' := 94) (W := 0) (us := [(.ref s), (.ref y)]) d_prog_3_method_14_91 rfl (List.mem_of_getElem? (i := 1) rfl) (w_80 hw) (w_83 hw) (w_81 hw) (w_82 hw) V_e V_e (Or.inr ⟨rfl, rfl, own_sto V_e hov (Ins.of_exa E_s (w_84 hw)), own_sto V_e hov (Ins.of_exa E_y (w_85 hw)), trivial⟩) (by first | decide | exact Nat.le_of_ble_eq_true rfl) (by first | decide | exact Nat.le_of_ble_eq_true rfl) (by first | decide | exact Nat.le_of_ble_eq_true rfl) (by first | decide | exact Nat.le_of_ble_eq_true rfl) (by first | decide | exact Nat.le_of_ble_eq_true rfl) rfl (by first | decide | exact Nat.le_of_ble_eq_true rfl) rfl (by decide) (Nat.le_of_eq rfl) (by decide) ?_
  intro h128 K129 V_e'
  replace E_a := E_a.keep K129
  replace F_a_entries := F_a_entries.keep K129 (ninS (Ne.symm ne_e_a) nin0)
  replace F_a_size := F_a_size.keep K129 (ninS (Ne.symm ne_e_a) nin0)
  replace F_a_tree := F_a_tree.keep K129 (ninS (Ne.symm ne_e_a) nin0)
  replace E_s := E_s.keep K129
  replace E_y := E_y.keep K129
  replace E_n := E_n.keep K129
  replace V_e : Arv Z h128 e ke (.object "java/lang/Object") (8 : Int32) [(.ref s), (.ref y), (.ref s), (.ref y), .null, .null, .null, .null] .null := V_e'
  change Go _ _ _ _ _ _ _ _ _ _ _ _ _ _ [a, e] h128 0 0 94 #[.val (.ref a), .val (.int (0 : Int32)), .val (.ref n), .val .null, .unset] []
  refine Go.aload_n (pc' := 95) d_prog_3_method_14_94 rfl rfl rfl ?_
  refine Go.getF (pc' := 98) d_prog_3_method_14_95 rfl (host := "") (Or.inl (w_72 hw)) Via.refl F_a_entries ?_
  refine Go.iconst (pc' := 99) d_prog_3_method_14_98 rfl ic_2 ?_
  refine Go.iload_n (pc' := 100) d_prog_3_method_14_99 rfl rfl ?_
  refine Go.imul (pc' := 101) d_prog_3_method_14_100 rfl ?_
  rw [show ((2 : Int32) * (0 : Int32)) = (0 : Int32) from by decide]
  refine Go.aload_n (pc' := 102) d_prog_3_method_14_101 rfl rfl rfl ?_
  refine Go.aastoreV (pc' := 103) (i := 0) d_prog_3_method_14_102 rfl (List.mem_of_getElem? (i := 1) rfl) V_e rfl rfl (fun cl A q => Sto.ofV A q hov (Ins.of_exa E_n (w_84 hw))) (by decide) (by decide) (by first | decide | exact Nat.le_of_ble_eq_true rfl) ?_
  intro h130 W131 V_e'
  replace E_a := E_a.wr W131
  replace F_a_entries := F_a_entries.other W131 (Or.inl (Ne.symm ne_e_a))
  replace F_a_size := F_a_size.other W131 (Or.inl (Ne.symm ne_e_a))
  replace F_a_tree := F_a_tree.other W131 (Or.inl (Ne.symm ne_e_a))
  replace E_s := E_s.wr W131
  replace E_y := E_y.wr W131
  replace E_n := E_n.wr W131
  replace V_e : Arv Z h130 e ke (.object "java/lang/Object") (8 : Int32) [(.ref n), (.ref y), (.ref s), (.ref y), .null, .null, .null, .null] .null := V_e'
  change Go _ _ _ _ _ _ _ _ _ _ _ _ _ _ [a, e] h130 0 0 103 #[.val (.ref a), .val (.int (0 : Int32)), .val (.ref n), .val .null, .unset] []
  refine Go.aload_n (pc' := 104) d_prog_3_method_14_103 rfl rfl rfl ?_
  refine Go.getF (pc' := 107) d_prog_3_method_14_104 rfl (host := "") (Or.inl (w_72 hw)) Via.refl F_a_entries ?_
  refine Go.iconst (pc' := 108) d_prog_3_method_14_107 rfl ic_2 ?_
  refine Go.iload_n (pc' := 109) d_prog_3_method_14_108 rfl rfl ?_
  refine Go.imul (pc' := 110) d_prog_3_method_14_109 rfl ?_
  rw [show ((2 : Int32) * (0 : Int32)) = (0 : Int32) from by decide]
  refine Go.iconst (pc' := 111) d_prog_3_method_14_110 rfl ic_1 ?_
  refine Go.iadd (pc' := 112) d_prog_3_method_14_111 rfl ?_
  rw [show ((0 : Int32) + (1 : Int32)) = (1 : Int32) from by decide]
  refine Go.aload_n (pc' := 113) d_prog_3_method_14_112 rfl rfl rfl ?_
  refine Go.aastoreV (pc' := 114) (i := 1) d_prog_3_method_14_113 rfl (List.mem_of_getElem? (i := 1) rfl) V_e rfl rfl (fun cl A q => Or.inl rfl) (by decide) (by decide) (by simp) ?_
  intro h132 W133 V_e'
  replace E_a := E_a.wr W133
  replace F_a_entries := F_a_entries.other W133 (Or.inl (Ne.symm ne_e_a))
  replace F_a_size := F_a_size.other W133 (Or.inl (Ne.symm ne_e_a))
  replace F_a_tree := F_a_tree.other W133 (Or.inl (Ne.symm ne_e_a))
  replace E_s := E_s.wr W133
  replace E_y := E_y.wr W133
  replace E_n := E_n.wr W133
  replace V_e : Arv Z h132 e ke (.object "java/lang/Object") (8 : Int32) [(.ref n), .null, (.ref s), (.ref y), .null, .null, .null, .null] .null := V_e'
  change Go _ _ _ _ _ _ _ _ _ _ _ _ _ _ [a, e] h132 0 0 114 #[.val (.ref a), .val (.int (0 : Int32)), .val (.ref n), .val .null, .unset] []
  refine Go.aload_n (pc' := 115) d_prog_3_method_14_114 rfl rfl rfl ?_
  refine Go.dup (pc' := 116) d_prog_3_method_14_115 rfl rfl ?_
  refine Go.getF (pc' := 119) d_prog_3_method_14_116 rfl (host := "") (Or.inl (w_66 hw)) Via.refl F_a_size ?_
  refine Go.iconst (pc' := 120) d_prog_3_method_14_119 rfl ic_1 ?_
  refine Go.iadd (pc' := 121) d_prog_3_method_14_120 rfl ?_
  rw [show ((1 : Int32) + (1 : Int32)) = (2 : Int32) from by decide]
  refine Go.putF (pc' := 124) d_prog_3_method_14_121 rfl (List.mem_of_getElem? (i := 0) rfl) (host := "") (Or.inl (w_66 hw)) Via.refl F_a_size E_a (Or.inl (w_67 hw)) (w_42 hw) (ty := .int) (by decide) rfl rfl ?_
  intro h134 W135
  replace F_a_size := F_a_size.same W135
  replace E_a := E_a.wr W135
  replace F_a_entries := F_a_entries.other W135 (Or.inr (slot_ne (Or.inl (w_73 hw)) (Or.inl (w_67 hw)) (by decide) (t := (.array (.object "java/lang/Object"))) (t' := .int) (by decide) (by decide)))
  replace F_a_tree := F_a_tree.other W135 (Or.inr (slot_ne (Or.inl (w_54 hw)) (Or.inl (w_67 hw)) (by decide) (t := (.object "java/util/TreeMap")) (t' := .int) (by decide) (by decide)))
  replace E_s := E_s.wr W135
  replace E_y := E_y.wr W135
  replace E_n := E_n.wr W135
  replace V_e := V_e.other W135 ne_e_a
  change Go _ _ _ _ _ _ _ _ _ _ _ _ _ _ [a, e] h134 0 0 124 #[.val (.ref a), .val (.int (0 : Int32)), .val (.ref n), .val .null, .unset] []
  exact Go.retV d_prog_3_method_14_124 rfl (by decide) (by decide) [] sn0 ⟨_, _, rfl, rfl, E_a, F_a_entries, F_a_size, F_a_tree⟩
abbrev R_m_ins1_10 : Room := { frames := 1, cells := 0, slots := 0, locals := 24 }
theorem pn_m_ins1_10 : plainFor (⟨"com/example/beleg/beleg/Attributes", "insert", "(ILjava/lang/String;Ljava/lang/Object;)V"⟩ : MethodName) = true := by first | (refine plainFor_of_name ?_; simp [plainName, overriddenIn]; done) | decide +kernel
abbrev Q_m_ins1_10 (Z : State) (a : Addr) (n : Addr) (y2 : Addr) (e : Addr) (ke : ClassId) (s : Addr) (y : Addr) (h0 : Heap) : Option Value → Heap → List Addr → Prop := fun res h' SN => ∃ (ve :  Value) (sz : Int32), res = none ∧ SN = [] ∧ Exa Z h' a "com/example/beleg/beleg/Attributes" ∧ Fld Z h' a "com/example/beleg/beleg/Attributes" "entries" "[Ljava/lang/Object;" ve ∧ Fld Z h' a "com/example/beleg/beleg/Attributes" "size" "I" (.int sz) ∧ Fld Z h' a "com/example/beleg/beleg/Attributes" "tree" "Ljava/util/TreeMap;" .null
theorem ef_m_ins1_10 (mid : MethodId) (a : Addr) (n : Addr) (y2 : Addr) (e : Addr) (ke : ClassId) (s : Addr) (y : Addr) : entryFrame mid #[(.ref a), (.int (1 : Int32)), (.ref n), (.ref y2)] 5 = mkF mid 0 #[.val (.ref a), .val (.int (1 : Int32)), .val (.ref n), .val (.ref y2), .unset] [] := by first | (simp [entryFrame, mkF, argsToLocals, Value.category]; done) | rfl
set_option maxRecDepth 65536 in
set_option maxHeartbeats 40000000 in
theorem m_ins1_10 {l : Launch} {Z : State} {a0 : Array Value} {n0 : Nat} (hw : ∀ d ∈ tables_1, d.before a0 Z = true) (hs : Stat Z) (a : Addr) (n : Addr) (y2 : Addr) (e : Addr) (ke : ClassId) (s : Addr) (y : Addr) (h0 : Heap) (E_a : Exa Z h0 a "com/example/beleg/beleg/Attributes") (F_a_entries : Fld Z h0 a "com/example/beleg/beleg/Attributes" "entries" "[Ljava/lang/Object;" (.ref e)) (F_a_size : Fld Z h0 a "com/example/beleg/beleg/Attributes" "size" "I" (.int (1 : Int32))) (F_a_tree : Fld Z h0 a "com/example/beleg/beleg/Attributes" "tree" "Ljava/util/TreeMap;" .null) (V_e : Arv Z h0 e ke (.object "java/lang/Object") (8 : Int32) [(.ref s), (.ref y), .null, .null, .null, .null, .null, .null] .null) (E_s : Exa Z h0 s "java/lang/String") (E_y : Exa Z h0 y "java/lang/Integer") (E_n : Exa Z h0 n "java/lang/String") (E_y2 : Exa Z h0 y2 "java/lang/Integer") (hov : Ovr Z ke "java/lang/Object") (ne_e_a : e ≠ a) (ne_s_e : s ≠ e) (ne_y_e : y ≠ e) (ne_n_e : n ≠ e) (ne_y2_e : y2 ≠ e) :
    Met l Z EL0 n0 NR0 KN0 N_21 prog_3_method_14_code 5 (Option.none : Option Jvm.ClassFile.FieldType) R_m_ins1_10 [a, e] #[(.ref a), (.int (1 : Int32)), (.ref n), (.ref y2)] h0 (Q_m_ins1_10 Z a n y2 e ke s y h0) := by
  refine Met.of_go pn_m_ins1_10 (fun mid => ef_m_ins1_10 mid a n y2 e ke s y ) ?_
  intro hO hWS
  refine Go.aload_n (pc' := 1) d_prog_3_method_14_0 rfl rfl rfl ?_
  refine Go.getF (pc' := 4) d_prog_3_method_14_1 rfl (host := "") (Or.inl (w_72 hw)) Via.refl F_a_entries ?_
  refine Go.ifnullN (pc' := 7) d_prog_3_method_14_4 rfl ?_
  refine Go.iconst (pc' := 8) d_prog_3_method_14_7 rfl ic_2 ?_
  refine Go.aload_n (pc' := 9) d_prog_3_method_14_8 rfl rfl rfl ?_
  refine Go.getF (pc' := 12) d_prog_3_method_14_9 rfl (host := "") (Or.inl (w_66 hw)) Via.refl F_a_size ?_
  refine Go.imul (pc' := 13) d_prog_3_method_14_12 rfl ?_
  rw [show ((2 : Int32) * (1 : Int32)) = (2 : Int32) from by decide]
  refine Go.aload_n (pc' := 14) d_prog_3_method_14_13 rfl rfl rfl ?_
  refine Go.getF (pc' := 17) d_prog_3_method_14_14 rfl (host := "") (Or.inl (w_72 hw)) Via.refl F_a_entries ?_
  refine Go.lenV (pc' := 18) d_prog_3_method_14_17 rfl V_e ?_
  refine Go.icmpY (pc' := 67) d_prog_3_method_14_18 (by decide) (by decide) (feq (by decide : ¬ ((2 : Int32) = (8 : Int32)))).2 ?_
  refine Go.aload_n (pc' := 68) d_prog_3_method_14_67 rfl rfl rfl ?_
  refine Go.getF (pc' := 71) d_prog_3_method_14_68 rfl (host := "") (Or.inl (w_72 hw)) Via.refl F_a_entries ?_
  refine Go.iconst (pc' := 72) d_prog_3_method_14_71 rfl ic_2 ?_
  refine Go.iload_n (pc' := 73) d_prog_3_method_14_72 rfl rfl ?_
  refine Go.imul (pc' := 74) d_prog_3_method_14_73 rfl ?_
  rw [show ((2 : Int32) * (1 : Int32)) = (2 : Int32) from by decide]
  refine Go.aload_n (pc' := 75) d_prog_3_method_14_74 rfl rfl rfl ?_
  refine Go.getF (pc' := 78) d_prog_3_method_14_75 rfl (host := "") (Or.inl (w_72 hw)) Via.refl F_a_entries ?_
  refine Go.iconst (pc' := 79) d_prog_3_method_14_78 rfl ic_2 ?_
  refine Go.iload_n (pc' := 80) d_prog_3_method_14_79 rfl rfl ?_
  refine Go.imul (pc' := 81) d_prog_3_method_14_80 rfl ?_
  rw [show ((2 : Int32) * (1 : Int32)) = (2 : Int32) from by decide]
  refine Go.iconst (pc' := 82) d_prog_3_method_14_81 rfl ic_2 ?_
  refine Go.iadd (pc' := 83) d_prog_3_method_14_82 rfl ?_
  rw [show ((2 : Int32) + (2 : Int32)) = (4 : Int32) from by decide]
  refine Go.iconst (pc' := 84) d_prog_3_method_14_83 rfl ic_2 ?_
  refine Go.aload_n (pc' := 85) d_prog_3_method_14_84 rfl rfl rfl ?_
  refine Go.getF (pc' := 88) d_prog_3_method_14_85 rfl (host := "") (Or.inl (w_66 hw)) Via.refl F_a_size ?_
  refine Go.iload_n (pc' := 89) d_prog_3_method_14_88 rfl rfl ?_
  refine Go.isub (pc' := 90) d_prog_3_method_14_89 rfl ?_
  rw [show ((1 : Int32) - (1 : Int32)) = (0 : Int32) from by decide]
  refine Go.imul (pc' := 91) d_prog_3_method_14_90 rfl ?_
  rw [show ((2 : Int32) * (0 : Int32)) = (0 : Int32) from by decide]
  refine Go.cpA (pc' := 94) (W := 0) (us := []) d_prog_3_method_14_91 rfl (List.mem_of_getElem? (i := 1) rfl) (w_80 hw) (w_83 hw) (w_81 hw) (w_82 hw) V_e V_e (Or.inr ⟨rfl, rfl, trivial⟩) (by first | decide | exact Nat.le_of_ble_eq_true rfl) (by first | decide | exact Nat.le_of_ble_eq_true rfl) (by first | decide | exact Nat.le_of_ble_eq_true rfl) (by first | decide | exact Nat.le_of_ble_eq_true rfl) (by first | decide | exact Nat.le_of_ble_eq_true rfl) rfl (by first | decide | exact Nat.le_of_ble_eq_true rfl) rfl (by decide) (Nat.le_of_eq rfl) (by decide) ?_
  intro h136 K137 V_e'
  replace E_a := E_a.keep K137
  replace F_a_entries := F_a_entries.keep K137 (ninS (Ne.symm ne_e_a) nin0)
  replace F_a_size := F_a_size.keep K137 (ninS (Ne.symm ne_e_a) nin0)
  replace F_a_tree := F_a_tree.keep K137 (ninS (Ne.symm ne_e_a) nin0)
  replace E_s := E_s.keep K137
  replace E_y := E_y.keep K137
  replace E_n := E_n.keep K137
  replace E_y2 := E_y2.keep K137
  replace V_e : Arv Z h136 e ke (.object "java/lang/Object") (8 : Int32) [(.ref s), (.ref y), .null, .null, .null, .null, .null, .null] .null := V_e'
  change Go _ _ _ _ _ _ _ _ _ _ _ _ _ _ [a, e] h136 0 0 94 #[.val (.ref a), .val (.int (1 : Int32)), .val (.ref n), .val (.ref y2), .unset] []
  refine Go.aload_n (pc' := 95) d_prog_3_method_14_94 rfl rfl rfl ?_
  refine Go.getF (pc' := 98) d_prog_3_method_14_95 rfl (host := "") (Or.inl (w_72 hw)) Via.refl F_a_entries ?_
  refine Go.iconst (pc' := 99) d_prog_3_method_14_98 rfl ic_2 ?_
  refine Go.iload_n (pc' := 100) d_prog_3_method_14_99 rfl rfl ?_
  refine Go.imul (pc' := 101) d_prog_3_method_14_100 rfl ?_
  rw [show ((2 : Int32) * (1 : Int32)) = (2 : Int32) from by decide]
  refine Go.aload_n (pc' := 102) d_prog_3_method_14_101 rfl rfl rfl ?_
  refine Go.aastoreV (pc' := 103) (i := 2) d_prog_3_method_14_102 rfl (List.mem_of_getElem? (i := 1) rfl) V_e rfl rfl (fun cl A q => Sto.ofV A q hov (Ins.of_exa E_n (w_84 hw))) (by decide) (by decide) (by first | decide | exact Nat.le_of_ble_eq_true rfl) ?_
  intro h138 W139 V_e'
  replace E_a := E_a.wr W139
  replace F_a_entries := F_a_entries.other W139 (Or.inl (Ne.symm ne_e_a))
  replace F_a_size := F_a_size.other W139 (Or.inl (Ne.symm ne_e_a))
  replace F_a_tree := F_a_tree.other W139 (Or.inl (Ne.symm ne_e_a))
  replace E_s := E_s.wr W139
  replace E_y := E_y.wr W139
  replace E_n := E_n.wr W139
  replace E_y2 := E_y2.wr W139
  replace V_e : Arv Z h138 e ke (.object "java/lang/Object") (8 : Int32) [(.ref s), (.ref y), (.ref n), .null, .null, .null, .null, .null] .null := V_e'
  change Go _ _ _ _ _ _ _ _ _ _ _ _ _ _ [a, e] h138 0 0 103 #[.val (.ref a), .val (.int (1 : Int32)), .val (.ref n), .val (.ref y2), .unset] []
  refine Go.aload_n (pc' := 104) d_prog_3_method_14_103 rfl rfl rfl ?_
  refine Go.getF (pc' := 107) d_prog_3_method_14_104 rfl (host := "") (Or.inl (w_72 hw)) Via.refl F_a_entries ?_
  refine Go.iconst (pc' := 108) d_prog_3_method_14_107 rfl ic_2 ?_
  refine Go.iload_n (pc' := 109) d_prog_3_method_14_108 rfl rfl ?_
  refine Go.imul (pc' := 110) d_prog_3_method_14_109 rfl ?_
  rw [show ((2 : Int32) * (1 : Int32)) = (2 : Int32) from by decide]
  refine Go.iconst (pc' := 111) d_prog_3_method_14_110 rfl ic_1 ?_
  refine Go.iadd (pc' := 112) d_prog_3_method_14_111 rfl ?_
  rw [show ((2 : Int32) + (1 : Int32)) = (3 : Int32) from by decide]
  refine Go.aload_n (pc' := 113) d_prog_3_method_14_112 rfl rfl rfl ?_
  refine Go.aastoreV (pc' := 114) (i := 3) d_prog_3_method_14_113 rfl (List.mem_of_getElem? (i := 1) rfl) V_e rfl rfl (fun cl A q => Sto.ofV A q hov (Ins.of_exa E_y2 (w_85 hw))) (by decide) (by decide) (by first | decide | exact Nat.le_of_ble_eq_true rfl) ?_
  intro h140 W141 V_e'
  replace E_a := E_a.wr W141
  replace F_a_entries := F_a_entries.other W141 (Or.inl (Ne.symm ne_e_a))
  replace F_a_size := F_a_size.other W141 (Or.inl (Ne.symm ne_e_a))
  replace F_a_tree := F_a_tree.other W141 (Or.inl (Ne.symm ne_e_a))
  replace E_s := E_s.wr W141
  replace E_y := E_y.wr W141
  replace E_n := E_n.wr W141
  replace E_y2 := E_y2.wr W141
  replace V_e : Arv Z h140 e ke (.object "java/lang/Object") (8 : Int32) [(.ref s), (.ref y), (.ref n), (.ref y2), .null, .null, .null, .null] .null := V_e'
  change Go _ _ _ _ _ _ _ _ _ _ _ _ _ _ [a, e] h140 0 0 114 #[.val (.ref a), .val (.int (1 : Int32)), .val (.ref n), .val (.ref y2), .unset] []
  refine Go.aload_n (pc' := 115) d_prog_3_method_14_114 rfl rfl rfl ?_
  refine Go.dup (pc' := 116) d_prog_3_method_14_115 rfl rfl ?_
  refine Go.getF (pc' := 119) d_prog_3_method_14_116 rfl (host := "") (Or.inl (w_66 hw)) Via.refl F_a_size ?_
  refine Go.iconst (pc' := 120) d_prog_3_method_14_119 rfl ic_1 ?_
  refine Go.iadd (pc' := 121) d_prog_3_method_14_120 rfl ?_
  rw [show ((1 : Int32) + (1 : Int32)) = (2 : Int32) from by decide]
  refine Go.putF (pc' := 124) d_prog_3_method_14_121 rfl (List.mem_of_getElem? (i := 0) rfl) (host := "") (Or.inl (w_66 hw)) Via.refl F_a_size E_a (Or.inl (w_67 hw)) (w_42 hw) (ty := .int) (by decide) rfl rfl ?_
  intro h142 W143
  replace F_a_size := F_a_size.same W143
  replace E_a := E_a.wr W143
  replace F_a_entries := F_a_entries.other W143 (Or.inr (slot_ne (Or.inl (w_73 hw)) (Or.inl (w_67 hw)) (by decide) (t := (.array (.object "java/lang/Object"))) (t' := .int) (by decide) (by decide)))
  replace F_a_tree := F_a_tree.other W143 (Or.inr (slot_ne (Or.inl (w_54 hw)) (Or.inl (w_67 hw)) (by decide) (t := (.object "java/util/TreeMap")) (t' := .int) (by decide) (by decide)))
  replace E_s := E_s.wr W143
  replace E_y := E_y.wr W143
  replace E_n := E_n.wr W143
  replace E_y2 := E_y2.wr W143
  replace V_e := V_e.other W143 ne_e_a
  change Go _ _ _ _ _ _ _ _ _ _ _ _ _ _ [a, e] h142 0 0 124 #[.val (.ref a), .val (.int (1 : Int32)), .val (.ref n), .val (.ref y2), .unset] []
  exact Go.retV d_prog_3_method_14_124 rfl (by decide) (by decide) [] sn0 ⟨_, _, rfl, rfl, E_a, F_a_entries, F_a_size, F_a_tree⟩
abbrev R_m_ins1_11 : Room := { frames := 1, cells := 0, slots := 0, locals := 24 }
theorem pn_m_ins1_11 : plainFor (⟨"com/example/beleg/beleg/Attributes", "insert", "(ILjava/lang/String;Ljava/lang/Object;)V"⟩ : MethodName) = true := by first | (refine plainFor_of_name ?_; simp [plainName, overriddenIn]; done) | decide +kernel
abbrev Q_m_ins1_11 (Z : State) (a : Addr) (n : Addr) (e : Addr) (ke : ClassId) (s : Addr) (y : Addr) (h0 : Heap) : Option Value → Heap → List Addr → Prop := fun res h' SN => ∃ (ve :  Value) (sz : Int32), res = none ∧ SN = [] ∧ Exa Z h' a "com/example/beleg/beleg/Attributes" ∧ Fld Z h' a "com/example/beleg/beleg/Attributes" "entries" "[Ljava/lang/Object;" ve ∧ Fld Z h' a "com/example/beleg/beleg/Attributes" "size" "I" (.int sz) ∧ Fld Z h' a "com/example/beleg/beleg/Attributes" "tree" "Ljava/util/TreeMap;" .null
theorem ef_m_ins1_11 (mid : MethodId) (a : Addr) (n : Addr) (e : Addr) (ke : ClassId) (s : Addr) (y : Addr) : entryFrame mid #[(.ref a), (.int (1 : Int32)), (.ref n), .null] 5 = mkF mid 0 #[.val (.ref a), .val (.int (1 : Int32)), .val (.ref n), .val .null, .unset] [] := by first | (simp [entryFrame, mkF, argsToLocals, Value.category]; done) | rfl
set_option maxRecDepth 65536 in
set_option maxHeartbeats 40000000 in
theorem m_ins1_11 {l : Launch} {Z : State} {a0 : Array Value} {n0 : Nat} (hw : ∀ d ∈ tables_1, d.before a0 Z = true) (hs : Stat Z) (a : Addr) (n : Addr) (e : Addr) (ke : ClassId) (s : Addr) (y : Addr) (h0 : Heap) (E_a : Exa Z h0 a "com/example/beleg/beleg/Attributes") (F_a_entries : Fld Z h0 a "com/example/beleg/beleg/Attributes" "entries" "[Ljava/lang/Object;" (.ref e)) (F_a_size : Fld Z h0 a "com/example/beleg/beleg/Attributes" "size" "I" (.int (1 : Int32))) (F_a_tree : Fld Z h0 a "com/example/beleg/beleg/Attributes" "tree" "Ljava/util/TreeMap;" .null) (V_e : Arv Z h0 e ke (.object "java/lang/Object") (8 : Int32) [(.ref s), (.ref y), .null, .null, .null, .null, .null, .null] .null) (E_s : Exa Z h0 s "java/lang/String") (E_y : Exa Z h0 y "java/lang/Integer") (E_n : Exa Z h0 n "java/lang/String") (hov : Ovr Z ke "java/lang/Object") (ne_e_a : e ≠ a) (ne_s_e : s ≠ e) (ne_y_e : y ≠ e) (ne_n_e : n ≠ e) :
    Met l Z EL0 n0 NR0 KN0 N_21 prog_3_method_14_code 5 (Option.none : Option Jvm.ClassFile.FieldType) R_m_ins1_11 [a, e] #[(.ref a), (.int (1 : Int32)), (.ref n), .null] h0 (Q_m_ins1_11 Z a n e ke s y h0) := by
  refine Met.of_go pn_m_ins1_11 (fun mid => ef_m_ins1_11 mid a n e ke s y ) ?_
  intro hO hWS
  refine Go.aload_n (pc' := 1) d_prog_3_method_14_0 rfl rfl rfl ?_
  refine Go.getF (pc' := 4) d_prog_3_method_14_1 rfl (host := "") (Or.inl (w_72 hw)) Via.refl F_a_entries ?_
  refine Go.ifnullN (pc' := 7) d_prog_3_method_14_4 rfl ?_
  refine Go.iconst (pc' := 8) d_prog_3_method_14_7 rfl ic_2 ?_
  refine Go.aload_n (pc' := 9) d_prog_3_method_14_8 rfl rfl rfl ?_
  refine Go.getF (pc' := 12) d_prog_3_method_14_9 rfl (host := "") (Or.inl (w_66 hw)) Via.refl F_a_size ?_
  refine Go.imul (pc' := 13) d_prog_3_method_14_12 rfl ?_
  rw [show ((2 : Int32) * (1 : Int32)) = (2 : Int32) from by decide]
  refine Go.aload_n (pc' := 14) d_prog_3_method_14_13 rfl rfl rfl ?_
  refine Go.getF (pc' := 17) d_prog_3_method_14_14 rfl (host := "") (Or.inl (w_72 hw)) Via.refl F_a_entries ?_
  refine Go.lenV (pc' := 18) d_prog_3_method_14_17 rfl V_e ?_
  refine Go.icmpY (pc' := 67) d_prog_3_method_14_18 (by decide) (by decide) (feq (by decide : ¬ ((2 : Int32) = (8 : Int32)))).2 ?_
  refine Go.aload_n (pc' := 68) d_prog_3_method_14_67 rfl rfl rfl ?_
  refine Go.getF (pc' := 71) d_prog_3_method_14_68 rfl (host := "") (Or.inl (w_72 hw)) Via.refl F_a_entries ?_
  refine Go.iconst (pc' := 72) d_prog_3_method_14_71 rfl ic_2 ?_
  refine Go.iload_n (pc' := 73) d_prog_3_method_14_72 rfl rfl ?_
  refine Go.imul (pc' := 74) d_prog_3_method_14_73 rfl ?_
  rw [show ((2 : Int32) * (1 : Int32)) = (2 : Int32) from by decide]
  refine Go.aload_n (pc' := 75) d_prog_3_method_14_74 rfl rfl rfl ?_
  refine Go.getF (pc' := 78) d_prog_3_method_14_75 rfl (host := "") (Or.inl (w_72 hw)) Via.refl F_a_entries ?_
  refine Go.iconst (pc' := 79) d_prog_3_method_14_78 rfl ic_2 ?_
  refine Go.iload_n (pc' := 80) d_prog_3_method_14_79 rfl rfl ?_
  refine Go.imul (pc' := 81) d_prog_3_method_14_80 rfl ?_
  rw [show ((2 : Int32) * (1 : Int32)) = (2 : Int32) from by decide]
  refine Go.iconst (pc' := 82) d_prog_3_method_14_81 rfl ic_2 ?_
  refine Go.iadd (pc' := 83) d_prog_3_method_14_82 rfl ?_
  rw [show ((2 : Int32) + (2 : Int32)) = (4 : Int32) from by decide]
  refine Go.iconst (pc' := 84) d_prog_3_method_14_83 rfl ic_2 ?_
  refine Go.aload_n (pc' := 85) d_prog_3_method_14_84 rfl rfl rfl ?_
  refine Go.getF (pc' := 88) d_prog_3_method_14_85 rfl (host := "") (Or.inl (w_66 hw)) Via.refl F_a_size ?_
  refine Go.iload_n (pc' := 89) d_prog_3_method_14_88 rfl rfl ?_
  refine Go.isub (pc' := 90) d_prog_3_method_14_89 rfl ?_
  rw [show ((1 : Int32) - (1 : Int32)) = (0 : Int32) from by decide]
  refine Go.imul (pc' := 91) d_prog_3_method_14_90 rfl ?_
  rw [show ((2 : Int32) * (0 : Int32)) = (0 : Int32) from by decide]
  refine Go.cpA (pc' := 94) (W := 0) (us := []) d_prog_3_method_14_91 rfl (List.mem_of_getElem? (i := 1) rfl) (w_80 hw) (w_83 hw) (w_81 hw) (w_82 hw) V_e V_e (Or.inr ⟨rfl, rfl, trivial⟩) (by first | decide | exact Nat.le_of_ble_eq_true rfl) (by first | decide | exact Nat.le_of_ble_eq_true rfl) (by first | decide | exact Nat.le_of_ble_eq_true rfl) (by first | decide | exact Nat.le_of_ble_eq_true rfl) (by first | decide | exact Nat.le_of_ble_eq_true rfl) rfl (by first | decide | exact Nat.le_of_ble_eq_true rfl) rfl (by decide) (Nat.le_of_eq rfl) (by decide) ?_
  intro h144 K145 V_e'
  replace E_a := E_a.keep K145
  replace F_a_entries := F_a_entries.keep K145 (ninS (Ne.symm ne_e_a) nin0)
  replace F_a_size := F_a_size.keep K145 (ninS (Ne.symm ne_e_a) nin0)
  replace F_a_tree := F_a_tree.keep K145 (ninS (Ne.symm ne_e_a) nin0)
  replace E_s := E_s.keep K145
  replace E_y := E_y.keep K145
  replace E_n := E_n.keep K145
  replace V_e : Arv Z h144 e ke (.object "java/lang/Object") (8 : Int32) [(.ref s), (.ref y), .null, .null, .null, .null, .null, .null] .null := V_e'
  change Go _ _ _ _ _ _ _ _ _ _ _ _ _ _ [a, e] h144 0 0 94 #[.val (.ref a), .val (.int (1 : Int32)), .val (.ref n), .val .null, .unset] []
  refine Go.aload_n (pc' := 95) d_prog_3_method_14_94 rfl rfl rfl ?_
  refine Go.getF (pc' := 98) d_prog_3_method_14_95 rfl (host := "") (Or.inl (w_72 hw)) Via.refl F_a_entries ?_
  refine Go.iconst (pc' := 99) d_prog_3_method_14_98 rfl ic_2 ?_
  refine Go.iload_n (pc' := 100) d_prog_3_method_14_99 rfl rfl ?_
  refine Go.imul (pc' := 101) d_prog_3_method_14_100 rfl ?_
  rw [show ((2 : Int32) * (1 : Int32)) = (2 : Int32) from by decide]
  refine Go.aload_n (pc' := 102) d_prog_3_method_14_101 rfl rfl rfl ?_
  refine Go.aastoreV (pc' := 103) (i := 2) d_prog_3_method_14_102 rfl (List.mem_of_getElem? (i := 1) rfl) V_e rfl rfl (fun cl A q => Sto.ofV A q hov (Ins.of_exa E_n (w_84 hw))) (by decide) (by decide) (by first | decide | exact Nat.le_of_ble_eq_true rfl) ?_
  intro h146 W147 V_e'
  replace E_a := E_a.wr W147
  replace F_a_entries := F_a_entries.other W147 (Or.inl (Ne.symm ne_e_a))
  replace F_a_size := F_a_size.other W147 (Or.inl (Ne.symm ne_e_a))
  replace F_a_tree := F_a_tree.other W147 (Or.inl (Ne.symm ne_e_a))
  replace E_s := E_s.wr W147
  replace E_y := E_y.wr W147
  replace E_n := E_n.wr W147
  replace V_e : Arv Z h146 e ke (.object "java/lang/Object") (8 : Int32) [(.ref s), (.ref y), (.ref n), .null, .null, .null, .null, .null] .null := V_e'
  change Go _ _ _ _ _ _ _ _ _ _ _ _ _ _ [a, e] h146 0 0 103 #[.val (.ref a), .val (.int (1 : Int32)), .val (.ref n), .val .null, .unset] []
  refine Go.aload_n (pc' := 104) d_prog_3_method_14_103 rfl rfl rfl ?_
  refine Go.getF (pc' := 107) d_prog_3_method_14_104 rfl (host := "") (Or.inl (w_72 hw)) Via.refl F_a_entries ?_
  refine Go.iconst (pc' := 108) d_prog_3_method_14_107 rfl ic_2 ?_
  refine Go.iload_n (pc' := 109) d_prog_3_method_14_108 rfl rfl ?_
  refine Go.imul (pc' := 110) d_prog_3_method_14_109 rfl ?_
  rw [show ((2 : Int32) * (1 : Int32)) = (2 : Int32) from by decide]
  refine Go.iconst (pc' := 111) d_prog_3_method_14_110 rfl ic_1 ?_
  refine Go.iadd (pc' := 112) d_prog_3_method_14_111 rfl ?_
  rw [show ((2 : Int32) + (1 : Int32)) = (3 : Int32) from by decide]
  refine Go.aload_n (pc' := 113) d_prog_3_method_14_112 rfl rfl rfl ?_
  refine Go.aastoreV (pc' := 114) (i := 3) d_prog_3_method_14_113 rfl (List.mem_of_getElem? (i := 1) rfl) V_e rfl rfl (fun cl A q => Or.inl rfl) (by decide) (by decide) (by simp) ?_
  intro h148 W149 V_e'
  replace E_a := E_a.wr W149
  replace F_a_entries := F_a_entries.other W149 (Or.inl (Ne.symm ne_e_a))
  replace F_a_size := F_a_size.other W149 (Or.inl (Ne.symm ne_e_a))
  replace F_a_tree := F_a_tree.other W149 (Or.inl (Ne.symm ne_e_a))
  replace E_s := E_s.wr W149
  replace E_y := E_y.wr W149
  replace E_n := E_n.wr W149
  replace V_e : Arv Z h148 e ke (.object "java/lang/Object") (8 : Int32) [(.ref s), (.ref y), (.ref n), .null, .null, .null, .null, .null] .null := V_e'
  change Go _ _ _ _ _ _ _ _ _ _ _ _ _ _ [a, e] h148 0 0 114 #[.val (.ref a), .val (.int (1 : Int32)), .val (.ref n), .val .null, .unset] []
  refine Go.aload_n (pc' := 115) d_prog_3_method_14_114 rfl rfl rfl ?_
  refine Go.dup (pc' := 116) d_prog_3_method_14_115 rfl rfl ?_
  refine Go.getF (pc' := 119) d_prog_3_method_14_116 rfl (host := "") (Or.inl (w_66 hw)) Via.refl F_a_size ?_
  refine Go.iconst (pc' := 120) d_prog_3_method_14_119 rfl ic_1 ?_
  refine Go.iadd (pc' := 121) d_prog_3_method_14_120 rfl ?_
  rw [show ((1 : Int32) + (1 : Int32)) = (2 : Int32) from by decide]
  refine Go.putF (pc' := 124) d_prog_3_method_14_121 rfl (List.mem_of_getElem? (i := 0) rfl) (host := "") (Or.inl (w_66 hw)) Via.refl F_a_size E_a (Or.inl (w_67 hw)) (w_42 hw) (ty := .int) (by decide) rfl rfl ?_
  intro h150 W151
  replace F_a_size := F_a_size.same W151
  replace E_a := E_a.wr W151
  replace F_a_entries := F_a_entries.other W151 (Or.inr (slot_ne (Or.inl (w_73 hw)) (Or.inl (w_67 hw)) (by decide) (t := (.array (.object "java/lang/Object"))) (t' := .int) (by decide) (by decide)))
  replace F_a_tree := F_a_tree.other W151 (Or.inr (slot_ne (Or.inl (w_54 hw)) (Or.inl (w_67 hw)) (by decide) (t := (.object "java/util/TreeMap")) (t' := .int) (by decide) (by decide)))
  replace E_s := E_s.wr W151
  replace E_y := E_y.wr W151
  replace E_n := E_n.wr W151
  replace V_e := V_e.other W151 ne_e_a
  change Go _ _ _ _ _ _ _ _ _ _ _ _ _ _ [a, e] h150 0 0 124 #[.val (.ref a), .val (.int (1 : Int32)), .val (.ref n), .val .null, .unset] []
  exact Go.retV d_prog_3_method_14_124 rfl (by decide) (by decide) [] sn0 ⟨_, _, rfl, rfl, E_a, F_a_entries, F_a_size, F_a_tree⟩
abbrev R_m_put1_0 : Room := { frames := 5, cells := 2, slots := 20, locals := 80 }
theorem pn_m_put1_0 : plainFor (⟨"com/example/beleg/beleg/Attributes", "put", "(Ljava/lang/String;Ljava/lang/Object;)V"⟩ : MethodName) = true := by first | (refine plainFor_of_name ?_; simp [plainName, overriddenIn]; done) | decide +kernel
abbrev Q_m_put1_0 (Z : State) (a : Addr) (n : Addr) (y2 : Addr) (e : Addr) (ke : ClassId) (s : Addr) (y : Addr) (t : Addr) (kt : ClassId) (u0 : Int32) (u1 : Int32) (t2 : Addr) (kt2 : ClassId) (w0 : Int32) (w1 : Int32) (h0 : Heap) : Option Value → Heap → List Addr → Prop := fun res h' SN => ∃ (ve :  Value) (sz : Int32), res = none ∧ SN = [] ∧ Exa Z h' a "com/example/beleg/beleg/Attributes" ∧ Fld Z h' a "com/example/beleg/beleg/Attributes" "entries" "[Ljava/lang/Object;" ve ∧ Fld Z h' a "com/example/beleg/beleg/Attributes" "size" "I" (.int sz) ∧ Fld Z h' a "com/example/beleg/beleg/Attributes" "tree" "Ljava/util/TreeMap;" .null
theorem ef_m_put1_0 (mid : MethodId) (a : Addr) (n : Addr) (y2 : Addr) (e : Addr) (ke : ClassId) (s : Addr) (y : Addr) (t : Addr) (kt : ClassId) (u0 : Int32) (u1 : Int32) (t2 : Addr) (kt2 : ClassId) (w0 : Int32) (w1 : Int32) : entryFrame mid #[(.ref a), (.ref n), (.ref y2)] 4 = mkF mid 0 #[.val (.ref a), .val (.ref n), .val (.ref y2), .unset] [] := by first | (simp [entryFrame, mkF, argsToLocals, Value.category]; done) | rfl
set_option maxRecDepth 65536 in
set_option maxHeartbeats 40000000 in
theorem m_put1_0 {l : Launch} {Z : State} {a0 : Array Value} {n0 : Nat} (hw : ∀ d ∈ tables_1, d.before a0 Z = true) (hs : Stat Z) (a : Addr) (n : Addr) (y2 : Addr) (e : Addr) (ke : ClassId) (s : Addr) (y : Addr) (t : Addr) (kt : ClassId) (u0 : Int32) (u1 : Int32) (t2 : Addr) (kt2 : ClassId) (w0 : Int32) (w1 : Int32) (h0 : Heap) (E_a : Exa Z h0 a "com/example/beleg/beleg/Attributes") (F_a_entries : Fld Z h0 a "com/example/beleg/beleg/Attributes" "entries" "[Ljava/lang/Object;" (.ref e)) (F_a_size : Fld Z h0 a "com/example/beleg/beleg/Attributes" "size" "I" (.int (1 : Int32))) (F_a_tree : Fld Z h0 a "com/example/beleg/beleg/Attributes" "tree" "Ljava/util/TreeMap;" .null) (V_e : Arv Z h0 e ke (.object "java/lang/Object") (8 : Int32) [(.ref s), (.ref y), .null, .null, .null, .null, .null, .null] .null) (E_s : Exa Z h0 s "java/lang/String") (E_y : Exa Z h0 y "java/lang/Integer") (F_s_coder : Fld Z h0 s "java/lang/String" "coder" "B" (.int (0 : Int32))) (F_s_value : Fld Z h0 s "java/lang/String" "value" "[B" (.ref t)) (V_t : Arv Z h0 t kt .byte (2 : Int32) [(.int u0), (.int u1)] (.int (0 : Int32))) (E_n : Exa Z h0 n "java/lang/String") (F_n_coder : Fld Z h0 n "java/lang/String" "coder" "B" (.int (0 : Int32))) (F_n_value : Fld Z h0 n "java/lang/String" "value" "[B" (.ref t2)) (V_t2 : Arv Z h0 t2 kt2 .byte (2 : Int32) [(.int w0), (.int w1)] (.int (0 : Int32))) (E_y2 : Exa Z h0 y2 "java/lang/Integer") (hov : Ovr Z ke "java/lang/Object") (ne_e_a : e ≠ a) (ne_s_e : s ≠ e) (ne_y_e : y ≠ e) (ne_n_e : n ≠ e) (ne_y2_e : y2 ≠ e) :
    Met l Z EL0 n0 NR0 KN0 N_22 prog_3_method_4_code 4 (Option.none : Option Jvm.ClassFile.FieldType) R_m_put1_0 [a, e] #[(.ref a), (.ref n), (.ref y2)] h0 (Q_m_put1_0 Z a n y2 e ke s y t kt u0 u1 t2 kt2 w0 w1 h0) := by
  refine Met.of_go pn_m_put1_0 (fun mid => ef_m_put1_0 mid a n y2 e ke s y t kt u0 u1 t2 kt2 w0 w1 ) ?_
  intro hO hWS
  refine Go.aload_n (pc' := 1) d_prog_3_method_4_0 rfl rfl rfl ?_
  refine Go.getF (pc' := 4) d_prog_3_method_4_1 rfl (host := "") (Or.inl (w_53 hw)) Via.refl F_a_tree ?_
  refine Go.ifnonnullN (pc' := 7) d_prog_3_method_4_4 rfl ?_
  refine Go.aload_n (pc' := 8) d_prog_3_method_4_7 rfl rfl rfl ?_
  refine Go.aload_n (pc' := 9) d_prog_3_method_4_8 rfl rfl rfl ?_
  refine Go.callP (pc' := 12) (z := N_20) (a := a) d_prog_3_method_4_9 rfl (w_55 hw) (w_56 hw) (own_selP (z := N_20) (u := ({ cls := "com/example/beleg/beleg/Attributes", name := "put", desc := "(Ljava/lang/String;Ljava/lang/Object;)V" } : Jvm.MethodName)) (w_51 hw) rfl (by decide) (w_56 hw) (w_57 hw)) (w_57 hw) (w_58 hw) (by decide) E_a (argsL := [(.ref n)]) (rest := []) (Pays.of_met (W := 0) (len := 3) (m_idx1 hw hs a n e ke s y t kt u0 u1 t2 kt2 w0 w1 h0 E_a F_a_size F_a_entries V_e E_s F_s_coder F_s_value V_t E_n F_n_coder F_n_value V_t2) (w_58 hw) (w_43 hw) (by decide) (by decide)) rfl rfl (lenOf pd_15 rfl) rfl (Nat.le_of_eq rfl) mem0 (by decide) (by decide) ?_
  rintro _ h153 _ K154 le155 ⟨i152, rfl, rfl, p156⟩
  replace E_a := E_a.keep K154
  replace F_a_entries := F_a_entries.keep K154 nin0
  replace F_a_size := F_a_size.keep K154 nin0
  replace F_a_tree := F_a_tree.keep K154 nin0
  replace V_e := V_e.keep K154 nin0
  replace E_s := E_s.keep K154
  replace E_y := E_y.keep K154
  replace F_s_coder := F_s_coder.keep K154 nin0
  replace F_s_value := F_s_value.keep K154 nin0
  replace V_t := V_t.keep K154 nin0
  replace E_n := E_n.keep K154
  replace F_n_coder := F_n_coder.keep K154 nin0
  replace F_n_value := F_n_value.keep K154 nin0
  replace V_t2 := V_t2.keep K154 nin0
  replace E_y2 := E_y2.keep K154
  change Go _ _ _ _ _ _ _ _ _ _ _ _ _ _ [a, e] h153 2 20 12 #[.val (.ref a), .val (.ref n), .val (.ref y2), .unset] [(.int i152)]
  refine Go.istore_n (pc' := 13) (Ls' := #[.val (.ref a), .val (.ref n), .val (.ref y2), .val (.int i152)]) d_prog_3_method_4_12 rfl rfl ?_
  refine Go.iload_n (pc' := 14) d_prog_3_method_4_13 rfl rfl ?_
  rcases p156 with rfl | rfl | rfl
  · skip
    refine Go.ifN (pc' := 17) d_prog_3_method_4_14 rfl ((if0 _ _).trans (flt (by decide : ¬ ((0 : Int32) < (0 : Int32)))).1) ?_
    refine Go.aload_n (pc' := 18) d_prog_3_method_4_17 rfl rfl rfl ?_
    refine Go.getF (pc' := 21) d_prog_3_method_4_18 rfl (host := "") (Or.inl (w_72 hw)) Via.refl F_a_entries ?_
    refine Go.iconst (pc' := 22) d_prog_3_method_4_21 rfl ic_2 ?_
    refine Go.iload_n (pc' := 23) d_prog_3_method_4_22 rfl rfl ?_
    refine Go.imul (pc' := 24) d_prog_3_method_4_23 rfl ?_
    rw [show ((2 : Int32) * (0 : Int32)) = (0 : Int32) from by decide]
    refine Go.iconst (pc' := 25) d_prog_3_method_4_24 rfl ic_1 ?_
    refine Go.iadd (pc' := 26) d_prog_3_method_4_25 rfl ?_
    rw [show ((0 : Int32) + (1 : Int32)) = (1 : Int32) from by decide]
    refine Go.aload_n (pc' := 27) d_prog_3_method_4_26 rfl rfl rfl ?_
    refine Go.aastoreV (pc' := 28) (i := 1) d_prog_3_method_4_27 rfl (List.mem_of_getElem? (i := 1) rfl) V_e rfl rfl (fun cl A q => Sto.ofV A q hov (Ins.of_exa E_y2 (w_85 hw))) (by decide) (by decide) (by first | decide | exact Nat.le_of_ble_eq_true rfl) ?_
    intro h157 W158 V_e'
    replace E_a := E_a.wr W158
    replace F_a_entries := F_a_entries.other W158 (Or.inl (Ne.symm ne_e_a))
    replace F_a_size := F_a_size.other W158 (Or.inl (Ne.symm ne_e_a))
    replace F_a_tree := F_a_tree.other W158 (Or.inl (Ne.symm ne_e_a))
    replace E_s := E_s.wr W158
    replace E_y := E_y.wr W158
    replace F_s_coder := F_s_coder.other W158 (Or.inl ne_s_e)
    replace F_s_value := F_s_value.other W158 (Or.inl ne_s_e)
    replace E_n := E_n.wr W158
    replace F_n_coder := F_n_coder.other W158 (Or.inl ne_n_e)
    replace F_n_value := F_n_value.other W158 (Or.inl ne_n_e)
    replace E_y2 := E_y2.wr W158
    replace V_e : Arv Z h157 e ke (.object "java/lang/Object") (8 : Int32) [(.ref s), (.ref y2), .null, .null, .null, .null, .null, .null] .null := V_e'
    change Go _ _ _ _ _ _ _ _ _ _ _ _ _ _ [a, e] h157 2 20 28 #[.val (.ref a), .val (.ref n), .val (.ref y2), .val (.int (0 : Int32))] []
    refine Go.goto (pc' := 69) d_prog_3_method_4_28 (by decide) (by decide) ?_
    refine Go.aload_n (pc' := 70) d_prog_3_method_4_69 rfl rfl rfl ?_
    refine Go.getF (pc' := 73) d_prog_3_method_4_70 rfl (host := "") (Or.inl (w_53 hw)) Via.refl F_a_tree ?_
    refine Go.ifnullY (pc' := 86) d_prog_3_method_4_73 (by decide) (by decide) ?_
    exact Go.retV d_prog_3_method_4_86 rfl (by decide) (by decide) [] sn0 ⟨_, _, rfl, rfl, E_a, F_a_entries, F_a_size, F_a_tree⟩
  · skip
    refine Go.ifY (pc' := 31) d_prog_3_method_4_14 (by decide) (by decide) ((if0 _ _).trans (tlt (by decide : (-2 : Int32) < (0 : Int32))).1) ?_
    refine Go.iload_n (pc' := 32) d_prog_3_method_4_31 rfl rfl ?_
    refine Go.ineg (pc' := 33) d_prog_3_method_4_32 rfl ?_
    rw [show (-(-2 : Int32)) = (2 : Int32) from by decide]
    refine Go.iconst (pc' := 34) d_prog_3_method_4_33 rfl ic_1 ?_
    refine Go.isub (pc' := 35) d_prog_3_method_4_34 rfl ?_
    rw [show ((2 : Int32) - (1 : Int32)) = (1 : Int32) from by decide]
    refine Go.aload_n (pc' := 36) d_prog_3_method_4_35 rfl rfl rfl ?_
    refine Go.getF (pc' := 39) d_prog_3_method_4_36 rfl (host := "") (Or.inl (w_66 hw)) Via.refl F_a_size ?_
    refine Go.icmpY (pc' := 52) d_prog_3_method_4_39 (by decide) (by decide) (teq (by decide : (1 : Int32) = (1 : Int32))).1 ?_
    refine Go.aload_n (pc' := 53) d_prog_3_method_4_52 rfl rfl rfl ?_
    refine Go.iload_n (pc' := 54) d_prog_3_method_4_53 rfl rfl ?_
    refine Go.ineg (pc' := 55) d_prog_3_method_4_54 rfl ?_
    rw [show (-(-2 : Int32)) = (2 : Int32) from by decide]
    refine Go.iconst (pc' := 56) d_prog_3_method_4_55 rfl ic_1 ?_
    refine Go.isub (pc' := 57) d_prog_3_method_4_56 rfl ?_
    rw [show ((2 : Int32) - (1 : Int32)) = (1 : Int32) from by decide]
    refine Go.aload_n (pc' := 58) d_prog_3_method_4_57 rfl rfl rfl ?_
    refine Go.aload_n (pc' := 59) d_prog_3_method_4_58 rfl rfl rfl ?_
    refine Go.callP (pc' := 62) (z := N_21) (a := a) d_prog_3_method_4_59 rfl (w_68 hw) (w_69 hw) (own_selP (z := N_21) (u := ({ cls := "com/example/beleg/beleg/Attributes", name := "put", desc := "(Ljava/lang/String;Ljava/lang/Object;)V" } : Jvm.MethodName)) (w_51 hw) rfl (by decide) (w_69 hw) (w_70 hw)) (w_70 hw) (w_71 hw) (by decide) E_a (argsL := [(.int (1 : Int32)), (.ref n), (.ref y2)]) (rest := []) (Pays.of_met (W := 0) (len := 3) (m_ins1_10 hw hs a n y2 e ke s y h153 E_a F_a_entries F_a_size F_a_tree V_e E_s E_y E_n E_y2 (hov) ne_e_a ne_s_e ne_y_e ne_n_e ne_y2_e) (w_71 hw) (w_43 hw) (by decide) (by decide)) rfl rfl (lenOf pd_16 rfl) rfl (Nat.le_of_eq rfl) (memS (List.mem_of_getElem? (i := 0) rfl) (memS (List.mem_of_getElem? (i := 1) rfl) mem0)) (by decide) (by decide) ?_
    rintro _ h161 _ K162 le163 ⟨v159, i160, rfl, rfl, p164, p165, p166, p167⟩
    replace E_a := E_a.keep K162
    replace E_s := E_s.keep K162
    replace E_y := E_y.keep K162
    replace E_n := E_n.keep K162
    replace E_y2 := E_y2.keep K162
    have F_a_entries := p165
    have F_a_size := p166
    have F_a_tree := p167
    change Go _ _ _ _ _ _ _ _ _ _ _ _ _ _ [a, e] h161 2 20 62 #[.val (.ref a), .val (.ref n), .val (.ref y2), .val (.int (-2 : Int32))] []
    refine Go.goto (pc' := 69) d_prog_3_method_4_62 (by decide) (by decide) ?_
    refine Go.aload_n (pc' := 70) d_prog_3_method_4_69 rfl rfl rfl ?_
    refine Go.getF (pc' := 73) d_prog_3_method_4_70 rfl (host := "") (Or.inl (w_53 hw)) Via.refl F_a_tree ?_
    refine Go.ifnullY (pc' := 86) d_prog_3_method_4_73 (by decide) (by decide) ?_
    exact Go.retV d_prog_3_method_4_86 rfl (by decide) (by decide) [] sn0 ⟨_, _, rfl, rfl, E_a, F_a_entries, F_a_size, F_a_tree⟩
  · skip
    refine Go.ifY (pc' := 31) d_prog_3_method_4_14 (by decide) (by decide) ((if0 _ _).trans (tlt (by decide : (-1 : Int32) < (0 : Int32))).1) ?_
    refine Go.iload_n (pc' := 32) d_prog_3_method_4_31 rfl rfl ?_
    refine Go.ineg (pc' := 33) d_prog_3_method_4_32 rfl ?_
    rw [show (-(-1 : Int32)) = (1 : Int32) from by decide]
    refine Go.iconst (pc' := 34) d_prog_3_method_4_33 rfl ic_1 ?_
    refine Go.isub (pc' := 35) d_prog_3_method_4_34 rfl ?_
    rw [show ((1 : Int32) - (1 : Int32)) = (0 : Int32) from by decide]
    refine Go.aload_n (pc' := 36) d_prog_3_method_4_35 rfl rfl rfl ?_
    refine Go.getF (pc' := 39) d_prog_3_method_4_36 rfl (host := "") (Or.inl (w_66 hw)) Via.refl F_a_size ?_
    refine Go.icmpN (pc' := 42) d_prog_3_method_4_39 rfl (feq (by decide : ¬ ((0 : Int32) = (1 : Int32)))).1 ?_
    refine Go.aload_n (pc' := 43) d_prog_3_method_4_42 rfl rfl rfl ?_
    refine Go.getF (pc' := 46) d_prog_3_method_4_43 rfl (host := "") (Or.inl (w_66 hw)) Via.refl F_a_size ?_
    refine Go.sipush (pc' := 49) d_prog_3_method_4_46 rfl ics_1024 ?_
    refine Go.icmpN (pc' := 52) d_prog_3_method_4_49 rfl (tlt (by decide : (1 : Int32) < (1024 : Int32))).2.1 ?_
    refine Go.aload_n (pc' := 53) d_prog_3_method_4_52 rfl rfl rfl ?_
    refine Go.iload_n (pc' := 54) d_prog_3_method_4_53 rfl rfl ?_
    refine Go.ineg (pc' := 55) d_prog_3_method_4_54 rfl ?_
    rw [show (-(-1 : Int32)) = (1 : Int32) from by decide]
    refine Go.iconst (pc' := 56) d_prog_3_method_4_55 rfl ic_1 ?_
    refine Go.isub (pc' := 57) d_prog_3_method_4_56 rfl ?_
    rw [show ((1 : Int32) - (1 : Int32)) = (0 : Int32) from by decide]
    refine Go.aload_n (pc' := 58) d_prog_3_method_4_57 rfl rfl rfl ?_
    refine Go.aload_n (pc' := 59) d_prog_3_method_4_58 rfl rfl rfl ?_
    refine Go.callP (pc' := 62) (z := N_21) (a := a) d_prog_3_method_4_59 rfl (w_68 hw) (w_69 hw) (own_selP (z := N_21) (u := ({ cls := "com/example/beleg/beleg/Attributes", name := "put", desc := "(Ljava/lang/String;Ljava/lang/Object;)V" } : Jvm.MethodName)) (w_51 hw) rfl (by decide) (w_69 hw) (w_70 hw)) (w_70 hw) (w_71 hw) (by decide) E_a (argsL := [(.int (0 : Int32)), (.ref n), (.ref y2)]) (rest := []) (Pays.of_met (W := 0) (len := 3) (m_ins1_00 hw hs a n y2 e ke s y h153 E_a F_a_entries F_a_size F_a_tree V_e E_s E_y E_n E_y2 (hov) ne_e_a ne_s_e ne_y_e ne_n_e ne_y2_e) (w_71 hw) (w_43 hw) (by decide) (by decide)) rfl rfl (lenOf pd_16 rfl) rfl (Nat.le_of_eq rfl) (memS (List.mem_of_getElem? (i := 0) rfl) (memS (List.mem_of_getElem? (i := 1) rfl) mem0)) (by decide) (by decide) ?_
    rintro _ h170 _ K171 le172 ⟨v168, i169, rfl, rfl, p173, p174, p175, p176⟩
    replace E_a := E_a.keep K171
    replace E_s := E_s.keep K171
    replace E_y := E_y.keep K171
    replace E_n := E_n.keep K171
    replace E_y2 := E_y2.keep K171
    have F_a_entries := p174
    have F_a_size := p175
    have F_a_tree := p176
    change Go _ _ _ _ _ _ _ _ _ _ _ _ _ _ [a, e] h170 2 20 62 #[.val (.ref a), .val (.ref n), .val (.ref y2), .val (.int (-1 : Int32))] []
    refine Go.goto (pc' := 69) d_prog_3_method_4_62 (by decide) (by decide) ?_
    refine Go.aload_n (pc' := 70) d_prog_3_method_4_69 rfl rfl rfl ?_
    refine Go.getF (pc' := 73) d_prog_3_method_4_70 rfl (host := "") (Or.inl (w_53 hw)) Via.refl F_a_tree ?_
    refine Go.ifnullY (pc' := 86) d_prog_3_method_4_73 (by decide) (by decide) ?_
    exact Go.retV d_prog_3_method_4_86 rfl (by decide) (by decide) [] sn0 ⟨_, _, rfl, rfl, E_a, F_a_entries, F_a_size, F_a_tree⟩
abbrev R_m_put1_1 : Room := { frames := 5, cells := 2, slots := 20, locals := 80 }
theorem pn_m_put1_1 : plainFor (⟨"com/example/beleg/beleg/Attributes", "put", "(Ljava/lang/String;Ljava/lang/Object;)V"⟩ : MethodName) = true := by first | (refine plainFor_of_name ?_; simp [plainName, overriddenIn]; done) | decide +kernel
abbrev Q_m_put1_1 (Z : State) (a : Addr) (n : Addr) (e : Addr) (ke : ClassId) (s : Addr) (y : Addr) (t : Addr) (kt : ClassId) (u0 : Int32) (u1 : Int32) (t2 : Addr) (kt2 : ClassId) (w0 : Int32) (w1 : Int32) (h0 : Heap) : Option Value → Heap → List Addr → Prop := fun res h' SN => ∃ (ve :  Value) (sz : Int32), res = none ∧ SN = [] ∧ Exa Z h' a "com/example/beleg/beleg/Attributes" ∧ Fld Z h' a "com/example/beleg/beleg/Attributes" "entries" "[Ljava/lang/Object;" ve ∧ Fld Z h' a "com/example/beleg/beleg/Attributes" "size" "I" (.int sz) ∧ Fld Z h' a "com/example/beleg/beleg/Attributes" "tree" "Ljava/util/TreeMap;" .null
theorem ef_m_put1_1 (mid : MethodId) (a : Addr) (n : Addr) (e : Addr) (ke : ClassId) (s : Addr) (y : Addr) (t : Addr) (kt : ClassId) (u0 : Int32) (u1 : Int32) (t2 : Addr) (kt2 : ClassId) (w0 : Int32) (w1 : Int32) : entryFrame mid #[(.ref a), (.ref n), .null] 4 = mkF mid 0 #[.val (.ref a), .val (.ref n), .val .null, .unset] [] := by first | (simp [entryFrame, mkF, argsToLocals, Value.category]; done) | rfl
set_option maxRecDepth 65536 in
set_option maxHeartbeats 40000000 in
theorem m_put1_1 {l : Launch} {Z : State} {a0 : Array Value} {n0 : Nat} (hw : ∀ d ∈ tables_1, d.before a0 Z = true) (hs : Stat Z) (a : Addr) (n : Addr) (e : Addr) (ke : ClassId) (s : Addr) (y : Addr) (t : Addr) (kt : ClassId) (u0 : Int32) (u1 : Int32) (t2 : Addr) (kt2 : ClassId) (w0 : Int32) (w1 : Int32) (h0 : Heap) (E_a : Exa Z h0 a "com/example/beleg/beleg/Attributes") (F_a_entries : Fld Z h0 a "com/example/beleg/beleg/Attributes" "entries" "[Ljava/lang/Object;" (.ref e)) (F_a_size : Fld Z h0 a "com/example/beleg/beleg/Attributes" "size" "I" (.int (1 : Int32))) (F_a_tree : Fld Z h0 a "com/example/beleg/beleg/Attributes" "tree" "Ljava/util/TreeMap;" .null) (V_e : Arv Z h0 e ke (.object "java/lang/Object") (8 : Int32) [(.ref s), (.ref y), .null, .null, .null, .null, .null, .null] .null) (E_s : Exa Z h0 s "java/lang/String") (E_y : Exa Z h0 y "java/lang/Integer") (F_s_coder : Fld Z h0 s "java/lang/String" "coder" "B" (.int (0 : Int32))) (F_s_value : Fld Z h0 s "java/lang/String" "value" "[B" (.ref t)) (V_t : Arv Z h0 t kt .byte (2 : Int32) [(.int u0), (.int u1)] (.int (0 : Int32))) (E_n : Exa Z h0 n "java/lang/String") (F_n_coder : Fld Z h0 n "java/lang/String" "coder" "B" (.int (0 : Int32))) (F_n_value : Fld Z h0 n "java/lang/String" "value" "[B" (.ref t2)) (V_t2 : Arv Z h0 t2 kt2 .byte (2 : Int32) [(.int w0), (.int w1)] (.int (0 : Int32))) (hov : Ovr Z ke "java/lang/Object") (ne_e_a : e ≠ a) (ne_s_e : s ≠ e) (ne_y_e : y ≠ e) (ne_n_e : n ≠ e) :
    Met l Z EL0 n0 NR0 KN0 N_22 prog_3_method_4_code 4 (Option.none : Option Jvm.ClassFile.FieldType) R_m_put1_1 [a, e] #[(.ref a), (.ref n), .null] h0 (Q_m_put1_1 Z a n e ke s y t kt u0 u1 t2 kt2 w0 w1 h0) := by
  refine Met.of_go pn_m_put1_1 (fun mid => ef_m_put1_1 mid a n e ke s y t kt u0 u1 t2 kt2 w0 w1 ) ?_
  intro hO hWS
  refine Go.aload_n (pc' := 1) d_prog_3_method_4_0 rfl rfl rfl ?_
  refine Go.getF (pc' := 4) d_prog_3_method_4_1 rfl (host := "") (Or.inl (w_53 hw)) Via.refl F_a_tree ?_
  refine Go.ifnonnullN (pc' := 7) d_prog_3_method_4_4 rfl ?_
  refine Go.aload_n (pc' := 8) d_prog_3_method_4_7 rfl rfl rfl ?_
  refine Go.aload_n (pc' := 9) d_prog_3_method_4_8 rfl rfl rfl ?_
  refine Go.callP (pc' := 12) (z := N_20) (a := a) d_prog_3_method_4_9 rfl (w_55 hw) (w_56 hw) (own_selP (z := N_20) (u := ({ cls := "com/example/beleg/beleg/Attributes", name := "put", desc := "(Ljava/lang/String;Ljava/lang/Object;)V" } : Jvm.MethodName)) (w_51 hw) rfl (by decide) (w_56 hw) (w_57 hw)) (w_57 hw) (w_58 hw) (by decide) E_a (argsL := [(.ref n)]) (rest := []) (Pays.of_met (W := 0) (len := 3) (m_idx1 hw hs a n e ke s y t kt u0 u1 t2 kt2 w0 w1 h0 E_a F_a_size F_a_entries V_e E_s F_s_coder F_s_value V_t E_n F_n_coder F_n_value V_t2) (w_58 hw) (w_43 hw) (by decide) (by decide)) rfl rfl (lenOf pd_15 rfl) rfl (Nat.le_of_eq rfl) mem0 (by decide) (by decide) ?_
  rintro _ h178 _ K179 le180 ⟨i177, rfl, rfl, p181⟩
  replace E_a := E_a.keep K179
  replace F_a_entries := F_a_entries.keep K179 nin0
  replace F_a_size := F_a_size.keep K179 nin0
  replace F_a_tree := F_a_tree.keep K179 nin0
  replace V_e := V_e.keep K179 nin0
  replace E_s := E_s.keep K179
  replace E_y := E_y.keep K179
  replace F_s_coder := F_s_coder.keep K179 nin0
  replace F_s_value := F_s_value.keep K179 nin0
  replace V_t := V_t.keep K179 nin0
  replace E_n := E_n.keep K179
  replace F_n_coder := F_n_coder.keep K179 nin0
  replace F_n_value := F_n_value.keep K179 nin0
  replace V_t2 := V_t2.keep K179 nin0
  change Go _ _ _ _ _ _ _ _ _ _ _ _ _ _ [a, e] h178 2 20 12 #[.val (.ref a), .val (.ref n), .val .null, .unset] [(.int i177)]
  refine Go.istore_n (pc' := 13) (Ls' := #[.val (.ref a), .val (.ref n), .val .null, .val (.int i177)]) d_prog_3_method_4_12 rfl rfl ?_
  refine Go.iload_n (pc' := 14) d_prog_3_method_4_13 rfl rfl ?_
  rcases p181 with rfl | rfl | rfl
  · skip
    refine Go.ifN (pc' := 17) d_prog_3_method_4_14 rfl ((if0 _ _).trans (flt (by decide : ¬ ((0 : Int32) < (0 : Int32)))).1) ?_
    refine Go.aload_n (pc' := 18) d_prog_3_method_4_17 rfl rfl rfl ?_
    refine Go.getF (pc' := 21) d_prog_3_method_4_18 rfl (host := "") (Or.inl (w_72 hw)) Via.refl F_a_entries ?_
    refine Go.iconst (pc' := 22) d_prog_3_method_4_21 rfl ic_2 ?_
    refine Go.iload_n (pc' := 23) d_prog_3_method_4_22 rfl rfl ?_
    refine Go.imul (pc' := 24) d_prog_3_method_4_23 rfl ?_
    rw [show ((2 : Int32) * (0 : Int32)) = (0 : Int32) from by decide]
    refine Go.iconst (pc' := 25) d_prog_3_method_4_24 rfl ic_1 ?_
    refine Go.iadd (pc' := 26) d_prog_3_method_4_25 rfl ?_
    rw [show ((0 : Int32) + (1 : Int32)) = (1 : Int32) from by decide]
    refine Go.aload_n (pc' := 27) d_prog_3_method_4_26 rfl rfl rfl ?_
    refine Go.aastoreV (pc' := 28) (i := 1) d_prog_3_method_4_27 rfl (List.mem_of_getElem? (i := 1) rfl) V_e rfl rfl (fun cl A q => Or.inl rfl) (by decide) (by decide) (by simp) ?_
    intro h182 W183 V_e'
    replace E_a := E_a.wr W183
    replace F_a_entries := F_a_entries.other W183 (Or.inl (Ne.symm ne_e_a))
    replace F_a_size := F_a_size.other W183 (Or.inl (Ne.symm ne_e_a))
    replace F_a_tree := F_a_tree.other W183 (Or.inl (Ne.symm ne_e_a))
    replace E_s := E_s.wr W183
    replace E_y := E_y.wr W183
    replace F_s_coder := F_s_coder.other W183 (Or.inl ne_s_e)
    replace F_s_value := F_s_value.other W183 (Or.inl ne_s_e)
    replace E_n := E_n.wr W183
    replace F_n_coder := F_n_coder.other W183 (Or.inl ne_n_e)
    replace F_n_value := F_n_value.other W183 (Or.inl ne_n_e)
    replace V_e : Arv Z h182 e ke (.object "java/lang/Object") (8 : Int32) [(.ref s), .null, .null, .null, .null, .null, .null, .null] .null := V_e'
    change Go _ _ _ _ _ _ _ _ _ _ _ _ _ _ [a, e] h182 2 20 28 #[.val (.ref a), .val (.ref n), .val .null, .val (.int (0 : Int32))] []
    refine Go.goto (pc' := 69) d_prog_3_method_4_28 (by decide) (by decide) ?_
    refine Go.aload_n (pc' := 70) d_prog_3_method_4_69 rfl rfl rfl ?_
    refine Go.getF (pc' := 73) d_prog_3_method_4_70 rfl (host := "") (Or.inl (w_53 hw)) Via.refl F_a_tree ?_
    refine Go.ifnullY (pc' := 86) d_prog_3_method_4_73 (by decide) (by decide) ?_
    exact Go.retV d_prog_3_method_4_86 rfl (by decide) (by decide) [] sn0 ⟨_, _, rfl, rfl, E_a, F_a_entries, F_a_size, F_a_tree⟩
  · skip
    refine Go.ifY (pc' := 31) d_prog_3_method_4_14 (by decide) (by decide) ((if0 _ _).trans (tlt (by decide : (-2 : Int32) < (0 : Int32))).1) ?_
    refine Go.iload_n (pc' := 32) d_prog_3_method_4_31 rfl rfl ?_
    refine Go.ineg (pc' := 33) d_prog_3_method_4_32 rfl ?_
    rw [show (-(-2 : Int32)) = (2 : Int32) from by decide]
    refine Go.iconst (pc' := 34) d_prog_3_method_4_33 rfl ic_1 ?_
    refine Go.isub (pc' := 35) d_prog_3_method_4_34 rfl ?_
    rw [show ((2 : Int32) - (1 : Int32)) = (1 : Int32) from by decide]
    refine Go.aload_n (pc' := 36) d_prog_3_method_4_35 rfl rfl rfl ?_
    refine Go.getF (pc' := 39) d_prog_3_method_4_36 rfl (host := "") (Or.inl (w_66 hw)) Via.refl F_a_size ?_
    refine Go.icmpY (pc' := 52) d_prog_3_method_4_39 (by decide) (by decide) (teq (by decide : (1 : Int32) = (1 : Int32))).1 ?_
    refine Go.aload_n (pc' := 53) d_prog_3_method_4_52 rfl rfl rfl ?_
    refine Go.iload_n (pc' := 54) d_prog_3_method_4_53 rfl rfl ?_
    refine Go.ineg (pc' := 55) d_prog_3_method_4_54 rfl ?_
    rw [show (-(-2 : Int32)) = (2 : Int32) from by decide]
    refine Go.iconst (pc' := 56) d_prog_3_method_4_55 rfl ic_1 ?_
    refine Go.isub (pc' := 57) d_prog_3_method_4_56 rfl ?_
    rw [show ((2 : Int32) - (1 : Int32)) = (1 : Int32) from by decide]
    refine Go.aload_n (pc' := 58) d_prog_3_method_4_57 rfl rfl rfl ?_
    refine Go.aload_n (pc' := 59) d_prog_3_method_4_58 rfl rfl rfl ?_
    refine Go.callP (pc' := 62) (z := N_21) (a := a) d_prog_3_method_4_59 rfl (w_68 hw) (w_69 hw) (own_selP (z := N_21) (u := ({ cls := "com/example/beleg/beleg/Attributes", name := "put", desc := "(Ljava/lang/String;Ljava/lang/Object;)V" } : Jvm.MethodName)) (w_51 hw) rfl (by decide) (w_69 hw) (w_70 hw)) (w_70 hw) (w_71 hw) (by decide) E_a (argsL := [(.int (1 : Int32)), (.ref n), .null]) (rest := []) (Pays.of_met (W := 0) (len := 3) (m_ins1_11 hw hs a n e ke s y h178 E_a F_a_entries F_a_size F_a_tree V_e E_s E_y E_n (hov) ne_e_a ne_s_e ne_y_e ne_n_e) (w_71 hw) (w_43 hw) (by decide) (by decide)) rfl rfl (lenOf pd_16 rfl) rfl (Nat.le_of_eq rfl) (memS (List.mem_of_getElem? (i := 0) rfl) (memS (List.mem_of_getElem? (i := 1) rfl) mem0)) (by decide) (by decide) ?_
    rintro _ h186 _ K187 le188 ⟨v184, i185, rfl, rfl, p189, p190, p191, p192⟩
    replace E_a := E_a.keep K187
    replace E_s := E_s.keep K187
    replace E_y := E_y.keep K187
    replace E_n := E_n.keep K187
    have F_a_entries := p190
    have F_a_size := p191
    have F_a_tree := p192
    change Go _ _ _ _ _ _ _ _ _ _ _ _ _ _ [a, e] h186 2 20 62 #[.val (.ref a), .val (.ref n), .val .null, .val (.int (-2 : Int32))] []
    refine Go.goto (pc' := 69) d_prog_3_method_4_62 (by decide) (by decide) ?_
    refine Go.aload_n (pc' := 70) d_prog_3_method_4_69 rfl rfl rfl ?_
    refine Go.getF (pc' := 73) d_prog_3_method_4_70 rfl (host := "") (Or.inl (w_53 hw)) Via.refl F_a_tree ?_
    refine Go.ifnullY (pc' := 86) d_prog_3_method_4_73 (by decide) (by decide) ?_
    exact Go.retV d_prog_3_method_4_86 rfl (by decide) (by decide) [] sn0 ⟨_, _, rfl, rfl, E_a, F_a_entries, F_a_size, F_a_tree⟩
  · skip
    refine Go.ifY (pc' := 31) d_prog_3_method_4_14 (by decide) (by decide) ((if0 _ _).trans (tlt (by decide : (-1 : Int32) < (0 : Int32))).1) ?_
    refine Go.iload_n (pc' := 32) d_prog_3_method_4_31 rfl rfl ?_
    refine Go.ineg (pc' := 33) d_prog_3_method_4_32 rfl ?_
    rw [show (-(-1 : Int32)) = (1 : Int32) from by decide]
    refine Go.iconst (pc' := 34) d_prog_3_method_4_33 rfl ic_1 ?_
    refine Go.isub (pc' := 35) d_prog_3_method_4_34 rfl ?_
    rw [show ((1 : Int32) - (1 : Int32)) = (0 : Int32) from by decide]
    refine Go.aload_n (pc' := 36) d_prog_3_method_4_35 rfl rfl rfl ?_
    refine Go.getF (pc' := 39) d_prog_3_method_4_36 rfl (host := "") (Or.inl (w_66 hw)) Via.refl F_a_size ?_
    refine Go.icmpN (pc' := 42) d_prog_3_method_4_39 rfl (feq (by decide : ¬ ((0 : Int32) = (1 : Int32)))).1 ?_
    refine Go.aload_n (pc' := 43) d_prog_3_method_4_42 rfl rfl rfl ?_
    refine Go.getF (pc' := 46) d_prog_3_method_4_43 rfl (host := "") (Or.inl (w_66 hw)) Via.refl F_a_size ?_
    refine Go.sipush (pc' := 49) d_prog_3_method_4_46 rfl ics_1024 ?_
    refine Go.icmpN (pc' := 52) d_prog_3_method_4_49 rfl (tlt (by decide : (1 : Int32) < (1024 : Int32))).2.1 ?_
    refine Go.aload_n (pc' := 53) d_prog_3_method_4_52 rfl rfl rfl ?_
    refine Go.iload_n (pc' := 54) d_prog_3_method_4_53 rfl rfl ?_
    refine Go.ineg (pc' := 55) d_prog_3_method_4_54 rfl ?_
    rw [show (-(-1 : Int32)) = (1 : Int32) from by decide]
    refine Go.iconst (pc' := 56) d_prog_3_method_4_55 rfl ic_1 ?_
    refine Go.isub (pc' := 57) d_prog_3_method_4_56 rfl ?_
    rw [show ((1 : Int32) - (1 : Int32)) = (0 : Int32) from by decide]
    refine Go.aload_n (pc' := 58) d_prog_3_method_4_57 rfl rfl rfl ?_
    refine Go.aload_n (pc' := 59) d_prog_3_method_4_58 rfl rfl rfl ?_
    refine Go.callP (pc' := 62) (z := N_21) (a := a) d_prog_3_method_4_59 rfl (w_68 hw) (w_69 hw) (own_selP (z := N_21) (u := ({ cls := "com/example/beleg/beleg/Attributes", name := "put", desc := "(Ljava/lang/String;Ljava/lang/Object;)V" } : Jvm.MethodName)) (w_51 hw) rfl (by decide) (w_69 hw) (w_70 hw)) (w_70 hw) (w_71 hw) (by decide) E_a (argsL := [(.int (0 : Int32)), (.ref n), .null]) (rest := []) (Pays.of_met (W := 0) (len := 3) (m_ins1_01 hw hs a n e ke s y h178 E_a F_a_entries F_a_size F_a_tree V_e E_s E_y E_n (hov) ne_e_a ne_s_e ne_y_e ne_n_e) (w_71 hw) (w_43 hw) (by decide) (by decide)) rfl rfl (lenOf pd_16 rfl) rfl (Nat.le_of_eq rfl) (memS (List.mem_of_getElem? (i := 0) rfl) (memS (List.mem_of_getElem? (i := 1) rfl) mem0)) (by decide) (by decide) ?_
    rintro _ h195 _ K196 le197 ⟨v193, i194, rfl, rfl, p198, p199, p200, p201⟩
    replace E_a := E_a.keep K196
    replace E_s := E_s.keep K196
    replace E_y := E_y.keep K196
    replace E_n := E_n.keep K196
    have F_a_entries := p199
    have F_a_size := p200
    have F_a_tree := p201
    change Go _ _ _ _ _ _ _ _ _ _ _ _ _ _ [a, e] h195 2 20 62 #[.val (.ref a), .val (.ref n), .val .null, .val (.int (-1 : Int32))] []
    refine Go.goto (pc' := 69) d_prog_3_method_4_62 (by decide) (by decide) ?_
    refine Go.aload_n (pc' := 70) d_prog_3_method_4_69 rfl rfl rfl ?_
    refine Go.getF (pc' := 73) d_prog_3_method_4_70 rfl (host := "") (Or.inl (w_53 hw)) Via.refl F_a_tree ?_
    refine Go.ifnullY (pc' := 86) d_prog_3_method_4_73 (by decide) (by decide) ?_
    exact Go.retV d_prog_3_method_4_86 rfl (by decide) (by decide) [] sn0 ⟨_, _, rfl, rfl, E_a, F_a_entries, F_a_size, F_a_tree⟩
abbrev R_m_clear : Room := { frames := 0, cells := 0, slots := 0, locals := 0 }
theorem pn_m_clear : plainFor (⟨"com/example/beleg/beleg/Attributes", "clear", "()V"⟩ : MethodName) = true := by first | (refine plainFor_of_name ?_; simp [plainName, overriddenIn]; done) | decide +kernel
abbrev Q_m_clear (Z : State) (a : Addr) (ve :  Value) (sz : Int32) (h0 : Heap) : Option Value → Heap → List Addr → Prop := fun res h' SN => res = none ∧ SN = [] ∧ Exa Z h' a "com/example/beleg/beleg/Attributes" ∧ Fld Z h' a "com/example/beleg/beleg/Attributes" "entries" "[Ljava/lang/Object;" .null ∧ Fld Z h' a "com/example/beleg/beleg/Attributes" "size" "I" (.int (0 : Int32)) ∧ Fld Z h' a "com/example/beleg/beleg/Attributes" "tree" "Ljava/util/TreeMap;" .null
theorem ef_m_clear (mid : MethodId) (a : Addr) (ve :  Value) (sz : Int32) : entryFrame mid #[(.ref a)] 1 = mkF mid 0 #[.val (.ref a)] [] := by first | (simp [entryFrame, mkF, argsToLocals, Value.category]; done) | rfl
set_option maxRecDepth 65536 in
set_option maxHeartbeats 40000000 in
theorem m_clear {l : Launch} {Z : State} {a0 : Array Value} {n0 : Nat} (hw : ∀ d ∈ tables_1, d.before a0 Z = true) (hs : Stat Z) (a : Addr) (ve :  Value) (sz : Int32) (h0 : Heap) (E_a : Exa Z h0 a "com/example/beleg/beleg/Attributes") (F_a_entries : Fld Z h0 a "com/example/beleg/beleg/Attributes" "entries" "[Ljava/lang/Object;" ve) (F_a_size : Fld Z h0 a "com/example/beleg/beleg/Attributes" "size" "I" (.int sz)) (F_a_tree : Fld Z h0 a "com/example/beleg/beleg/Attributes" "tree" "Ljava/util/TreeMap;" .null) :
    Met l Z EL0 n0 NR0 KN0 N_23 prog_3_method_6_code 1 (Option.none : Option Jvm.ClassFile.FieldType) R_m_clear [a] #[(.ref a)] h0 (Q_m_clear Z a ve sz h0) := by
  refine Met.of_go pn_m_clear (fun mid => ef_m_clear mid a ve sz ) ?_
  intro hO hWS
  refine Go.aload_n (pc' := 1) d_prog_3_method_6_0 rfl rfl rfl ?_
  refine Go.aconst_null (pc' := 2) d_prog_3_method_6_1 rfl ?_
  refine Go.putF (pc' := 5) d_prog_3_method_6_2 rfl (List.mem_of_getElem? (i := 0) rfl) (host := "") (Or.inl (w_72 hw)) Via.refl F_a_entries E_a (Or.inl (w_73 hw)) (w_42 hw) (ty := (.array (.object "java/lang/Object"))) (by decide) rfl rfl ?_
  intro h202 W203
  replace F_a_entries := F_a_entries.same W203
  replace E_a := E_a.wr W203
  replace F_a_size := F_a_size.other W203 (Or.inr (slot_ne (Or.inl (w_67 hw)) (Or.inl (w_73 hw)) (by decide) (t := .int) (t' := (.array (.object "java/lang/Object"))) (by decide) (by decide)))
  replace F_a_tree := F_a_tree.other W203 (Or.inr (slot_ne (Or.inl (w_54 hw)) (Or.inl (w_73 hw)) (by decide) (t := (.object "java/util/TreeMap")) (t' := (.array (.object "java/lang/Object"))) (by decide) (by decide)))
  change Go _ _ _ _ _ _ _ _ _ _ _ _ _ _ [a] h202 0 0 5 #[.val (.ref a)] []
  refine Go.aload_n (pc' := 6) d_prog_3_method_6_5 rfl rfl rfl ?_
  refine Go.iconst (pc' := 7) d_prog_3_method_6_6 rfl ic_0 ?_
  refine Go.putF (pc' := 10) d_prog_3_method_6_7 rfl (List.mem_of_getElem? (i := 0) rfl) (host := "") (Or.inl (w_66 hw)) Via.refl F_a_size E_a (Or.inl (w_67 hw)) (w_42 hw) (ty := .int) (by decide) rfl rfl ?_
  intro h204 W205
  replace F_a_size := F_a_size.same W205
  replace E_a := E_a.wr W205
  replace F_a_tree := F_a_tree.other W205 (Or.inr (slot_ne (Or.inl (w_54 hw)) (Or.inl (w_67 hw)) (by decide) (t := (.object "java/util/TreeMap")) (t' := .int) (by decide) (by decide)))
  replace F_a_entries := F_a_entries.other W205 (Or.inr (slot_ne (Or.inl (w_73 hw)) (Or.inl (w_67 hw)) (by decide) (t := (.array (.object "java/lang/Object"))) (t' := .int) (by decide) (by decide)))
  change Go _ _ _ _ _ _ _ _ _ _ _ _ _ _ [a] h204 0 0 10 #[.val (.ref a)] []
  refine Go.aload_n (pc' := 11) d_prog_3_method_6_10 rfl rfl rfl ?_
  refine Go.aconst_null (pc' := 12) d_prog_3_method_6_11 rfl ?_
  refine Go.putF (pc' := 15) d_prog_3_method_6_12 rfl (List.mem_of_getElem? (i := 0) rfl) (host := "") (Or.inl (w_53 hw)) Via.refl F_a_tree E_a (Or.inl (w_54 hw)) (w_42 hw) (ty := (.object "java/util/TreeMap")) (by decide) rfl rfl ?_
  intro h206 W207
  replace F_a_tree := F_a_tree.same W207
  replace E_a := E_a.wr W207
  replace F_a_entries := F_a_entries.other W207 (Or.inr (slot_ne (Or.inl (w_73 hw)) (Or.inl (w_54 hw)) (by decide) (t := (.array (.object "java/lang/Object"))) (t' := (.object "java/util/TreeMap")) (by decide) (by decide)))
  replace F_a_size := F_a_size.other W207 (Or.inr (slot_ne (Or.inl (w_67 hw)) (Or.inl (w_54 hw)) (by decide) (t := .int) (t' := (.object "java/util/TreeMap")) (by decide) (by decide)))
  change Go _ _ _ _ _ _ _ _ _ _ _ _ _ _ [a] h206 0 0 15 #[.val (.ref a)] []
  exact Go.retV d_prog_3_method_6_15 rfl (by decide) (by decide) [] sn0 ⟨rfl, rfl, E_a, F_a_entries, F_a_size, F_a_tree⟩
abbrev R_m_size0 : Room := { frames := 0, cells := 0, slots := 0, locals := 0 }
theorem pn_m_size0 : plainFor (⟨"com/example/beleg/beleg/Attributes", "size", "()I"⟩ : MethodName) = true := by first | (refine plainFor_of_name ?_; simp [plainName, overriddenIn]; done) | decide +kernel
abbrev Q_m_size0 (Z : State) (a : Addr) (h0 : Heap) : Option Value → Heap → List Addr → Prop := fun res h' SN => res = some (.int (0 : Int32)) ∧ SN = [] ∧ h0 = h'
theorem ef_m_size0 (mid : MethodId) (a : Addr) : entryFrame mid #[(.ref a)] 1 = mkF mid 0 #[.val (.ref a)] [] := by first | (simp [entryFrame, mkF, argsToLocals, Value.category]; done) | rfl
set_option maxRecDepth 65536 in
set_option maxHeartbeats 40000000 in
theorem m_size0 {l : Launch} {Z : State} {a0 : Array Value} {n0 : Nat} (hw : ∀ d ∈ tables_1, d.before a0 Z = true) (hs : Stat Z) (a : Addr) (h0 : Heap) (F_a_tree : Fld Z h0 a "com/example/beleg/beleg/Attributes" "tree" "Ljava/util/TreeMap;" .null) (F_a_size : Fld Z h0 a "com/example/beleg/beleg/Attributes" "size" "I" (.int (0 : Int32))) :
    Met l Z EL0 n0 NR0 KN0 N_24 prog_3_method_8_code 1 (Option.some Jvm.ClassFile.FieldType.int) R_m_size0 [] #[(.ref a)] h0 (Q_m_size0 Z a h0) := by
  refine Met.of_go pn_m_size0 (fun mid => ef_m_size0 mid a ) ?_
  intro hO hWS
  refine Go.aload_n (pc' := 1) d_prog_3_method_8_0 rfl rfl rfl ?_
  refine Go.getF (pc' := 4) d_prog_3_method_8_1 rfl (host := "") (Or.inl (w_53 hw)) Via.refl F_a_tree ?_
  refine Go.ifnullY (pc' := 17) d_prog_3_method_8_4 (by decide) (by decide) ?_
  refine Go.aload_n (pc' := 18) d_prog_3_method_8_17 rfl rfl rfl ?_
  refine Go.getF (pc' := 21) d_prog_3_method_8_18 rfl (host := "") (Or.inl (w_66 hw)) Via.refl F_a_size ?_
  exact Go.retI d_prog_3_method_8_21 rfl (by decide) (by decide) [] sn0 ⟨rfl, rfl, rfl⟩
abbrev R_m_size1 : Room := { frames := 0, cells := 0, slots := 0, locals := 0 }
theorem pn_m_size1 : plainFor (⟨"com/example/beleg/beleg/Attributes", "size", "()I"⟩ : MethodName) = true := by first | (refine plainFor_of_name ?_; simp [plainName, overriddenIn]; done) | decide +kernel
abbrev Q_m_size1 (Z : State) (a : Addr) (h0 : Heap) : Option Value → Heap → List Addr → Prop := fun res h' SN => res = some (.int (1 : Int32)) ∧ SN = [] ∧ h0 = h'
theorem ef_m_size1 (mid : MethodId) (a : Addr) : entryFrame mid #[(.ref a)] 1 = mkF mid 0 #[.val (.ref a)] [] := by first | (simp [entryFrame, mkF, argsToLocals, Value.category]; done) | rfl
set_option maxRecDepth 65536 in
set_option maxHeartbeats 40000000 in
theorem m_size1 {l : Launch} {Z : State} {a0 : Array Value} {n0 : Nat} (hw : ∀ d ∈ tables_1, d.before a0 Z = true) (hs : Stat Z) (a : Addr) (h0 : Heap) (F_a_tree : Fld Z h0 a "com/example/beleg/beleg/Attributes" "tree" "Ljava/util/TreeMap;" .null) (F_a_size : Fld Z h0 a "com/example/beleg/beleg/Attributes" "size" "I" (.int (1 : Int32))) :
    Met l Z EL0 n0 NR0 KN0 N_24 prog_3_method_8_code 1 (Option.some Jvm.ClassFile.FieldType.int) R_m_size1 [] #[(.ref a)] h0 (Q_m_size1 Z a h0) := by
  refine Met.of_go pn_m_size1 (fun mid => ef_m_size1 mid a ) ?_
  intro hO hWS
  refine Go.aload_n (pc' := 1) d_prog_3_method_8_0 rfl rfl rfl ?_
  refine Go.getF (pc' := 4) d_prog_3_method_8_1 rfl (host := "") (Or.inl (w_53 hw)) Via.refl F_a_tree ?_
  refine Go.ifnullY (pc' := 17) d_prog_3_method_8_4 (by decide) (by decide) ?_
  refine Go.aload_n (pc' := 18) d_prog_3_method_8_17 rfl rfl rfl ?_
  refine Go.getF (pc' := 21) d_prog_3_method_8_18 rfl (host := "") (Or.inl (w_66 hw)) Via.refl F_a_size ?_
  exact Go.retI d_prog_3_method_8_21 rfl (by decide) (by decide) [] sn0 ⟨rfl, rfl, rfl⟩
abbrev R_m_has0 : Room := { frames := 2, cells := 2, slots := 20, locals := 30 }
theorem pn_m_has0 : plainFor (⟨"com/example/beleg/beleg/Attributes", "has", "(Ljava/lang/String;)Z"⟩ : MethodName) = true := by first | (refine plainFor_of_name ?_; simp [plainName, overriddenIn]; done) | decide +kernel
abbrev Q_m_has0 (Z : State) (a : Addr) (n : Addr) (h0 : Heap) : Option Value → Heap → List Addr → Prop := fun res h' SN => res = some (.int (0 : Int32)) ∧ SN = [] ∧ True
theorem ef_m_has0 (mid : MethodId) (a : Addr) (n : Addr) : entryFrame mid #[(.ref a), (.ref n)] 2 = mkF mid 0 #[.val (.ref a), .val (.ref n)] [] := by first | (simp [entryFrame, mkF, argsToLocals, Value.category]; done) | rfl
set_option maxRecDepth 65536 in
set_option maxHeartbeats 40000000 in
theorem m_has0 {l : Launch} {Z : State} {a0 : Array Value} {n0 : Nat} (hw : ∀ d ∈ tables_1, d.before a0 Z = true) (hs : Stat Z) (a : Addr) (n : Addr) (h0 : Heap) (E_a : Exa Z h0 a "com/example/beleg/beleg/Attributes") (F_a_entries : Fld Z h0 a "com/example/beleg/beleg/Attributes" "entries" "[Ljava/lang/Object;" .null) (F_a_size : Fld Z h0 a "com/example/beleg/beleg/Attributes" "size" "I" (.int (0 : Int32))) (F_a_tree : Fld Z h0 a "com/example/beleg/beleg/Attributes" "tree" "Ljava/util/TreeMap;" .null) :
    Met l Z EL0 n0 NR0 KN0 N_25 prog_3_method_2_code 2 (Option.some Jvm.ClassFile.FieldType.boolean) R_m_has0 [] #[(.ref a), (.ref n)] h0 (Q_m_has0 Z a n h0) := by
  refine Met.of_go pn_m_has0 (fun mid => ef_m_has0 mid a n ) ?_
  intro hO hWS
  refine Go.aload_n (pc' := 1) d_prog_3_method_2_0 rfl rfl rfl ?_
  refine Go.getF (pc' := 4) d_prog_3_method_2_1 rfl (host := "") (Or.inl (w_53 hw)) Via.refl F_a_tree ?_
  refine Go.ifnullY (pc' := 18) d_prog_3_method_2_4 (by decide) (by decide) ?_
  refine Go.aload_n (pc' := 19) d_prog_3_method_2_18 rfl rfl rfl ?_
  refine Go.aload_n (pc' := 20) d_prog_3_method_2_19 rfl rfl rfl ?_
  refine Go.callP (pc' := 23) (z := N_20) (a := a) d_prog_3_method_2_20 rfl (w_55 hw) (w_56 hw) (own_selP (z := N_20) (u := ({ cls := "com/example/beleg/beleg/Attributes", name := "put", desc := "(Ljava/lang/String;Ljava/lang/Object;)V" } : Jvm.MethodName)) (w_51 hw) rfl (by decide) (w_56 hw) (w_57 hw)) (w_57 hw) (w_58 hw) (by decide) E_a (argsL := [(.ref n)]) (rest := []) (Pays.of_met (W := 0) (len := 3) (m_idx0 hw hs a n h0 F_a_size) (w_58 hw) (w_43 hw) (by decide) (by decide)) rfl rfl (lenOf pd_15 rfl) rfl (Nat.le_of_eq rfl) mem0 (by decide) (by decide) ?_
  rintro _ h208 _ K209 le210 ⟨rfl, rfl, p211⟩
  replace E_a := E_a.keep K209
  replace F_a_entries := F_a_entries.keep K209 nin0
  replace F_a_size := F_a_size.keep K209 nin0
  replace F_a_tree := F_a_tree.keep K209 nin0
  change Go _ _ _ _ _ _ _ _ _ _ _ _ _ _ [] h208 2 20 23 #[.val (.ref a), .val (.ref n)] [(.int (-1 : Int32))]
  refine Go.ifY (pc' := 30) d_prog_3_method_2_23 (by decide) (by decide) ((if0 _ _).trans (tlt (by decide : (-1 : Int32) < (0 : Int32))).1) ?_
  refine Go.iconst (pc' := 31) d_prog_3_method_2_30 rfl ic_0 ?_
  exact Go.retS (ty := .boolean) d_prog_3_method_2_31 rfl (by simp) rfl (by decide) (by decide) [] sn0 ⟨rfl, rfl, trivial⟩
abbrev R_m_get0 : Room := { frames := 2, cells := 2, slots := 20, locals := 30 }
theorem pn_m_get0 : plainFor (⟨"com/example/beleg/beleg/Attributes", "get", "(Ljava/lang/String;)Ljava/lang/Object;"⟩ : MethodName) = true := by first | (refine plainFor_of_name ?_; simp [plainName, overriddenIn]; done) | decide +kernel
abbrev Q_m_get0 (Z : State) (a : Addr) (n : Addr) (h0 : Heap) : Option Value → Heap → List Addr → Prop := fun res h' SN => res = some .null ∧ SN = [] ∧ True
theorem ef_m_get0 (mid : MethodId) (a : Addr) (n : Addr) : entryFrame mid #[(.ref a), (.ref n)] 4 = mkF mid 0 #[.val (.ref a), .val (.ref n), .unset, .unset] [] := by first | (simp [entryFrame, mkF, argsToLocals, Value.category]; done) | rfl
set_option maxRecDepth 65536 in
set_option maxHeartbeats 40000000 in
theorem m_get0 {l : Launch} {Z : State} {a0 : Array Value} {n0 : Nat} (hw : ∀ d ∈ tables_1, d.before a0 Z = true) (hs : Stat Z) (a : Addr) (n : Addr) (h0 : Heap) (E_a : Exa Z h0 a "com/example/beleg/beleg/Attributes") (F_a_entries : Fld Z h0 a "com/example/beleg/beleg/Attributes" "entries" "[Ljava/lang/Object;" .null) (F_a_size : Fld Z h0 a "com/example/beleg/beleg/Attributes" "size" "I" (.int (0 : Int32))) (F_a_tree : Fld Z h0 a "com/example/beleg/beleg/Attributes" "tree" "Ljava/util/TreeMap;" .null) :
    Met l Z EL0 n0 NR0 KN0 N_26 prog_3_method_3_code 4 (Option.some (Jvm.ClassFile.FieldType.object "java/lang/Object")) R_m_get0 [] #[(.ref a), (.ref n)] h0 (Q_m_get0 Z a n h0) := by
  refine Met.of_go pn_m_get0 (fun mid => ef_m_get0 mid a n ) ?_
  intro hO hWS
  refine Go.aload_n (pc' := 1) d_prog_3_method_3_0 rfl rfl rfl ?_
  refine Go.getF (pc' := 4) d_prog_3_method_3_1 rfl (host := "") (Or.inl (w_53 hw)) Via.refl F_a_tree ?_
  refine Go.ifnullY (pc' := 19) d_prog_3_method_3_4 (by decide) (by decide) ?_
  refine Go.aload_n (pc' := 20) d_prog_3_method_3_19 rfl rfl rfl ?_
  refine Go.aload_n (pc' := 21) d_prog_3_method_3_20 rfl rfl rfl ?_
  refine Go.callP (pc' := 24) (z := N_20) (a := a) d_prog_3_method_3_21 rfl (w_55 hw) (w_56 hw) (own_selP (z := N_20) (u := ({ cls := "com/example/beleg/beleg/Attributes", name := "put", desc := "(Ljava/lang/String;Ljava/lang/Object;)V" } : Jvm.MethodName)) (w_51 hw) rfl (by decide) (w_56 hw) (w_57 hw)) (w_57 hw) (w_58 hw) (by decide) E_a (argsL := [(.ref n)]) (rest := []) (Pays.of_met (W := 0) (len := 3) (m_idx0 hw hs a n h0 F_a_size) (w_58 hw) (w_43 hw) (by decide) (by decide)) rfl rfl (lenOf pd_15 rfl) rfl (Nat.le_of_eq rfl) mem0 (by decide) (by decide) ?_
  rintro _ h212 _ K213 le214 ⟨rfl, rfl, p215⟩
  replace E_a := E_a.keep K213
  replace F_a_entries := F_a_entries.keep K213 nin0
  replace F_a_size := F_a_size.keep K213 nin0
  replace F_a_tree := F_a_tree.keep K213 nin0
  change Go _ _ _ _ _ _ _ _ _ _ _ _ _ _ [] h212 2 20 24 #[.val (.ref a), .val (.ref n), .unset, .unset] [(.int (-1 : Int32))]
  refine Go.istore_n (pc' := 25) (Ls' := #[.val (.ref a), .val (.ref n), .unset, .val (.int (-1 : Int32))]) d_prog_3_method_3_24 rfl rfl ?_
  refine Go.iload_n (pc' := 26) d_prog_3_method_3_25 rfl rfl ?_
  refine Go.ifY (pc' := 42) d_prog_3_method_3_26 (by decide) (by decide) ((if0 _ _).trans (tlt (by decide : (-1 : Int32) < (0 : Int32))).1) ?_
  refine Go.aconst_null (pc' := 43) d_prog_3_method_3_42 rfl ?_
  refine Go.astore_n (pc' := 44) (Ls' := #[.val (.ref a), .val (.ref n), .val .null, .val (.int (-1 : Int32))]) d_prog_3_method_3_43 rfl rfl rfl ?_
  refine Go.aload_n (pc' := 45) d_prog_3_method_3_44 rfl rfl rfl ?_
  exact Go.retA d_prog_3_method_3_45 rfl rfl rfl (by decide) (by decide) [] sn0 ⟨rfl, rfl, trivial⟩
abbrev R_m_get1 : Room := { frames := 5, cells := 2, slots := 20, locals := 80 }
theorem pn_m_get1 : plainFor (⟨"com/example/beleg/beleg/Attributes", "get", "(Ljava/lang/String;)Ljava/lang/Object;"⟩ : MethodName) = true := by first | (refine plainFor_of_name ?_; simp [plainName, overriddenIn]; done) | decide +kernel
abbrev Q_m_get1 (Z : State) (a : Addr) (s : Addr) (e : Addr) (ke : ClassId) (y : Addr) (t : Addr) (kt : ClassId) (u0 : Int32) (u1 : Int32) (h0 : Heap) : Option Value → Heap → List Addr → Prop := fun res h' SN => res = some (.ref y) ∧ SN = [] ∧ True
theorem ef_m_get1 (mid : MethodId) (a : Addr) (s : Addr) (e : Addr) (ke : ClassId) (y : Addr) (t : Addr) (kt : ClassId) (u0 : Int32) (u1 : Int32) : entryFrame mid #[(.ref a), (.ref s)] 4 = mkF mid 0 #[.val (.ref a), .val (.ref s), .unset, .unset] [] := by first | (simp [entryFrame, mkF, argsToLocals, Value.category]; done) | rfl
set_option maxRecDepth 65536 in
set_option maxHeartbeats 40000000 in
theorem m_get1 {l : Launch} {Z : State} {a0 : Array Value} {n0 : Nat} (hw : ∀ d ∈ tables_1, d.before a0 Z = true) (hs : Stat Z) (a : Addr) (s : Addr) (e : Addr) (ke : ClassId) (y : Addr) (t : Addr) (kt : ClassId) (u0 : Int32) (u1 : Int32) (h0 : Heap) (E_a : Exa Z h0 a "com/example/beleg/beleg/Attributes") (F_a_size : Fld Z h0 a "com/example/beleg/beleg/Attributes" "size" "I" (.int (1 : Int32))) (F_a_entries : Fld Z h0 a "com/example/beleg/beleg/Attributes" "entries" "[Ljava/lang/Object;" (.ref e)) (F_a_tree : Fld Z h0 a "com/example/beleg/beleg/Attributes" "tree" "Ljava/util/TreeMap;" .null) (V_e : Arv Z h0 e ke (.object "java/lang/Object") (8 : Int32) [(.ref s), (.ref y), .null, .null, .null, .null, .null, .null] .null) (E_s : Exa Z h0 s "java/lang/String") (F_s_coder : Fld Z h0 s "java/lang/String" "coder" "B" (.int (0 : Int32))) (F_s_value : Fld Z h0 s "java/lang/String" "value" "[B" (.ref t)) (V_t : Arv Z h0 t kt .byte (2 : Int32) [(.int u0), (.int u1)] (.int (0 : Int32))) :
    Met l Z EL0 n0 NR0 KN0 N_26 prog_3_method_3_code 4 (Option.some (Jvm.ClassFile.FieldType.object "java/lang/Object")) R_m_get1 [] #[(.ref a), (.ref s)] h0 (Q_m_get1 Z a s e ke y t kt u0 u1 h0) := by
  refine Met.of_go pn_m_get1 (fun mid => ef_m_get1 mid a s e ke y t kt u0 u1 ) ?_
  intro hO hWS
  refine Go.aload_n (pc' := 1) d_prog_3_method_3_0 rfl rfl rfl ?_
  refine Go.getF (pc' := 4) d_prog_3_method_3_1 rfl (host := "") (Or.inl (w_53 hw)) Via.refl F_a_tree ?_
  refine Go.ifnullY (pc' := 19) d_prog_3_method_3_4 (by decide) (by decide) ?_
  refine Go.aload_n (pc' := 20) d_prog_3_method_3_19 rfl rfl rfl ?_
  refine Go.aload_n (pc' := 21) d_prog_3_method_3_20 rfl rfl rfl ?_
  refine Go.callP (pc' := 24) (z := N_20) (a := a) d_prog_3_method_3_21 rfl (w_55 hw) (w_56 hw) (own_selP (z := N_20) (u := ({ cls := "com/example/beleg/beleg/Attributes", name := "put", desc := "(Ljava/lang/String;Ljava/lang/Object;)V" } : Jvm.MethodName)) (w_51 hw) rfl (by decide) (w_56 hw) (w_57 hw)) (w_57 hw) (w_58 hw) (by decide) E_a (argsL := [(.ref s)]) (rest := []) (Pays.of_met (W := 0) (len := 3) (m_idx1s hw hs a s e ke y t kt u0 u1 h0 E_a F_a_size F_a_entries V_e E_s F_s_coder F_s_value V_t) (w_58 hw) (w_43 hw) (by decide) (by decide)) rfl rfl (lenOf pd_15 rfl) rfl (Nat.le_of_eq rfl) mem0 (by decide) (by decide) ?_
  rintro _ h216 _ K217 le218 ⟨rfl, rfl, p219⟩
  replace E_a := E_a.keep K217
  replace F_a_size := F_a_size.keep K217 nin0
  replace F_a_entries := F_a_entries.keep K217 nin0
  replace F_a_tree := F_a_tree.keep K217 nin0
  replace V_e := V_e.keep K217 nin0
  replace E_s := E_s.keep K217
  replace F_s_coder := F_s_coder.keep K217 nin0
  replace F_s_value := F_s_value.keep K217 nin0
  replace V_t := V_t.keep K217 nin0
  change Go _ _ _ _ _ _ _ _ _ _ _ _ _ _ [] h216 2 20 24 #[.val (.ref a), .val (.ref s), .unset, .unset] [(.int (0 : Int32))]
  refine Go.istore_n (pc' := 25) (Ls' := #[.val (.ref a), .val (.ref s), .unset, .val (.int (0 : Int32))]) d_prog_3_method_3_24 rfl rfl ?_
  refine Go.iload_n (pc' := 26) d_prog_3_method_3_25 rfl rfl ?_
  refine Go.ifN (pc' := 29) d_prog_3_method_3_26 rfl ((if0 _ _).trans (flt (by decide : ¬ ((0 : Int32) < (0 : Int32)))).1) ?_
  refine Go.aload_n (pc' := 30) d_prog_3_method_3_29 rfl rfl rfl ?_
  refine Go.getF (pc' := 33) d_prog_3_method_3_30 rfl (host := "") (Or.inl (w_72 hw)) Via.refl F_a_entries ?_
  refine Go.iconst (pc' := 34) d_prog_3_method_3_33 rfl ic_2 ?_
  refine Go.iload_n (pc' := 35) d_prog_3_method_3_34 rfl rfl ?_
  refine Go.imul (pc' := 36) d_prog_3_method_3_35 rfl ?_
  rw [show ((2 : Int32) * (0 : Int32)) = (0 : Int32) from by decide]
  refine Go.iconst (pc' := 37) d_prog_3_method_3_36 rfl ic_1 ?_
  refine Go.iadd (pc' := 38) d_prog_3_method_3_37 rfl ?_
  rw [show ((0 : Int32) + (1 : Int32)) = (1 : Int32) from by decide]
  refine Go.aaloadV (pc' := 39) (v := (.ref y)) d_prog_3_method_3_38 rfl V_e rfl (by decide) rfl ?_
  refine Go.goto (pc' := 43) d_prog_3_method_3_39 (by decide) (by decide) ?_
  refine Go.astore_n (pc' := 44) (Ls' := #[.val (.ref a), .val (.ref s), .val (.ref y), .val (.int (0 : Int32))]) d_prog_3_method_3_43 rfl rfl rfl ?_
  refine Go.aload_n (pc' := 45) d_prog_3_method_3_44 rfl rfl rfl ?_
  exact Go.retA d_prog_3_method_3_45 rfl rfl rfl (by decide) (by decide) [] sn0 ⟨rfl, rfl, trivial⟩
abbrev Q_m_law (Z : State) (p1 : Int32) (p2 : Int32) (p3 : Int32) (p4 : Int32) (h0 : Heap) : Option Value → Heap → List Addr → Prop := fun res h' SN => res = some (.int (1 : Int32)) ∧ SN = []
set_option maxRecDepth 65536 in
set_option maxHeartbeats 40000000 in
theorem m_law2 {l : Launch} {Z : State} {a0 : Array Value} {n0 : Nat} (hw : ∀ d ∈ tables_1, d.before a0 Z = true) (hs : Stat Z) (p1 : Int32) (p2 : Int32) (p3 : Int32) (p4 : Int32) (k : Int32) (s1 : Addr) (s2 : Addr) (s3 : Addr) (y1 : Addr) (v2 : Value) (y3 : Addr) (a : Addr) (ve :  Value) (sz : Int32) (t : Addr) (kt : ClassId) (u0 : Int32) (u1 : Int32) (h0 h : Heap) (E_a : Exa Z h a "com/example/beleg/beleg/Attributes") (F_a_entries : Fld Z h a "com/example/beleg/beleg/Attributes" "entries" "[Ljava/lang/Object;" ve) (F_a_size : Fld Z h a "com/example/beleg/beleg/Attributes" "size" "I" (.int sz)) (F_a_tree : Fld Z h a "com/example/beleg/beleg/Attributes" "tree" "Ljava/util/TreeMap;" .null) (E_s3 : Exa Z h s3 "java/lang/String") (F_s3_coder : Fld Z h s3 "java/lang/String" "coder" "B" (.int (0 : Int32))) (F_s3_value : Fld Z h s3 "java/lang/String" "value" "[B" (.ref t)) (V_t : Arv Z h t kt .byte (2 : Int32) [(.int u0), (.int u1)] (.int (0 : Int32))) (E_y3 : Exa Z h y3 "java/lang/Integer") (hv_v2 : v2.isRef = true) (ne_s3_a : s3 ≠ a) (ne_t_a : t ≠ a) (ne_y3_a : y3 ≠ a) :
    Go l Z EL0 n0 NR0 KN0 x code maxLocals ret room_1 h0 [] (Q_m_law Z p1 p2 p3 p4 h0) [a] h 26 400 90 #[.val (.int p1), .val (.int p2), .val (.int p3), .val (.int p4), .val (.ref s1), .val (.ref s2), .val (.ref s3), .val (.ref y1), .val (.int k), .val v2, .val (.ref y3), .val (.ref a), .unset] [] := by
  refine Go.aload (pc' := 92) at_90 rfl rfl rfl ?_
  refine Go.callV (pc' := 95) (u := N_23) (z := N_23) (a := a) at_92 rfl (w_86 hw) (w_87 hw) (nf (w_89 hw) rfl) (w_89 hw) (w_88 hw) (by decide) E_a (argsL := []) (rest := []) (Pays.of_met (W := 0) (len := 3) (m_clear hw hs a ve sz h E_a F_a_entries F_a_size F_a_tree) (w_90 hw) (w_43 hw) (by decide) (by decide)) rfl rfl (lenOf pd_0 rfl) rfl (Nat.le_of_eq rfl) (memS (List.mem_of_getElem? (i := 0) rfl) mem0) (by decide) (by decide) ?_
  rintro _ h220 _ K221 le222 ⟨rfl, rfl, p223, p224, p225, p226⟩
  replace E_a := E_a.keep K221
  replace E_s3 := E_s3.keep K221
  replace F_s3_coder := F_s3_coder.keep K221 (ninS ne_s3_a nin0)
  replace F_s3_value := F_s3_value.keep K221 (ninS ne_s3_a nin0)
  replace V_t := V_t.keep K221 (ninS ne_t_a nin0)
  replace E_y3 := E_y3.keep K221
  have F_a_entries := p224
  have F_a_size := p225
  have F_a_tree := p226
  change Go _ _ _ _ _ _ _ _ _ _ _ _ _ _ [a] h220 26 400 95 #[.val (.int p1), .val (.int p2), .val (.int p3), .val (.int p4), .val (.ref s1), .val (.ref s2), .val (.ref s3), .val (.ref y1), .val (.int k), .val v2, .val (.ref y3), .val (.ref a), .unset] []
  refine Go.aload (pc' := 97) at_95 rfl rfl rfl ?_
  refine Go.callV (pc' := 100) (u := N_24) (z := N_24) (a := a) at_97 rfl (w_91 hw) (w_92 hw) (nf (w_94 hw) rfl) (w_94 hw) (w_93 hw) (by decide) E_a (argsL := []) (rest := []) (Pays.of_met (W := 0) (len := 3) (m_size0 hw hs a h220 F_a_tree F_a_size) (w_95 hw) (w_43 hw) (by decide) (by decide)) rfl rfl (lenOf pd_17 rfl) rfl (Nat.le_of_eq rfl) mem0 (by decide) (by decide) ?_
  rintro _ _ _ - - ⟨rfl, rfl, rfl⟩
  change Go _ _ _ _ _ _ _ _ _ _ _ _ _ _ [a] h220 26 400 100 #[.val (.int p1), .val (.int p2), .val (.int p3), .val (.int p4), .val (.ref s1), .val (.ref s2), .val (.ref s3), .val (.ref y1), .val (.int k), .val v2, .val (.ref y3), .val (.ref a), .unset] [(.int (0 : Int32))]
  refine Go.ifN (pc' := 103) at_100 rfl ((if0 _ _).trans (teq (rfl : (0 : Int32) = (0 : Int32))).2) ?_
  refine Go.aload (pc' := 105) at_103 rfl rfl rfl ?_
  refine Go.aload (pc' := 107) at_105 rfl rfl rfl ?_
  refine Go.callV (pc' := 110) (u := N_25) (z := N_25) (a := a) at_107 rfl (w_96 hw) (w_97 hw) (nf (w_99 hw) rfl) (w_99 hw) (w_98 hw) (by decide) E_a (argsL := [(.ref s1)]) (rest := []) (Pays.of_met (W := 0) (len := 3) (m_has0 hw hs a s1 h220 E_a F_a_entries F_a_size F_a_tree) (w_100 hw) (w_43 hw) (by decide) (by decide)) rfl rfl (lenOf pd_18 rfl) rfl (Nat.le_of_eq rfl) mem0 (by decide) (by decide) ?_
  rintro _ h227 _ K228 le229 ⟨rfl, rfl, p230⟩
  replace E_a := E_a.keep K228
  replace E_s3 := E_s3.keep K228
  replace F_s3_coder := F_s3_coder.keep K228 nin0
  replace F_s3_value := F_s3_value.keep K228 nin0
  replace V_t := V_t.keep K228 nin0
  replace E_y3 := E_y3.keep K228
  replace F_a_entries := F_a_entries.keep K228 nin0
  replace F_a_size := F_a_size.keep K228 nin0
  replace F_a_tree := F_a_tree.keep K228 nin0
  change Go _ _ _ _ _ _ _ _ _ _ _ _ _ _ [a] h227 28 420 110 #[.val (.int p1), .val (.int p2), .val (.int p3), .val (.int p4), .val (.ref s1), .val (.ref s2), .val (.ref s3), .val (.ref y1), .val (.int k), .val v2, .val (.ref y3), .val (.ref a), .unset] [(.int (0 : Int32))]
  refine Go.ifN (pc' := 113) at_110 rfl ((if0 _ _).trans (teq (rfl : (0 : Int32) = (0 : Int32))).2) ?_
  refine Go.aload (pc' := 115) at_113 rfl rfl rfl ?_
  refine Go.aload (pc' := 117) at_115 rfl rfl rfl ?_
  refine Go.callV (pc' := 120) (u := N_26) (z := N_26) (a := a) at_117 rfl (w_101 hw) (w_102 hw) (nf (w_104 hw) rfl) (w_104 hw) (w_103 hw) (by decide) E_a (argsL := [(.ref s2)]) (rest := []) (Pays.of_met (W := 0) (len := 3) (m_get0 hw hs a s2 h227 E_a F_a_entries F_a_size F_a_tree) (w_105 hw) (w_43 hw) (by decide) (by decide)) rfl rfl (lenOf pd_19 rfl) rfl (Nat.le_of_eq rfl) mem0 (by decide) (by decide) ?_
  rintro _ h231 _ K232 le233 ⟨rfl, rfl, p234⟩
  replace E_a := E_a.keep K232
  replace E_s3 := E_s3.keep K232
  replace F_s3_coder := F_s3_coder.keep K232 nin0
  replace F_s3_value := F_s3_value.keep K232 nin0
  replace V_t := V_t.keep K232 nin0
  replace E_y3 := E_y3.keep K232
  replace F_a_entries := F_a_entries.keep K232 nin0
  replace F_a_size := F_a_size.keep K232 nin0
  replace F_a_tree := F_a_tree.keep K232 nin0
  change Go _ _ _ _ _ _ _ _ _ _ _ _ _ _ [a] h231 30 440 120 #[.val (.int p1), .val (.int p2), .val (.int p3), .val (.int p4), .val (.ref s1), .val (.ref s2), .val (.ref s3), .val (.ref y1), .val (.int k), .val v2, .val (.ref y3), .val (.ref a), .unset] [.null]
  refine Go.ifnonnullN (pc' := 123) at_120 rfl ?_
  refine Go.iconst (pc' := 124) at_123 rfl ic_1 ?_
  refine Go.goto (pc' := 128) at_124 (by decide) (by decide) ?_
  refine Go.istore (pc' := 130) (Ls' := #[.val (.int p1), .val (.int p2), .val (.int p3), .val (.int p4), .val (.ref s1), .val (.ref s2), .val (.ref s3), .val (.ref y1), .val (.int k), .val v2, .val (.ref y3), .val (.ref a), .val (.int (1 : Int32))]) at_128 rfl rfl ?_
  refine Go.aload (pc' := 132) at_130 rfl rfl rfl ?_
  refine Go.aload (pc' := 134) at_132 rfl rfl rfl ?_
  refine Go.aload (pc' := 136) at_134 rfl rfl rfl ?_
  refine Go.callV (pc' := 139) (u := N_22) (z := N_22) (a := a) at_136 rfl (w_48 hw) (w_49 hw) (nf (w_51 hw) rfl) (w_51 hw) (w_50 hw) (by decide) E_a (argsL := [(.ref s3), (.ref y3)]) (rest := []) (Pays.of_met (W := 0) (len := 3) (m_put0 hw hs a s3 y3 h231 E_a F_a_entries F_a_size F_a_tree E_s3 E_y3 ne_s3_a ne_y3_a) (w_52 hw) (w_43 hw) (by decide) (by decide)) rfl rfl (lenOf pd_20 rfl) rfl (Nat.le_of_eq rfl) (memS (List.mem_of_getElem? (i := 0) rfl) mem0) (by decide) (by decide) ?_
  rintro _ h237 _ K238 le239 ⟨b235, q236, rfl, rfl, p240, p241, p242, p243, p244, p245, p246⟩
  have o_a_b235 : a ≠ b235 := Nat.ne_of_lt (Nat.lt_of_lt_of_le E_a.lt p244)
  have o_s3_b235 : s3 ≠ b235 := Nat.ne_of_lt (Nat.lt_of_lt_of_le E_s3.lt p244)
  have o_t_b235 : t ≠ b235 := Nat.ne_of_lt (Nat.lt_of_lt_of_le V_t.lt p244)
  have o_y3_b235 : y3 ≠ b235 := Nat.ne_of_lt (Nat.lt_of_lt_of_le E_y3.lt p244)
  have ge_b235 := Nat.le_trans le239 p244
  replace E_a := E_a.keep K238
  replace E_s3 := E_s3.keep K238
  replace F_s3_coder := F_s3_coder.keep K238 (ninS ne_s3_a nin0)
  replace F_s3_value := F_s3_value.keep K238 (ninS ne_s3_a nin0)
  replace V_t := V_t.keep K238 (ninS ne_t_a nin0)
  replace E_y3 := E_y3.keep K238
  have F_a_entries := p241
  have F_a_size := p242
  have F_a_tree := p243
  have V_b235 := p245
  change Go _ _ _ _ _ _ _ _ _ _ _ _ _ _ [b235, a] h237 33 468 139 #[.val (.int p1), .val (.int p2), .val (.int p3), .val (.int p4), .val (.ref s1), .val (.ref s2), .val (.ref s3), .val (.ref y1), .val (.int k), .val v2, .val (.ref y3), .val (.ref a), .val (.int (1 : Int32))] []
  refine Go.iload (pc' := 141) at_139 rfl rfl ?_
  refine Go.ifN (pc' := 144) at_141 rfl ((if0 _ _).trans (feq (by decide : ¬ ((1 : Int32) = (0 : Int32)))).1) ?_
  refine Go.aload (pc' := 146) at_144 rfl rfl rfl ?_
  refine Go.callV (pc' := 149) (u := N_24) (z := N_24) (a := a) at_146 rfl (w_91 hw) (w_92 hw) (nf (w_94 hw) rfl) (w_94 hw) (w_93 hw) (by decide) E_a (argsL := []) (rest := []) (Pays.of_met (W := 0) (len := 3) (m_size1 hw hs a h237 F_a_tree F_a_size) (w_95 hw) (w_43 hw) (by decide) (by decide)) rfl rfl (lenOf pd_17 rfl) rfl (Nat.le_of_eq rfl) mem0 (by decide) (by decide) ?_
  rintro _ _ _ - - ⟨rfl, rfl, rfl⟩
  change Go _ _ _ _ _ _ _ _ _ _ _ _ _ _ [b235, a] h237 33 468 149 #[.val (.int p1), .val (.int p2), .val (.int p3), .val (.int p4), .val (.ref s1), .val (.ref s2), .val (.ref s3), .val (.ref y1), .val (.int k), .val v2, .val (.ref y3), .val (.ref a), .val (.int (1 : Int32))] [(.int (1 : Int32))]
  refine Go.iconst (pc' := 150) at_149 rfl ic_1 ?_
  refine Go.icmpN (pc' := 153) at_150 rfl (teq (rfl : (1 : Int32) = (1 : Int32))).2 ?_
  refine Go.aload (pc' := 155) at_153 rfl rfl rfl ?_
  refine Go.aload (pc' := 157) at_155 rfl rfl rfl ?_
  refine Go.callV (pc' := 160) (u := N_26) (z := N_26) (a := a) at_157 rfl (w_101 hw) (w_102 hw) (nf (w_104 hw) rfl) (w_104 hw) (w_103 hw) (by decide) E_a (argsL := [(.ref s3)]) (rest := []) (Pays.of_met (W := 0) (len := 3) (m_get1 hw hs a s3 b235 q236 y3 t kt u0 u1 h237 E_a F_a_size F_a_entries F_a_tree V_b235 E_s3 F_s3_coder F_s3_value V_t) (w_105 hw) (w_43 hw) (by decide) (by decide)) rfl rfl (lenOf pd_19 rfl) rfl (Nat.le_of_eq rfl) mem0 (by decide) (by decide) ?_
  rintro _ h247 _ K248 le249 ⟨rfl, rfl, p250⟩
  replace E_a := E_a.keep K248
  replace E_s3 := E_s3.keep K248
  replace F_s3_coder := F_s3_coder.keep K248 nin0
  replace F_s3_value := F_s3_value.keep K248 nin0
  replace V_t := V_t.keep K248 nin0
  replace E_y3 := E_y3.keep K248
  replace F_a_entries := F_a_entries.keep K248 nin0
  replace F_a_size := F_a_size.keep K248 nin0
  replace F_a_tree := F_a_tree.keep K248 nin0
  replace V_b235 := V_b235.keep K248 nin0
  change Go _ _ _ _ _ _ _ _ _ _ _ _ _ _ [b235, a] h247 35 488 160 #[.val (.int p1), .val (.int p2), .val (.int p3), .val (.int p4), .val (.ref s1), .val (.ref s2), .val (.ref s3), .val (.ref y1), .val (.int k), .val v2, .val (.ref y3), .val (.ref a), .val (.int (1 : Int32))] [(.ref y3)]
  refine Go.aload (pc' := 162) at_160 rfl rfl rfl ?_
  refine Go.acmp (pc' := 165) (same := true) at_162 rfl rfl (decide_eq_true rfl) (by decide) (by decide) ?_
  refine Go.iconst (pc' := 166) at_165 rfl ic_1 ?_
  refine Go.goto (pc' := 170) at_166 (by decide) (by decide) ?_
  exact Go.retS (ty := .boolean) at_170 rfl (by simp) rfl (by decide) (by decide) [] sn0 ⟨rfl, rfl⟩
theorem pn_m_law : plainFor (⟨"com/example/beleg/beleg/AttributesClearPinLaw", "law", "(IIII)Z"⟩ : MethodName) = true := by first | (refine plainFor_of_name ?_; simp [plainName, overriddenIn]; done) | decide +kernel
theorem ef_m_law (mid : MethodId) (p1 : Int32) (p2 : Int32) (p3 : Int32) (p4 : Int32) : entryFrame mid #[(.int p1), (.int p2), (.int p3), (.int p4)] maxLocals = mkF mid 0 #[.val (.int p1), .val (.int p2), .val (.int p3), .val (.int p4), .unset, .unset, .unset, .unset, .unset, .unset, .unset, .unset, .unset] [] := by first | (simp [entryFrame, mkF, argsToLocals, Value.category, maxLocals]; done) | rfl
set_option maxRecDepth 65536 in
set_option maxHeartbeats 40000000 in
theorem m_law {l : Launch} {Z : State} {a0 : Array Value} {n0 : Nat} (hw : ∀ d ∈ tables_1, d.before a0 Z = true) (hs : Stat Z) (p1 : Int32) (p2 : Int32) (p3 : Int32) (p4 : Int32) (h0 : Heap) :
    Met l Z EL0 n0 NR0 KN0 x code maxLocals ret room_1 [] #[(.int p1), (.int p2), (.int p3), (.int p4)] h0 (Q_m_law Z p1 p2 p3 p4 h0) := by
  refine Met.of_go pn_m_law (fun mid => ef_m_law mid p1 p2 p3 p4 ) ?_
  intro hO hWS
  refine Go.iload_n (pc' := 1) at_0 rfl rfl ?_
  refine Go.callS (pc' := 4) (z := N_11) at_1 rfl (w_0 hw) (w_1 hw) (w_2 hw) (w_3 hw) (by decide) (argsL := [(.int p1)]) (rest := []) (Pays.of_met (W := 0) (len := 3) (m_drawn hw hs p1 h0) (w_3 hw) (w_2 hw) (by decide) (by decide)) rfl rfl (lenOf pd_14 rfl) rfl (Nat.le_of_eq rfl) mem0 (by decide) (by decide) ?_
  rintro _ h256 _ K257 le258 ⟨b251, b252, q253, i254, i255, rfl, rfl, p259, p260, p261, p262, p263, p264⟩
  have ge_b251 := Nat.le_trans le258 p259
  have ge_b252 := Nat.le_trans le258 p260
  have E_b251 := p261
  have F_b251_coder := p262
  have F_b251_value := p263
  have V_b252 := p264
  change Go _ _ _ _ _ _ _ _ _ _ _ _ _ _ [] h256 3 8 4 #[.val (.int p1), .val (.int p2), .val (.int p3), .val (.int p4), .unset, .unset, .unset, .unset, .unset, .unset, .unset, .unset, .unset] [(.ref b251)]
  refine Go.astore (pc' := 6) (Ls' := #[.val (.int p1), .val (.int p2), .val (.int p3), .val (.int p4), .val (.ref b251), .unset, .unset, .unset, .unset, .unset, .unset, .unset, .unset]) at_4 rfl rfl rfl ?_
  refine Go.iload_n (pc' := 7) at_6 rfl rfl ?_
  refine Go.callS (pc' := 10) (z := N_11) at_7 rfl (w_0 hw) (w_1 hw) (w_2 hw) (w_3 hw) (by decide) (argsL := [(.int p2)]) (rest := []) (Pays.of_met (W := 0) (len := 3) (m_drawn hw hs p2 h256) (w_3 hw) (w_2 hw) (by decide) (by decide)) rfl rfl (lenOf pd_14 rfl) rfl (Nat.le_of_eq rfl) mem0 (by decide) (by decide) ?_
  rintro _ h270 _ K271 le272 ⟨b265, b266, q267, i268, i269, rfl, rfl, p273, p274, p275, p276, p277, p278⟩
  have o_b251_b265 : b251 ≠ b265 := Nat.ne_of_lt (Nat.lt_of_lt_of_le E_b251.lt p273)
  have o_b252_b265 : b252 ≠ b265 := Nat.ne_of_lt (Nat.lt_of_lt_of_le V_b252.lt p273)
  have ge_b265 := Nat.le_trans le272 p273
  have o_b251_b266 : b251 ≠ b266 := Nat.ne_of_lt (Nat.lt_of_lt_of_le E_b251.lt p274)
  have o_b252_b266 : b252 ≠ b266 := Nat.ne_of_lt (Nat.lt_of_lt_of_le V_b252.lt p274)
  have ge_b266 := Nat.le_trans le272 p274
  replace E_b251 := E_b251.keep K271
  replace F_b251_coder := F_b251_coder.keep K271 nin0
  replace F_b251_value := F_b251_value.keep K271 nin0
  replace V_b252 := V_b252.keep K271 nin0
  have E_b265 := p275
  have F_b265_coder := p276
  have F_b265_value := p277
  have V_b266 := p278
  change Go _ _ _ _ _ _ _ _ _ _ _ _ _ _ [] h270 6 16 10 #[.val (.int p1), .val (.int p2), .val (.int p3), .val (.int p4), .val (.ref b251), .unset, .unset, .unset, .unset, .unset, .unset, .unset, .unset] [(.ref b265)]
  refine Go.astore (pc' := 12) (Ls' := #[.val (.int p1), .val (.int p2), .val (.int p3), .val (.int p4), .val (.ref b251), .val (.ref b265), .unset, .unset, .unset, .unset, .unset, .unset, .unset]) at_10 rfl rfl rfl ?_
  refine Go.iload_n (pc' := 13) at_12 rfl rfl ?_
  refine Go.callS (pc' := 16) (z := N_11) at_13 rfl (w_0 hw) (w_1 hw) (w_2 hw) (w_3 hw) (by decide) (argsL := [(.int p3)]) (rest := []) (Pays.of_met (W := 0) (len := 3) (m_drawn hw hs p3 h270) (w_3 hw) (w_2 hw) (by decide) (by decide)) rfl rfl (lenOf pd_14 rfl) rfl (Nat.le_of_eq rfl) mem0 (by decide) (by decide) ?_
  rintro _ h284 _ K285 le286 ⟨b279, b280, q281, i282, i283, rfl, rfl, p287, p288, p289, p290, p291, p292⟩
  have o_b251_b279 : b251 ≠ b279 := Nat.ne_of_lt (Nat.lt_of_lt_of_le E_b251.lt p287)
  have o_b252_b279 : b252 ≠ b279 := Nat.ne_of_lt (Nat.lt_of_lt_of_le V_b252.lt p287)
  have o_b265_b279 : b265 ≠ b279 := Nat.ne_of_lt (Nat.lt_of_lt_of_le E_b265.lt p287)
  have o_b266_b279 : b266 ≠ b279 := Nat.ne_of_lt (Nat.lt_of_lt_of_le V_b266.lt p287)
  have ge_b279 := Nat.le_trans le286 p287
  have o_b251_b280 : b251 ≠ b280 := Nat.ne_of_lt (Nat.lt_of_lt_of_le E_b251.lt p288)
  have o_b252_b280 : b252 ≠ b280 := Nat.ne_of_lt (Nat.lt_of_lt_of_le V_b252.lt p288)
  have o_b265_b280 : b265 ≠ b280 := Nat.ne_of_lt (Nat.lt_of_lt_of_le E_b265.lt p288)
  have o_b266_b280 : b266 ≠ b280 := Nat.ne_of_lt (Nat.lt_of_lt_of_le V_b266.lt p288)
  have ge_b280 := Nat.le_trans le286 p288
  replace E_b251 := E_b251.keep K285
  replace F_b251_coder := F_b251_coder.keep K285 nin0
  replace F_b251_value := F_b251_value.keep K285 nin0
  replace V_b252 := V_b252.keep K285 nin0
  replace E_b265 := E_b265.keep K285
  replace F_b265_coder := F_b265_coder.keep K285 nin0
  replace F_b265_value := F_b265_value.keep K285 nin0
  replace V_b266 := V_b266.keep K285 nin0
  have E_b279 := p289
  have F_b279_coder := p290
  have F_b279_value := p291
  have V_b280 := p292
  change Go _ _ _ _ _ _ _ _ _ _ _ _ _ _ [] h284 9 24 16 #[.val (.int p1), .val (.int p2), .val (.int p3), .val (.int p4), .val (.ref b251), .val (.ref b265), .unset, .unset, .unset, .unset, .unset, .unset, .unset] [(.ref b279)]
  refine Go.astore (pc' := 18) (Ls' := #[.val (.int p1), .val (.int p2), .val (.int p3), .val (.int p4), .val (.ref b251), .val (.ref b265), .val (.ref b279), .unset, .unset, .unset, .unset, .unset, .unset]) at_16 rfl rfl rfl ?_
  refine Go.iload_n (pc' := 19) at_18 rfl rfl ?_
  refine Go.callS (pc' := 22) (z := N_2) at_19 rfl (w_34 hw) (w_35 hw) (w_36 hw) (w_37 hw) (by decide) (argsL := [(.int p1)]) (rest := []) (Pays.of_met (W := 0) (len := 3) (m_valueOf hw hs p1 h284) (w_37 hw) (w_36 hw) (by decide) (by decide)) rfl rfl (lenOf pd_21 rfl) rfl (Nat.le_of_eq rfl) mem0 (by decide) (by decide) ?_
  rintro _ h294 _ K295 le296 ⟨b293, rfl, rfl, p297, p298⟩
  replace E_b251 := E_b251.keep K295
  replace F_b251_coder := F_b251_coder.keep K295 nin0
  replace F_b251_value := F_b251_value.keep K295 nin0
  replace V_b252 := V_b252.keep K295 nin0
  replace E_b265 := E_b265.keep K295
  replace F_b265_coder := F_b265_coder.keep K295 nin0
  replace F_b265_value := F_b265_value.keep K295 nin0
  replace V_b266 := V_b266.keep K295 nin0
  replace E_b279 := E_b279.keep K295
  replace F_b279_coder := F_b279_coder.keep K295 nin0
  replace F_b279_value := F_b279_value.keep K295 nin0
  replace V_b280 := V_b280.keep K295 nin0
  have E_b293 := p297
  have F_b293_value := p298
  change Go _ _ _ _ _ _ _ _ _ _ _ _ _ _ [] h294 10 25 22 #[.val (.int p1), .val (.int p2), .val (.int p3), .val (.int p4), .val (.ref b251), .val (.ref b265), .val (.ref b279), .unset, .unset, .unset, .unset, .unset, .unset] [(.ref b293)]
  refine Go.astore (pc' := 24) (Ls' := #[.val (.int p1), .val (.int p2), .val (.int p3), .val (.int p4), .val (.ref b251), .val (.ref b265), .val (.ref b279), .val (.ref b293), .unset, .unset, .unset, .unset, .unset]) at_22 rfl rfl rfl ?_
  refine Go.iload_n (pc' := 25) at_24 rfl rfl ?_
  refine Go.iconst (pc' := 26) at_25 rfl ic_3 ?_
  refine Go.iand (pc' := 27) at_26 rfl ?_
  refine Go.istore (pc' := 29) (Ls' := #[.val (.int p1), .val (.int p2), .val (.int p3), .val (.int p4), .val (.ref b251), .val (.ref b265), .val (.ref b279), .val (.ref b293), .val (.int (p4 &&& (3 : Int32))), .unset, .unset, .unset, .unset]) at_27 rfl rfl ?_
  refine Go.iload (pc' := 31) at_29 rfl rfl ?_
  refine Go.iconst (pc' := 32) at_31 rfl ic_3 ?_
  rcases own_and3 p4 with e | e | e | e
  · simp only [e]
    refine Go.icmpY (pc' := 39) at_32 (by decide) (by decide) (feq (by decide : ¬ ((0 : Int32) = (3 : Int32)))).2 ?_
    refine Go.iload_n (pc' := 40) at_39 rfl rfl ?_
    refine Go.callS (pc' := 43) (z := N_2) at_40 rfl (w_34 hw) (w_35 hw) (w_36 hw) (w_37 hw) (by decide) (argsL := [(.int p2)]) (rest := []) (Pays.of_met (W := 0) (len := 3) (m_valueOf hw hs p2 h294) (w_37 hw) (w_36 hw) (by decide) (by decide)) rfl rfl (lenOf pd_21 rfl) rfl (Nat.le_of_eq rfl) mem0 (by decide) (by decide) ?_
    rintro _ h300 _ K301 le302 ⟨b299, rfl, rfl, p303, p304⟩
    replace E_b251 := E_b251.keep K301
    replace F_b251_coder := F_b251_coder.keep K301 nin0
    replace F_b251_value := F_b251_value.keep K301 nin0
    replace V_b252 := V_b252.keep K301 nin0
    replace E_b265 := E_b265.keep K301
    replace F_b265_coder := F_b265_coder.keep K301 nin0
    replace F_b265_value := F_b265_value.keep K301 nin0
    replace V_b266 := V_b266.keep K301 nin0
    replace E_b279 := E_b279.keep K301
    replace F_b279_coder := F_b279_coder.keep K301 nin0
    replace F_b279_value := F_b279_value.keep K301 nin0
    replace V_b280 := V_b280.keep K301 nin0
    replace E_b293 := E_b293.keep K301
    replace F_b293_value := F_b293_value.keep K301 nin0
    have E_b299 := p303
    have F_b299_value := p304
    change Go _ _ _ _ _ _ _ _ _ _ _ _ _ _ [] h300 11 26 43 #[.val (.int p1), .val (.int p2), .val (.int p3), .val (.int p4), .val (.ref b251), .val (.ref b265), .val (.ref b279), .val (.ref b293), .val (.int (0 : Int32)), .unset, .unset, .unset, .unset] [(.ref b299)]
    refine Go.astore (pc' := 45) (Ls' := #[.val (.int p1), .val (.int p2), .val (.int p3), .val (.int p4), .val (.ref b251), .val (.ref b265), .val (.ref b279), .val (.ref b293), .val (.int (0 : Int32)), .val (.ref b299), .unset, .unset, .unset]) at_43 rfl rfl rfl ?_
    refine Go.iload_n (pc' := 46) at_45 rfl rfl ?_
    refine Go.callS (pc' := 49) (z := N_2) at_46 rfl (w_34 hw) (w_35 hw) (w_36 hw) (w_37 hw) (by decide) (argsL := [(.int p3)]) (rest := []) (Pays.of_met (W := 0) (len := 3) (m_valueOf hw hs p3 h300) (w_37 hw) (w_36 hw) (by decide) (by decide)) rfl rfl (lenOf pd_21 rfl) rfl (Nat.le_of_eq rfl) mem0 (by decide) (by decide) ?_
    rintro _ h306 _ K307 le308 ⟨b305, rfl, rfl, p309, p310⟩
    replace E_b251 := E_b251.keep K307
    replace F_b251_coder := F_b251_coder.keep K307 nin0
    replace F_b251_value := F_b251_value.keep K307 nin0
    replace V_b252 := V_b252.keep K307 nin0
    replace E_b265 := E_b265.keep K307
    replace F_b265_coder := F_b265_coder.keep K307 nin0
    replace F_b265_value := F_b265_value.keep K307 nin0
    replace V_b266 := V_b266.keep K307 nin0
    replace E_b279 := E_b279.keep K307
    replace F_b279_coder := F_b279_coder.keep K307 nin0
    replace F_b279_value := F_b279_value.keep K307 nin0
    replace V_b280 := V_b280.keep K307 nin0
    replace E_b293 := E_b293.keep K307
    replace F_b293_value := F_b293_value.keep K307 nin0
    replace E_b299 := E_b299.keep K307
    replace F_b299_value := F_b299_value.keep K307 nin0
    have E_b305 := p309
    have F_b305_value := p310
    change Go _ _ _ _ _ _ _ _ _ _ _ _ _ _ [] h306 12 27 49 #[.val (.int p1), .val (.int p2), .val (.int p3), .val (.int p4), .val (.ref b251), .val (.ref b265), .val (.ref b279), .val (.ref b293), .val (.int (0 : Int32)), .val (.ref b299), .unset, .unset, .unset] [(.ref b305)]
    refine Go.astore (pc' := 51) (Ls' := #[.val (.int p1), .val (.int p2), .val (.int p3), .val (.int p4), .val (.ref b251), .val (.ref b265), .val (.ref b279), .val (.ref b293), .val (.int (0 : Int32)), .val (.ref b299), .val (.ref b305), .unset, .unset]) at_49 rfl rfl rfl ?_
    refine Go.newO (pc' := 54) at_51 rfl (w_41 hw) (w_42 hw) (w_43 hw) (by decide) (by decide) ?_
    intro h311 b312 g313 ge_b312 x314 E_b312 D_b312 U_b312
    have o_b251_b312 : b251 ≠ b312 := Nat.ne_of_lt (Nat.lt_of_lt_of_le E_b251.lt (Nat.le_of_eq g313))
    have o_b252_b312 : b252 ≠ b312 := Nat.ne_of_lt (Nat.lt_of_lt_of_le V_b252.lt (Nat.le_of_eq g313))
    have o_b265_b312 : b265 ≠ b312 := Nat.ne_of_lt (Nat.lt_of_lt_of_le E_b265.lt (Nat.le_of_eq g313))
    have o_b266_b312 : b266 ≠ b312 := Nat.ne_of_lt (Nat.lt_of_lt_of_le V_b266.lt (Nat.le_of_eq g313))
    have o_b279_b312 : b279 ≠ b312 := Nat.ne_of_lt (Nat.lt_of_lt_of_le E_b279.lt (Nat.le_of_eq g313))
    have o_b280_b312 : b280 ≠ b312 := Nat.ne_of_lt (Nat.lt_of_lt_of_le V_b280.lt (Nat.le_of_eq g313))
    have o_b293_b312 : b293 ≠ b312 := Nat.ne_of_lt (Nat.lt_of_lt_of_le E_b293.lt (Nat.le_of_eq g313))
    have o_b299_b312 : b299 ≠ b312 := Nat.ne_of_lt (Nat.lt_of_lt_of_le E_b299.lt (Nat.le_of_eq g313))
    have o_b305_b312 : b305 ≠ b312 := Nat.ne_of_lt (Nat.lt_of_lt_of_le E_b305.lt (Nat.le_of_eq g313))
    replace E_b251 := E_b251.ext x314
    replace F_b251_coder := F_b251_coder.ext x314
    replace F_b251_value := F_b251_value.ext x314
    replace V_b252 := V_b252.ext x314
    replace E_b265 := E_b265.ext x314
    replace F_b265_coder := F_b265_coder.ext x314
    replace F_b265_value := F_b265_value.ext x314
    replace V_b266 := V_b266.ext x314
    replace E_b279 := E_b279.ext x314
    replace F_b279_coder := F_b279_coder.ext x314
    replace F_b279_value := F_b279_value.ext x314
    replace V_b280 := V_b280.ext x314
    replace E_b293 := E_b293.ext x314
    replace F_b293_value := F_b293_value.ext x314
    replace E_b299 := E_b299.ext x314
    replace F_b299_value := F_b299_value.ext x314
    replace E_b305 := E_b305.ext x314
    replace F_b305_value := F_b305_value.ext x314
    have F_b312_tree : Fld Z h311 b312 "com/example/beleg/beleg/Attributes" "tree" "Ljava/util/TreeMap;" .null := D_b312 (Or.inl (w_54 hw)) (ty := (.object "java/util/TreeMap")) (by decide)
    have F_b312_size : Fld Z h311 b312 "com/example/beleg/beleg/Attributes" "size" "I" (.int (0 : Int32)) := D_b312 (Or.inl (w_67 hw)) (ty := .int) (by decide)
    have F_b312_entries : Fld Z h311 b312 "com/example/beleg/beleg/Attributes" "entries" "[Ljava/lang/Object;" .null := D_b312 (Or.inl (w_73 hw)) (ty := (.array (.object "java/lang/Object"))) (by decide)
    change Go _ _ _ _ _ _ _ _ _ _ _ _ _ _ [b312] h311 13 30 54 #[.val (.int p1), .val (.int p2), .val (.int p3), .val (.int p4), .val (.ref b251), .val (.ref b265), .val (.ref b279), .val (.ref b293), .val (.int (0 : Int32)), .val (.ref b299), .val (.ref b305), .unset, .unset] [(.ref b312)]
    refine Go.dup (pc' := 55) at_54 rfl rfl ?_
    refine Go.callI (pc' := 58) (z := N_18) (a := b312) at_55 rfl rfl (w_44 hw) (w_45 hw) (w_46 hw) (by decide) (argsL := []) (rest := [(.ref b312)]) (Pays.of_met (W := 1) (len := 3) (m_ainit hw hs b312 h311) (w_46 hw) (w_43 hw) (by decide) (by decide)) rfl rfl (lenOf pd_0 rfl) rfl (Nat.le_of_eq rfl) mem0 (by decide) (by decide) ?_
    rintro _ _ _ - - ⟨rfl, rfl, rfl⟩
    change Go _ _ _ _ _ _ _ _ _ _ _ _ _ _ [b312] h311 13 30 58 #[.val (.int p1), .val (.int p2), .val (.int p3), .val (.int p4), .val (.ref b251), .val (.ref b265), .val (.ref b279), .val (.ref b293), .val (.int (0 : Int32)), .val (.ref b299), .val (.ref b305), .unset, .unset] [(.ref b312)]
    refine Go.astore (pc' := 60) (Ls' := #[.val (.int p1), .val (.int p2), .val (.int p3), .val (.int p4), .val (.ref b251), .val (.ref b265), .val (.ref b279), .val (.ref b293), .val (.int (0 : Int32)), .val (.ref b299), .val (.ref b305), .val (.ref b312), .unset]) at_58 rfl rfl rfl ?_
    refine Go.iload (pc' := 62) at_60 rfl rfl ?_
    refine Go.iconst (pc' := 63) at_62 rfl ic_1 ?_
    refine Go.icmpY (pc' := 75) at_63 (by decide) (by decide) (tlt (by decide : (0 : Int32) < (1 : Int32))).1 ?_
    refine Go.iload (pc' := 77) at_75 rfl rfl ?_
    refine Go.iconst (pc' := 78) at_77 rfl ic_2 ?_
    refine Go.icmpY (pc' := 90) at_78 (by decide) (by decide) (tlt (by decide : (0 : Int32) < (2 : Int32))).1 ?_
    exact Go.more (k' := 26) (n' := 400) (by decide) (by decide) (Go.fewer (memS (List.mem_of_getElem? (i := 0) rfl) mem0) (m_law2 hw hs p1 p2 p3 p4 (0 : Int32) b251 b265 b279 b293 (.ref b299) b305 b312 .null (0 : Int32) b280 q281 i282 i283 h0 h311 E_b312 F_b312_entries F_b312_size F_b312_tree E_b279 F_b279_coder F_b279_value V_b280 E_b305 (rfl) o_b279_b312 o_b280_b312 o_b305_b312))
  · simp only [e]
    refine Go.icmpY (pc' := 39) at_32 (by decide) (by decide) (feq (by decide : ¬ ((1 : Int32) = (3 : Int32)))).2 ?_
    refine Go.iload_n (pc' := 40) at_39 rfl rfl ?_
    refine Go.callS (pc' := 43) (z := N_2) at_40 rfl (w_34 hw) (w_35 hw) (w_36 hw) (w_37 hw) (by decide) (argsL := [(.int p2)]) (rest := []) (Pays.of_met (W := 0) (len := 3) (m_valueOf hw hs p2 h294) (w_37 hw) (w_36 hw) (by decide) (by decide)) rfl rfl (lenOf pd_21 rfl) rfl (Nat.le_of_eq rfl) mem0 (by decide) (by decide) ?_
    rintro _ h316 _ K317 le318 ⟨b315, rfl, rfl, p319, p320⟩
    replace E_b251 := E_b251.keep K317
    replace F_b251_coder := F_b251_coder.keep K317 nin0
    replace F_b251_value := F_b251_value.keep K317 nin0
    replace V_b252 := V_b252.keep K317 nin0
    replace E_b265 := E_b265.keep K317
    replace F_b265_coder := F_b265_coder.keep K317 nin0
    replace F_b265_value := F_b265_value.keep K317 nin0
    replace V_b266 := V_b266.keep K317 nin0
    replace E_b279 := E_b279.keep K317
    replace F_b279_coder := F_b279_coder.keep K317 nin0
    replace F_b279_value := F_b279_value.keep K317 nin0
    replace V_b280 := V_b280.keep K317 nin0
    replace E_b293 := E_b293.keep K317
    replace F_b293_value := F_b293_value.keep K317 nin0
    have E_b315 := p319
    have F_b315_value := p320
    change Go _ _ _ _ _ _ _ _ _ _ _ _ _ _ [] h316 11 26 43 #[.val (.int p1), .val (.int p2), .val (.int p3), .val (.int p4), .val (.ref b251), .val (.ref b265), .val (.ref b279), .val (.ref b293), .val (.int (1 : Int32)), .unset, .unset, .unset, .unset] [(.ref b315)]
    refine Go.astore (pc' := 45) (Ls' := #[.val (.int p1), .val (.int p2), .val (.int p3), .val (.int p4), .val (.ref b251), .val (.ref b265), .val (.ref b279), .val (.ref b293), .val (.int (1 : Int32)), .val (.ref b315), .unset, .unset, .unset]) at_43 rfl rfl rfl ?_
    refine Go.iload_n (pc' := 46) at_45 rfl rfl ?_
    refine Go.callS (pc' := 49) (z := N_2) at_46 rfl (w_34 hw) (w_35 hw) (w_36 hw) (w_37 hw) (by decide) (argsL := [(.int p3)]) (rest := []) (Pays.of_met (W := 0) (len := 3) (m_valueOf hw hs p3 h316) (w_37 hw) (w_36 hw) (by decide) (by decide)) rfl rfl (lenOf pd_21 rfl) rfl (Nat.le_of_eq rfl) mem0 (by decide) (by decide) ?_
    rintro _ h322 _ K323 le324 ⟨b321, rfl, rfl, p325, p326⟩
    replace E_b251 := E_b251.keep K323
    replace F_b251_coder := F_b251_coder.keep K323 nin0
    replace F_b251_value := F_b251_value.keep K323 nin0
    replace V_b252 := V_b252.keep K323 nin0
    replace E_b265 := E_b265.keep K323
    replace F_b265_coder := F_b265_coder.keep K323 nin0
    replace F_b265_value := F_b265_value.keep K323 nin0
    replace V_b266 := V_b266.keep K323 nin0
    replace E_b279 := E_b279.keep K323
    replace F_b279_coder := F_b279_coder.keep K323 nin0
    replace F_b279_value := F_b279_value.keep K323 nin0
    replace V_b280 := V_b280.keep K323 nin0
    replace E_b293 := E_b293.keep K323
    replace F_b293_value := F_b293_value.keep K323 nin0
    replace E_b315 := E_b315.keep K323
    replace F_b315_value := F_b315_value.keep K323 nin0
    have E_b321 := p325
    have F_b321_value := p326
    change Go _ _ _ _ _ _ _ _ _ _ _ _ _ _ [] h322 12 27 49 #[.val (.int p1), .val (.int p2), .val (.int p3), .val (.int p4), .val (.ref b251), .val (.ref b265), .val (.ref b279), .val (.ref b293), .val (.int (1 : Int32)), .val (.ref b315), .unset, .unset, .unset] [(.ref b321)]
    refine Go.astore (pc' := 51) (Ls' := #[.val (.int p1), .val (.int p2), .val (.int p3), .val (.int p4), .val (.ref b251), .val (.ref b265), .val (.ref b279), .val (.ref b293), .val (.int (1 : Int32)), .val (.ref b315), .val (.ref b321), .unset, .unset]) at_49 rfl rfl rfl ?_
    refine Go.newO (pc' := 54) at_51 rfl (w_41 hw) (w_42 hw) (w_43 hw) (by decide) (by decide) ?_
    intro h327 b328 g329 ge_b328 x330 E_b328 D_b328 U_b328
    have o_b251_b328 : b251 ≠ b328 := Nat.ne_of_lt (Nat.lt_of_lt_of_le E_b251.lt (Nat.le_of_eq g329))
    have o_b252_b328 : b252 ≠ b328 := Nat.ne_of_lt (Nat.lt_of_lt_of_le V_b252.lt (Nat.le_of_eq g329))
    have o_b265_b328 : b265 ≠ b328 := Nat.ne_of_lt (Nat.lt_of_lt_of_le E_b265.lt (Nat.le_of_eq g329))
    have o_b266_b328 : b266 ≠ b328 := Nat.ne_of_lt (Nat.lt_of_lt_of_le V_b266.lt (Nat.le_of_eq g329))
    have o_b279_b328 : b279 ≠ b328 := Nat.ne_of_lt (Nat.lt_of_lt_of_le E_b279.lt (Nat.le_of_eq g329))
    have o_b280_b328 : b280 ≠ b328 := Nat.ne_of_lt (Nat.lt_of_lt_of_le V_b280.lt (Nat.le_of_eq g329))
    have o_b293_b328 : b293 ≠ b328 := Nat.ne_of_lt (Nat.lt_of_lt_of_le E_b293.lt (Nat.le_of_eq g329))
    have o_b315_b328 : b315 ≠ b328 := Nat.ne_of_lt (Nat.lt_of_lt_of_le E_b315.lt (Nat.le_of_eq g329))
    have o_b321_b328 : b321 ≠ b328 := Nat.ne_of_lt (Nat.lt_of_lt_of_le E_b321.lt (Nat.le_of_eq g329))
    replace E_b251 := E_b251.ext x330
    replace F_b251_coder := F_b251_coder.ext x330
    replace F_b251_value := F_b251_value.ext x330
    replace V_b252 := V_b252.ext x330
    replace E_b265 := E_b265.ext x330
    replace F_b265_coder := F_b265_coder.ext x330
    replace F_b265_value := F_b265_value.ext x330
    replace V_b266 := V_b266.ext x330
    replace E_b279 := E_b279.ext x330
    replace F_b279_coder := F_b279_coder.ext x330
    replace F_b279_value := F_b279_value.ext x330
    replace V_b280 := V_b280.ext x330
    replace E_b293 := E_b293.ext x330
    replace F_b293_value := F_b293_value.ext x330
    replace E_b315 := E_b315.ext x330
    replace F_b315_value := F_b315_value.ext x330
    replace E_b321 := E_b321.ext x330
    replace F_b321_value := F_b321_value.ext x330
    have F_b328_tree : Fld Z h327 b328 "com/example/beleg/beleg/Attributes" "tree" "Ljava/util/TreeMap;" .null := D_b328 (Or.inl (w_54 hw)) (ty := (.object "java/util/TreeMap")) (by decide)
    have F_b328_size : Fld Z h327 b328 "com/example/beleg/beleg/Attributes" "size" "I" (.int (0 : Int32)) := D_b328 (Or.inl (w_67 hw)) (ty := .int) (by decide)
    have F_b328_entries : Fld Z h327 b328 "com/example/beleg/beleg/Attributes" "entries" "[Ljava/lang/Object;" .null := D_b328 (Or.inl (w_73 hw)) (ty := (.array (.object "java/lang/Object"))) (by decide)
    change Go _ _ _ _ _ _ _ _ _ _ _ _ _ _ [b328] h327 13 30 54 #[.val (.int p1), .val (.int p2), .val (.int p3), .val (.int p4), .val (.ref b251), .val (.ref b265), .val (.ref b279), .val (.ref b293), .val (.int (1 : Int32)), .val (.ref b315), .val (.ref b321), .unset, .unset] [(.ref b328)]
    refine Go.dup (pc' := 55) at_54 rfl rfl ?_
    refine Go.callI (pc' := 58) (z := N_18) (a := b328) at_55 rfl rfl (w_44 hw) (w_45 hw) (w_46 hw) (by decide) (argsL := []) (rest := [(.ref b328)]) (Pays.of_met (W := 1) (len := 3) (m_ainit hw hs b328 h327) (w_46 hw) (w_43 hw) (by decide) (by decide)) rfl rfl (lenOf pd_0 rfl) rfl (Nat.le_of_eq rfl) mem0 (by decide) (by decide) ?_
    rintro _ _ _ - - ⟨rfl, rfl, rfl⟩
    change Go _ _ _ _ _ _ _ _ _ _ _ _ _ _ [b328] h327 13 30 58 #[.val (.int p1), .val (.int p2), .val (.int p3), .val (.int p4), .val (.ref b251), .val (.ref b265), .val (.ref b279), .val (.ref b293), .val (.int (1 : Int32)), .val (.ref b315), .val (.ref b321), .unset, .unset] [(.ref b328)]
    refine Go.astore (pc' := 60) (Ls' := #[.val (.int p1), .val (.int p2), .val (.int p3), .val (.int p4), .val (.ref b251), .val (.ref b265), .val (.ref b279), .val (.ref b293), .val (.int (1 : Int32)), .val (.ref b315), .val (.ref b321), .val (.ref b328), .unset]) at_58 rfl rfl rfl ?_
    refine Go.iload (pc' := 62) at_60 rfl rfl ?_
    refine Go.iconst (pc' := 63) at_62 rfl ic_1 ?_
    refine Go.icmpN (pc' := 66) at_63 rfl (flt (by decide : ¬ ((1 : Int32) < (1 : Int32)))).1 ?_
    refine Go.aload (pc' := 68) at_66 rfl rfl rfl ?_
    refine Go.aload (pc' := 70) at_68 rfl rfl rfl ?_
    refine Go.aload (pc' := 72) at_70 rfl rfl rfl ?_
    refine Go.callV (pc' := 75) (u := N_22) (z := N_22) (a := b328) at_72 rfl (w_48 hw) (w_49 hw) (nf (w_51 hw) rfl) (w_51 hw) (w_50 hw) (by decide) E_b328 (argsL := [(.ref b251), (.ref b293)]) (rest := []) (Pays.of_met (W := 0) (len := 3) (m_put0 hw hs b328 b251 b293 h327 E_b328 F_b328_entries F_b328_size F_b328_tree E_b251 E_b293 o_b251_b328 o_b293_b328) (w_52 hw) (w_43 hw) (by decide) (by decide)) rfl rfl (lenOf pd_20 rfl) rfl (Nat.le_of_eq rfl) (memS (List.mem_of_getElem? (i := 0) rfl) mem0) (by decide) (by decide) ?_
    rintro _ h333 _ K334 le335 ⟨b331, q332, rfl, rfl, p336, p337, p338, p339, p340, p341, p342⟩
    have o_b251_b331 : b251 ≠ b331 := Nat.ne_of_lt (Nat.lt_of_lt_of_le E_b251.lt p340)
    have o_b252_b331 : b252 ≠ b331 := Nat.ne_of_lt (Nat.lt_of_lt_of_le V_b252.lt p340)
    have o_b265_b331 : b265 ≠ b331 := Nat.ne_of_lt (Nat.lt_of_lt_of_le E_b265.lt p340)
    have o_b266_b331 : b266 ≠ b331 := Nat.ne_of_lt (Nat.lt_of_lt_of_le V_b266.lt p340)
    have o_b279_b331 : b279 ≠ b331 := Nat.ne_of_lt (Nat.lt_of_lt_of_le E_b279.lt p340)
    have o_b280_b331 : b280 ≠ b331 := Nat.ne_of_lt (Nat.lt_of_lt_of_le V_b280.lt p340)
    have o_b293_b331 : b293 ≠ b331 := Nat.ne_of_lt (Nat.lt_of_lt_of_le E_b293.lt p340)
    have o_b315_b331 : b315 ≠ b331 := Nat.ne_of_lt (Nat.lt_of_lt_of_le E_b315.lt p340)
    have o_b321_b331 : b321 ≠ b331 := Nat.ne_of_lt (Nat.lt_of_lt_of_le E_b321.lt p340)
    have o_b328_b331 : b328 ≠ b331 := Nat.ne_of_lt (Nat.lt_of_lt_of_le E_b328.lt p340)
    have ge_b331 := Nat.le_trans le335 p340
    replace E_b251 := E_b251.keep K334
    replace F_b251_coder := F_b251_coder.keep K334 (ninS o_b251_b328 nin0)
    replace F_b251_value := F_b251_value.keep K334 (ninS o_b251_b328 nin0)
    replace V_b252 := V_b252.keep K334 (ninS o_b252_b328 nin0)
    replace E_b265 := E_b265.keep K334
    replace F_b265_coder := F_b265_coder.keep K334 (ninS o_b265_b328 nin0)
    replace F_b265_value := F_b265_value.keep K334 (ninS o_b265_b328 nin0)
    replace V_b266 := V_b266.keep K334 (ninS o_b266_b328 nin0)
    replace E_b279 := E_b279.keep K334
    replace F_b279_coder := F_b279_coder.keep K334 (ninS o_b279_b328 nin0)
    replace F_b279_value := F_b279_value.keep K334 (ninS o_b279_b328 nin0)
    replace V_b280 := V_b280.keep K334 (ninS o_b280_b328 nin0)
    replace E_b293 := E_b293.keep K334
    replace F_b293_value := F_b293_value.keep K334 (ninS o_b293_b328 nin0)
    replace E_b315 := E_b315.keep K334
    replace F_b315_value := F_b315_value.keep K334 (ninS o_b315_b328 nin0)
    replace E_b321 := E_b321.keep K334
    replace F_b321_value := F_b321_value.keep K334 (ninS o_b321_b328 nin0)
    replace E_b328 := E_b328.keep K334
    have F_b328_entries := p337
    have F_b328_size := p338
    have F_b328_tree := p339
    have V_b331 := p341
    change Go _ _ _ _ _ _ _ _ _ _ _ _ _ _ [b331, b328] h333 16 58 75 #[.val (.int p1), .val (.int p2), .val (.int p3), .val (.int p4), .val (.ref b251), .val (.ref b265), .val (.ref b279), .val (.ref b293), .val (.int (1 : Int32)), .val (.ref b315), .val (.ref b321), .val (.ref b328), .unset] []
    refine Go.iload (pc' := 77) at_75 rfl rfl ?_
    refine Go.iconst (pc' := 78) at_77 rfl ic_2 ?_
    refine Go.icmpY (pc' := 90) at_78 (by decide) (by decide) (tlt (by decide : (1 : Int32) < (2 : Int32))).1 ?_
    exact Go.more (k' := 26) (n' := 400) (by decide) (by decide) (Go.fewer (memS (List.mem_of_getElem? (i := 1) rfl) mem0) (m_law2 hw hs p1 p2 p3 p4 (1 : Int32) b251 b265 b279 b293 (.ref b315) b321 b328 (.ref b331) (1 : Int32) b280 q281 i282 i283 h0 h333 E_b328 F_b328_entries F_b328_size F_b328_tree E_b279 F_b279_coder F_b279_value V_b280 E_b321 (rfl) o_b279_b328 o_b280_b328 o_b321_b328))
  · simp only [e]
    refine Go.icmpY (pc' := 39) at_32 (by decide) (by decide) (feq (by decide : ¬ ((2 : Int32) = (3 : Int32)))).2 ?_
    refine Go.iload_n (pc' := 40) at_39 rfl rfl ?_
    refine Go.callS (pc' := 43) (z := N_2) at_40 rfl (w_34 hw) (w_35 hw) (w_36 hw) (w_37 hw) (by decide) (argsL := [(.int p2)]) (rest := []) (Pays.of_met (W := 0) (len := 3) (m_valueOf hw hs p2 h294) (w_37 hw) (w_36 hw) (by decide) (by decide)) rfl rfl (lenOf pd_21 rfl) rfl (Nat.le_of_eq rfl) mem0 (by decide) (by decide) ?_
    rintro _ h344 _ K345 le346 ⟨b343, rfl, rfl, p347, p348⟩
    replace E_b251 := E_b251.keep K345
    replace F_b251_coder := F_b251_coder.keep K345 nin0
    replace F_b251_value := F_b251_value.keep K345 nin0
    replace V_b252 := V_b252.keep K345 nin0
    replace E_b265 := E_b265.keep K345
    replace F_b265_coder := F_b265_coder.keep K345 nin0
    replace F_b265_value := F_b265_value.keep K345 nin0
    replace V_b266 := V_b266.keep K345 nin0
    replace E_b279 := E_b279.keep K345
    replace F_b279_coder := F_b279_coder.keep K345 nin0
    replace F_b279_value := F_b279_value.keep K345 nin0
    replace V_b280 := V_b280.keep K345 nin0
    replace E_b293 := E_b293.keep K345
    replace F_b293_value := F_b293_value.keep K345 nin0
    have E_b343 := p347
    have F_b343_value := p348
    change Go _ _ _ _ _ _ _ _ _ _ _ _ _ _ [] h344 11 26 43 #[.val (.int p1), .val (.int p2), .val (.int p3), .val (.int p4), .val (.ref b251), .val (.ref b265), .val (.ref b279), .val (.ref b293), .val (.int (2 : Int32)), .unset, .unset, .unset, .unset] [(.ref b343)]
    refine Go.astore (pc' := 45) (Ls' := #[.val (.int p1), .val (.int p2), .val (.int p3), .val (.int p4), .val (.ref b251), .val (.ref b265), .val (.ref b279), .val (.ref b293), .val (.int (2 : Int32)), .val (.ref b343), .unset, .unset, .unset]) at_43 rfl rfl rfl ?_
    refine Go.iload_n (pc' := 46) at_45 rfl rfl ?_
    refine Go.callS (pc' := 49) (z := N_2) at_46 rfl (w_34 hw) (w_35 hw) (w_36 hw) (w_37 hw) (by decide) (argsL := [(.int p3)]) (rest := []) (Pays.of_met (W := 0) (len := 3) (m_valueOf hw hs p3 h344) (w_37 hw) (w_36 hw) (by decide) (by decide)) rfl rfl (lenOf pd_21 rfl) rfl (Nat.le_of_eq rfl) mem0 (by decide) (by decide) ?_
    rintro _ h350 _ K351 le352 ⟨b349, rfl, rfl, p353, p354⟩
    replace E_b251 := E_b251.keep K351
    replace F_b251_coder := F_b251_coder.keep K351 nin0
    replace F_b251_value := F_b251_value.keep K351 nin0
    replace V_b252 := V_b252.keep K351 nin0
    replace E_b265 := E_b265.keep K351
    replace F_b265_coder := F_b265_coder.keep K351 nin0
    replace F_b265_value := F_b265_value.keep K351 nin0
    replace V_b266 := V_b266.keep K351 nin0
    replace E_b279 := E_b279.keep K351
    replace F_b279_coder := F_b279_coder.keep K351 nin0
    replace F_b279_value := F_b279_value.keep K351 nin0
    replace V_b280 := V_b280.keep K351 nin0
    replace E_b293 := E_b293.keep K351
    replace F_b293_value := F_b293_value.keep K351 nin0
    replace E_b343 := E_b343.keep K351
    replace F_b343_value := F_b343_value.keep K351 nin0
    have E_b349 := p353
    have F_b349_value := p354
    change Go _ _ _ _ _ _ _ _ _ _ _ _ _ _ [] h350 12 27 49 #[.val (.int p1), .val (.int p2), .val (.int p3), .val (.int p4), .val (.ref b251), .val (.ref b265), .val (.ref b279), .val (.ref b293), .val (.int (2 : Int32)), .val (.ref b343), .unset, .unset, .unset] [(.ref b349)]
    refine Go.astore (pc' := 51) (Ls' := #[.val (.int p1), .val (.int p2), .val (.int p3), .val (.int p4), .val (.ref b251), .val (.ref b265), .val (.ref b279), .val (.ref b293), .val (.int (2 : Int32)), .val (.ref b343), .val (.ref b349), .unset, .unset]) at_49 rfl rfl rfl ?_
    refine Go.newO (pc' := 54) at_51 rfl (w_41 hw) (w_42 hw) (w_43 hw) (by decide) (by decide) ?_
    intro h355 b356 g357 ge_b356 x358 E_b356 D_b356 U_b356
    have o_b251_b356 : b251 ≠ b356 := Nat.ne_of_lt (Nat.lt_of_lt_of_le E_b251.lt (Nat.le_of_eq g357))
    have o_b252_b356 : b252 ≠ b356 := Nat.ne_of_lt (Nat.lt_of_lt_of_le V_b252.lt (Nat.le_of_eq g357))
    have o_b265_b356 : b265 ≠ b356 := Nat.ne_of_lt (Nat.lt_of_lt_of_le E_b265.lt (Nat.le_of_eq g357))
    have o_b266_b356 : b266 ≠ b356 := Nat.ne_of_lt (Nat.lt_of_lt_of_le V_b266.lt (Nat.le_of_eq g357))
    have o_b279_b356 : b279 ≠ b356 := Nat.ne_of_lt (Nat.lt_of_lt_of_le E_b279.lt (Nat.le_of_eq g357))
    have o_b280_b356 : b280 ≠ b356 := Nat.ne_of_lt (Nat.lt_of_lt_of_le V_b280.lt (Nat.le_of_eq g357))
    have o_b293_b356 : b293 ≠ b356 := Nat.ne_of_lt (Nat.lt_of_lt_of_le E_b293.lt (Nat.le_of_eq g357))
    have o_b343_b356 : b343 ≠ b356 := Nat.ne_of_lt (Nat.lt_of_lt_of_le E_b343.lt (Nat.le_of_eq g357))
    have o_b349_b356 : b349 ≠ b356 := Nat.ne_of_lt (Nat.lt_of_lt_of_le E_b349.lt (Nat.le_of_eq g357))
    replace E_b251 := E_b251.ext x358
    replace F_b251_coder := F_b251_coder.ext x358
    replace F_b251_value := F_b251_value.ext x358
    replace V_b252 := V_b252.ext x358
    replace E_b265 := E_b265.ext x358
    replace F_b265_coder := F_b265_coder.ext x358
    replace F_b265_value := F_b265_value.ext x358
    replace V_b266 := V_b266.ext x358
    replace E_b279 := E_b279.ext x358
    replace F_b279_coder := F_b279_coder.ext x358
    replace F_b279_value := F_b279_value.ext x358
    replace V_b280 := V_b280.ext x358
    replace E_b293 := E_b293.ext x358
    replace F_b293_value := F_b293_value.ext x358
    replace E_b343 := E_b343.ext x358
    replace F_b343_value := F_b343_value.ext x358
    replace E_b349 := E_b349.ext x358
    replace F_b349_value := F_b349_value.ext x358
    have F_b356_tree : Fld Z h355 b356 "com/example/beleg/beleg/Attributes" "tree" "Ljava/util/TreeMap;" .null := D_b356 (Or.inl (w_54 hw)) (ty := (.object "java/util/TreeMap")) (by decide)
    have F_b356_size : Fld Z h355 b356 "com/example/beleg/beleg/Attributes" "size" "I" (.int (0 : Int32)) := D_b356 (Or.inl (w_67 hw)) (ty := .int) (by decide)
    have F_b356_entries : Fld Z h355 b356 "com/example/beleg/beleg/Attributes" "entries" "[Ljava/lang/Object;" .null := D_b356 (Or.inl (w_73 hw)) (ty := (.array (.object "java/lang/Object"))) (by decide)
    change Go _ _ _ _ _ _ _ _ _ _ _ _ _ _ [b356] h355 13 30 54 #[.val (.int p1), .val (.int p2), .val (.int p3), .val (.int p4), .val (.ref b251), .val (.ref b265), .val (.ref b279), .val (.ref b293), .val (.int (2 : Int32)), .val (.ref b343), .val (.ref b349), .unset, .unset] [(.ref b356)]
    refine Go.dup (pc' := 55) at_54 rfl rfl ?_
    refine Go.callI (pc' := 58) (z := N_18) (a := b356) at_55 rfl rfl (w_44 hw) (w_45 hw) (w_46 hw) (by decide) (argsL := []) (rest := [(.ref b356)]) (Pays.of_met (W := 1) (len := 3) (m_ainit hw hs b356 h355) (w_46 hw) (w_43 hw) (by decide) (by decide)) rfl rfl (lenOf pd_0 rfl) rfl (Nat.le_of_eq rfl) mem0 (by decide) (by decide) ?_
    rintro _ _ _ - - ⟨rfl, rfl, rfl⟩
    change Go _ _ _ _ _ _ _ _ _ _ _ _ _ _ [b356] h355 13 30 58 #[.val (.int p1), .val (.int p2), .val (.int p3), .val (.int p4), .val (.ref b251), .val (.ref b265), .val (.ref b279), .val (.ref b293), .val (.int (2 : Int32)), .val (.ref b343), .val (.ref b349), .unset, .unset] [(.ref b356)]
    refine Go.astore (pc' := 60) (Ls' := #[.val (.int p1), .val (.int p2), .val (.int p3), .val (.int p4), .val (.ref b251), .val (.ref b265), .val (.ref b279), .val (.ref b293), .val (.int (2 : Int32)), .val (.ref b343), .val (.ref b349), .val (.ref b356), .unset]) at_58 rfl rfl rfl ?_
    refine Go.iload (pc' := 62) at_60 rfl rfl ?_
    refine Go.iconst (pc' := 63) at_62 rfl ic_1 ?_
    refine Go.icmpN (pc' := 66) at_63 rfl (flt (by decide : ¬ ((2 : Int32) < (1 : Int32)))).1 ?_
    refine Go.aload (pc' := 68) at_66 rfl rfl rfl ?_
    refine Go.aload (pc' := 70) at_68 rfl rfl rfl ?_
    refine Go.aload (pc' := 72) at_70 rfl rfl rfl ?_
    refine Go.callV (pc' := 75) (u := N_22) (z := N_22) (a := b356) at_72 rfl (w_48 hw) (w_49 hw) (nf (w_51 hw) rfl) (w_51 hw) (w_50 hw) (by decide) E_b356 (argsL := [(.ref b251), (.ref b293)]) (rest := []) (Pays.of_met (W := 0) (len := 3) (m_put0 hw hs b356 b251 b293 h355 E_b356 F_b356_entries F_b356_size F_b356_tree E_b251 E_b293 o_b251_b356 o_b293_b356) (w_52 hw) (w_43 hw) (by decide) (by decide)) rfl rfl (lenOf pd_20 rfl) rfl (Nat.le_of_eq rfl) (memS (List.mem_of_getElem? (i := 0) rfl) mem0) (by decide) (by decide) ?_
    rintro _ h361 _ K362 le363 ⟨b359, q360, rfl, rfl, p364, p365, p366, p367, p368, p369, p370⟩
    have o_b251_b359 : b251 ≠ b359 := Nat.ne_of_lt (Nat.lt_of_lt_of_le E_b251.lt p368)
    have o_b252_b359 : b252 ≠ b359 := Nat.ne_of_lt (Nat.lt_of_lt_of_le V_b252.lt p368)
    have o_b265_b359 : b265 ≠ b359 := Nat.ne_of_lt (Nat.lt_of_lt_of_le E_b265.lt p368)
    have o_b266_b359 : b266 ≠ b359 := Nat.ne_of_lt (Nat.lt_of_lt_of_le V_b266.lt p368)
    have o_b279_b359 : b279 ≠ b359 := Nat.ne_of_lt (Nat.lt_of_lt_of_le E_b279.lt p368)
    have o_b280_b359 : b280 ≠ b359 := Nat.ne_of_lt (Nat.lt_of_lt_of_le V_b280.lt p368)
    have o_b293_b359 : b293 ≠ b359 := Nat.ne_of_lt (Nat.lt_of_lt_of_le E_b293.lt p368)
    have o_b343_b359 : b343 ≠ b359 := Nat.ne_of_lt (Nat.lt_of_lt_of_le E_b343.lt p368)
    have o_b349_b359 : b349 ≠ b359 := Nat.ne_of_lt (Nat.lt_of_lt_of_le E_b349.lt p368)
    have o_b356_b359 : b356 ≠ b359 := Nat.ne_of_lt (Nat.lt_of_lt_of_le E_b356.lt p368)
    have ge_b359 := Nat.le_trans le363 p368
    replace E_b251 := E_b251.keep K362
    replace F_b251_coder := F_b251_coder.keep K362 (ninS o_b251_b356 nin0)
    replace F_b251_value := F_b251_value.keep K362 (ninS o_b251_b356 nin0)
    replace V_b252 := V_b252.keep K362 (ninS o_b252_b356 nin0)
    replace E_b265 := E_b265.keep K362
    replace F_b265_coder := F_b265_coder.keep K362 (ninS o_b265_b356 nin0)
    replace F_b265_value := F_b265_value.keep K362 (ninS o_b265_b356 nin0)
    replace V_b266 := V_b266.keep K362 (ninS o_b266_b356 nin0)
    replace E_b279 := E_b279.keep K362
    replace F_b279_coder := F_b279_coder.keep K362 (ninS o_b279_b356 nin0)
    replace F_b279_value := F_b279_value.keep K362 (ninS o_b279_b356 nin0)
    replace V_b280 := V_b280.keep K362 (ninS o_b280_b356 nin0)
    replace E_b293 := E_b293.keep K362
    replace F_b293_value := F_b293_value.keep K362 (ninS o_b293_b356 nin0)
    replace E_b343 := E_b343.keep K362
    replace F_b343_value := F_b343_value.keep K362 (ninS o_b343_b356 nin0)
    replace E_b349 := E_b349.keep K362
    replace F_b349_value := F_b349_value.keep K362 (ninS o_b349_b356 nin0)
    replace E_b356 := E_b356.keep K362
    have F_b356_entries := p365
    have F_b356_size := p366
    have F_b356_tree := p367
    have V_b359 := p369
    change Go _ _ _ _ _ _ _ _ _ _ _ _ _ _ [b359, b356] h361 16 58 75 #[.val (.int p1), .val (.int p2), .val (.int p3), .val (.int p4), .val (.ref b251), .val (.ref b265), .val (.ref b279), .val (.ref b293), .val (.int (2 : Int32)), .val (.ref b343), .val (.ref b349), .val (.ref b356), .unset] []
    refine Go.iload (pc' := 77) at_75 rfl rfl ?_
    refine Go.iconst (pc' := 78) at_77 rfl ic_2 ?_
    refine Go.icmpN (pc' := 81) at_78 rfl (flt (by decide : ¬ ((2 : Int32) < (2 : Int32)))).1 ?_
    refine Go.aload (pc' := 83) at_81 rfl rfl rfl ?_
    refine Go.aload (pc' := 85) at_83 rfl rfl rfl ?_
    refine Go.aload (pc' := 87) at_85 rfl rfl rfl ?_
    refine Go.callV (pc' := 90) (u := N_22) (z := N_22) (a := b356) at_87 rfl (w_48 hw) (w_49 hw) (nf (w_51 hw) rfl) (w_51 hw) (w_50 hw) (by decide) E_b356 (argsL := [(.ref b265), (.ref b343)]) (rest := []) (Pays.of_met (W := 0) (len := 3) (m_put1_0 hw hs b356 b265 b343 b359 q360 b251 b293 b252 q253 i254 i255 b266 q267 i268 i269 h361 E_b356 F_b356_entries F_b356_size F_b356_tree V_b359 E_b251 E_b293 F_b251_coder F_b251_value V_b252 E_b265 F_b265_coder F_b265_value V_b266 E_b343 (p370) (Ne.symm o_b356_b359) o_b251_b359 o_b293_b359 o_b265_b359 o_b343_b359) (w_52 hw) (w_43 hw) (by decide) (by decide)) rfl rfl (lenOf pd_20 rfl) rfl (Nat.le_of_eq rfl) (memS (List.mem_of_getElem? (i := 1) rfl) (memS (List.mem_of_getElem? (i := 0) rfl) mem0)) (by decide) (by decide) ?_
    rintro _ h373 _ K374 le375 ⟨v371, i372, rfl, rfl, p376, p377, p378, p379⟩
    replace E_b251 := E_b251.keep K374
    replace F_b251_coder := F_b251_coder.keep K374 (ninS o_b251_b356 (ninS o_b251_b359 nin0))
    replace F_b251_value := F_b251_value.keep K374 (ninS o_b251_b356 (ninS o_b251_b359 nin0))
    replace V_b252 := V_b252.keep K374 (ninS o_b252_b356 (ninS o_b252_b359 nin0))
    replace E_b265 := E_b265.keep K374
    replace F_b265_coder := F_b265_coder.keep K374 (ninS o_b265_b356 (ninS o_b265_b359 nin0))
    replace F_b265_value := F_b265_value.keep K374 (ninS o_b265_b356 (ninS o_b265_b359 nin0))
    replace V_b266 := V_b266.keep K374 (ninS o_b266_b356 (ninS o_b266_b359 nin0))
    replace E_b279 := E_b279.keep K374
    replace F_b279_coder := F_b279_coder.keep K374 (ninS o_b279_b356 (ninS o_b279_b359 nin0))
    replace F_b279_value := F_b279_value.keep K374 (ninS o_b279_b356 (ninS o_b279_b359 nin0))
    replace V_b280 := V_b280.keep K374 (ninS o_b280_b356 (ninS o_b280_b359 nin0))
    replace E_b293 := E_b293.keep K374
    replace F_b293_value := F_b293_value.keep K374 (ninS o_b293_b356 (ninS o_b293_b359 nin0))
    replace E_b343 := E_b343.keep K374
    replace F_b343_value := F_b343_value.keep K374 (ninS o_b343_b356 (ninS o_b343_b359 nin0))
    replace E_b349 := E_b349.keep K374
    replace F_b349_value := F_b349_value.keep K374 (ninS o_b349_b356 (ninS o_b349_b359 nin0))
    replace E_b356 := E_b356.keep K374
    have F_b356_entries := p377
    have F_b356_size := p378
    have F_b356_tree := p379
    change Go _ _ _ _ _ _ _ _ _ _ _ _ _ _ [b359, b356] h373 18 78 90 #[.val (.int p1), .val (.int p2), .val (.int p3), .val (.int p4), .val (.ref b251), .val (.ref b265), .val (.ref b279), .val (.ref b293), .val (.int (2 : Int32)), .val (.ref b343), .val (.ref b349), .val (.ref b356), .unset] []
    exact Go.more (k' := 26) (n' := 400) (by decide) (by decide) (Go.fewer (memS (List.mem_of_getElem? (i := 1) rfl) mem0) (m_law2 hw hs p1 p2 p3 p4 (2 : Int32) b251 b265 b279 b293 (.ref b343) b349 b356 v371 i372 b280 q281 i282 i283 h0 h373 E_b356 F_b356_entries F_b356_size F_b356_tree E_b279 F_b279_coder F_b279_value V_b280 E_b349 (rfl) o_b279_b356 o_b280_b356 o_b349_b356))
  · simp only [e]
    refine Go.icmpN (pc' := 35) at_32 rfl (teq (rfl : (3 : Int32) = (3 : Int32))).2 ?_
    refine Go.aconst_null (pc' := 36) at_35 rfl ?_
    refine Go.goto (pc' := 43) at_36 (by decide) (by decide) ?_
    refine Go.astore (pc' := 45) (Ls' := #[.val (.int p1), .val (.int p2), .val (.int p3), .val (.int p4), .val (.ref b251), .val (.ref b265), .val (.ref b279), .val (.ref b293), .val (.int (3 : Int32)), .val .null, .unset, .unset, .unset]) at_43 rfl rfl rfl ?_
    refine Go.iload_n (pc' := 46) at_45 rfl rfl ?_
    refine Go.callS (pc' := 49) (z := N_2) at_46 rfl (w_34 hw) (w_35 hw) (w_36 hw) (w_37 hw) (by decide) (argsL := [(.int p3)]) (rest := []) (Pays.of_met (W := 0) (len := 3) (m_valueOf hw hs p3 h294) (w_37 hw) (w_36 hw) (by decide) (by decide)) rfl rfl (lenOf pd_21 rfl) rfl (Nat.le_of_eq rfl) mem0 (by decide) (by decide) ?_
    rintro _ h381 _ K382 le383 ⟨b380, rfl, rfl, p384, p385⟩
    replace E_b251 := E_b251.keep K382
    replace F_b251_coder := F_b251_coder.keep K382 nin0
    replace F_b251_value := F_b251_value.keep K382 nin0
    replace V_b252 := V_b252.keep K382 nin0
    replace E_b265 := E_b265.keep K382
    replace F_b265_coder := F_b265_coder.keep K382 nin0
    replace F_b265_value := F_b265_value.keep K382 nin0
    replace V_b266 := V_b266.keep K382 nin0
    replace E_b279 := E_b279.keep K382
    replace F_b279_coder := F_b279_coder.keep K382 nin0
    replace F_b279_value := F_b279_value.keep K382 nin0
    replace V_b280 := V_b280.keep K382 nin0
    replace E_b293 := E_b293.keep K382
    replace F_b293_value := F_b293_value.keep K382 nin0
    have E_b380 := p384
    have F_b380_value := p385
    change Go _ _ _ _ _ _ _ _ _ _ _ _ _ _ [] h381 11 26 49 #[.val (.int p1), .val (.int p2), .val (.int p3), .val (.int p4), .val (.ref b251), .val (.ref b265), .val (.ref b279), .val (.ref b293), .val (.int (3 : Int32)), .val .null, .unset, .unset, .unset] [(.ref b380)]
    refine Go.astore (pc' := 51) (Ls' := #[.val (.int p1), .val (.int p2), .val (.int p3), .val (.int p4), .val (.ref b251), .val (.ref b265), .val (.ref b279), .val (.ref b293), .val (.int (3 : Int32)), .val .null, .val (.ref b380), .unset, .unset]) at_49 rfl rfl rfl ?_
    refine Go.newO (pc' := 54) at_51 rfl (w_41 hw) (w_42 hw) (w_43 hw) (by decide) (by decide) ?_
    intro h386 b387 g388 ge_b387 x389 E_b387 D_b387 U_b387
    have o_b251_b387 : b251 ≠ b387 := Nat.ne_of_lt (Nat.lt_of_lt_of_le E_b251.lt (Nat.le_of_eq g388))
    have o_b252_b387 : b252 ≠ b387 := Nat.ne_of_lt (Nat.lt_of_lt_of_le V_b252.lt (Nat.le_of_eq g388))
    have o_b265_b387 : b265 ≠ b387 := Nat.ne_of_lt (Nat.lt_of_lt_of_le E_b265.lt (Nat.le_of_eq g388))
    have o_b266_b387 : b266 ≠ b387 := Nat.ne_of_lt (Nat.lt_of_lt_of_le V_b266.lt (Nat.le_of_eq g388))
    have o_b279_b387 : b279 ≠ b387 := Nat.ne_of_lt (Nat.lt_of_lt_of_le E_b279.lt (Nat.le_of_eq g388))
    have o_b280_b387 : b280 ≠ b387 := Nat.ne_of_lt (Nat.lt_of_lt_of_le V_b280.lt (Nat.le_of_eq g388))
    have o_b293_b387 : b293 ≠ b387 := Nat.ne_of_lt (Nat.lt_of_lt_of_le E_b293.lt (Nat.le_of_eq g388))
    have o_b380_b387 : b380 ≠ b387 := Nat.ne_of_lt (Nat.lt_of_lt_of_le E_b380.lt (Nat.le_of_eq g388))
    replace E_b251 := E_b251.ext x389
    replace F_b251_coder := F_b251_coder.ext x389
    replace F_b251_value := F_b251_value.ext x389
    replace V_b252 := V_b252.ext x389
    replace E_b265 := E_b265.ext x389
    replace F_b265_coder := F_b265_coder.ext x389
    replace F_b265_value := F_b265_value.ext x389
    replace V_b266 := V_b266.ext x389
    replace E_b279 := E_b279.ext x389
    replace F_b279_coder := F_b279_coder.ext x389
    replace F_b279_value := F_b279_value.ext x389
    replace V_b280 := V_b280.ext x389
    replace E_b293 := E_b293.ext x389
    replace F_b293_value := F_b293_value.ext x389
    replace E_b380 := E_b380.ext x389
    replace F_b380_value := F_b380_value.ext x389
    have F_b387_tree : Fld Z h386 b387 "com/example/beleg/beleg/Attributes" "tree" "Ljava/util/TreeMap;" .null := D_b387 (Or.inl (w_54 hw)) (ty := (.object "java/util/TreeMap")) (by decide)
    have F_b387_size : Fld Z h386 b387 "com/example/beleg/beleg/Attributes" "size" "I" (.int (0 : Int32)) := D_b387 (Or.inl (w_67 hw)) (ty := .int) (by decide)
    have F_b387_entries : Fld Z h386 b387 "com/example/beleg/beleg/Attributes" "entries" "[Ljava/lang/Object;" .null := D_b387 (Or.inl (w_73 hw)) (ty := (.array (.object "java/lang/Object"))) (by decide)
    change Go _ _ _ _ _ _ _ _ _ _ _ _ _ _ [b387] h386 12 29 54 #[.val (.int p1), .val (.int p2), .val (.int p3), .val (.int p4), .val (.ref b251), .val (.ref b265), .val (.ref b279), .val (.ref b293), .val (.int (3 : Int32)), .val .null, .val (.ref b380), .unset, .unset] [(.ref b387)]
    refine Go.dup (pc' := 55) at_54 rfl rfl ?_
    refine Go.callI (pc' := 58) (z := N_18) (a := b387) at_55 rfl rfl (w_44 hw) (w_45 hw) (w_46 hw) (by decide) (argsL := []) (rest := [(.ref b387)]) (Pays.of_met (W := 1) (len := 3) (m_ainit hw hs b387 h386) (w_46 hw) (w_43 hw) (by decide) (by decide)) rfl rfl (lenOf pd_0 rfl) rfl (Nat.le_of_eq rfl) mem0 (by decide) (by decide) ?_
    rintro _ _ _ - - ⟨rfl, rfl, rfl⟩
    change Go _ _ _ _ _ _ _ _ _ _ _ _ _ _ [b387] h386 12 29 58 #[.val (.int p1), .val (.int p2), .val (.int p3), .val (.int p4), .val (.ref b251), .val (.ref b265), .val (.ref b279), .val (.ref b293), .val (.int (3 : Int32)), .val .null, .val (.ref b380), .unset, .unset] [(.ref b387)]
    refine Go.astore (pc' := 60) (Ls' := #[.val (.int p1), .val (.int p2), .val (.int p3), .val (.int p4), .val (.ref b251), .val (.ref b265), .val (.ref b279), .val (.ref b293), .val (.int (3 : Int32)), .val .null, .val (.ref b380), .val (.ref b387), .unset]) at_58 rfl rfl rfl ?_
    refine Go.iload (pc' := 62) at_60 rfl rfl ?_
    refine Go.iconst (pc' := 63) at_62 rfl ic_1 ?_
    refine Go.icmpN (pc' := 66) at_63 rfl (flt (by decide : ¬ ((3 : Int32) < (1 : Int32)))).1 ?_
    refine Go.aload (pc' := 68) at_66 rfl rfl rfl ?_
    refine Go.aload (pc' := 70) at_68 rfl rfl rfl ?_
    refine Go.aload (pc' := 72) at_70 rfl rfl rfl ?_
    refine Go.callV (pc' := 75) (u := N_22) (z := N_22) (a := b387) at_72 rfl (w_48 hw) (w_49 hw) (nf (w_51 hw) rfl) (w_51 hw) (w_50 hw) (by decide) E_b387 (argsL := [(.ref b251), (.ref b293)]) (rest := []) (Pays.of_met (W := 0) (len := 3) (m_put0 hw hs b387 b251 b293 h386 E_b387 F_b387_entries F_b387_size F_b387_tree E_b251 E_b293 o_b251_b387 o_b293_b387) (w_52 hw) (w_43 hw) (by decide) (by decide)) rfl rfl (lenOf pd_20 rfl) rfl (Nat.le_of_eq rfl) (memS (List.mem_of_getElem? (i := 0) rfl) mem0) (by decide) (by decide) ?_
    rintro _ h392 _ K393 le394 ⟨b390, q391, rfl, rfl, p395, p396, p397, p398, p399, p400, p401⟩
    have o_b251_b390 : b251 ≠ b390 := Nat.ne_of_lt (Nat.lt_of_lt_of_le E_b251.lt p399)
    have o_b252_b390 : b252 ≠ b390 := Nat.ne_of_lt (Nat.lt_of_lt_of_le V_b252.lt p399)
    have o_b265_b390 : b265 ≠ b390 := Nat.ne_of_lt (Nat.lt_of_lt_of_le E_b265.lt p399)
    have o_b266_b390 : b266 ≠ b390 := Nat.ne_of_lt (Nat.lt_of_lt_of_le V_b266.lt p399)
    have o_b279_b390 : b279 ≠ b390 := Nat.ne_of_lt (Nat.lt_of_lt_of_le E_b279.lt p399)
    have o_b280_b390 : b280 ≠ b390 := Nat.ne_of_lt (Nat.lt_of_lt_of_le V_b280.lt p399)
    have o_b293_b390 : b293 ≠ b390 := Nat.ne_of_lt (Nat.lt_of_lt_of_le E_b293.lt p399)
    have o_b380_b390 : b380 ≠ b390 := Nat.ne_of_lt (Nat.lt_of_lt_of_le E_b380.lt p399)
    have o_b387_b390 : b387 ≠ b390 := Nat.ne_of_lt (Nat.lt_of_lt_of_le E_b387.lt p399)
    have ge_b390 := Nat.le_trans le394 p399
    replace E_b251 := E_b251.keep K393
    replace F_b251_coder := F_b251_coder.keep K393 (ninS o_b251_b387 nin0)
    replace F_b251_value := F_b251_value.keep K393 (ninS o_b251_b387 nin0)
    replace V_b252 := V_b252.keep K393 (ninS o_b252_b387 nin0)
    replace E_b265 := E_b265.keep K393
    replace F_b265_coder := F_b265_coder.keep K393 (ninS o_b265_b387 nin0)
    replace F_b265_value := F_b265_value.keep K393 (ninS o_b265_b387 nin0)
    replace V_b266 := V_b266.keep K393 (ninS o_b266_b387 nin0)
    replace E_b279 := E_b279.keep K393
    replace F_b279_coder := F_b279_coder.keep K393 (ninS o_b279_b387 nin0)
    replace F_b279_value := F_b279_value.keep K393 (ninS o_b279_b387 nin0)
    replace V_b280 := V_b280.keep K393 (ninS o_b280_b387 nin0)
    replace E_b293 := E_b293.keep K393
    replace F_b293_value := F_b293_value.keep K393 (ninS o_b293_b387 nin0)
    replace E_b380 := E_b380.keep K393
    replace F_b380_value := F_b380_value.keep K393 (ninS o_b380_b387 nin0)
    replace E_b387 := E_b387.keep K393
    have F_b387_entries := p396
    have F_b387_size := p397
    have F_b387_tree := p398
    have V_b390 := p400
    change Go _ _ _ _ _ _ _ _ _ _ _ _ _ _ [b390, b387] h392 15 57 75 #[.val (.int p1), .val (.int p2), .val (.int p3), .val (.int p4), .val (.ref b251), .val (.ref b265), .val (.ref b279), .val (.ref b293), .val (.int (3 : Int32)), .val .null, .val (.ref b380), .val (.ref b387), .unset] []
    refine Go.iload (pc' := 77) at_75 rfl rfl ?_
    refine Go.iconst (pc' := 78) at_77 rfl ic_2 ?_
    refine Go.icmpN (pc' := 81) at_78 rfl (flt (by decide : ¬ ((3 : Int32) < (2 : Int32)))).1 ?_
    refine Go.aload (pc' := 83) at_81 rfl rfl rfl ?_
    refine Go.aload (pc' := 85) at_83 rfl rfl rfl ?_
    refine Go.aload (pc' := 87) at_85 rfl rfl rfl ?_
    refine Go.callV (pc' := 90) (u := N_22) (z := N_22) (a := b387) at_87 rfl (w_48 hw) (w_49 hw) (nf (w_51 hw) rfl) (w_51 hw) (w_50 hw) (by decide) E_b387 (argsL := [(.ref b265), .null]) (rest := []) (Pays.of_met (W := 0) (len := 3) (m_put1_1 hw hs b387 b265 b390 q391 b251 b293 b252 q253 i254 i255 b266 q267 i268 i269 h392 E_b387 F_b387_entries F_b387_size F_b387_tree V_b390 E_b251 E_b293 F_b251_coder F_b251_value V_b252 E_b265 F_b265_coder F_b265_value V_b266 (p401) (Ne.symm o_b387_b390) o_b251_b390 o_b293_b390 o_b265_b390) (w_52 hw) (w_43 hw) (by decide) (by decide)) rfl rfl (lenOf pd_20 rfl) rfl (Nat.le_of_eq rfl) (memS (List.mem_of_getElem? (i := 1) rfl) (memS (List.mem_of_getElem? (i := 0) rfl) mem0)) (by decide) (by decide) ?_
    rintro _ h404 _ K405 le406 ⟨v402, i403, rfl, rfl, p407, p408, p409, p410⟩
    replace E_b251 := E_b251.keep K405
    replace F_b251_coder := F_b251_coder.keep K405 (ninS o_b251_b387 (ninS o_b251_b390 nin0))
    replace F_b251_value := F_b251_value.keep K405 (ninS o_b251_b387 (ninS o_b251_b390 nin0))
    replace V_b252 := V_b252.keep K405 (ninS o_b252_b387 (ninS o_b252_b390 nin0))
    replace E_b265 := E_b265.keep K405
    replace F_b265_coder := F_b265_coder.keep K405 (ninS o_b265_b387 (ninS o_b265_b390 nin0))
    replace F_b265_value := F_b265_value.keep K405 (ninS o_b265_b387 (ninS o_b265_b390 nin0))
    replace V_b266 := V_b266.keep K405 (ninS o_b266_b387 (ninS o_b266_b390 nin0))
    replace E_b279 := E_b279.keep K405
    replace F_b279_coder := F_b279_coder.keep K405 (ninS o_b279_b387 (ninS o_b279_b390 nin0))
    replace F_b279_value := F_b279_value.keep K405 (ninS o_b279_b387 (ninS o_b279_b390 nin0))
    replace V_b280 := V_b280.keep K405 (ninS o_b280_b387 (ninS o_b280_b390 nin0))
    replace E_b293 := E_b293.keep K405
    replace F_b293_value := F_b293_value.keep K405 (ninS o_b293_b387 (ninS o_b293_b390 nin0))
    replace E_b380 := E_b380.keep K405
    replace F_b380_value := F_b380_value.keep K405 (ninS o_b380_b387 (ninS o_b380_b390 nin0))
    replace E_b387 := E_b387.keep K405
    have F_b387_entries := p408
    have F_b387_size := p409
    have F_b387_tree := p410
    change Go _ _ _ _ _ _ _ _ _ _ _ _ _ _ [b390, b387] h404 17 77 90 #[.val (.int p1), .val (.int p2), .val (.int p3), .val (.int p4), .val (.ref b251), .val (.ref b265), .val (.ref b279), .val (.ref b293), .val (.int (3 : Int32)), .val .null, .val (.ref b380), .val (.ref b387), .unset] []
    exact Go.more (k' := 26) (n' := 400) (by decide) (by decide) (Go.fewer (memS (List.mem_of_getElem? (i := 1) rfl) mem0) (m_law2 hw hs p1 p2 p3 p4 (3 : Int32) b251 b265 b279 b293 .null b380 b387 v402 i403 b280 q281 i282 i283 h0 h404 E_b387 F_b387_entries F_b387_size F_b387_tree E_b279 F_b279_coder F_b279_value V_b280 E_b380 (rfl) o_b279_b387 o_b280_b387 o_b380_b387))
set_option maxRecDepth 65536 in
set_option maxHeartbeats 40000000 in
theorem comes_1 {Post : Tables → Env → Array Value → State → Outcome → State → Prop} (hpost : ∀ tb e args s v u, (limb_1_1.after args s (.returned v) u = true ∧ limb_1_2.after args s (.returned v) u = true ∧ True) → Jvm.D.FramedW s (.returned v) u (Jvm.fieldLocs frame_1_writes args s ++ Jvm.arrayLocs frame_1_arrays args s ++ Jvm.staticLocs frame_1_statics s) 40 1216 → Post tb e args s (.returned v) u) :
    ArmFor flags0 classFile x code maxLocals ret World_1 tables_1 room_1 Calls_1 rest_1 Pre_1 Post := by
  intro l hfl _ _ p e ha hc hk s m args below hf hA hF happ hP
  obtain ⟨hcalls, hrest, hpre⟩ := hP
  obtain ⟨-, -, -, hnamed, -, -, -, hat⟩ := (Spec.applies_iff hf).mp happ
  obtain ⟨hg, hn⟩ := and_e (Cond.before_iff.mp (show (Jvm.Cond.and given_1 narrow_1).before args s = true from hpre))
  have hgn := hg
  obtain ⟨h_c, hg⟩ := and_e hg
  obtain ⟨w0, w1, w2, w3, rfl⟩ : ∃ w0 w1 w2 w3 : Value, args = #[w0, w1, w2, w3] := by
    have hs : args.size = 4 := by simpa [Cond.value, given_1] using h_c
    obtain ⟨L⟩ := args
    match L, hs with
    | [w0, w1, w2, w3], _ => exact ⟨w0, w1, w2, w3, rfl⟩
  obtain ⟨h_0, hg⟩ := and_e hg
  obtain ⟨i0, e_0⟩ := is_v h_0
  obtain rfl : w0 = (.int i0) := Option.some.inj e_0
  obtain ⟨h_1, hg⟩ := and_e hg
  obtain ⟨i1, e_1⟩ := is_v h_1
  obtain rfl : w1 = (.int i1) := Option.some.inj e_1
  obtain ⟨h_2, hg⟩ := and_e hg
  obtain ⟨i2, e_2⟩ := is_v h_2
  obtain rfl : w2 = (.int i2) := Option.some.inj e_2
  have h_3 := hg
  obtain ⟨i3, e_3⟩ := is_v h_3
  obtain rfl : w3 = (.int i3) := Option.some.inj e_3
  have hw := fun d (hd : d ∈ tables_1) => atoms_spec (ws := Jvm.Cond.code x code maxLocals ret :: tables_1) hat d (List.mem_cons_of_mem _ hd)
  have hfit : Fit s := fun {y c} hc i hi => by
    obtain ⟨ha, rfl⟩ := Array.getElem?_eq_some_iff.mp hc
    have q := List.all_eq_true.mp ((Array.all_eq_true_iff_forall_mem.mp hF) _ (Array.getElem_mem ha)) i (List.mem_range.mpr hi)
    simpa [Array.getElem?_eq_getElem hi] using q
  have hsets := (atoms_of jdkStatics_1 (show (jdkStatics_1.foldr Jvm.Cond.and restOwn_1).before _ s = true from hrest)).1
  obtain ⟨zc, e_zc⟩ := is_v (Cond.before_iff.mp (hsets _ (List.mem_of_getElem? (i := 1) rfl)))
  have n_zc := gotF (Cond.eq_ints e_zc (Term.int_eval (0))) (not_v (Cond.before_iff.mp (hsets _ (List.mem_of_getElem? (i := 2) rfl))))
  have s_zc := Sta.start e_zc (Or.inl (hsets _ (List.mem_of_getElem? (i := 0) rfl)))
  obtain ⟨fm, e_fm, r_fm⟩ := isR_v (Cond.before_iff.mp (hsets _ (List.mem_of_getElem? (i := 8) rfl)))
  have s_fm := Sta.start e_fm (Or.inl (hsets _ (List.mem_of_getElem? (i := 7) rfl)))
  have e_hi := eqv_i (Term.int_eval (127)) (Cond.before_iff.mp (hsets _ (List.mem_of_getElem? (i := 12) rfl)))
  have s_hi := Sta.start e_hi (Or.inl (hsets _ (List.mem_of_getElem? (i := 10) rfl)))
  obtain ⟨ca, e_ca⟩ := arr_v (Cond.before_iff.mp (hsets _ (List.mem_of_getElem? (i := 13) rfl)))
  have s_ca := Sta.start e_ca (Or.inr ⟨(w_39 hw), (hsets _ (List.mem_of_getElem? (i := 11) rfl))⟩)
  obtain ⟨cl, A_ca⟩ := Arr.start e_ca (Cond.before_iff.mp (hsets _ (List.mem_of_getElem? (i := 13) rfl)))
  have e_ln := eqv_i (Term.int_eval (256)) (Cond.before_iff.mp (hsets _ (List.mem_of_getElem? (i := 15) rfl)))
  have l_ca := own_len e_ca A_ca e_ln
  have bxs : Bxs s ca cl "java/lang/Integer" "I" (256 : Int32) (fun j => .int (j - 128)) := Bxs.start (fun _ => e_ca) A_ca l_ca.1 l_ca.2 (by decide) (Cond.before_iff.mp (hsets _ (List.mem_of_getElem? (i := 16) rfl))) (fun X j hj hq => eqv_i (Term.sub_int (idx_at hj) (Term.int_eval (128))) hq)
  have hs : Stat s := ⟨⟨zc, s_zc, n_zc⟩, ⟨fm, s_fm, r_fm⟩, ⟨s_hi, ca, cl, s_ca, bxs⟩, trivial⟩
  obtain ⟨n, o, h1, h2, h3, v, L, SN, rfl, ⟨rfl, -⟩, hL, -, -, -, hN, hE⟩ := m_law hw hs i0 i1 i2 i3 s.heap tables_1 p e ha hc hk s m _ below hf ((Spec.applies_iff_loose hf).mp happ).1 ⟨rfl, State.Warmed39.refl s, rfl, (fun p hp => nomatch hp), (fun x hx => nomatch hx), ⟨rfl, Ext.refl _⟩, _, (EW.nil (a0 := #[]))⟩ (fun q => nomatch q)
  refine ⟨n, _, h1, h2, h3, hpost _ _ _ _ _ _ ⟨Cond.after_iff.mpr rfl, Cond.after_iff.mpr (eq_i res_at (Term.int_eval (1)) rfl), trivial⟩ ⟨hE.1, hE.2.1, hE.2.2.1, (hE.2.2.2.sift fun y hy => Or.inr (hL y hy)).mono (by decide) (by decide)⟩⟩
theorem main_1_1 : Claimed_1_1 := comes_1 fun _ _ _ _ _ _ h hF => ⟨h.1, hF⟩
theorem main_1_2 : Claimed_1_2 := comes_1 fun _ _ _ _ _ _ h hF => ⟨h.2.1, hF⟩
end Jvm.Pilot.@@N@@
namespace Jvm.Pilot.@@N@@
open Jvm Jvm.ClassFile Sem Op Lib Jvm.Free Jvm.Stand Jvm.Pilot.@@N@@.Jvm.D
/-! MADE BY PROGRAM (witnessworld.py) out of the Statement's table words and the real class files: 28 classes; the members and pool entries that the words name. The judged class is class 1, her method 2. -/
namespace start1
open Jvm.ClassFile
def u (s : String) : CpInfo := .utf8 (stringToUtf16 s)
/-- a pool by its gaps: so many unusable entries, then the entry; so many at the end -/
def gap : Nat → List CpInfo → List CpInfo
  | 0, r => r
  | n + 1, r => .unusable :: gap n r
def poolList (es : List (Nat × CpInfo)) (last : Nat) : List CpInfo := es.foldr (fun e r => gap e.1 (e.2 :: r)) (gap last [])
def pool (es : List (Nat × CpInfo)) (last : Nat) : Array CpInfo := ⟨poolList es last⟩
def fileOf (pool : Array CpInfo) (this : Nat) (attrs : Array Attribute := #[]) (ms : Array MethodInfo := #[]) (fl : Nat := 33) (sup : Nat := 0) (ifs : Array Nat := #[]) (fds : Array FieldInfo := #[]) : ClassFile where
  minorVersion := 0
  majorVersion := 65
  constantPool := pool
  accessFlags := fl
  thisClass := this
  superClass := sup
  interfaces := ifs
  fields := fds
  methods := ms
  attributes := attrs
def plain (name : String) (sup : Option ClassId) : Class where
  name := name
  kind := .ordinary
  loader := none
  accessFlags := 33
  super := sup
  interfaces := #[]
  cf := none
  fields := #[]
  methods := #[]
  instanceTypes := #[]
  staticTypes := #[]
  resolved := #[]
  callSites := []
  init := .initialized
  statics := none
  mirror := none

def pool0 : Array CpInfo := pool [(5, u "<init>"), (0, u "()V"), (1, .class_ 10), (1, u "java/lang/Object")] 113

def k0c0 : Code := { maxStack := 0, maxLocals := 1, code := object_method_1_code, exceptionTable := #[], attributes := #[] }
def k0m0 : Method := { name := "<init>", desc := "()V", sig := { parameters := [], returnType := none }, accessFlags := 1, code := some k0c0 }
/-- java/lang/Object -/
def k0 : Class := { plain "java/lang/Object" none with
  accessFlags := 33
  interfaces := #[]
  cf := some (fileOf pool0 8 #[] #[{ accessFlags := 1, nameIndex := 5, descriptorIndex := 6, attributes := #[] }] 33 0 #[] #[])
  fields := #[]
  methods := #[k0m0]
  instanceTypes := #[]
  staticTypes := #[]
  resolved := Array.replicate 124 none
  statics := none }

def pool1 : Array CpInfo := pool [(2, .class_ 4), (0, .nameAndType 5 6), (0, u "java/lang/Object"), (0, u "<init>"), (0, u "()V"), (0, .class_ 8), (0, u "java/lang/String"), (0, .methodref 7 10), (0, .nameAndType 5 11), (0, u "([C)V"), (0, .methodref 13 14), (0, .class_ 15), (0, .nameAndType 16 17), (0, u "com/example/beleg/beleg/AttributesClearPinLaw"), (0, u "drawn"), (0, u "(I)Ljava/lang/String;"), (0, .methodref 19 20), (0, .class_ 21), (0, .nameAndType 22 23), (0, u "java/lang/Integer"), (0, u "valueOf"), (0, u "(I)Ljava/lang/Integer;"), (0, .class_ 25), (0, u "com/example/beleg/beleg/Attributes"), (0, .methodref 24 3), (0, .methodref 24 28), (0, .nameAndType 29 30), (0, u "put"), (0, u "(Ljava/lang/String;Ljava/lang/Object;)V"), (0, .methodref 24 32), (0, .nameAndType 33 6), (0, u "clear"), (0, .methodref 24 35), (0, .nameAndType 36 37), (0, u "size"), (0, u "()I"), (0, .methodref 24 39), (0, .nameAndType 40 41), (0, u "has"), (0, u "(Ljava/lang/String;)Z"), (0, .methodref 24 43), (0, .nameAndType 44 45), (0, u "get"), (0, u "(Ljava/lang/String;)Ljava/lang/Object;"), (2, u "law"), (0, u "(IIII)Z")] 3

def k1m0 : Method := { name := "<init>", desc := "()V", sig := { parameters := [], returnType := none }, accessFlags := 1, code := none }
def k1c1 : Code := { maxStack := 4, maxLocals := 2, code := method_2_code, exceptionTable := #[], attributes := #[] }
def k1m1 : Method := { name := "drawn", desc := "(I)Ljava/lang/String;", sig := { parameters := [.int], returnType := some (.object "java/lang/String") }, accessFlags := 10, code := some k1c1 }
def k1c2 : Code := { maxStack := 3, maxLocals := 13, code := code, exceptionTable := #[], attributes := #[] }
def k1m2 : Method := { name := "law", desc := "(IIII)Z", sig := { parameters := [.int, .int, .int, .int], returnType := some .boolean }, accessFlags := 9, code := some k1c2 }
/-- com/example/beleg/beleg/AttributesClearPinLaw -/
def k1 : Class := { plain "com/example/beleg/beleg/AttributesClearPinLaw" (some 0) with
  accessFlags := 49
  interfaces := #[]
  cf := some (fileOf pool1 13 #[] #[{ accessFlags := 1, nameIndex := 5, descriptorIndex := 6, attributes := #[] }, { accessFlags := 10, nameIndex := 16, descriptorIndex := 17, attributes := #[] }, { accessFlags := 9, nameIndex := 48, descriptorIndex := 49, attributes := #[] }] 49 2 #[] #[])
  fields := #[]
  methods := #[k1m0, k1m1, k1m2]
  instanceTypes := #[]
  staticTypes := #[]
  resolved := Array.replicate 53 none
  statics := none }

def pool2 : Array CpInfo := pool [(1, .class_ 2), (0, u "java/io/Serializable"), (0, .class_ 4), (0, u "java/lang/Object")] 2

/-- java/io/Serializable -/
def k2 : Class := { plain "java/io/Serializable" (some 0) with
  accessFlags := 1537
  interfaces := #[]
  cf := some (fileOf pool2 1 #[] #[] 1537 3 #[] #[])
  fields := #[]
  methods := #[]
  instanceTypes := #[]
  staticTypes := #[]
  resolved := Array.replicate 7 none
  statics := none }

def pool3 : Array CpInfo := pool [(1, .class_ 2), (0, u "java/lang/Comparable"), (0, .class_ 4), (0, u "java/lang/Object")] 7

/-- java/lang/Comparable -/
def k3 : Class := { plain "java/lang/Comparable" (some 0) with
  accessFlags := 1537
  interfaces := #[]
  cf := some (fileOf pool3 1 #[] #[] 1537 3 #[] #[])
  fields := #[]
  methods := #[]
  instanceTypes := #[]
  staticTypes := #[]
  resolved := Array.replicate 12 none
  statics := none }

def pool4 : Array CpInfo := pool [(2, .class_ 4), (1, u "java/lang/CharSequence"), (42, .class_ 48), (0, u "java/lang/CharSequence$1CodePointIterator"), (10, .class_ 60), (0, u "java/lang/CharSequence$1CharIterator"), (5, .class_ 67), (0, u "java/lang/Object")] 63

/-- java/lang/CharSequence -/
def k4 : Class := { plain "java/lang/CharSequence" (some 0) with
  accessFlags := 1537
  interfaces := #[]
  cf := some (fileOf pool4 2 #[.nestMembers #[47, 59]] #[] 1537 66 #[] #[])
  fields := #[]
  methods := #[]
  instanceTypes := #[]
  staticTypes := #[]
  resolved := Array.replicate 131 none
  statics := none }

def pool5 : Array CpInfo := pool [(1, .class_ 2), (0, u "java/lang/constant/Constable"), (0, .class_ 4), (0, u "java/lang/Object")] 6

/-- java/lang/constant/Constable -/
def k5 : Class := { plain "java/lang/constant/Constable" (some 0) with
  accessFlags := 1537
  interfaces := #[]
  cf := some (fileOf pool5 1 #[] #[] 1537 3 #[] #[])
  fields := #[]
  methods := #[]
  instanceTypes := #[]
  staticTypes := #[]
  resolved := Array.replicate 11 none
  statics := none }

def pool6 : Array CpInfo := pool [(1, .class_ 2), (0, u "java/lang/constant/ConstantDesc"), (0, .class_ 4), (0, u "java/lang/Object")] 32

/-- java/lang/constant/ConstantDesc -/
def k6 : Class := { plain "java/lang/constant/ConstantDesc" (some 0) with
  accessFlags := 1537
  interfaces := #[]
  cf := some (fileOf pool6 1 #[] #[] 1537 3 #[] #[])
  fields := #[]
  methods := #[]
  instanceTypes := #[]
  staticTypes := #[]
  resolved := Array.replicate 37 none
  statics := none }

def pool7 : Array CpInfo := pool [(1, .methodref 2 3), (0, .class_ 4), (0, .nameAndType 5 6), (0, u "java/lang/Object"), (0, u "<init>"), (0, u "()V"), (2, .fieldref 10 11), (0, .class_ 12), (0, .nameAndType 13 14), (0, u "java/lang/String"), (0, u "value"), (0, u "[B"), (0, .fieldref 10 16), (0, .nameAndType 17 18), (0, u "coder"), (0, u "B"), (2, u "hash"), (0, u "I"), (2, u "hashIsZero"), (0, u "Z"), (0, .methodref 10 28), (0, .nameAndType 5 29), (0, u "([CIILjava/lang/Void;)V"), (8, .fieldref 10 39), (0, .nameAndType 40 26), (0, u "COMPACT_STRINGS"), (1, .class_ 44), (1, u "java/lang/StringUTF16"), (0, u "compress"), (1, .methodref 42 48), (0, .nameAndType 49 50), (0, u "coderFromArrayLen"), (0, u "([BI)B"), (56, .class_ 109), (1, u "java/lang/StringLatin1"), (67, .methodref 42 178), (0, .nameAndType 45 179), (0, u "([CII)[B"), (155, .methodref 10 336), (0, .nameAndType 17 337), (0, u "()B"), (237, .class_ 576), (0, u "java/lang/CharSequence"), (9, .methodref 107 587), (0, .nameAndType 588 589), (0, u "compareTo"), (0, u "([B[B)I"), (9, u "CASE_INSENSITIVE_ORDER"), (0, u "Ljava/util/Comparator;"), (112, u "(Ljava/lang/String;)I"), (296, u "([C)V"), (90, u "serialPersistentFields"), (0, u "[Ljava/io/ObjectStreamField;"), (0, .class_ 1104), (0, u "java/lang/String$CaseInsensitiveComparator"), (1, .class_ 1107), (0, u "java/io/Serializable"), (0, .class_ 1109), (0, u "java/lang/Comparable"), (0, .class_ 1111), (0, u "java/lang/constant/Constable"), (0, .class_ 1113), (0, u "java/lang/constant/ConstantDesc"), (2, u "serialVersionUID"), (0, u "J"), (3, u "REPL"), (0, u "C"), (2, u "LATIN1"), (1, u "UTF16")] 323

def k7m0 : Method := { name := "<init>", desc := "()V", sig := { parameters := [], returnType := none }, accessFlags := 1, code := none }
def k7c1 : Code := { maxStack := 5, maxLocals := 2, code := jdk_42_method_3_code, exceptionTable := #[], attributes := #[] }
def k7m1 : Method := { name := "<init>", desc := "([C)V", sig := { parameters := [(.array .char)], returnType := none }, accessFlags := 1, code := some k7c1 }
def k7c2 : Code := { maxStack := 2, maxLocals := 5, code := jdk_42_method_71_code, exceptionTable := #[], attributes := #[] }
def k7m2 : Method := { name := "compareTo", desc := "(Ljava/lang/String;)I", sig := { parameters := [(.object "java/lang/String")], returnType := some .int }, accessFlags := 1, code := some k7c2 }
def k7c3 : Code := { maxStack := 4, maxLocals := 6, code := jdk_42_method_149_code, exceptionTable := #[], attributes := #[] }
def k7m3 : Method := { name := "<init>", desc := "([CIILjava/lang/Void;)V", sig := { parameters := [(.array .char), .int, .int, (.object "java/lang/Void")], returnType := none }, accessFlags := 2, code := some k7c3 }
def k7c4 : Code := { maxStack := 1, maxLocals := 1, code := jdk_42_method_152_code, exceptionTable := #[], attributes := #[] }
def k7m4 : Method := { name := "coder", desc := "()B", sig := { parameters := [], returnType := some .byte }, accessFlags := 0, code := some k7c4 }
/-- java/lang/String -/
def k7 : Class := { plain "java/lang/String" (some 0) with
  accessFlags := 49
  interfaces := #[2, 3, 4, 5, 6]
  cf := some (fileOf pool7 10 #[.nestMembers #[1103]] #[{ accessFlags := 1, nameIndex := 5, descriptorIndex := 6, attributes := #[] }, { accessFlags := 1, nameIndex := 5, descriptorIndex := 1010, attributes := #[] }, { accessFlags := 1, nameIndex := 588, descriptorIndex := 713, attributes := #[] }, { accessFlags := 2, nameIndex := 5, descriptorIndex := 29, attributes := #[] }, { accessFlags := 0, nameIndex := 17, descriptorIndex := 337, attributes := #[] }] 49 2 #[1106, 1108, 575, 1110, 1112] #[{ accessFlags := 18, nameIndex := 13, descriptorIndex := 14, attributes := #[] }, { accessFlags := 18, nameIndex := 17, descriptorIndex := 18, attributes := #[] }, { accessFlags := 2, nameIndex := 21, descriptorIndex := 22, attributes := #[] }, { accessFlags := 2, nameIndex := 25, descriptorIndex := 26, attributes := #[] }, { accessFlags := 26, nameIndex := 1116, descriptorIndex := 1117, attributes := #[] }, { accessFlags := 24, nameIndex := 40, descriptorIndex := 26, attributes := #[] }, { accessFlags := 26, nameIndex := 1101, descriptorIndex := 1102, attributes := #[] }, { accessFlags := 26, nameIndex := 1121, descriptorIndex := 1122, attributes := #[] }, { accessFlags := 25, nameIndex := 599, descriptorIndex := 600, attributes := #[] }, { accessFlags := 24, nameIndex := 1125, descriptorIndex := 18, attributes := #[] }, { accessFlags := 24, nameIndex := 1127, descriptorIndex := 18, attributes := #[] }])
  fields := #[{ name := "value", type := (.array .byte), accessFlags := 18, slot := 0, constantValue := 0 }, { name := "coder", type := .byte, accessFlags := 18, slot := 1, constantValue := 0 }, { name := "hash", type := .int, accessFlags := 2, slot := 2, constantValue := 0 }, { name := "hashIsZero", type := .boolean, accessFlags := 2, slot := 3, constantValue := 0 }, { name := "serialVersionUID", type := .long, accessFlags := 26, slot := 0, constantValue := 0 }, { name := "COMPACT_STRINGS", type := .boolean, accessFlags := 24, slot := 1, constantValue := 0 }, { name := "serialPersistentFields", type := (.array (.object "java/io/ObjectStreamField")), accessFlags := 26, slot := 2, constantValue := 0 }, { name := "REPL", type := .char, accessFlags := 26, slot := 3, constantValue := 0 }, { name := "CASE_INSENSITIVE_ORDER", type := (.object "java/util/Comparator"), accessFlags := 25, slot := 4, constantValue := 0 }, { name := "LATIN1", type := .byte, accessFlags := 24, slot := 5, constantValue := 0 }, { name := "UTF16", type := .byte, accessFlags := 24, slot := 6, constantValue := 0 }]
  methods := #[k7m0, k7m1, k7m2, k7m3, k7m4]
  instanceTypes := #[(.array .byte), .byte, .int, .boolean]
  staticTypes := #[.long, .boolean, (.array (.object "java/io/ObjectStreamField")), .char, (.object "java/util/Comparator"), .byte, .byte]
  resolved := Array.replicate 1451 none
  statics := some 0 }

def pool8 : Array CpInfo := pool [(6, .class_ 8), (1, u "java/lang/Object"), (0, u "<init>"), (0, u "()V"), (1, .class_ 14), (1, u "java/lang/StringUTF16"), (31, u "$assertionsDisabled"), (0, u "Z"), (13, u "HI_BYTE_SHIFT"), (0, u "I"), (2, u "LO_BYTE_SHIFT"), (49, .methodref 12 116), (0, .nameAndType 117 118), (0, u "compress"), (0, u "([CI[BII)I"), (3, u "([CII)[B"), (138, u "coderFromArrayLen"), (0, u "([BI)B"), (106, .class_ 371), (1, u "java/lang/StringUTF16$LinesSpliterator"), (58, u "MAX_LENGTH"), (196, .class_ 628), (0, u "java/lang/StringUTF16$CodePointsSpliterator"), (0, .class_ 630), (0, u "java/lang/StringUTF16$CharsSpliterator")] 4

def k8m0 : Method := { name := "<init>", desc := "()V", sig := { parameters := [], returnType := none }, accessFlags := 0, code := none }
def k8c1 : Code := { maxStack := 2, maxLocals := 2, code := jdk_52_method_15_code, exceptionTable := #[], attributes := #[] }
def k8m1 : Method := { name := "coderFromArrayLen", desc := "([BI)B", sig := { parameters := [(.array .byte), .int], returnType := some .byte }, accessFlags := 8, code := some k8c1 }
def k8c2 : Code := { maxStack := 5, maxLocals := 6, code := jdk_52_method_16_code, exceptionTable := #[], attributes := #[] }
def k8m2 : Method := { name := "compress", desc := "([CII)[B", sig := { parameters := [(.array .char), .int, .int], returnType := some (.array .byte) }, accessFlags := 9, code := some k8c2 }
def k8c3 : Code := { maxStack := 3, maxLocals := 7, code := jdk_52_method_21_code, exceptionTable := #[], attributes := #[] }
def k8m3 : Method := { name := "compress", desc := "([CI[BII)I", sig := { parameters := [(.array .char), .int, (.array .byte), .int, .int], returnType := some .int }, accessFlags := 9, code := some k8c3 }
/-- java/lang/StringUTF16 -/
def k8 : Class := { plain "java/lang/StringUTF16" (some 0) with
  accessFlags := 48
  interfaces := #[]
  cf := some (fileOf pool8 12 #[.nestMembers #[627, 629, 369]] #[{ accessFlags := 0, nameIndex := 9, descriptorIndex := 10, attributes := #[] }, { accessFlags := 8, nameIndex := 261, descriptorIndex := 262, attributes := #[] }, { accessFlags := 9, nameIndex := 117, descriptorIndex := 122, attributes := #[] }, { accessFlags := 9, nameIndex := 117, descriptorIndex := 118, attributes := #[] }] 48 6 #[] #[{ accessFlags := 26, nameIndex := 61, descriptorIndex := 62, attributes := #[] }, { accessFlags := 26, nameIndex := 65, descriptorIndex := 62, attributes := #[] }, { accessFlags := 24, nameIndex := 430, descriptorIndex := 62, attributes := #[] }, { accessFlags := 4120, nameIndex := 46, descriptorIndex := 47, attributes := #[] }])
  fields := #[{ name := "HI_BYTE_SHIFT", type := .int, accessFlags := 26, slot := 0, constantValue := 0 }, { name := "LO_BYTE_SHIFT", type := .int, accessFlags := 26, slot := 1, constantValue := 0 }, { name := "MAX_LENGTH", type := .int, accessFlags := 24, slot := 2, constantValue := 0 }, { name := "$assertionsDisabled", type := .boolean, accessFlags := 4120, slot := 3, constantValue := 0 }]
  methods := #[k8m0, k8m1, k8m2, k8m3]
  instanceTypes := #[]
  staticTypes := #[.int, .int, .int, .boolean]
  resolved := Array.replicate 635 none
  statics := none }

def pool9 : Array CpInfo := pool [(1, .methodref 2 3), (0, .class_ 4), (0, .nameAndType 5 6), (0, u "java/lang/Object"), (0, u "<init>"), (0, u "()V"), (1, .class_ 10), (1, u "java/lang/Number"), (2, .class_ 14), (0, u "java/io/Serializable"), (0, u "serialVersionUID"), (0, u "J")] 20

def k9c0 : Code := { maxStack := 1, maxLocals := 1, code := jdk_18_method_1_code, exceptionTable := #[], attributes := #[] }
def k9m0 : Method := { name := "<init>", desc := "()V", sig := { parameters := [], returnType := none }, accessFlags := 1, code := some k9c0 }
/-- java/lang/Number -/
def k9 : Class := { plain "java/lang/Number" (some 0) with
  accessFlags := 1057
  interfaces := #[2]
  cf := some (fileOf pool9 8 #[] #[{ accessFlags := 1, nameIndex := 5, descriptorIndex := 6, attributes := #[] }] 1057 2 #[13] #[{ accessFlags := 26, nameIndex := 15, descriptorIndex := 16, attributes := #[] }])
  fields := #[{ name := "serialVersionUID", type := .long, accessFlags := 26, slot := 0, constantValue := 0 }]
  methods := #[k9m0]
  instanceTypes := #[]
  staticTypes := #[.long]
  resolved := Array.replicate 37 none
  statics := none }

def pool10 : Array CpInfo := pool [(1, .class_ 2), (0, u "java/lang/Integer"), (16, u "digits"), (0, u "[C"), (46, u "<init>"), (17, u "DigitOnes"), (0, u "[B"), (2, u "DigitTens"), (10, .nameAndType 67 101), (0, u "()V"), (85, u "valueOf"), (0, u "(I)Ljava/lang/Integer;"), (0, .class_ 190), (0, u "java/lang/Integer$IntegerCache"), (0, .fieldref 189 192), (0, .nameAndType 193 194), (0, u "high"), (0, u "I"), (0, .fieldref 189 196), (0, .nameAndType 197 198), (0, u "cache"), (0, u "[Ljava/lang/Integer;"), (0, .methodref 1 200), (0, .nameAndType 67 201), (0, u "(I)V"), (0, .methodref 203 100), (0, .class_ 204), (0, u "java/lang/Number"), (0, .fieldref 1 206), (0, .nameAndType 207 194), (0, u "value"), (94, u "TYPE"), (0, u "Ljava/lang/Class;"), (0, .class_ 305), (0, u "java/lang/Comparable"), (0, .class_ 307), (0, u "java/lang/constant/Constable"), (0, .class_ 309), (0, u "java/lang/constant/ConstantDesc"), (0, u "MIN_VALUE"), (1, u "MAX_VALUE"), (3, u "SIZE"), (1, u "BYTES"), (1, u "serialVersionUID"), (0, u "J")] 131

def k10c0 : Code := { maxStack := 3, maxLocals := 1, code := jdk_33_method_22_code, exceptionTable := #[], attributes := #[] }
def k10m0 : Method := { name := "valueOf", desc := "(I)Ljava/lang/Integer;", sig := { parameters := [.int], returnType := some (.object "java/lang/Integer") }, accessFlags := 9, code := some k10c0 }
def k10c1 : Code := { maxStack := 2, maxLocals := 2, code := jdk_33_method_23_code, exceptionTable := #[], attributes := #[] }
def k10m1 : Method := { name := "<init>", desc := "(I)V", sig := { parameters := [.int], returnType := none }, accessFlags := 1, code := some k10c1 }
/-- java/lang/Integer -/
def k10 : Class := { plain "java/lang/Integer" (some 9) with
  accessFlags := 49
  interfaces := #[3, 5, 6]
  cf := some (fileOf pool10 1 #[.nestMembers #[189]] #[{ accessFlags := 9, nameIndex := 187, descriptorIndex := 188, attributes := #[] }, { accessFlags := 1, nameIndex := 67, descriptorIndex := 201, attributes := #[] }] 49 203 #[304, 306, 308] #[{ accessFlags := 25, nameIndex := 310, descriptorIndex := 194, attributes := #[] }, { accessFlags := 25, nameIndex := 312, descriptorIndex := 194, attributes := #[] }, { accessFlags := 25, nameIndex := 302, descriptorIndex := 303, attributes := #[] }, { accessFlags := 24, nameIndex := 19, descriptorIndex := 20, attributes := #[] }, { accessFlags := 24, nameIndex := 89, descriptorIndex := 86, attributes := #[] }, { accessFlags := 24, nameIndex := 85, descriptorIndex := 86, attributes := #[] }, { accessFlags := 18, nameIndex := 207, descriptorIndex := 194, attributes := #[] }, { accessFlags := 25, nameIndex := 316, descriptorIndex := 194, attributes := #[] }, { accessFlags := 25, nameIndex := 318, descriptorIndex := 194, attributes := #[] }, { accessFlags := 26, nameIndex := 320, descriptorIndex := 321, attributes := #[] }])
  fields := #[{ name := "MIN_VALUE", type := .int, accessFlags := 25, slot := 0, constantValue := 0 }, { name := "MAX_VALUE", type := .int, accessFlags := 25, slot := 1, constantValue := 0 }, { name := "TYPE", type := (.object "java/lang/Class"), accessFlags := 25, slot := 2, constantValue := 0 }, { name := "digits", type := (.array .char), accessFlags := 24, slot := 3, constantValue := 0 }, { name := "DigitTens", type := (.array .byte), accessFlags := 24, slot := 4, constantValue := 0 }, { name := "DigitOnes", type := (.array .byte), accessFlags := 24, slot := 5, constantValue := 0 }, { name := "value", type := .int, accessFlags := 18, slot := 0, constantValue := 0 }, { name := "SIZE", type := .int, accessFlags := 25, slot := 6, constantValue := 0 }, { name := "BYTES", type := .int, accessFlags := 25, slot := 7, constantValue := 0 }, { name := "serialVersionUID", type := .long, accessFlags := 26, slot := 8, constantValue := 0 }]
  methods := #[k10m0, k10m1]
  instanceTypes := #[.int]
  staticTypes := #[.int, .int, (.object "java/lang/Class"), (.array .char), (.array .byte), (.array .byte), .int, .int, .long]
  resolved := Array.replicate 453 none
  statics := none }

def pool11 : Array CpInfo := pool [(2, .class_ 4), (1, u "java/lang/Object"), (0, u "<init>"), (0, u "()V"), (0, .class_ 8), (0, u "java/lang/Integer"), (7, .class_ 18), (1, u "java/lang/Integer$IntegerCache"), (0, u "$assertionsDisabled"), (0, u "Z"), (26, u "high"), (0, u "I"), (8, u "archivedCache"), (0, u "[Ljava/lang/Integer;"), (12, u "cache"), (0, u "low")] 27

def k11m0 : Method := { name := "<init>", desc := "()V", sig := { parameters := [], returnType := none }, accessFlags := 2, code := none }
/-- java/lang/Integer$IntegerCache -/
def k11 : Class := { plain "java/lang/Integer$IntegerCache" (some 0) with
  accessFlags := 48
  interfaces := #[]
  cf := some (fileOf pool11 16 #[.nestHost 7] #[{ accessFlags := 2, nameIndex := 5, descriptorIndex := 6, attributes := #[] }] 48 2 #[] #[{ accessFlags := 24, nameIndex := 72, descriptorIndex := 48, attributes := #[] }, { accessFlags := 24, nameIndex := 47, descriptorIndex := 48, attributes := #[] }, { accessFlags := 24, nameIndex := 71, descriptorIndex := 58, attributes := #[] }, { accessFlags := 8, nameIndex := 57, descriptorIndex := 58, attributes := #[] }, { accessFlags := 4120, nameIndex := 19, descriptorIndex := 20, attributes := #[] }])
  fields := #[{ name := "low", type := .int, accessFlags := 24, slot := 0, constantValue := 0 }, { name := "high", type := .int, accessFlags := 24, slot := 1, constantValue := 0 }, { name := "cache", type := (.array (.object "java/lang/Integer")), accessFlags := 24, slot := 2, constantValue := 0 }, { name := "archivedCache", type := (.array (.object "java/lang/Integer")), accessFlags := 8, slot := 3, constantValue := 0 }, { name := "$assertionsDisabled", type := .boolean, accessFlags := 4120, slot := 4, constantValue := 0 }]
  methods := #[k11m0]
  instanceTypes := #[]
  staticTypes := #[.int, .int, (.array (.object "java/lang/Integer")), (.array (.object "java/lang/Integer")), .boolean]
  resolved := Array.replicate 100 none
  statics := some 1 }

def pool12 : Array CpInfo := pool [(1, .methodref 2 3), (0, .class_ 4), (0, .nameAndType 5 6), (0, u "java/lang/Object"), (0, u "<init>"), (0, u "()V"), (0, .fieldref 8 9), (0, .class_ 10), (0, .nameAndType 11 12), (0, u "com/example/beleg/beleg/Attributes"), (0, u "tree"), (0, u "Ljava/util/TreeMap;"), (6, .methodref 8 20), (0, .nameAndType 21 22), (0, u "indexOf"), (0, u "(Ljava/lang/String;)I"), (2, u "get"), (1, .fieldref 8 28), (0, .nameAndType 29 30), (0, u "entries"), (0, u "[Ljava/lang/Object;"), (0, .fieldref 8 32), (0, .nameAndType 33 34), (0, u "size"), (0, u "I"), (0, .methodref 8 36), (0, .nameAndType 37 38), (0, u "insert"), (0, u "(ILjava/lang/String;Ljava/lang/Object;)V"), (5, u "put"), (16, u "()I"), (11, .methodref 8 74), (0, .nameAndType 75 76), (0, u "name"), (0, u "(I)Ljava/lang/String;"), (8, .class_ 86), (0, u "java/lang/String"), (0, .methodref 85 88), (0, .nameAndType 89 22), (0, u "compareTo"), (0, .class_ 91), (0, u "com/example/beleg/beleg/Attributes$Cursor"), (3, .string 75), (0, .methodref 97 98), (0, .class_ 99), (0, .nameAndType 100 101), (0, u "java/util/Objects"), (0, u "requireNonNull"), (0, u "(Ljava/lang/Object;Ljava/lang/String;)Ljava/lang/Object;"), (0, .methodref 103 104), (0, .class_ 105), (0, .nameAndType 106 107), (0, u "java/lang/Math"), (0, u "max"), (0, u "(II)I"), (0, .methodref 109 110), (0, .class_ 111), (0, .nameAndType 112 113), (0, u "java/lang/System"), (0, u "arraycopy"), (0, u "(Ljava/lang/Object;ILjava/lang/Object;II)V"), (1, u "MAX_ARRAY_SIZE"), (6, u "has"), (0, u "(Ljava/lang/String;)Z"), (1, u "(Ljava/lang/String;)Ljava/lang/Object;"), (0, u "(Ljava/lang/String;Ljava/lang/Object;)V"), (1, u "clear")] 15

def k12c0 : Code := { maxStack := 1, maxLocals := 1, code := prog_3_method_1_code, exceptionTable := #[], attributes := #[] }
def k12m0 : Method := { name := "<init>", desc := "()V", sig := { parameters := [], returnType := none }, accessFlags := 0, code := some k12c0 }
def k12c1 : Code := { maxStack := 2, maxLocals := 2, code := prog_3_method_2_code, exceptionTable := #[], attributes := #[] }
def k12m1 : Method := { name := "has", desc := "(Ljava/lang/String;)Z", sig := { parameters := [(.object "java/lang/String")], returnType := some .boolean }, accessFlags := 0, code := some k12c1 }
def k12c2 : Code := { maxStack := 3, maxLocals := 4, code := prog_3_method_3_code, exceptionTable := #[], attributes := #[] }
def k12m2 : Method := { name := "get", desc := "(Ljava/lang/String;)Ljava/lang/Object;", sig := { parameters := [(.object "java/lang/String")], returnType := some (.object "java/lang/Object") }, accessFlags := 0, code := some k12c2 }
def k12c3 : Code := { maxStack := 4, maxLocals := 4, code := prog_3_method_4_code, exceptionTable := #[], attributes := #[] }
def k12m3 : Method := { name := "put", desc := "(Ljava/lang/String;Ljava/lang/Object;)V", sig := { parameters := [(.object "java/lang/String"), (.object "java/lang/Object")], returnType := none }, accessFlags := 0, code := some k12c3 }
def k12c4 : Code := { maxStack := 2, maxLocals := 1, code := prog_3_method_6_code, exceptionTable := #[], attributes := #[] }
def k12m4 : Method := { name := "clear", desc := "()V", sig := { parameters := [], returnType := none }, accessFlags := 0, code := some k12c4 }
def k12c5 : Code := { maxStack := 1, maxLocals := 1, code := prog_3_method_8_code, exceptionTable := #[], attributes := #[] }
def k12m5 : Method := { name := "size", desc := "()I", sig := { parameters := [], returnType := some .int }, accessFlags := 0, code := some k12c5 }
def k12c6 : Code := { maxStack := 3, maxLocals := 2, code := prog_3_method_12_code, exceptionTable := #[], attributes := #[] }
def k12m6 : Method := { name := "name", desc := "(I)Ljava/lang/String;", sig := { parameters := [.int], returnType := some (.object "java/lang/String") }, accessFlags := 2, code := some k12c6 }
def k12c7 : Code := { maxStack := 2, maxLocals := 6, code := prog_3_method_13_code, exceptionTable := #[], attributes := #[] }
def k12m7 : Method := { name := "indexOf", desc := "(Ljava/lang/String;)I", sig := { parameters := [(.object "java/lang/String")], returnType := some .int }, accessFlags := 2, code := some k12c7 }
def k12c8 : Code := { maxStack := 7, maxLocals := 5, code := prog_3_method_14_code, exceptionTable := #[], attributes := #[] }
def k12m8 : Method := { name := "insert", desc := "(ILjava/lang/String;Ljava/lang/Object;)V", sig := { parameters := [.int, (.object "java/lang/String"), (.object "java/lang/Object")], returnType := none }, accessFlags := 2, code := some k12c8 }
/-- com/example/beleg/beleg/Attributes -/
def k12 : Class := { plain "com/example/beleg/beleg/Attributes" (some 0) with
  accessFlags := 48
  interfaces := #[]
  cf := some (fileOf pool12 8 #[.nestMembers #[90]] #[{ accessFlags := 0, nameIndex := 5, descriptorIndex := 6, attributes := #[] }, { accessFlags := 0, nameIndex := 122, descriptorIndex := 123, attributes := #[] }, { accessFlags := 0, nameIndex := 25, descriptorIndex := 125, attributes := #[] }, { accessFlags := 0, nameIndex := 44, descriptorIndex := 126, attributes := #[] }, { accessFlags := 0, nameIndex := 128, descriptorIndex := 6, attributes := #[] }, { accessFlags := 0, nameIndex := 33, descriptorIndex := 61, attributes := #[] }, { accessFlags := 2, nameIndex := 75, descriptorIndex := 76, attributes := #[] }, { accessFlags := 2, nameIndex := 21, descriptorIndex := 22, attributes := #[] }, { accessFlags := 2, nameIndex := 37, descriptorIndex := 38, attributes := #[] }] 48 2 #[] #[{ accessFlags := 24, nameIndex := 115, descriptorIndex := 34, attributes := #[] }, { accessFlags := 2, nameIndex := 29, descriptorIndex := 30, attributes := #[] }, { accessFlags := 2, nameIndex := 33, descriptorIndex := 34, attributes := #[] }, { accessFlags := 2, nameIndex := 11, descriptorIndex := 12, attributes := #[] }])
  fields := #[{ name := "MAX_ARRAY_SIZE", type := .int, accessFlags := 24, slot := 0, constantValue := 0 }, { name := "entries", type := (.array (.object "java/lang/Object")), accessFlags := 2, slot := 0, constantValue := 0 }, { name := "size", type := .int, accessFlags := 2, slot := 1, constantValue := 0 }, { name := "tree", type := (.object "java/util/TreeMap"), accessFlags := 2, slot := 2, constantValue := 0 }]
  methods := #[k12m0, k12m1, k12m2, k12m3, k12m4, k12m5, k12m6, k12m7, k12m8]
  instanceTypes := #[(.array (.object "java/lang/Object")), .int, (.object "java/util/TreeMap")]
  staticTypes := #[.int]
  resolved := Array.replicate 144 none
  statics := none }

def pool13 : Array CpInfo := pool [(2, .class_ 4), (1, u "java/lang/Object"), (0, u "<init>"), (0, u "()V"), (35, .class_ 44), (1, u "java/util/Objects"), (0, u "requireNonNull"), (48, u "(Ljava/lang/Object;Ljava/lang/String;)Ljava/lang/Object;")] 89

def k13m0 : Method := { name := "<init>", desc := "()V", sig := { parameters := [], returnType := none }, accessFlags := 2, code := none }
def k13c1 : Code := { maxStack := 3, maxLocals := 2, code := jdk_31_method_11_code, exceptionTable := #[], attributes := #[] }
def k13m1 : Method := { name := "requireNonNull", desc := "(Ljava/lang/Object;Ljava/lang/String;)Ljava/lang/Object;", sig := { parameters := [(.object "java/lang/Object"), (.object "java/lang/String")], returnType := some (.object "java/lang/Object") }, accessFlags := 9, code := some k13c1 }
/-- java/util/Objects -/
def k13 : Class := { plain "java/util/Objects" (some 0) with
  accessFlags := 49
  interfaces := #[]
  cf := some (fileOf pool13 42 #[] #[{ accessFlags := 2, nameIndex := 5, descriptorIndex := 6, attributes := #[] }, { accessFlags := 9, nameIndex := 45, descriptorIndex := 94, attributes := #[] }] 49 2 #[] #[])
  fields := #[]
  methods := #[k13m0, k13m1]
  instanceTypes := #[]
  staticTypes := #[]
  resolved := Array.replicate 184 none
  statics := none }

def pool14 : Array CpInfo := pool [(1, .class_ 2), (0, u "java/lang/Math"), (1, .class_ 6), (1, u "java/lang/Object"), (0, u "<init>"), (0, u "()V"), (89, .class_ 100), (1, u "java/lang/Math$RandomNumberGeneratorHolder"), (71, u "negativeZeroFloatBits"), (0, u "J"), (2, u "negativeZeroDoubleBits"), (21, u "max"), (2, u "min"), (43, u "$assertionsDisabled"), (0, u "Z"), (88, u "(II)I"), (2, u "twoToTheDoubleScaleDown"), (0, u "D"), (4, u "twoToTheDoubleScaleUp"), (9, u "E"), (3, u "PI"), (2, u "TAU"), (2, u "DEGREES_TO_RADIANS"), (0, u "RADIANS_TO_DEGREES")] 94

def k14m0 : Method := { name := "<init>", desc := "()V", sig := { parameters := [], returnType := none }, accessFlags := 2, code := none }
def k14c1 : Code := { maxStack := 2, maxLocals := 2, code := jdk_29_method_65_code, exceptionTable := #[], attributes := #[] }
def k14m1 : Method := { name := "max", desc := "(II)I", sig := { parameters := [.int, .int], returnType := some .int }, accessFlags := 9, code := some k14c1 }
def k14c2 : Code := { maxStack := 2, maxLocals := 2, code := jdk_29_method_69_code, exceptionTable := #[], attributes := #[] }
def k14m2 : Method := { name := "min", desc := "(II)I", sig := { parameters := [.int, .int], returnType := some .int }, accessFlags := 9, code := some k14c2 }
/-- java/lang/Math -/
def k14 : Class := { plain "java/lang/Math" (some 0) with
  accessFlags := 49
  interfaces := #[]
  cf := some (fileOf pool14 1 #[.nestMembers #[98]] #[{ accessFlags := 2, nameIndex := 7, descriptorIndex := 8, attributes := #[] }, { accessFlags := 9, nameIndex := 198, descriptorIndex := 335, attributes := #[] }, { accessFlags := 9, nameIndex := 201, descriptorIndex := 335, attributes := #[] }] 49 4 #[] #[{ accessFlags := 25, nameIndex := 354, descriptorIndex := 339, attributes := #[] }, { accessFlags := 25, nameIndex := 358, descriptorIndex := 339, attributes := #[] }, { accessFlags := 25, nameIndex := 361, descriptorIndex := 339, attributes := #[] }, { accessFlags := 26, nameIndex := 364, descriptorIndex := 339, attributes := #[] }, { accessFlags := 26, nameIndex := 365, descriptorIndex := 339, attributes := #[] }, { accessFlags := 26, nameIndex := 172, descriptorIndex := 173, attributes := #[] }, { accessFlags := 26, nameIndex := 176, descriptorIndex := 173, attributes := #[] }, { accessFlags := 8, nameIndex := 344, descriptorIndex := 339, attributes := #[] }, { accessFlags := 8, nameIndex := 338, descriptorIndex := 339, attributes := #[] }, { accessFlags := 4120, nameIndex := 245, descriptorIndex := 246, attributes := #[] }])
  fields := #[{ name := "E", type := .double, accessFlags := 25, slot := 0, constantValue := 0 }, { name := "PI", type := .double, accessFlags := 25, slot := 1, constantValue := 0 }, { name := "TAU", type := .double, accessFlags := 25, slot := 2, constantValue := 0 }, { name := "DEGREES_TO_RADIANS", type := .double, accessFlags := 26, slot := 3, constantValue := 0 }, { name := "RADIANS_TO_DEGREES", type := .double, accessFlags := 26, slot := 4, constantValue := 0 }, { name := "negativeZeroFloatBits", type := .long, accessFlags := 26, slot := 5, constantValue := 0 }, { name := "negativeZeroDoubleBits", type := .long, accessFlags := 26, slot := 6, constantValue := 0 }, { name := "twoToTheDoubleScaleUp", type := .double, accessFlags := 8, slot := 7, constantValue := 0 }, { name := "twoToTheDoubleScaleDown", type := .double, accessFlags := 8, slot := 8, constantValue := 0 }, { name := "$assertionsDisabled", type := .boolean, accessFlags := 4120, slot := 9, constantValue := 0 }]
  methods := #[k14m0, k14m1, k14m2]
  instanceTypes := #[]
  staticTypes := #[.double, .double, .double, .double, .double, .long, .long, .double, .double, .boolean]
  resolved := Array.replicate 460 none
  statics := none }

def pool15 : Array CpInfo := pool [(2, .class_ 4), (1, u "java/lang/Object"), (0, u "<init>"), (0, u "()V"), (1, .class_ 10), (1, u "java/lang/System"), (0, u "allowSecurityManager"), (0, u "I"), (16, u "cons"), (0, u "Ljava/io/Console;"), (77, .class_ 110), (1, u "java/lang/System$CallersHolder"), (43, u "initialErrStream"), (0, u "Ljava/io/PrintStream;"), (19, u "security"), (0, u "Ljava/lang/SecurityManager;"), (31, .class_ 209), (0, u "java/lang/System$1"), (7, u "props"), (0, u "Ljava/util/Properties;"), (2, u "lineSeparator"), (0, u "Ljava/lang/String;"), (96, .class_ 321), (1, u "java/lang/System$LoggerFinder"), (5, .class_ 328), (0, u "java/lang/System$Logger"), (67, u "err"), (2, u "out"), (91, u "notSupportedJnuEncoding"), (15, u "in"), (17, u "initialIn"), (0, u "Ljava/io/InputStream;"), (35, u "bootLayer"), (0, u "Ljava/lang/ModuleLayer;"), (99, .class_ 664), (0, u "java/lang/System$2"), (9, u "NEVER"), (2, u "MAYBE"), (49, u "arraycopy"), (0, u "(Ljava/lang/Object;ILjava/lang/Object;II)V"), (72, .class_ 802), (0, u "java/lang/System$Logger$Level")] 31

def k15m0 : Method := { name := "<init>", desc := "()V", sig := { parameters := [], returnType := none }, accessFlags := 2, code := none }
def k15m1 : Method := { name := "arraycopy", desc := "(Ljava/lang/Object;ILjava/lang/Object;II)V", sig := { parameters := [(.object "java/lang/Object"), .int, (.object "java/lang/Object"), .int, .int], returnType := none }, accessFlags := 265, code := none }
/-- java/lang/System -/
def k15 : Class := { plain "java/lang/System" (some 0) with
  accessFlags := 49
  interfaces := #[]
  cf := some (fileOf pool15 8 #[.nestMembers #[319, 327, 801, 108, 663, 208]] #[{ accessFlags := 2, nameIndex := 5, descriptorIndex := 6, attributes := #[] }, { accessFlags := 265, nameIndex := 727, descriptorIndex := 728, attributes := #[] }] 49 2 #[] #[{ accessFlags := 25, nameIndex := 507, descriptorIndex := 526, attributes := #[] }, { accessFlags := 25, nameIndex := 399, descriptorIndex := 155, attributes := #[] }, { accessFlags := 25, nameIndex := 396, descriptorIndex := 155, attributes := #[] }, { accessFlags := 10, nameIndex := 525, descriptorIndex := 526, attributes := #[] }, { accessFlags := 26, nameIndex := 674, descriptorIndex := 12, attributes := #[] }, { accessFlags := 26, nameIndex := 677, descriptorIndex := 12, attributes := #[] }, { accessFlags := 10, nameIndex := 11, descriptorIndex := 12, attributes := #[] }, { accessFlags := 74, nameIndex := 175, descriptorIndex := 176, attributes := #[] }, { accessFlags := 10, nameIndex := 491, descriptorIndex := 222, attributes := #[] }, { accessFlags := 74, nameIndex := 29, descriptorIndex := 30, attributes := #[] }, { accessFlags := 74, nameIndex := 154, descriptorIndex := 155, attributes := #[] }, { accessFlags := 10, nameIndex := 217, descriptorIndex := 218, attributes := #[] }, { accessFlags := 10, nameIndex := 221, descriptorIndex := 222, attributes := #[] }, { accessFlags := 8, nameIndex := 562, descriptorIndex := 563, attributes := #[] }])
  fields := #[{ name := "in", type := (.object "java/io/InputStream"), accessFlags := 25, slot := 0, constantValue := 0 }, { name := "out", type := (.object "java/io/PrintStream"), accessFlags := 25, slot := 1, constantValue := 0 }, { name := "err", type := (.object "java/io/PrintStream"), accessFlags := 25, slot := 2, constantValue := 0 }, { name := "initialIn", type := (.object "java/io/InputStream"), accessFlags := 10, slot := 3, constantValue := 0 }, { name := "NEVER", type := .int, accessFlags := 26, slot := 4, constantValue := 0 }, { name := "MAYBE", type := .int, accessFlags := 26, slot := 5, constantValue := 0 }, { name := "allowSecurityManager", type := .int, accessFlags := 10, slot := 6, constantValue := 0 }, { name := "security", type := (.object "java/lang/SecurityManager"), accessFlags := 74, slot := 7, constantValue := 0 }, { name := "notSupportedJnuEncoding", type := (.object "java/lang/String"), accessFlags := 10, slot := 8, constantValue := 0 }, { name := "cons", type := (.object "java/io/Console"), accessFlags := 74, slot := 9, constantValue := 0 }, { name := "initialErrStream", type := (.object "java/io/PrintStream"), accessFlags := 74, slot := 10, constantValue := 0 }, { name := "props", type := (.object "java/util/Properties"), accessFlags := 10, slot := 11, constantValue := 0 }, { name := "lineSeparator", type := (.object "java/lang/String"), accessFlags := 10, slot := 12, constantValue := 0 }, { name := "bootLayer", type := (.object "java/lang/ModuleLayer"), accessFlags := 8, slot := 13, constantValue := 0 }]
  methods := #[k15m0, k15m1]
  instanceTypes := #[]
  staticTypes := #[(.object "java/io/InputStream"), (.object "java/io/PrintStream"), (.object "java/io/PrintStream"), (.object "java/io/InputStream"), .int, .int, .int, (.object "java/lang/SecurityManager"), (.object "java/lang/String"), (.object "java/io/Console"), (.object "java/io/PrintStream"), (.object "java/util/Properties"), (.object "java/lang/String"), (.object "java/lang/ModuleLayer")]
  resolved := Array.replicate 834 none
  statics := none }

def pool16 : Array CpInfo := pool [(4, .class_ 6), (1, u "java/lang/Object"), (0, u "<init>"), (0, u "()V"), (5, .class_ 16), (1, u "java/lang/StringLatin1"), (17, .methodref 14 35), (0, .nameAndType 36 37), (0, u "compareTo"), (0, u "([B[BII)I"), (0, .methodref 39 40), (0, .class_ 41), (0, .nameAndType 42 43), (0, u "java/lang/Math"), (0, u "min"), (0, u "(II)I"), (0, .methodref 45 46), (0, .class_ 47), (0, .nameAndType 48 49), (0, u "jdk/internal/util/ArraysSupport"), (0, u "mismatch"), (0, u "([B[BI)I"), (0, .methodref 14 51), (0, .nameAndType 52 53), (0, u "getChar"), (0, u "([BI)C"), (67, u "$assertionsDisabled"), (0, u "Z"), (98, .class_ 223), (1, u "java/lang/StringLatin1$LinesSpliterator"), (63, u "([B[B)I"), (102, .class_ 391), (0, u "java/lang/StringLatin1$CharsSpliterator")] 3

def k16m0 : Method := { name := "<init>", desc := "()V", sig := { parameters := [], returnType := none }, accessFlags := 0, code := none }
def k16c1 : Code := { maxStack := 4, maxLocals := 4, code := jdk_43_method_14_code, exceptionTable := #[], attributes := #[] }
def k16m1 : Method := { name := "compareTo", desc := "([B[B)I", sig := { parameters := [(.array .byte), (.array .byte)], returnType := some .int }, accessFlags := 9, code := some k16c1 }
def k16c2 : Code := { maxStack := 3, maxLocals := 6, code := jdk_43_method_15_code, exceptionTable := #[], attributes := #[] }
def k16m2 : Method := { name := "compareTo", desc := "([B[BII)I", sig := { parameters := [(.array .byte), (.array .byte), .int, .int], returnType := some .int }, accessFlags := 9, code := some k16c2 }
def k16c3 : Code := { maxStack := 2, maxLocals := 2, code := jdk_43_method_44_code, exceptionTable := #[], attributes := #[] }
def k16m3 : Method := { name := "getChar", desc := "([BI)C", sig := { parameters := [(.array .byte), .int], returnType := some .char }, accessFlags := 9, code := some k16c3 }
/-- java/lang/StringLatin1 -/
def k16 : Class := { plain "java/lang/StringLatin1" (some 0) with
  accessFlags := 48
  interfaces := #[]
  cf := some (fileOf pool16 14 #[.nestMembers #[390, 221]] #[{ accessFlags := 0, nameIndex := 7, descriptorIndex := 8, attributes := #[] }, { accessFlags := 9, nameIndex := 36, descriptorIndex := 287, attributes := #[] }, { accessFlags := 9, nameIndex := 36, descriptorIndex := 37, attributes := #[] }, { accessFlags := 9, nameIndex := 52, descriptorIndex := 53, attributes := #[] }] 48 4 #[] #[{ accessFlags := 4120, nameIndex := 121, descriptorIndex := 122, attributes := #[] }])
  fields := #[{ name := "$assertionsDisabled", type := .boolean, accessFlags := 4120, slot := 0, constantValue := 0 }]
  methods := #[k16m0, k16m1, k16m2, k16m3]
  instanceTypes := #[]
  staticTypes := #[.boolean]
  resolved := Array.replicate 395 none
  statics := none }

def pool17 : Array CpInfo := pool [(9, u "<init>"), (6, .class_ 18), (1, u "java/lang/Object"), (0, u "()V"), (1, .class_ 23), (1, u "jdk/internal/util/ArraysSupport"), (0, u "LOG2_ARRAY_LONG_INDEX_SCALE"), (0, u "I"), (2, u "U"), (0, u "Ljdk/internal/misc/Unsafe;"), (8, u "BIG_ENDIAN"), (0, u "Z"), (8, u "LOG2_BYTE_BIT_SIZE"), (4, u "LOG2_ARRAY_INT_INDEX_SCALE"), (54, u "JLA"), (0, u "Ljdk/internal/access/JavaLangAccess;"), (11, u "LOG2_ARRAY_BOOLEAN_INDEX_SCALE"), (9, u "LOG2_ARRAY_BYTE_INDEX_SCALE"), (5, u "LOG2_ARRAY_CHAR_INDEX_SCALE"), (5, u "LOG2_ARRAY_SHORT_INDEX_SCALE"), (5, u "mismatch"), (12, u "LOG2_ARRAY_FLOAT_INDEX_SCALE"), (24, u "LOG2_ARRAY_DOUBLE_INDEX_SCALE"), (89, u "T_BOOLEAN"), (2, u "T_CHAR"), (1, u "T_FLOAT"), (1, u "T_DOUBLE"), (1, u "T_BYTE"), (1, u "T_SHORT"), (1, u "T_INT"), (1, u "T_LONG"), (1, u "SOFT_MAX_ARRAY_LENGTH"), (41, u "([B[BI)I")] 41

def k17m0 : Method := { name := "<init>", desc := "()V", sig := { parameters := [], returnType := none }, accessFlags := 2, code := none }
def k17c1 : Code := { maxStack := 8, maxLocals := 4, code := jdk_48_method_13_code, exceptionTable := #[], attributes := #[] }
def k17m1 : Method := { name := "mismatch", desc := "([B[BI)I", sig := { parameters := [(.array .byte), (.array .byte), .int], returnType := some .int }, accessFlags := 9, code := some k17c1 }
/-- jdk/internal/util/ArraysSupport -/
def k17 : Class := { plain "jdk/internal/util/ArraysSupport" (some 0) with
  accessFlags := 33
  interfaces := #[]
  cf := some (fileOf pool17 21 #[] #[{ accessFlags := 2, nameIndex := 9, descriptorIndex := 19, attributes := #[] }, { accessFlags := 9, nameIndex := 149, descriptorIndex := 336, attributes := #[] }] 33 16 #[] #[{ accessFlags := 24, nameIndex := 28, descriptorIndex := 29, attributes := #[] }, { accessFlags := 26, nameIndex := 38, descriptorIndex := 39, attributes := #[] }, { accessFlags := 25, nameIndex := 121, descriptorIndex := 25, attributes := #[] }, { accessFlags := 25, nameIndex := 131, descriptorIndex := 25, attributes := #[] }, { accessFlags := 25, nameIndex := 137, descriptorIndex := 25, attributes := #[] }, { accessFlags := 25, nameIndex := 143, descriptorIndex := 25, attributes := #[] }, { accessFlags := 25, nameIndex := 53, descriptorIndex := 25, attributes := #[] }, { accessFlags := 25, nameIndex := 24, descriptorIndex := 25, attributes := #[] }, { accessFlags := 25, nameIndex := 162, descriptorIndex := 25, attributes := #[] }, { accessFlags := 25, nameIndex := 187, descriptorIndex := 25, attributes := #[] }, { accessFlags := 26, nameIndex := 48, descriptorIndex := 25, attributes := #[] }, { accessFlags := 25, nameIndex := 277, descriptorIndex := 25, attributes := #[] }, { accessFlags := 25, nameIndex := 280, descriptorIndex := 25, attributes := #[] }, { accessFlags := 25, nameIndex := 282, descriptorIndex := 25, attributes := #[] }, { accessFlags := 25, nameIndex := 284, descriptorIndex := 25, attributes := #[] }, { accessFlags := 25, nameIndex := 286, descriptorIndex := 25, attributes := #[] }, { accessFlags := 25, nameIndex := 288, descriptorIndex := 25, attributes := #[] }, { accessFlags := 25, nameIndex := 290, descriptorIndex := 25, attributes := #[] }, { accessFlags := 25, nameIndex := 292, descriptorIndex := 25, attributes := #[] }, { accessFlags := 26, nameIndex := 108, descriptorIndex := 109, attributes := #[] }, { accessFlags := 25, nameIndex := 294, descriptorIndex := 25, attributes := #[] }])
  fields := #[{ name := "U", type := (.object "jdk/internal/misc/Unsafe"), accessFlags := 24, slot := 0, constantValue := 0 }, { name := "BIG_ENDIAN", type := .boolean, accessFlags := 26, slot := 1, constantValue := 0 }, { name := "LOG2_ARRAY_BOOLEAN_INDEX_SCALE", type := .int, accessFlags := 25, slot := 2, constantValue := 0 }, { name := "LOG2_ARRAY_BYTE_INDEX_SCALE", type := .int, accessFlags := 25, slot := 3, constantValue := 0 }, { name := "LOG2_ARRAY_CHAR_INDEX_SCALE", type := .int, accessFlags := 25, slot := 4, constantValue := 0 }, { name := "LOG2_ARRAY_SHORT_INDEX_SCALE", type := .int, accessFlags := 25, slot := 5, constantValue := 0 }, { name := "LOG2_ARRAY_INT_INDEX_SCALE", type := .int, accessFlags := 25, slot := 6, constantValue := 0 }, { name := "LOG2_ARRAY_LONG_INDEX_SCALE", type := .int, accessFlags := 25, slot := 7, constantValue := 0 }, { name := "LOG2_ARRAY_FLOAT_INDEX_SCALE", type := .int, accessFlags := 25, slot := 8, constantValue := 0 }, { name := "LOG2_ARRAY_DOUBLE_INDEX_SCALE", type := .int, accessFlags := 25, slot := 9, constantValue := 0 }, { name := "LOG2_BYTE_BIT_SIZE", type := .int, accessFlags := 26, slot := 10, constantValue := 0 }, { name := "T_BOOLEAN", type := .int, accessFlags := 25, slot := 11, constantValue := 0 }, { name := "T_CHAR", type := .int, accessFlags := 25, slot := 12, constantValue := 0 }, { name := "T_FLOAT", type := .int, accessFlags := 25, slot := 13, constantValue := 0 }, { name := "T_DOUBLE", type := .int, accessFlags := 25, slot := 14, constantValue := 0 }, { name := "T_BYTE", type := .int, accessFlags := 25, slot := 15, constantValue := 0 }, { name := "T_SHORT", type := .int, accessFlags := 25, slot := 16, constantValue := 0 }, { name := "T_INT", type := .int, accessFlags := 25, slot := 17, constantValue := 0 }, { name := "T_LONG", type := .int, accessFlags := 25, slot := 18, constantValue := 0 }, { name := "JLA", type := (.object "jdk/internal/access/JavaLangAccess"), accessFlags := 26, slot := 19, constantValue := 0 }, { name := "SOFT_MAX_ARRAY_LENGTH", type := .int, accessFlags := 25, slot := 20, constantValue := 0 }]
  methods := #[k17m0, k17m1]
  instanceTypes := #[]
  staticTypes := #[(.object "jdk/internal/misc/Unsafe"), .boolean, .int, .int, .int, .int, .int, .int, .int, .int, .int, .int, .int, .int, .int, .int, .int, .int, .int, (.object "jdk/internal/access/JavaLangAccess"), .int]
  resolved := Array.replicate 378 none
  statics := none }

def pool18 : Array CpInfo := pool [(2, .class_ 4), (1, u "java/lang/Object"), (0, u "<init>"), (0, u "()V"), (17, .class_ 26), (1, u "jdk/internal/util/Preconditions"), (28, .class_ 56), (0, u "jdk/internal/util/Preconditions$4"), (57, .class_ 115), (0, u "jdk/internal/util/Preconditions$1"), (7, u "SIOOBE_FORMATTER"), (0, u "Ljava/util/function/BiFunction;"), (0, .class_ 126), (0, u "jdk/internal/util/Preconditions$2"), (3, u "AIOOBE_FORMATTER"), (0, .class_ 132), (0, u "jdk/internal/util/Preconditions$3"), (3, u "IOOBE_FORMATTER")] 57

def k18m0 : Method := { name := "<init>", desc := "()V", sig := { parameters := [], returnType := none }, accessFlags := 1, code := none }
/-- jdk/internal/util/Preconditions -/
def k18 : Class := { plain "jdk/internal/util/Preconditions" (some 0) with
  accessFlags := 33
  interfaces := #[]
  cf := some (fileOf pool18 24 #[.nestMembers #[55, 131, 125, 114]] #[{ accessFlags := 1, nameIndex := 5, descriptorIndex := 6, attributes := #[] }] 33 2 #[] #[{ accessFlags := 25, nameIndex := 123, descriptorIndex := 124, attributes := #[] }, { accessFlags := 25, nameIndex := 130, descriptorIndex := 124, attributes := #[] }, { accessFlags := 25, nameIndex := 136, descriptorIndex := 124, attributes := #[] }])
  fields := #[{ name := "SIOOBE_FORMATTER", type := (.object "java/util/function/BiFunction"), accessFlags := 25, slot := 0, constantValue := 0 }, { name := "AIOOBE_FORMATTER", type := (.object "java/util/function/BiFunction"), accessFlags := 25, slot := 1, constantValue := 0 }, { name := "IOOBE_FORMATTER", type := (.object "java/util/function/BiFunction"), accessFlags := 25, slot := 2, constantValue := 0 }]
  methods := #[k18m0]
  instanceTypes := #[]
  staticTypes := #[(.object "java/util/function/BiFunction"), (.object "java/util/function/BiFunction"), (.object "java/util/function/BiFunction")]
  resolved := Array.replicate 194 none
  statics := some 2 }

def pool19 : Array CpInfo := pool [(1, u "java/lang/Cloneable"), (0, .class_ 1), (0, u "java/lang/Object"), (0, .class_ 3)] 3

/-- java/lang/Cloneable -/
def k19 : Class := { plain "java/lang/Cloneable" (some 0) with
  accessFlags := 1537
  interfaces := #[]
  cf := some (fileOf pool19 2 #[] #[] 1537 4 #[] #[])
  fields := #[]
  methods := #[]
  instanceTypes := #[]
  staticTypes := #[]
  resolved := Array.replicate 8 none
  statics := none }

/-- the primitive byte -/
def k20 : Class := { plain "byte" none with kind := .primitive 'B', accessFlags := 0x411 }
/-- [B -/
def k21 : Class := { plain "[B" (some 0) with kind := .array 20 .byte, interfaces := #[19, 2], accessFlags := 1041 }

/-- the primitive char -/
def k22 : Class := { plain "char" none with kind := .primitive 'C', accessFlags := 0x411 }
/-- [C -/
def k23 : Class := { plain "[C" (some 0) with kind := .array 22 .char, interfaces := #[19, 2], accessFlags := 1041 }

/-- the primitive int -/
def k24 : Class := { plain "int" none with kind := .primitive 'I', accessFlags := 0x411 }
/-- [I -/
def k25 : Class := { plain "[I" (some 0) with kind := .array 24 .int, interfaces := #[19, 2], accessFlags := 1041 }

/-- [Ljava/lang/Integer; -/
def k26 : Class := { plain "[Ljava/lang/Integer;" (some 0) with kind := .array 10 (.object "java/lang/Integer"), interfaces := #[19, 2], accessFlags := 1041 }

/-- [Ljava/lang/Object; -/
def k27 : Class := { plain "[Ljava/lang/Object;" (some 0) with kind := .array 0 (.object "java/lang/Object"), interfaces := #[19, 2], accessFlags := 1041 }

def heap : Heap := #[{ cls := 7, slots := #[.long 0, .int 1, .null, .int 0, .null, .int 0, .int 0], vm := .statics 7 },
  { cls := 11, slots := #[.int 0, .int 127, .ref 3, .null, .int 0], vm := .statics 11 },
  { cls := 18, slots := #[.null, .null, .null], vm := .statics 18 },
  { cls := 26, slots := #[.ref 4, .ref 5, .ref 6, .ref 7, .ref 8, .ref 9, .ref 10, .ref 11, .ref 12, .ref 13, .ref 14, .ref 15, .ref 16, .ref 17, .ref 18, .ref 19, .ref 20, .ref 21, .ref 22, .ref 23, .ref 24, .ref 25, .ref 26, .ref 27, .ref 28, .ref 29, .ref 30, .ref 31, .ref 32, .ref 33, .ref 34, .ref 35, .ref 36, .ref 37, .ref 38, .ref 39, .ref 40, .ref 41, .ref 42, .ref 43, .ref 44, .ref 45, .ref 46, .ref 47, .ref 48, .ref 49, .ref 50, .ref 51, .ref 52, .ref 53, .ref 54, .ref 55, .ref 56, .ref 57, .ref 58, .ref 59, .ref 60, .ref 61, .ref 62, .ref 63, .ref 64, .ref 65, .ref 66, .ref 67, .ref 68, .ref 69, .ref 70, .ref 71, .ref 72, .ref 73, .ref 74, .ref 75, .ref 76, .ref 77, .ref 78, .ref 79, .ref 80, .ref 81, .ref 82, .ref 83, .ref 84, .ref 85, .ref 86, .ref 87, .ref 88, .ref 89, .ref 90, .ref 91, .ref 92, .ref 93, .ref 94, .ref 95, .ref 96, .ref 97, .ref 98, .ref 99, .ref 100, .ref 101, .ref 102, .ref 103, .ref 104, .ref 105, .ref 106, .ref 107, .ref 108, .ref 109, .ref 110, .ref 111, .ref 112, .ref 113, .ref 114, .ref 115, .ref 116, .ref 117, .ref 118, .ref 119, .ref 120, .ref 121, .ref 122, .ref 123, .ref 124, .ref 125, .ref 126, .ref 127, .ref 128, .ref 129, .ref 130, .ref 131, .ref 132, .ref 133, .ref 134, .ref 135, .ref 136, .ref 137, .ref 138, .ref 139, .ref 140, .ref 141, .ref 142, .ref 143, .ref 144, .ref 145, .ref 146, .ref 147, .ref 148, .ref 149, .ref 150, .ref 151, .ref 152, .ref 153, .ref 154, .ref 155, .ref 156, .ref 157, .ref 158, .ref 159, .ref 160, .ref 161, .ref 162, .ref 163, .ref 164, .ref 165, .ref 166, .ref 167, .ref 168, .ref 169, .ref 170, .ref 171, .ref 172, .ref 173, .ref 174, .ref 175, .ref 176, .ref 177, .ref 178, .ref 179, .ref 180, .ref 181, .ref 182, .ref 183, .ref 184, .ref 185, .ref 186, .ref 187, .ref 188, .ref 189, .ref 190, .ref 191, .ref 192, .ref 193, .ref 194, .ref 195, .ref 196, .ref 197, .ref 198, .ref 199, .ref 200, .ref 201, .ref 202, .ref 203, .ref 204, .ref 205, .ref 206, .ref 207, .ref 208, .ref 209, .ref 210, .ref 211, .ref 212, .ref 213, .ref 214, .ref 215, .ref 216, .ref 217, .ref 218, .ref 219, .ref 220, .ref 221, .ref 222, .ref 223, .ref 224, .ref 225, .ref 226, .ref 227, .ref 228, .ref 229, .ref 230, .ref 231, .ref 232, .ref 233, .ref 234, .ref 235, .ref 236, .ref 237, .ref 238, .ref 239, .ref 240, .ref 241, .ref 242, .ref 243, .ref 244, .ref 245, .ref 246, .ref 247, .ref 248, .ref 249, .ref 250, .ref 251, .ref 252, .ref 253, .ref 254, .ref 255, .ref 256, .ref 257, .ref 258, .ref 259], vm := .none },
  { cls := 10, slots := #[.int (-128)], vm := .none },
  { cls := 10, slots := #[.int (-127)], vm := .none },
  { cls := 10, slots := #[.int (-126)], vm := .none },
  { cls := 10, slots := #[.int (-125)], vm := .none },
  { cls := 10, slots := #[.int (-124)], vm := .none },
  { cls := 10, slots := #[.int (-123)], vm := .none },
  { cls := 10, slots := #[.int (-122)], vm := .none },
  { cls := 10, slots := #[.int (-121)], vm := .none },
  { cls := 10, slots := #[.int (-120)], vm := .none },
  { cls := 10, slots := #[.int (-119)], vm := .none },
  { cls := 10, slots := #[.int (-118)], vm := .none },
  { cls := 10, slots := #[.int (-117)], vm := .none },
  { cls := 10, slots := #[.int (-116)], vm := .none },
  { cls := 10, slots := #[.int (-115)], vm := .none },
  { cls := 10, slots := #[.int (-114)], vm := .none },
  { cls := 10, slots := #[.int (-113)], vm := .none },
  { cls := 10, slots := #[.int (-112)], vm := .none },
  { cls := 10, slots := #[.int (-111)], vm := .none },
  { cls := 10, slots := #[.int (-110)], vm := .none },
  { cls := 10, slots := #[.int (-109)], vm := .none },
  { cls := 10, slots := #[.int (-108)], vm := .none },
  { cls := 10, slots := #[.int (-107)], vm := .none },
  { cls := 10, slots := #[.int (-106)], vm := .none },
  { cls := 10, slots := #[.int (-105)], vm := .none },
  { cls := 10, slots := #[.int (-104)], vm := .none },
  { cls := 10, slots := #[.int (-103)], vm := .none },
  { cls := 10, slots := #[.int (-102)], vm := .none },
  { cls := 10, slots := #[.int (-101)], vm := .none },
  { cls := 10, slots := #[.int (-100)], vm := .none },
  { cls := 10, slots := #[.int (-99)], vm := .none },
  { cls := 10, slots := #[.int (-98)], vm := .none },
  { cls := 10, slots := #[.int (-97)], vm := .none },
  { cls := 10, slots := #[.int (-96)], vm := .none },
  { cls := 10, slots := #[.int (-95)], vm := .none },
  { cls := 10, slots := #[.int (-94)], vm := .none },
  { cls := 10, slots := #[.int (-93)], vm := .none },
  { cls := 10, slots := #[.int (-92)], vm := .none },
  { cls := 10, slots := #[.int (-91)], vm := .none },
  { cls := 10, slots := #[.int (-90)], vm := .none },
  { cls := 10, slots := #[.int (-89)], vm := .none },
  { cls := 10, slots := #[.int (-88)], vm := .none },
  { cls := 10, slots := #[.int (-87)], vm := .none },
  { cls := 10, slots := #[.int (-86)], vm := .none },
  { cls := 10, slots := #[.int (-85)], vm := .none },
  { cls := 10, slots := #[.int (-84)], vm := .none },
  { cls := 10, slots := #[.int (-83)], vm := .none },
  { cls := 10, slots := #[.int (-82)], vm := .none },
  { cls := 10, slots := #[.int (-81)], vm := .none },
  { cls := 10, slots := #[.int (-80)], vm := .none },
  { cls := 10, slots := #[.int (-79)], vm := .none },
  { cls := 10, slots := #[.int (-78)], vm := .none },
  { cls := 10, slots := #[.int (-77)], vm := .none },
  { cls := 10, slots := #[.int (-76)], vm := .none },
  { cls := 10, slots := #[.int (-75)], vm := .none },
  { cls := 10, slots := #[.int (-74)], vm := .none },
  { cls := 10, slots := #[.int (-73)], vm := .none },
  { cls := 10, slots := #[.int (-72)], vm := .none },
  { cls := 10, slots := #[.int (-71)], vm := .none },
  { cls := 10, slots := #[.int (-70)], vm := .none },
  { cls := 10, slots := #[.int (-69)], vm := .none },
  { cls := 10, slots := #[.int (-68)], vm := .none },
  { cls := 10, slots := #[.int (-67)], vm := .none },
  { cls := 10, slots := #[.int (-66)], vm := .none },
  { cls := 10, slots := #[.int (-65)], vm := .none },
  { cls := 10, slots := #[.int (-64)], vm := .none },
  { cls := 10, slots := #[.int (-63)], vm := .none },
  { cls := 10, slots := #[.int (-62)], vm := .none },
  { cls := 10, slots := #[.int (-61)], vm := .none },
  { cls := 10, slots := #[.int (-60)], vm := .none },
  { cls := 10, slots := #[.int (-59)], vm := .none },
  { cls := 10, slots := #[.int (-58)], vm := .none },
  { cls := 10, slots := #[.int (-57)], vm := .none },
  { cls := 10, slots := #[.int (-56)], vm := .none },
  { cls := 10, slots := #[.int (-55)], vm := .none },
  { cls := 10, slots := #[.int (-54)], vm := .none },
  { cls := 10, slots := #[.int (-53)], vm := .none },
  { cls := 10, slots := #[.int (-52)], vm := .none },
  { cls := 10, slots := #[.int (-51)], vm := .none },
  { cls := 10, slots := #[.int (-50)], vm := .none },
  { cls := 10, slots := #[.int (-49)], vm := .none },
  { cls := 10, slots := #[.int (-48)], vm := .none },
  { cls := 10, slots := #[.int (-47)], vm := .none },
  { cls := 10, slots := #[.int (-46)], vm := .none },
  { cls := 10, slots := #[.int (-45)], vm := .none },
  { cls := 10, slots := #[.int (-44)], vm := .none },
  { cls := 10, slots := #[.int (-43)], vm := .none },
  { cls := 10, slots := #[.int (-42)], vm := .none },
  { cls := 10, slots := #[.int (-41)], vm := .none },
  { cls := 10, slots := #[.int (-40)], vm := .none },
  { cls := 10, slots := #[.int (-39)], vm := .none },
  { cls := 10, slots := #[.int (-38)], vm := .none },
  { cls := 10, slots := #[.int (-37)], vm := .none },
  { cls := 10, slots := #[.int (-36)], vm := .none },
  { cls := 10, slots := #[.int (-35)], vm := .none },
  { cls := 10, slots := #[.int (-34)], vm := .none },
  { cls := 10, slots := #[.int (-33)], vm := .none },
  { cls := 10, slots := #[.int (-32)], vm := .none },
  { cls := 10, slots := #[.int (-31)], vm := .none },
  { cls := 10, slots := #[.int (-30)], vm := .none },
  { cls := 10, slots := #[.int (-29)], vm := .none },
  { cls := 10, slots := #[.int (-28)], vm := .none },
  { cls := 10, slots := #[.int (-27)], vm := .none },
  { cls := 10, slots := #[.int (-26)], vm := .none },
  { cls := 10, slots := #[.int (-25)], vm := .none },
  { cls := 10, slots := #[.int (-24)], vm := .none },
  { cls := 10, slots := #[.int (-23)], vm := .none },
  { cls := 10, slots := #[.int (-22)], vm := .none },
  { cls := 10, slots := #[.int (-21)], vm := .none },
  { cls := 10, slots := #[.int (-20)], vm := .none },
  { cls := 10, slots := #[.int (-19)], vm := .none },
  { cls := 10, slots := #[.int (-18)], vm := .none },
  { cls := 10, slots := #[.int (-17)], vm := .none },
  { cls := 10, slots := #[.int (-16)], vm := .none },
  { cls := 10, slots := #[.int (-15)], vm := .none },
  { cls := 10, slots := #[.int (-14)], vm := .none },
  { cls := 10, slots := #[.int (-13)], vm := .none },
  { cls := 10, slots := #[.int (-12)], vm := .none },
  { cls := 10, slots := #[.int (-11)], vm := .none },
  { cls := 10, slots := #[.int (-10)], vm := .none },
  { cls := 10, slots := #[.int (-9)], vm := .none },
  { cls := 10, slots := #[.int (-8)], vm := .none },
  { cls := 10, slots := #[.int (-7)], vm := .none },
  { cls := 10, slots := #[.int (-6)], vm := .none },
  { cls := 10, slots := #[.int (-5)], vm := .none },
  { cls := 10, slots := #[.int (-4)], vm := .none },
  { cls := 10, slots := #[.int (-3)], vm := .none },
  { cls := 10, slots := #[.int (-2)], vm := .none },
  { cls := 10, slots := #[.int (-1)], vm := .none },
  { cls := 10, slots := #[.int (0)], vm := .none },
  { cls := 10, slots := #[.int (1)], vm := .none },
  { cls := 10, slots := #[.int (2)], vm := .none },
  { cls := 10, slots := #[.int (3)], vm := .none },
  { cls := 10, slots := #[.int (4)], vm := .none },
  { cls := 10, slots := #[.int (5)], vm := .none },
  { cls := 10, slots := #[.int (6)], vm := .none },
  { cls := 10, slots := #[.int (7)], vm := .none },
  { cls := 10, slots := #[.int (8)], vm := .none },
  { cls := 10, slots := #[.int (9)], vm := .none },
  { cls := 10, slots := #[.int (10)], vm := .none },
  { cls := 10, slots := #[.int (11)], vm := .none },
  { cls := 10, slots := #[.int (12)], vm := .none },
  { cls := 10, slots := #[.int (13)], vm := .none },
  { cls := 10, slots := #[.int (14)], vm := .none },
  { cls := 10, slots := #[.int (15)], vm := .none },
  { cls := 10, slots := #[.int (16)], vm := .none },
  { cls := 10, slots := #[.int (17)], vm := .none },
  { cls := 10, slots := #[.int (18)], vm := .none },
  { cls := 10, slots := #[.int (19)], vm := .none },
  { cls := 10, slots := #[.int (20)], vm := .none },
  { cls := 10, slots := #[.int (21)], vm := .none },
  { cls := 10, slots := #[.int (22)], vm := .none },
  { cls := 10, slots := #[.int (23)], vm := .none },
  { cls := 10, slots := #[.int (24)], vm := .none },
  { cls := 10, slots := #[.int (25)], vm := .none },
  { cls := 10, slots := #[.int (26)], vm := .none },
  { cls := 10, slots := #[.int (27)], vm := .none },
  { cls := 10, slots := #[.int (28)], vm := .none },
  { cls := 10, slots := #[.int (29)], vm := .none },
  { cls := 10, slots := #[.int (30)], vm := .none },
  { cls := 10, slots := #[.int (31)], vm := .none },
  { cls := 10, slots := #[.int (32)], vm := .none },
  { cls := 10, slots := #[.int (33)], vm := .none },
  { cls := 10, slots := #[.int (34)], vm := .none },
  { cls := 10, slots := #[.int (35)], vm := .none },
  { cls := 10, slots := #[.int (36)], vm := .none },
  { cls := 10, slots := #[.int (37)], vm := .none },
  { cls := 10, slots := #[.int (38)], vm := .none },
  { cls := 10, slots := #[.int (39)], vm := .none },
  { cls := 10, slots := #[.int (40)], vm := .none },
  { cls := 10, slots := #[.int (41)], vm := .none },
  { cls := 10, slots := #[.int (42)], vm := .none },
  { cls := 10, slots := #[.int (43)], vm := .none },
  { cls := 10, slots := #[.int (44)], vm := .none },
  { cls := 10, slots := #[.int (45)], vm := .none },
  { cls := 10, slots := #[.int (46)], vm := .none },
  { cls := 10, slots := #[.int (47)], vm := .none },
  { cls := 10, slots := #[.int (48)], vm := .none },
  { cls := 10, slots := #[.int (49)], vm := .none },
  { cls := 10, slots := #[.int (50)], vm := .none },
  { cls := 10, slots := #[.int (51)], vm := .none },
  { cls := 10, slots := #[.int (52)], vm := .none },
  { cls := 10, slots := #[.int (53)], vm := .none },
  { cls := 10, slots := #[.int (54)], vm := .none },
  { cls := 10, slots := #[.int (55)], vm := .none },
  { cls := 10, slots := #[.int (56)], vm := .none },
  { cls := 10, slots := #[.int (57)], vm := .none },
  { cls := 10, slots := #[.int (58)], vm := .none },
  { cls := 10, slots := #[.int (59)], vm := .none },
  { cls := 10, slots := #[.int (60)], vm := .none },
  { cls := 10, slots := #[.int (61)], vm := .none },
  { cls := 10, slots := #[.int (62)], vm := .none },
  { cls := 10, slots := #[.int (63)], vm := .none },
  { cls := 10, slots := #[.int (64)], vm := .none },
  { cls := 10, slots := #[.int (65)], vm := .none },
  { cls := 10, slots := #[.int (66)], vm := .none },
  { cls := 10, slots := #[.int (67)], vm := .none },
  { cls := 10, slots := #[.int (68)], vm := .none },
  { cls := 10, slots := #[.int (69)], vm := .none },
  { cls := 10, slots := #[.int (70)], vm := .none },
  { cls := 10, slots := #[.int (71)], vm := .none },
  { cls := 10, slots := #[.int (72)], vm := .none },
  { cls := 10, slots := #[.int (73)], vm := .none },
  { cls := 10, slots := #[.int (74)], vm := .none },
  { cls := 10, slots := #[.int (75)], vm := .none },
  { cls := 10, slots := #[.int (76)], vm := .none },
  { cls := 10, slots := #[.int (77)], vm := .none },
  { cls := 10, slots := #[.int (78)], vm := .none },
  { cls := 10, slots := #[.int (79)], vm := .none },
  { cls := 10, slots := #[.int (80)], vm := .none },
  { cls := 10, slots := #[.int (81)], vm := .none },
  { cls := 10, slots := #[.int (82)], vm := .none },
  { cls := 10, slots := #[.int (83)], vm := .none },
  { cls := 10, slots := #[.int (84)], vm := .none },
  { cls := 10, slots := #[.int (85)], vm := .none },
  { cls := 10, slots := #[.int (86)], vm := .none },
  { cls := 10, slots := #[.int (87)], vm := .none },
  { cls := 10, slots := #[.int (88)], vm := .none },
  { cls := 10, slots := #[.int (89)], vm := .none },
  { cls := 10, slots := #[.int (90)], vm := .none },
  { cls := 10, slots := #[.int (91)], vm := .none },
  { cls := 10, slots := #[.int (92)], vm := .none },
  { cls := 10, slots := #[.int (93)], vm := .none },
  { cls := 10, slots := #[.int (94)], vm := .none },
  { cls := 10, slots := #[.int (95)], vm := .none },
  { cls := 10, slots := #[.int (96)], vm := .none },
  { cls := 10, slots := #[.int (97)], vm := .none },
  { cls := 10, slots := #[.int (98)], vm := .none },
  { cls := 10, slots := #[.int (99)], vm := .none },
  { cls := 10, slots := #[.int (100)], vm := .none },
  { cls := 10, slots := #[.int (101)], vm := .none },
  { cls := 10, slots := #[.int (102)], vm := .none },
  { cls := 10, slots := #[.int (103)], vm := .none },
  { cls := 10, slots := #[.int (104)], vm := .none },
  { cls := 10, slots := #[.int (105)], vm := .none },
  { cls := 10, slots := #[.int (106)], vm := .none },
  { cls := 10, slots := #[.int (107)], vm := .none },
  { cls := 10, slots := #[.int (108)], vm := .none },
  { cls := 10, slots := #[.int (109)], vm := .none },
  { cls := 10, slots := #[.int (110)], vm := .none },
  { cls := 10, slots := #[.int (111)], vm := .none },
  { cls := 10, slots := #[.int (112)], vm := .none },
  { cls := 10, slots := #[.int (113)], vm := .none },
  { cls := 10, slots := #[.int (114)], vm := .none },
  { cls := 10, slots := #[.int (115)], vm := .none },
  { cls := 10, slots := #[.int (116)], vm := .none },
  { cls := 10, slots := #[.int (117)], vm := .none },
  { cls := 10, slots := #[.int (118)], vm := .none },
  { cls := 10, slots := #[.int (119)], vm := .none },
  { cls := 10, slots := #[.int (120)], vm := .none },
  { cls := 10, slots := #[.int (121)], vm := .none },
  { cls := 10, slots := #[.int (122)], vm := .none },
  { cls := 10, slots := #[.int (123)], vm := .none },
  { cls := 10, slots := #[.int (124)], vm := .none },
  { cls := 10, slots := #[.int (125)], vm := .none },
  { cls := 10, slots := #[.int (126)], vm := .none },
  { cls := 10, slots := #[.int (127)], vm := .none }]
def classes : Array Class := #[k0, k1, k2, k3, k4, k5, k6, k7, k8, k9, k10, k11, k12, k13, k14, k15, k16, k17, k18, k19, k20, k21, k22, k23, k24, k25, k26, k27]
def interned : List (Array UInt16 × Addr) := []
def slotsUsed : Nat := 527
def theMethod : MethodId := ⟨1, 2⟩
def args0 : Array Value := #[.int 5, .int 6, .int 7, .int 2]
def aboutOver (below : List Frame) : State where
  vm := { classes := classes, interned := interned.toArray }
  heap := heap
  slotsUsed := slotsUsed
  threads := #[{ frames := .invoking theMethod args0 :: below }]
def below0 : List Frame := [.native { method := ⟨0, 0⟩, args := #[] }]
def about1 : State := aboutOver below0
def p0 : Program := .bare "" "" ""
def e0 : Env := launch0.env 0 0 0
theorem w_frames : about1.frames = Frame.invoking theMethod args0 :: below0 := rfl
set_option maxRecDepth 65536 in
theorem w_args : argsFit about1.vm theMethod args0 = true := by decide +kernel
set_option maxRecDepth 65536 in
theorem w_heap : heapFits about1 = true := by decide +kernel
set_option maxRecDepth 65536 in
theorem w_runnable : about1.curStatus? = some .runnable := by decide +kernel
set_option maxRecDepth 65536 in
theorem w_alone : about1.alone = true := by decide +kernel
set_option maxRecDepth 65536 in
theorem w_named : about1.methodNamed? x = some theMethod := by decide +kernel
set_option maxRecDepth 65536 in
theorem w_hears : about1.hears theMethod below0 = true := by decide +kernel
set_option maxRecDepth 65536 in
theorem w_ripe : about1.ripe theMethod args0 below0 = true := by decide +kernel
theorem w_running : about1.status = .running := rfl
set_option maxRecDepth 65536 in
theorem w_room : about1.hasRoom e0.platform room_1 = true :=
  launch0.hasRoom_least _ room_1 (by decide +kernel) (by decide +kernel) (by decide +kernel) (by decide +kernel) (by decide +kernel) (by decide +kernel)
theorem allAtoms_all (ts : List Jvm.Cond) (a : Array Jvm.Value) (st : Jvm.State) : (allAtoms ts).before a st = ts.all (fun c => c.before a st) := by
  induction ts with
  | nil => rfl
  | cons c t ih =>
    show (Jvm.Cond.and c (allAtoms t)).before a st = _
    rw [Jvm.Cond.before_and, ih, List.all_cons]
def words1 : List Jvm.Cond := Jvm.Cond.code x code maxLocals ret :: tables_1
/-- a 'code' word, met by the world's own term for the bytes: nothing is compared byte by byte -/
theorem code_word {y : MethodName} {bytes : ByteArray} {mx : Nat} {rt : Option FieldType} {a : Array Value} {s : State} {m : MethodId} {meth : Method} {c : Code} (h1 : s.methodNamed? y = some m) (h2 : s.vm.method? m = some meth) (h3 : meth.code = some c) (h4 : c.code = bytes)
    (h5 : (c.maxLocals == mx && c.exceptionTable.isEmpty && decide (c.maxStack ≤ mostOperands) && decide (meth.sig.returnType = rt) && !meth.locks && decide (parseMethodDescriptor y.desc = some meth.sig)) = true) : (Jvm.Cond.code y bytes mx rt).before a s = true := by
  simp only [Bool.and_eq_true, beq_iff_eq, Bool.not_eq_true', decide_eq_true_eq] at h5
  obtain ⟨⟨⟨⟨⟨g1, g2⟩, g3⟩, g4⟩, g5⟩, g6⟩ := h5
  simp [Cond.before, Cond.holds, Cond.value, h1, h2, h3, h4, g1, g2, g3, g4, g5, g6]
def isCode : Jvm.Cond → Bool
  | .code _ _ _ _ => true
  | _ => false
theorem all_split {L : List Jvm.Cond} {P : Jvm.Cond → Bool} (h1 : L.all (fun c => isCode c || P c) = true) (h2 : ∀ c ∈ L.filter isCode, P c = true) : L.all P = true := by
  refine List.all_eq_true.mpr fun c hc => ?_
  have h := List.all_eq_true.mp h1 c hc
  rcases Bool.eq_false_or_eq_true (isCode c) with hi | hi
  · exact h2 c (List.mem_filter.mpr ⟨hc, hi⟩)
  · simpa [hi] using h
set_option maxRecDepth 65536 in
theorem w_c0 : (Jvm.Cond.code x code maxLocals ret).before args0 about1 = true := code_word (m := ⟨1, 2⟩) (meth := k1m2) (c := k1c2) (by decide +kernel) rfl rfl rfl (by decide +kernel)
set_option maxRecDepth 65536 in
theorem w_c1 : (Jvm.Cond.code ({ cls := "com/example/beleg/beleg/AttributesClearPinLaw", name := "drawn", desc := "(I)Ljava/lang/String;" } : Jvm.MethodName) method_2_code (2 : Nat) (Option.some (Jvm.ClassFile.FieldType.object "java/lang/String"))).before args0 about1 = true := code_word (m := ⟨1, 1⟩) (meth := k1m1) (c := k1c1) (by decide +kernel) rfl rfl rfl (by decide +kernel)
set_option maxRecDepth 65536 in
theorem w_c2 : (Jvm.Cond.code ({ cls := "java/lang/String", name := "<init>", desc := "([C)V" } : Jvm.MethodName) jdk_42_method_3_code (2 : Nat) (Option.none : Option Jvm.ClassFile.FieldType)).before args0 about1 = true := code_word (m := ⟨7, 1⟩) (meth := k7m1) (c := k7c1) (by decide +kernel) rfl rfl rfl (by decide +kernel)
set_option maxRecDepth 65536 in
theorem w_c3 : (Jvm.Cond.code ({ cls := "java/lang/String", name := "<init>", desc := "([CIILjava/lang/Void;)V" } : Jvm.MethodName) jdk_42_method_149_code (6 : Nat) (Option.none : Option Jvm.ClassFile.FieldType)).before args0 about1 = true := code_word (m := ⟨7, 3⟩) (meth := k7m3) (c := k7c3) (by decide +kernel) rfl rfl rfl (by decide +kernel)
set_option maxRecDepth 65536 in
theorem w_c4 : (Jvm.Cond.code ({ cls := "java/lang/Object", name := "<init>", desc := "()V" } : Jvm.MethodName) object_method_1_code (1 : Nat) (Option.none : Option Jvm.ClassFile.FieldType)).before args0 about1 = true := code_word (m := ⟨0, 0⟩) (meth := k0m0) (c := k0c0) (by decide +kernel) rfl rfl rfl (by decide +kernel)
set_option maxRecDepth 65536 in
theorem w_c5 : (Jvm.Cond.code ({ cls := "java/lang/StringUTF16", name := "compress", desc := "([CII)[B" } : Jvm.MethodName) jdk_52_method_16_code (6 : Nat) (Option.some (Jvm.ClassFile.FieldType.array Jvm.ClassFile.FieldType.byte))).before args0 about1 = true := code_word (m := ⟨8, 2⟩) (meth := k8m2) (c := k8c2) (by decide +kernel) rfl rfl rfl (by decide +kernel)
set_option maxRecDepth 65536 in
theorem w_c6 : (Jvm.Cond.code ({ cls := "java/lang/StringUTF16", name := "compress", desc := "([CI[BII)I" } : Jvm.MethodName) jdk_52_method_21_code (7 : Nat) (Option.some Jvm.ClassFile.FieldType.int)).before args0 about1 = true := code_word (m := ⟨8, 3⟩) (meth := k8m3) (c := k8c3) (by decide +kernel) rfl rfl rfl (by decide +kernel)
set_option maxRecDepth 65536 in
theorem w_c7 : (Jvm.Cond.code ({ cls := "java/lang/StringUTF16", name := "coderFromArrayLen", desc := "([BI)B" } : Jvm.MethodName) jdk_52_method_15_code (2 : Nat) (Option.some Jvm.ClassFile.FieldType.byte)).before args0 about1 = true := code_word (m := ⟨8, 1⟩) (meth := k8m1) (c := k8c1) (by decide +kernel) rfl rfl rfl (by decide +kernel)
set_option maxRecDepth 65536 in
theorem w_c8 : (Jvm.Cond.code ({ cls := "java/lang/Integer", name := "valueOf", desc := "(I)Ljava/lang/Integer;" } : Jvm.MethodName) jdk_33_method_22_code (1 : Nat) (Option.some (Jvm.ClassFile.FieldType.object "java/lang/Integer"))).before args0 about1 = true := code_word (m := ⟨10, 0⟩) (meth := k10m0) (c := k10c0) (by decide +kernel) rfl rfl rfl (by decide +kernel)
set_option maxRecDepth 65536 in
theorem w_c9 : (Jvm.Cond.code ({ cls := "com/example/beleg/beleg/Attributes", name := "<init>", desc := "()V" } : Jvm.MethodName) prog_3_method_1_code (1 : Nat) (Option.none : Option Jvm.ClassFile.FieldType)).before args0 about1 = true := code_word (m := ⟨12, 0⟩) (meth := k12m0) (c := k12c0) (by decide +kernel) rfl rfl rfl (by decide +kernel)
set_option maxRecDepth 65536 in
theorem w_c10 : (Jvm.Cond.code ({ cls := "com/example/beleg/beleg/Attributes", name := "put", desc := "(Ljava/lang/String;Ljava/lang/Object;)V" } : Jvm.MethodName) prog_3_method_4_code (4 : Nat) (Option.none : Option Jvm.ClassFile.FieldType)).before args0 about1 = true := code_word (m := ⟨12, 3⟩) (meth := k12m3) (c := k12c3) (by decide +kernel) rfl rfl rfl (by decide +kernel)
set_option maxRecDepth 65536 in
theorem w_c11 : (Jvm.Cond.code ({ cls := "com/example/beleg/beleg/Attributes", name := "indexOf", desc := "(Ljava/lang/String;)I" } : Jvm.MethodName) prog_3_method_13_code (6 : Nat) (Option.some Jvm.ClassFile.FieldType.int)).before args0 about1 = true := code_word (m := ⟨12, 7⟩) (meth := k12m7) (c := k12c7) (by decide +kernel) rfl rfl rfl (by decide +kernel)
set_option maxRecDepth 65536 in
theorem w_c12 : (Jvm.Cond.code ({ cls := "java/util/Objects", name := "requireNonNull", desc := "(Ljava/lang/Object;Ljava/lang/String;)Ljava/lang/Object;" } : Jvm.MethodName) jdk_31_method_11_code (2 : Nat) (Option.some (Jvm.ClassFile.FieldType.object "java/lang/Object"))).before args0 about1 = true := code_word (m := ⟨13, 1⟩) (meth := k13m1) (c := k13c1) (by decide +kernel) rfl rfl rfl (by decide +kernel)
set_option maxRecDepth 65536 in
theorem w_c13 : (Jvm.Cond.code ({ cls := "com/example/beleg/beleg/Attributes", name := "insert", desc := "(ILjava/lang/String;Ljava/lang/Object;)V" } : Jvm.MethodName) prog_3_method_14_code (5 : Nat) (Option.none : Option Jvm.ClassFile.FieldType)).before args0 about1 = true := code_word (m := ⟨12, 8⟩) (meth := k12m8) (c := k12c8) (by decide +kernel) rfl rfl rfl (by decide +kernel)
set_option maxRecDepth 65536 in
theorem w_c14 : (Jvm.Cond.code ({ cls := "java/lang/Math", name := "max", desc := "(II)I" } : Jvm.MethodName) jdk_29_method_65_code (2 : Nat) (Option.some Jvm.ClassFile.FieldType.int)).before args0 about1 = true := code_word (m := ⟨14, 1⟩) (meth := k14m1) (c := k14c1) (by decide +kernel) rfl rfl rfl (by decide +kernel)
set_option maxRecDepth 65536 in
theorem w_c15 : (Jvm.Cond.code ({ cls := "com/example/beleg/beleg/Attributes", name := "clear", desc := "()V" } : Jvm.MethodName) prog_3_method_6_code (1 : Nat) (Option.none : Option Jvm.ClassFile.FieldType)).before args0 about1 = true := code_word (m := ⟨12, 4⟩) (meth := k12m4) (c := k12c4) (by decide +kernel) rfl rfl rfl (by decide +kernel)
set_option maxRecDepth 65536 in
theorem w_c16 : (Jvm.Cond.code ({ cls := "com/example/beleg/beleg/Attributes", name := "size", desc := "()I" } : Jvm.MethodName) prog_3_method_8_code (1 : Nat) (Option.some Jvm.ClassFile.FieldType.int)).before args0 about1 = true := code_word (m := ⟨12, 5⟩) (meth := k12m5) (c := k12c5) (by decide +kernel) rfl rfl rfl (by decide +kernel)
set_option maxRecDepth 65536 in
theorem w_c17 : (Jvm.Cond.code ({ cls := "com/example/beleg/beleg/Attributes", name := "has", desc := "(Ljava/lang/String;)Z" } : Jvm.MethodName) prog_3_method_2_code (2 : Nat) (Option.some Jvm.ClassFile.FieldType.boolean)).before args0 about1 = true := code_word (m := ⟨12, 1⟩) (meth := k12m1) (c := k12c1) (by decide +kernel) rfl rfl rfl (by decide +kernel)
set_option maxRecDepth 65536 in
theorem w_c18 : (Jvm.Cond.code ({ cls := "com/example/beleg/beleg/Attributes", name := "get", desc := "(Ljava/lang/String;)Ljava/lang/Object;" } : Jvm.MethodName) prog_3_method_3_code (4 : Nat) (Option.some (Jvm.ClassFile.FieldType.object "java/lang/Object"))).before args0 about1 = true := code_word (m := ⟨12, 2⟩) (meth := k12m2) (c := k12c2) (by decide +kernel) rfl rfl rfl (by decide +kernel)
set_option maxRecDepth 65536 in
theorem w_c19 : (Jvm.Cond.code ({ cls := "com/example/beleg/beleg/Attributes", name := "name", desc := "(I)Ljava/lang/String;" } : Jvm.MethodName) prog_3_method_12_code (2 : Nat) (Option.some (Jvm.ClassFile.FieldType.object "java/lang/String"))).before args0 about1 = true := code_word (m := ⟨12, 6⟩) (meth := k12m6) (c := k12c6) (by decide +kernel) rfl rfl rfl (by decide +kernel)
set_option maxRecDepth 65536 in
theorem w_c20 : (Jvm.Cond.code ({ cls := "java/lang/String", name := "compareTo", desc := "(Ljava/lang/String;)I" } : Jvm.MethodName) jdk_42_method_71_code (5 : Nat) (Option.some Jvm.ClassFile.FieldType.int)).before args0 about1 = true := code_word (m := ⟨7, 2⟩) (meth := k7m2) (c := k7c2) (by decide +kernel) rfl rfl rfl (by decide +kernel)
set_option maxRecDepth 65536 in
theorem w_c21 : (Jvm.Cond.code ({ cls := "java/lang/String", name := "coder", desc := "()B" } : Jvm.MethodName) jdk_42_method_152_code (1 : Nat) (Option.some Jvm.ClassFile.FieldType.byte)).before args0 about1 = true := code_word (m := ⟨7, 4⟩) (meth := k7m4) (c := k7c4) (by decide +kernel) rfl rfl rfl (by decide +kernel)
set_option maxRecDepth 65536 in
theorem w_c22 : (Jvm.Cond.code ({ cls := "java/lang/StringLatin1", name := "compareTo", desc := "([B[B)I" } : Jvm.MethodName) jdk_43_method_14_code (4 : Nat) (Option.some Jvm.ClassFile.FieldType.int)).before args0 about1 = true := code_word (m := ⟨16, 1⟩) (meth := k16m1) (c := k16c1) (by decide +kernel) rfl rfl rfl (by decide +kernel)
set_option maxRecDepth 65536 in
theorem w_c23 : (Jvm.Cond.code ({ cls := "java/lang/StringLatin1", name := "compareTo", desc := "([B[BII)I" } : Jvm.MethodName) jdk_43_method_15_code (6 : Nat) (Option.some Jvm.ClassFile.FieldType.int)).before args0 about1 = true := code_word (m := ⟨16, 2⟩) (meth := k16m2) (c := k16c2) (by decide +kernel) rfl rfl rfl (by decide +kernel)
set_option maxRecDepth 65536 in
theorem w_c24 : (Jvm.Cond.code ({ cls := "java/lang/Math", name := "min", desc := "(II)I" } : Jvm.MethodName) jdk_29_method_69_code (2 : Nat) (Option.some Jvm.ClassFile.FieldType.int)).before args0 about1 = true := code_word (m := ⟨14, 2⟩) (meth := k14m2) (c := k14c2) (by decide +kernel) rfl rfl rfl (by decide +kernel)
set_option maxRecDepth 65536 in
theorem w_c25 : (Jvm.Cond.code ({ cls := "jdk/internal/util/ArraysSupport", name := "mismatch", desc := "([B[BI)I" } : Jvm.MethodName) jdk_48_method_13_code (4 : Nat) (Option.some Jvm.ClassFile.FieldType.int)).before args0 about1 = true := code_word (m := ⟨17, 1⟩) (meth := k17m1) (c := k17c1) (by decide +kernel) rfl rfl rfl (by decide +kernel)
set_option maxRecDepth 65536 in
theorem w_c26 : (Jvm.Cond.code ({ cls := "java/lang/StringLatin1", name := "getChar", desc := "([BI)C" } : Jvm.MethodName) jdk_43_method_44_code (2 : Nat) (Option.some Jvm.ClassFile.FieldType.char)).before args0 about1 = true := code_word (m := ⟨16, 3⟩) (meth := k16m3) (c := k16c3) (by decide +kernel) rfl rfl rfl (by decide +kernel)
set_option maxRecDepth 65536 in
theorem w_c27 : (Jvm.Cond.code ({ cls := "java/lang/Integer", name := "<init>", desc := "(I)V" } : Jvm.MethodName) jdk_33_method_23_code (2 : Nat) (Option.none : Option Jvm.ClassFile.FieldType)).before args0 about1 = true := code_word (m := ⟨10, 1⟩) (meth := k10m1) (c := k10c1) (by decide +kernel) rfl rfl rfl (by decide +kernel)
set_option maxRecDepth 65536 in
theorem w_c28 : (Jvm.Cond.code ({ cls := "java/lang/Number", name := "<init>", desc := "()V" } : Jvm.MethodName) jdk_18_method_1_code (1 : Nat) (Option.none : Option Jvm.ClassFile.FieldType)).before args0 about1 = true := code_word (m := ⟨9, 0⟩) (meth := k9m0) (c := k9c0) (by decide +kernel) rfl rfl rfl (by decide +kernel)
def codes1 : List Jvm.Cond := [Jvm.Cond.code x code maxLocals ret, Jvm.Cond.code ({ cls := "com/example/beleg/beleg/AttributesClearPinLaw", name := "drawn", desc := "(I)Ljava/lang/String;" } : Jvm.MethodName) method_2_code (2 : Nat) (Option.some (Jvm.ClassFile.FieldType.object "java/lang/String")), Jvm.Cond.code ({ cls := "java/lang/String", name := "<init>", desc := "([C)V" } : Jvm.MethodName) jdk_42_method_3_code (2 : Nat) (Option.none : Option Jvm.ClassFile.FieldType), Jvm.Cond.code ({ cls := "java/lang/String", name := "<init>", desc := "([CIILjava/lang/Void;)V" } : Jvm.MethodName) jdk_42_method_149_code (6 : Nat) (Option.none : Option Jvm.ClassFile.FieldType), Jvm.Cond.code ({ cls := "java/lang/Object", name := "<init>", desc := "()V" } : Jvm.MethodName) object_method_1_code (1 : Nat) (Option.none : Option Jvm.ClassFile.FieldType), Jvm.Cond.code ({ cls := "java/lang/StringUTF16", name := "compress", desc := "([CII)[B" } : Jvm.MethodName) jdk_52_method_16_code (6 : Nat) (Option.some (Jvm.ClassFile.FieldType.array Jvm.ClassFile.FieldType.byte)), Jvm.Cond.code ({ cls := "java/lang/StringUTF16", name := "compress", desc := "([CI[BII)I" } : Jvm.MethodName) jdk_52_method_21_code (7 : Nat) (Option.some Jvm.ClassFile.FieldType.int), Jvm.Cond.code ({ cls := "java/lang/StringUTF16", name := "coderFromArrayLen", desc := "([BI)B" } : Jvm.MethodName) jdk_52_method_15_code (2 : Nat) (Option.some Jvm.ClassFile.FieldType.byte), Jvm.Cond.code ({ cls := "java/lang/Integer", name := "valueOf", desc := "(I)Ljava/lang/Integer;" } : Jvm.MethodName) jdk_33_method_22_code (1 : Nat) (Option.some (Jvm.ClassFile.FieldType.object "java/lang/Integer")), Jvm.Cond.code ({ cls := "com/example/beleg/beleg/Attributes", name := "<init>", desc := "()V" } : Jvm.MethodName) prog_3_method_1_code (1 : Nat) (Option.none : Option Jvm.ClassFile.FieldType), Jvm.Cond.code ({ cls := "com/example/beleg/beleg/Attributes", name := "put", desc := "(Ljava/lang/String;Ljava/lang/Object;)V" } : Jvm.MethodName) prog_3_method_4_code (4 : Nat) (Option.none : Option Jvm.ClassFile.FieldType), Jvm.Cond.code ({ cls := "com/example/beleg/beleg/Attributes", name := "indexOf", desc := "(Ljava/lang/String;)I" } : Jvm.MethodName) prog_3_method_13_code (6 : Nat) (Option.some Jvm.ClassFile.FieldType.int), Jvm.Cond.code ({ cls := "java/util/Objects", name := "requireNonNull", desc := "(Ljava/lang/Object;Ljava/lang/String;)Ljava/lang/Object;" } : Jvm.MethodName) jdk_31_method_11_code (2 : Nat) (Option.some (Jvm.ClassFile.FieldType.object "java/lang/Object")), Jvm.Cond.code ({ cls := "com/example/beleg/beleg/Attributes", name := "insert", desc := "(ILjava/lang/String;Ljava/lang/Object;)V" } : Jvm.MethodName) prog_3_method_14_code (5 : Nat) (Option.none : Option Jvm.ClassFile.FieldType), Jvm.Cond.code ({ cls := "java/lang/Math", name := "max", desc := "(II)I" } : Jvm.MethodName) jdk_29_method_65_code (2 : Nat) (Option.some Jvm.ClassFile.FieldType.int), Jvm.Cond.code ({ cls := "com/example/beleg/beleg/Attributes", name := "clear", desc := "()V" } : Jvm.MethodName) prog_3_method_6_code (1 : Nat) (Option.none : Option Jvm.ClassFile.FieldType), Jvm.Cond.code ({ cls := "com/example/beleg/beleg/Attributes", name := "size", desc := "()I" } : Jvm.MethodName) prog_3_method_8_code (1 : Nat) (Option.some Jvm.ClassFile.FieldType.int), Jvm.Cond.code ({ cls := "com/example/beleg/beleg/Attributes", name := "has", desc := "(Ljava/lang/String;)Z" } : Jvm.MethodName) prog_3_method_2_code (2 : Nat) (Option.some Jvm.ClassFile.FieldType.boolean), Jvm.Cond.code ({ cls := "com/example/beleg/beleg/Attributes", name := "get", desc := "(Ljava/lang/String;)Ljava/lang/Object;" } : Jvm.MethodName) prog_3_method_3_code (4 : Nat) (Option.some (Jvm.ClassFile.FieldType.object "java/lang/Object")), Jvm.Cond.code ({ cls := "com/example/beleg/beleg/Attributes", name := "name", desc := "(I)Ljava/lang/String;" } : Jvm.MethodName) prog_3_method_12_code (2 : Nat) (Option.some (Jvm.ClassFile.FieldType.object "java/lang/String")), Jvm.Cond.code ({ cls := "java/lang/String", name := "compareTo", desc := "(Ljava/lang/String;)I" } : Jvm.MethodName) jdk_42_method_71_code (5 : Nat) (Option.some Jvm.ClassFile.FieldType.int), Jvm.Cond.code ({ cls := "java/lang/String", name := "coder", desc := "()B" } : Jvm.MethodName) jdk_42_method_152_code (1 : Nat) (Option.some Jvm.ClassFile.FieldType.byte), Jvm.Cond.code ({ cls := "java/lang/StringLatin1", name := "compareTo", desc := "([B[B)I" } : Jvm.MethodName) jdk_43_method_14_code (4 : Nat) (Option.some Jvm.ClassFile.FieldType.int), Jvm.Cond.code ({ cls := "java/lang/StringLatin1", name := "compareTo", desc := "([B[BII)I" } : Jvm.MethodName) jdk_43_method_15_code (6 : Nat) (Option.some Jvm.ClassFile.FieldType.int), Jvm.Cond.code ({ cls := "java/lang/Math", name := "min", desc := "(II)I" } : Jvm.MethodName) jdk_29_method_69_code (2 : Nat) (Option.some Jvm.ClassFile.FieldType.int), Jvm.Cond.code ({ cls := "jdk/internal/util/ArraysSupport", name := "mismatch", desc := "([B[BI)I" } : Jvm.MethodName) jdk_48_method_13_code (4 : Nat) (Option.some Jvm.ClassFile.FieldType.int), Jvm.Cond.code ({ cls := "java/lang/StringLatin1", name := "getChar", desc := "([BI)C" } : Jvm.MethodName) jdk_43_method_44_code (2 : Nat) (Option.some Jvm.ClassFile.FieldType.char), Jvm.Cond.code ({ cls := "java/lang/Integer", name := "<init>", desc := "(I)V" } : Jvm.MethodName) jdk_33_method_23_code (2 : Nat) (Option.none : Option Jvm.ClassFile.FieldType), Jvm.Cond.code ({ cls := "java/lang/Number", name := "<init>", desc := "()V" } : Jvm.MethodName) jdk_18_method_1_code (1 : Nat) (Option.none : Option Jvm.ClassFile.FieldType)]
set_option maxRecDepth 65536 in
theorem codes_eq : words1.filter isCode = codes1 := rfl
theorem w_codes : ∀ c ∈ words1.filter isCode, c.before args0 about1 = true := by
  rw [codes_eq]
  intro c hc
  simp only [codes1, List.mem_cons, List.not_mem_nil, or_false] at hc
  rcases hc with rfl | rfl | rfl | rfl | rfl | rfl | rfl | rfl | rfl | rfl | rfl | rfl | rfl | rfl | rfl | rfl | rfl | rfl | rfl | rfl | rfl | rfl | rfl | rfl | rfl | rfl | rfl | rfl | rfl
  · exact w_c0
  · exact w_c1
  · exact w_c2
  · exact w_c3
  · exact w_c4
  · exact w_c5
  · exact w_c6
  · exact w_c7
  · exact w_c8
  · exact w_c9
  · exact w_c10
  · exact w_c11
  · exact w_c12
  · exact w_c13
  · exact w_c14
  · exact w_c15
  · exact w_c16
  · exact w_c17
  · exact w_c18
  · exact w_c19
  · exact w_c20
  · exact w_c21
  · exact w_c22
  · exact w_c23
  · exact w_c24
  · exact w_c25
  · exact w_c26
  · exact w_c27
  · exact w_c28
set_option maxRecDepth 65536 in
theorem w_t1 : (words1.take 24).all (fun c => isCode c || c.before args0 about1) = true := by decide +kernel
set_option maxRecDepth 65536 in
theorem w_t2 : ((words1.drop 24).take 24).all (fun c => isCode c || c.before args0 about1) = true := by decide +kernel
set_option maxRecDepth 65536 in
theorem w_t3 : (((words1.drop 24).drop 24).take 24).all (fun c => isCode c || c.before args0 about1) = true := by decide +kernel
set_option maxRecDepth 65536 in
theorem w_t4 : ((((words1.drop 24).drop 24).drop 24).take 24).all (fun c => isCode c || c.before args0 about1) = true := by decide +kernel
set_option maxRecDepth 65536 in
theorem w_t5 : (((((words1.drop 24).drop 24).drop 24).drop 24).take 24).all (fun c => isCode c || c.before args0 about1) = true := by decide +kernel
set_option maxRecDepth 65536 in
theorem w_t6 : ((((((words1.drop 24).drop 24).drop 24).drop 24).drop 24).take 24).all (fun c => isCode c || c.before args0 about1) = true := by decide +kernel
set_option maxRecDepth 65536 in
theorem w_t7 : ((((((words1.drop 24).drop 24).drop 24).drop 24).drop 24).drop 24).all (fun c => isCode c || c.before args0 about1) = true := by decide +kernel
theorem w_tables : (allAtoms (Jvm.Cond.code x code maxLocals ret :: tables_1)).before args0 about1 = true := by
  rw [allAtoms_all]
  show words1.all (fun c => c.before args0 about1) = true
  refine all_split ?_ w_codes
  rw [← List.take_append_drop 24 words1, List.all_append, w_t1, ← List.take_append_drop 24 (words1.drop 24), List.all_append, w_t2, ← List.take_append_drop 24 ((words1.drop 24).drop 24), List.all_append, w_t3, ← List.take_append_drop 24 (((words1.drop 24).drop 24).drop 24), List.all_append, w_t4, ← List.take_append_drop 24 ((((words1.drop 24).drop 24).drop 24).drop 24), List.all_append, w_t5, ← List.take_append_drop 24 (((((words1.drop 24).drop 24).drop 24).drop 24).drop 24), List.all_append, w_t6, w_t7]
  rfl
set_option maxRecDepth 65536 in
theorem w_rest : rest_1_c.before args0 about1 = true := by decide +kernel
set_option maxRecDepth 65536 in
theorem w_case : (Jvm.Cond.and given_1 narrow_1).before args0 about1 = true := by decide +kernel
theorem w_applies : (headSpec (Jvm.Cond.code x code maxLocals ret :: tables_1) room_1).applies x e0.platform about1 = true :=
  (Spec.applies_iff w_frames).mpr ⟨w_running, w_runnable, w_alone, w_named, w_hears, w_ripe, w_room, w_tables⟩
theorem atStart : AtStart classFile x code maxLocals ret World_1 tables_1 room_1 Calls_1 rest_1 Pre_1 launch0 p0 e0 about1 theMethod args0 below0 :=
  ⟨lists_1, trivial, launch0.admits_env _ _ _, launch0.least_env, fairChoices_fair.cas, fairChoices_fair.clock, w_frames, w_args, w_heap, w_applies, trivial, w_rest, w_case⟩
end start1
theorem witness_1 : WitnessClaimed_1 := ⟨start1.p0, start1.e0, start1.about1, start1.theMethod, start1.args0, start1.below0, start1.atStart⟩
end Jvm.Pilot.@@N@@
