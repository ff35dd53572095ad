import JvmDerived
import JvmDerived.Pilot.@@N@@Statement
import JvmDerived.Pilot.@@N@@Code
set_option linter.unusedVariables false
set_option linter.unusedSimpArgs false
namespace Jvm.OwnK
open Jvm Sem ClassFile Op Lib Jvm.Free Jvm.Stand Jvm.LawKit Jvm.RoadKit Bundle
/-! OwnK: a body's walk as a judgement. 'Go .. SF h k n pc Ls st': from the place pc, with the locals Ls and the operands st, over the heap h (SF: what this walk may write; k cells and n slots made so far), the body ends, and Q holds of what it returns and of the heap. One rule a step; a callee by 'Met'. -/
def Own (Z : State) (EL : List (String × Nat)) (n0 : Nat) (h0 : Heap) (WS : List Addr) (vm : Vm) (h : Heap) (SF : List Addr) : Prop := ∀ x ∈ SF, (n0 ≤ x ∧ x < h.size ∧ (x ∈ WS ∨ h0.size ≤ x)) ∧ Safe Z EL vm h x
def Cor (Z : State) (EL : List (String × Nat)) (n0 : Nat) (nr : Bool) (h0 : Heap) (WS SF : List Addr) (h : Heap) (s : State) (vm0 : Vm) (k0 : Nat) (locs : List Loc) : Prop :=
  Z.Warmed39 vm0 ∧ (s.Since vm0 k0 ∧ k0 ≤ h.size) ∧ Fr n0 locs ∧ CHr Z EL s.vm h0 vm0 h ∧ Own Z EL n0 h0 WS vm0 h SF ∧ (nr = true → s.WarmedH vm0) ∧ (Z.heap.size = n0 ∧ Ext Z.heap h) ∧ Keep h0 h WS ∧ s.heap = h0 ∧ ∃ a0, EW Z a0 EL
def Pst (Z : State) (EL : List (String × Nat)) (n0 : Nat) (nr : Bool) (R : Room) (h0 : Heap) (WS : List Addr) (Q : Option Value → Heap → List Addr → Prop) (s : State) (o : Outcome) (t : State) : Prop :=
  ∃ v L SN, o = .returned v ∧ Q v t.heap SN ∧ Fr n0 L ∧ Keep h0 t.heap WS ∧ (∀ x ∈ SN, (h0.size ≤ x ∧ x < t.heap.size) ∧ Safe Z EL t.vm t.heap x) ∧ CHr Z EL s.vm h0 t.vm t.heap ∧ (nr = true → s.WarmedH t.vm) ∧ ReturnedEndW s o t L R.cells R.slots
def Run (l : Launch) (Z : State) (EL : List (String × Nat)) (n0 : Nat) (nr kn : Bool) (y : MethodName) (bytes : ByteArray) (mL : Nat) (ret : Option FieldType) (R : Room) (h0 : Heap) (WS SF : List Addr) (h : Heap) (k n : Nat)
    (p : Program) (e : Env) (s : State) (m : MethodId) (args : Array Value) (below : List Frame) (meth : Method) (c : Code) (T : State) : Prop :=
  (p.tables.exec = Jvm.exec ∧ c.code = bytes ∧ c.maxLocals = mL ∧ s.vm.findClass y.cls = some m.cls ∧ meth.name = y.name ∧ meth.sig.returnType = ret ∧ meth.locks = false ∧ (kn = true → s.vm.MethodsKnown ∧ s.vm.FramesKnown below)) ∧
  ∃ vm0 k0 locs, Stand p l e R (s.setVm vm0) m args below meth c T locs k n ∧ T.heap = h ∧ Cor Z EL n0 nr h0 WS SF h s vm0 k0 locs
def Go (l : Launch) (Z : State) (EL : List (String × Nat)) (n0 : Nat) (nr kn : Bool) (y : MethodName) (bytes : ByteArray) (mL : Nat) (ret : Option FieldType) (R : Room) (h0 : Heap) (WS : List Addr) (Q : Option Value → Heap → List Addr → Prop)
    (SF : List Addr) (h : Heap) (k n : Nat) (pc : Nat) (Ls : Array Slot) (st : List Value) : Prop :=
  ∀ (p : Program) (e : Env) (s : State) (m : MethodId) (args : Array Value) (below : List Frame) (meth : Method) (c : Code) (T : State), Run l Z EL n0 nr kn y bytes mL ret R h0 WS SF h k n p e s m args below meth c T →
    ∃ t o, Steps p.tables e below (T.setTop (mkF m pc Ls st)) t ∧ t.status = .running ∧ Ended t below o ∧ Pst Z EL n0 nr R h0 WS Q s o t
def Met (l : Launch) (Z : State) (EL : List (String × Nat)) (n0 : Nat) (nr kn : Bool) (y : MethodName) (bytes : ByteArray) (mL : Nat) (ret : Option FieldType) (R : Room) (WS : List Addr) (as' : Array Value) (h : Heap) (Q : Option Value → Heap → List Addr → Prop) : Prop :=
  ∀ ws : List Jvm.Cond, MetFree l y (head1 (Jvm.Cond.code y bytes mL ret :: ws) R)
    (fun a U => a = as' ∧ Z.Warmed39 U.vm ∧ U.heap = h ∧ CHv Z EL U.vm h ∧ (∀ x ∈ WS, (n0 ≤ x ∧ x < h.size) ∧ Safe Z EL U.vm h x) ∧ (Z.heap.size = n0 ∧ Ext Z.heap h) ∧ ∃ a0, EW Z a0 EL)
    (fun _ _ bl s _ => kn = true → s.vm.MethodsKnown ∧ s.vm.FramesKnown bl) (fun _ U o U' => Pst Z EL n0 nr R h WS Q U o U')
def Pays (l : Launch) (Z : State) (EL : List (String × Nat)) (n0 : Nat) (nr kn : Bool) (R : Room) (len : Nat) (z : MethodName) (W ck cn : Nat) (ws : List Addr) (as' : Array Value) (h : Heap) (Q : Option Value → Heap → List Addr → Prop) : Prop :=
  ∀ (p : Program) (e : Env) (below : List Frame) (s : State) (args : Array Value) (vm0 : Vm), p.tables.exec = Jvm.exec → Z.Warmed39 vm0 → CHv Z EL vm0 h → (∀ x ∈ ws, (n0 ≤ x ∧ x < h.size) ∧ Safe Z EL vm0 h x) → (Z.heap.size = n0 ∧ Ext Z.heap h) → (∃ a0, EW Z a0 EL) →
    (kn = true → vm0.MethodsKnown ∧ vm0.FramesKnown below) →
    BackS l R p e below (s.setVm vm0) args z len W (fun A a => a = as' ∧ A.U.heap = h ∧ A.cells + ck ≤ R.cells ∧ A.slots + cn ≤ R.slots)
      (fun A _ v B => ∃ L SN, Q v B.U.heap SN ∧ Fr n0 L ∧ Keep h B.U.heap ws ∧ (∀ x ∈ SN, (h.size ≤ x ∧ x < B.U.heap.size) ∧ Safe Z EL B.U.vm B.U.heap x) ∧ CHr Z EL vm0 h B.U.vm B.U.heap ∧ (nr = true → (s.setVm vm0).WarmedH B.U.vm) ∧ B.locs = A.locs ++ L ∧ B.cells = A.cells + ck ∧ B.slots = A.slots + cn)
def Mr (Z : State) (CC : String) (m : Addr) : Prop := ∃ (c : ClassId) (k : Class), Z.vm.findClass CC = some c ∧ Z.vm.classes[c]? = some k ∧ k.mirror = some m
section Rules
variable {l : Launch} {Z : State} {EL : List (String × Nat)} {n0 : Nat} {nr kn : Bool} {y : MethodName} {bytes : ByteArray} {mL : Nat} {ret : Option FieldType} {R : Room} {h0 : Heap} {WS : List Addr} {Q : Option Value → Heap → List Addr → Prop} {SF : List Addr} {h h' : Heap} {k n : Nat} {pc pc' : Nat} {Ls Ls' : Array Slot} {st rest : List Value} {a0 : Array Value} {s : State} {vm0 vm1 : Vm} {k0 : Nat} {locs : List Loc}
theorem Cor.ext (C : Cor Z EL n0 nr h0 WS SF h s vm0 k0 locs) (E : Ext h h') : Cor Z EL n0 nr h0 WS SF h' s vm0 k0 locs := by
  obtain ⟨c1, ⟨c2, c2'⟩, c3, c4, c5, c6, ⟨c7, c7'⟩, c8, c9, c10⟩ := C
  exact ⟨c1, ⟨c2, Nat.le_trans c2' E.1⟩, c3, c4.trans (CHr.ext E c4.1), fun x hx => ⟨⟨(c5 x hx).1.1, Nat.lt_of_lt_of_le (c5 x hx).1.2.1 E.1, (c5 x hx).1.2.2⟩, Safe.ext E c4.1 (c5 x hx).2⟩, c6, ⟨c7, Nat.le_trans c7'.1 E.1, fun a c q => E.2 a c (c7'.2 a c q)⟩, c8.ext E, c9, c10⟩
theorem Cor.push (C : Cor Z EL n0 nr h0 WS SF h s vm0 k0 locs) (E : Ext h h') (hlt : h.size < h'.size) : Cor Z EL n0 nr h0 WS (h.size :: SF) h' s vm0 k0 locs := by
  have D := C.ext E
  obtain ⟨c1, c2, c3, c4, c5, c6, ⟨c7, c7'⟩, c8, c9, c10⟩ := C
  obtain ⟨d1, d2, d3, d4, d5, d6, d7, d8, d9, d10⟩ := D
  refine ⟨d1, d2, d3, d4, fun x hx => ?_, d6, d7, d8, d9, d10⟩
  rcases List.mem_cons.mp hx with rfl | hx
  · exact ⟨⟨c7 ▸ c7'.1, hlt, Or.inr c8.1⟩, Safe.ext E c4.1 (Safe.new (Nat.le_refl _))⟩
  · exact d5 x hx
theorem Cor.wr {a : Addr} {sl : Nat} {v : Value} (C : Cor Z EL n0 nr h0 WS SF h s vm0 k0 locs) (W : Wr h h' a sl v) (ha : a ∈ SF) : Cor Z EL n0 nr h0 WS SF h' s vm0 k0 (locs ++ [⟨a, sl⟩]) := by
  obtain ⟨c1, ⟨c2, c2'⟩, c3, c4, c5, c6, ⟨c7, c7'⟩, c8, c9, c10⟩ := C
  have S := (c5 a ha).2
  have O : Old Z n0 h := ⟨c7, c7'⟩
  refine ⟨c1, ⟨c2, by rw [W.size]; exact c2'⟩, c3.app fun z hz => by cases List.mem_singleton.mp hz; exact (c5 a ha).1.1, c4.trans (CHr.wr W S c4.1), fun x hx => ⟨⟨(c5 x hx).1.1, by rw [W.size]; exact (c5 x hx).1.2.1, (c5 x hx).1.2.2⟩, Safe.wr W S c4.1 (c5 x hx).2⟩, c6, O.wr W (c5 a ha).1.1, c8.wr W (c5 a ha).1.2.2, c9, c10⟩
theorem Cor.keep {ws SN : List Addr} {L : List Loc} {k1 : Nat} (C : Cor Z EL n0 nr h0 WS SF h s vm0 k0 locs) (K : Keep h h' ws) (hws : ∀ x ∈ ws, x ∈ SF) (hL : Fr n0 L) (hC : CHr Z EL vm0 h vm1 h') (hZ : Z.Warmed39 vm1) (hS : s.Since vm1 k1) (hk : k1 ≤ h'.size) (hN : nr = true → s.WarmedH vm1)
    (hSN : ∀ x ∈ SN, (h.size ≤ x ∧ x < h'.size) ∧ Safe Z EL vm1 h' x) : Cor Z EL n0 nr h0 WS (SN ++ SF) h' s vm1 k1 (locs ++ L) := by
  obtain ⟨c1, ⟨c2, c2'⟩, c3, c4, c5, c6, ⟨c7, c7'⟩, c8, c9, c10⟩ := C
  have O : Old Z n0 h := ⟨c7, c7'⟩
  refine ⟨hZ, ⟨hS, hk⟩, c3.app hL, c4.trans hC, fun x hx => ?_, hN, O.keep K fun x hx => (c5 x (hws x hx)).1.1, c8.trans K fun x hx => (c5 x (hws x hx)).1.2.2, c9, c10⟩
  rcases List.mem_append.mp hx with hx | hx
  · obtain ⟨⟨q1, q2⟩, q3⟩ := hSN x hx
    exact ⟨⟨Nat.le_trans (c7 ▸ c7'.1) q1, q2, Or.inr (Nat.le_trans c8.1 q1)⟩, q3⟩
  · exact ⟨⟨(c5 x hx).1.1, Nat.lt_of_lt_of_le (c5 x hx).1.2.1 K.1, (c5 x hx).1.2.2⟩, hC.safe (c5 x hx).1.2.1 (c5 x hx).2⟩
theorem Go.inv (K : (Z.heap.size = n0 ∧ Ext Z.heap h) → Keep h0 h WS → (∀ x ∈ SF, n0 ≤ x ∧ x < h.size ∧ (x ∈ WS ∨ h0.size ≤ x)) → Go l Z EL n0 nr kn y bytes mL ret R h0 WS Q SF h k n pc Ls st) : Go l Z EL n0 nr kn y bytes mL ret R h0 WS Q SF h k n pc Ls st := by
  intro p e s m args below meth c T hR
  obtain ⟨hA, vm0, k0, locs, X, e0, C⟩ := hR
  exact K C.2.2.2.2.2.2.1 C.2.2.2.2.2.2.2.1 (fun x hx => (C.2.2.2.2.1 x hx).1) p e s m args below meth c T ⟨hA, vm0, k0, locs, X, e0, C⟩
theorem Go.more {k' n' : Nat} (hk : k ≤ k') (hn : n ≤ n') (K : Go l Z EL n0 nr kn y bytes mL ret R h0 WS Q SF h k' n' pc Ls st) : Go l Z EL n0 nr kn y bytes mL ret R h0 WS Q SF h k n pc Ls st := by
  intro p e s m args below meth c T hR
  obtain ⟨hA, vm0, k0, locs, X, e0, C⟩ := hR
  exact K p e s m args below meth c T ⟨hA, vm0, k0, locs, X.more hk hn, e0, C⟩
theorem Go.fewer {SF' : List Addr} (hs : ∀ x ∈ SF', x ∈ SF) (K : Go l Z EL n0 nr kn y bytes mL ret R h0 WS Q SF' h k n pc Ls st) : Go l Z EL n0 nr kn y bytes mL ret R h0 WS Q SF h k n pc Ls st := by
  intro p e s m args below meth c T hR
  obtain ⟨hA, vm0, k0, locs, X, e0, c1, c2, c3, c4, c5, r⟩ := hR
  exact K p e s m args below meth c T ⟨hA, vm0, k0, locs, X, e0, c1, c2, c3, c4, fun x hx => c5 x (hs x hx), r⟩
theorem Go.plain {st' : List Value} (H : ∀ (p : Program) (e : Env) (below : List Frame) (T : State) (m : MethodId) (c : Code) (target : State), At T m c below → p.tables.exec = Jvm.exec → c.code = bytes → Steps p.tables e below (T.setTop (mkF m pc' Ls' st')) target → Steps p.tables e below (T.setTop (mkF m pc Ls st)) target)
    (K : Go l Z EL n0 nr kn y bytes mL ret R h0 WS Q SF h k n pc' Ls' st') : Go l Z EL n0 nr kn y bytes mL ret R h0 WS Q SF h k n pc Ls st := by
  intro p e s m args below meth c T hR
  obtain ⟨t, o, hs, r⟩ := K p e s m args below meth c T hR
  obtain ⟨⟨hx, hb, -⟩, vm0, k0, locs, X, -⟩ := hR
  exact ⟨t, o, H p e below T m c t X.here hx hb hs, r⟩

theorem Go.aload_n {i : Fin 4} {v : Value} (hd : decode bytes pc = .ok (.aload_n i, 1)) (hq : pc + 1 = pc') (hl : Ls[i.val]? = some (.val v)) (hv : v.isRef = true) (K : Go l Z EL n0 nr kn y bytes mL ret R h0 WS Q SF h k n pc' Ls (v :: st)) : Go l Z EL n0 nr kn y bytes mL ret R h0 WS Q SF h k n pc Ls st :=
  Go.plain (fun p e below T m c target hA hx hb hk => XS.aloadN hA hx rfl (hb ▸ hd) hl hv (by subst hq; exact hk)) K
theorem Go.aload {i : Nat} {v : Value} (hd : decode bytes pc = .ok (.aload i, 2)) (hq : pc + 2 = pc') (hl : Ls[i]? = some (.val v)) (hv : v.isRef = true) (K : Go l Z EL n0 nr kn y bytes mL ret R h0 WS Q SF h k n pc' Ls (v :: st)) : Go l Z EL n0 nr kn y bytes mL ret R h0 WS Q SF h k n pc Ls st :=
  Go.plain (fun p e below T m c target hA hx hb hk => XS.aload hA hx rfl (hb ▸ hd) hl hv (by subst hq; exact hk)) K
theorem Go.iload_n {i : Fin 4} {v : Int32} (hd : decode bytes pc = .ok (.iload_n i, 1)) (hq : pc + 1 = pc') (hl : Ls[i.val]? = some (.val (.int v))) (K : Go l Z EL n0 nr kn y bytes mL ret R h0 WS Q SF h k n pc' Ls (.int v :: st)) : Go l Z EL n0 nr kn y bytes mL ret R h0 WS Q SF h k n pc Ls st :=
  Go.plain (fun p e below T m c target hA hx hb hk => XS.iloadN hA hx rfl (hb ▸ hd) hl (by subst hq; exact hk)) K
theorem Go.iload {i : Nat} {v : Int32} (hd : decode bytes pc = .ok (.iload i, 2)) (hq : pc + 2 = pc') (hl : Ls[i]? = some (.val (.int v))) (K : Go l Z EL n0 nr kn y bytes mL ret R h0 WS Q SF h k n pc' Ls (.int v :: st)) : Go l Z EL n0 nr kn y bytes mL ret R h0 WS Q SF h k n pc Ls st :=
  Go.plain (fun p e below T m c target hA hx hb hk => XS.iload hA hx rfl (hb ▸ hd) hl (by subst hq; exact hk)) K
theorem Go.lload_n {i : Fin 4} {v : Int64} (hd : decode bytes pc = .ok (.lload_n i, 1)) (hq : pc + 1 = pc') (hl : Ls[i.val]? = some (.val (.long v))) (K : Go l Z EL n0 nr kn y bytes mL ret R h0 WS Q SF h k n pc' Ls (.long v :: st)) : Go l Z EL n0 nr kn y bytes mL ret R h0 WS Q SF h k n pc Ls st :=
  Go.plain (fun p e below T m c target hA hx hb hk => XS.lloadN hA hx rfl (hb ▸ hd) hl (by subst hq; exact hk)) K
theorem Go.iconst {i : Int} {v : Int32} (hd : decode bytes pc = .ok (.iconst i, 1)) (hq : pc + 1 = pc') (hv : Int32.ofInt i = v) (K : Go l Z EL n0 nr kn y bytes mL ret R h0 WS Q SF h k n pc' Ls (.int v :: st)) : Go l Z EL n0 nr kn y bytes mL ret R h0 WS Q SF h k n pc Ls st :=
  Go.plain (fun p e below T m c target hA hx hb hk => XS.iconst hA hx rfl (hb ▸ hd) (by subst hq; subst hv; exact hk)) K
theorem Go.bipush {i : Int} {v : Int32} (hd : decode bytes pc = .ok (.bipush i, 2)) (hq : pc + 2 = pc') (hv : (Int8.ofInt i).toInt32 = v) (K : Go l Z EL n0 nr kn y bytes mL ret R h0 WS Q SF h k n pc' Ls (.int v :: st)) : Go l Z EL n0 nr kn y bytes mL ret R h0 WS Q SF h k n pc Ls st :=
  Go.plain (fun p e below T m c target hA hx hb hk => XS.bipush hA hx rfl (hb ▸ hd) (by subst hq; subst hv; exact hk)) K
theorem Go.sipush {i : Int} {v : Int32} (hd : decode bytes pc = .ok (.sipush i, 3)) (hq : pc + 3 = pc') (hv : (Int16.ofInt i).toInt32 = v) (K : Go l Z EL n0 nr kn y bytes mL ret R h0 WS Q SF h k n pc' Ls (.int v :: st)) : Go l Z EL n0 nr kn y bytes mL ret R h0 WS Q SF h k n pc Ls st :=
  Go.plain (fun p e below T m c target hA hx hb hk => XS.sipush hA hx rfl (hb ▸ hd) (by subst hq; subst hv; exact hk)) K
theorem Go.aconst_null (hd : decode bytes pc = .ok (.aconst_null, 1)) (hq : pc + 1 = pc') (K : Go l Z EL n0 nr kn y bytes mL ret R h0 WS Q SF h k n pc' Ls (.null :: st)) : Go l Z EL n0 nr kn y bytes mL ret R h0 WS Q SF h k n pc Ls st :=
  Go.plain (fun p e below T m c target hA hx hb hk => XS.aconstNull hA hx rfl (hb ▸ hd) (by subst hq; exact hk)) K
theorem Go.iadd {x z : Int32} (hd : decode bytes pc = .ok (.iadd, 1)) (hq : pc + 1 = pc') (K : Go l Z EL n0 nr kn y bytes mL ret R h0 WS Q SF h k n pc' Ls (.int (x + z) :: st)) : Go l Z EL n0 nr kn y bytes mL ret R h0 WS Q SF h k n pc Ls (.int z :: .int x :: st) :=
  Go.plain (fun p e below T m c target hA hx hb hk => XS.iadd hA hx rfl (hb ▸ hd) rfl (by subst hq; exact hk)) K
theorem Go.isub {x z : Int32} (hd : decode bytes pc = .ok (.isub, 1)) (hq : pc + 1 = pc') (K : Go l Z EL n0 nr kn y bytes mL ret R h0 WS Q SF h k n pc' Ls (.int (x - z) :: st)) : Go l Z EL n0 nr kn y bytes mL ret R h0 WS Q SF h k n pc Ls (.int z :: .int x :: st) :=
  Go.plain (fun p e below T m c target hA hx hb hk => XS.isub hA hx rfl (hb ▸ hd) rfl (by subst hq; exact hk)) K
theorem Go.iand {x z : Int32} (hd : decode bytes pc = .ok (.iand, 1)) (hq : pc + 1 = pc') (K : Go l Z EL n0 nr kn y bytes mL ret R h0 WS Q SF h k n pc' Ls (.int (x &&& z) :: st)) : Go l Z EL n0 nr kn y bytes mL ret R h0 WS Q SF h k n pc Ls (.int z :: .int x :: st) :=
  Go.plain (fun p e below T m c target hA hx hb hk => XS.iand hA hx rfl (hb ▸ hd) rfl (by subst hq; exact hk)) K
theorem Go.imul {x z : Int32} (hd : decode bytes pc = .ok (.imul, 1)) (hq : pc + 1 = pc') (K : Go l Z EL n0 nr kn y bytes mL ret R h0 WS Q SF h k n pc' Ls (.int (x * z) :: st)) : Go l Z EL n0 nr kn y bytes mL ret R h0 WS Q SF h k n pc Ls (.int z :: .int x :: st) :=
  Go.plain (fun p e below T m c target hA hx hb hk => XS.imul hA hx rfl (hb ▸ hd) rfl (by subst hq; exact hk)) K
theorem Go.ior {x z : Int32} (hd : decode bytes pc = .ok (.ior, 1)) (hq : pc + 1 = pc') (K : Go l Z EL n0 nr kn y bytes mL ret R h0 WS Q SF h k n pc' Ls (.int (x ||| z) :: st)) : Go l Z EL n0 nr kn y bytes mL ret R h0 WS Q SF h k n pc Ls (.int z :: .int x :: st) :=
  Go.plain (fun p e below T m c target hA hx hb hk => XS.ior hA hx rfl (hb ▸ hd) rfl (by subst hq; exact hk)) K
theorem Go.ixor {x z : Int32} (hd : decode bytes pc = .ok (.ixor, 1)) (hq : pc + 1 = pc') (K : Go l Z EL n0 nr kn y bytes mL ret R h0 WS Q SF h k n pc' Ls (.int (x ^^^ z) :: st)) : Go l Z EL n0 nr kn y bytes mL ret R h0 WS Q SF h k n pc Ls (.int z :: .int x :: st) :=
  Go.plain (fun p e below T m c target hA hx hb hk => XS.ixor hA hx rfl (hb ▸ hd) rfl (by subst hq; exact hk)) K
theorem Go.ishl {x z : Int32} (hd : decode bytes pc = .ok (.ishl, 1)) (hq : pc + 1 = pc') (K : Go l Z EL n0 nr kn y bytes mL ret R h0 WS Q SF h k n pc' Ls (.int (x <<< (z &&& 31)) :: st)) : Go l Z EL n0 nr kn y bytes mL ret R h0 WS Q SF h k n pc Ls (.int z :: .int x :: st) :=
  Go.plain (fun p e below T m c target hA hx hb hk => XS.ishl hA hx rfl (hb ▸ hd) rfl (by subst hq; exact hk)) K
theorem Go.ishr {x z : Int32} (hd : decode bytes pc = .ok (.ishr, 1)) (hq : pc + 1 = pc') (K : Go l Z EL n0 nr kn y bytes mL ret R h0 WS Q SF h k n pc' Ls (.int (x >>> (z &&& 31)) :: st)) : Go l Z EL n0 nr kn y bytes mL ret R h0 WS Q SF h k n pc Ls (.int z :: .int x :: st) :=
  Go.plain (fun p e below T m c target hA hx hb hk => XS.ishr hA hx rfl (hb ▸ hd) rfl (by subst hq; exact hk)) K
theorem Go.iushr {x z : Int32} (hd : decode bytes pc = .ok (.iushr, 1)) (hq : pc + 1 = pc') (K : Go l Z EL n0 nr kn y bytes mL ret R h0 WS Q SF h k n pc' Ls (.int ((x.toUInt32 >>> (z &&& 31).toUInt32).toInt32) :: st)) : Go l Z EL n0 nr kn y bytes mL ret R h0 WS Q SF h k n pc Ls (.int z :: .int x :: st) :=
  Go.plain (fun p e below T m c target hA hx hb hk => XS.iushr hA hx rfl (hb ▸ hd) rfl (by subst hq; exact hk)) K
theorem Go.ineg {x : Int32} (hd : decode bytes pc = .ok (.ineg, 1)) (hq : pc + 1 = pc') (K : Go l Z EL n0 nr kn y bytes mL ret R h0 WS Q SF h k n pc' Ls (.int (-x) :: st)) : Go l Z EL n0 nr kn y bytes mL ret R h0 WS Q SF h k n pc Ls (.int x :: st) :=
  Go.plain (fun p e below T m c target hA hx hb hk => XS.ineg hA hx rfl (hb ▸ hd) rfl (by subst hq; exact hk)) K
theorem Go.i2b {x : Int32} (hd : decode bytes pc = .ok (.i2b, 1)) (hq : pc + 1 = pc') (K : Go l Z EL n0 nr kn y bytes mL ret R h0 WS Q SF h k n pc' Ls (.int x.toInt8.toInt32 :: st)) : Go l Z EL n0 nr kn y bytes mL ret R h0 WS Q SF h k n pc Ls (.int x :: st) :=
  Go.plain (fun p e below T m c target hA hx hb hk => XS.i2b hA hx rfl (hb ▸ hd) rfl (by subst hq; exact hk)) K
theorem Go.i2c {x : Int32} (hd : decode bytes pc = .ok (.i2c, 1)) (hq : pc + 1 = pc') (K : Go l Z EL n0 nr kn y bytes mL ret R h0 WS Q SF h k n pc' Ls (.int x.toUInt32.toUInt16.toUInt32.toInt32 :: st)) : Go l Z EL n0 nr kn y bytes mL ret R h0 WS Q SF h k n pc Ls (.int x :: st) :=
  Go.plain (fun p e below T m c target hA hx hb hk => XS.i2c hA hx rfl (hb ▸ hd) rfl (by subst hq; exact hk)) K
theorem Go.i2l {x : Int32} (hd : decode bytes pc = .ok (.i2l, 1)) (hq : pc + 1 = pc') (K : Go l Z EL n0 nr kn y bytes mL ret R h0 WS Q SF h k n pc' Ls (.long x.toInt64 :: st)) : Go l Z EL n0 nr kn y bytes mL ret R h0 WS Q SF h k n pc Ls (.int x :: st) :=
  Go.plain (fun p e below T m c target hA hx hb hk => XS.i2l hA hx rfl (hb ▸ hd) rfl (by subst hq; exact hk)) K
theorem Go.l2i {x : Int64} (hd : decode bytes pc = .ok (.l2i, 1)) (hq : pc + 1 = pc') (K : Go l Z EL n0 nr kn y bytes mL ret R h0 WS Q SF h k n pc' Ls (.int x.toInt32 :: st)) : Go l Z EL n0 nr kn y bytes mL ret R h0 WS Q SF h k n pc Ls (.long x :: st) :=
  Go.plain (fun p e below T m c target hA hx hb hk => XS.l2i hA hx rfl (hb ▸ hd) rfl (by subst hq; exact hk)) K
theorem Go.ladd {x z : Int64} (hd : decode bytes pc = .ok (.ladd, 1)) (hq : pc + 1 = pc') (K : Go l Z EL n0 nr kn y bytes mL ret R h0 WS Q SF h k n pc' Ls (.long (x + z) :: st)) : Go l Z EL n0 nr kn y bytes mL ret R h0 WS Q SF h k n pc Ls (.long z :: .long x :: st) :=
  Go.plain (fun p e below T m c target hA hx hb hk => XS.ladd hA hx rfl (hb ▸ hd) rfl (by subst hq; exact hk)) K
theorem Go.lsub {x z : Int64} (hd : decode bytes pc = .ok (.lsub, 1)) (hq : pc + 1 = pc') (K : Go l Z EL n0 nr kn y bytes mL ret R h0 WS Q SF h k n pc' Ls (.long (x - z) :: st)) : Go l Z EL n0 nr kn y bytes mL ret R h0 WS Q SF h k n pc Ls (.long z :: .long x :: st) :=
  Go.plain (fun p e below T m c target hA hx hb hk => XS.lsub hA hx rfl (hb ▸ hd) rfl (by subst hq; exact hk)) K
theorem Go.lmul {x z : Int64} (hd : decode bytes pc = .ok (.lmul, 1)) (hq : pc + 1 = pc') (K : Go l Z EL n0 nr kn y bytes mL ret R h0 WS Q SF h k n pc' Ls (.long (x * z) :: st)) : Go l Z EL n0 nr kn y bytes mL ret R h0 WS Q SF h k n pc Ls (.long z :: .long x :: st) :=
  Go.plain (fun p e below T m c target hA hx hb hk => XS.lmul hA hx rfl (hb ▸ hd) rfl (by subst hq; exact hk)) K
theorem Go.lcmp {x z : Int64} (hd : decode bytes pc = .ok (.lcmp, 1)) (hq : pc + 1 = pc') (K : Go l Z EL n0 nr kn y bytes mL ret R h0 WS Q SF h k n pc' Ls (.int (lcmpW x z) :: st)) : Go l Z EL n0 nr kn y bytes mL ret R h0 WS Q SF h k n pc Ls (.long z :: .long x :: st) :=
  Go.plain (fun p e below T m c target hA hx hb hk => XS.lcmp hA hx rfl (hb ▸ hd) rfl (by subst hq; exact hk)) K
theorem Go.dup {v : Value} (hd : decode bytes pc = .ok (.dup, 1)) (hq : pc + 1 = pc') (hc : v.category = 1) (K : Go l Z EL n0 nr kn y bytes mL ret R h0 WS Q SF h k n pc' Ls (v :: v :: st)) : Go l Z EL n0 nr kn y bytes mL ret R h0 WS Q SF h k n pc Ls (v :: st) :=
  Go.plain (fun p e below T m c target hA hx hb hk => XS.dup hA hx rfl (hb ▸ hd) rfl hc (by subst hq; exact hk)) K
theorem Go.pop {v : Value} (hd : decode bytes pc = .ok (.pop, 1)) (hq : pc + 1 = pc') (hc : v.category = 1) (K : Go l Z EL n0 nr kn y bytes mL ret R h0 WS Q SF h k n pc' Ls st) : Go l Z EL n0 nr kn y bytes mL ret R h0 WS Q SF h k n pc Ls (v :: st) :=
  Go.plain (fun p e below T m c target hA hx hb hk => XS.pop hA hx rfl (hb ▸ hd) rfl hc (by subst hq; exact hk)) K
theorem Go.dup_x1 {v u : Value} (hd : decode bytes pc = .ok (.dup_x1, 1)) (hq : pc + 1 = pc') (hc : v.category = 1) (hc' : u.category = 1) (K : Go l Z EL n0 nr kn y bytes mL ret R h0 WS Q SF h k n pc' Ls (v :: u :: v :: st)) : Go l Z EL n0 nr kn y bytes mL ret R h0 WS Q SF h k n pc Ls (v :: u :: st) :=
  Go.plain (fun p e below T m c target hA hx hb hk => XS.dupX1 hA hx rfl (hb ▸ hd) rfl hc hc' (by subst hq; exact hk)) K
theorem Go.istore_n {i : Fin 4} {x : Int32} (hd : decode bytes pc = .ok (.istore_n i, 1)) (hq : pc + 1 = pc') (hl : storeLocals Ls i.val (.int x) = some Ls') (K : Go l Z EL n0 nr kn y bytes mL ret R h0 WS Q SF h k n pc' Ls' st) : Go l Z EL n0 nr kn y bytes mL ret R h0 WS Q SF h k n pc Ls (.int x :: st) :=
  Go.plain (fun p e below T m c target hA hx hb hk => XS.istoreN hA hx rfl (hb ▸ hd) rfl hl (by subst hq; exact hk)) K
theorem Go.istore {i : Nat} {x : Int32} (hd : decode bytes pc = .ok (.istore i, 2)) (hq : pc + 2 = pc') (hl : storeLocals Ls i (.int x) = some Ls') (K : Go l Z EL n0 nr kn y bytes mL ret R h0 WS Q SF h k n pc' Ls' st) : Go l Z EL n0 nr kn y bytes mL ret R h0 WS Q SF h k n pc Ls (.int x :: st) :=
  Go.plain (fun p e below T m c target hA hx hb hk => XS.istore hA hx rfl (hb ▸ hd) rfl hl (by subst hq; exact hk)) K
theorem Go.istoreS {i : Nat} {x : Int32} {o : Slot} (hd : decode bytes pc = .ok (.istore i, 2)) (hq : pc + 2 = pc') (hold : Ls[i]? = some o) (ho : One o) (hl : Ls.setIfInBounds i (.val (.int x)) = Ls') (K : Go l Z EL n0 nr kn y bytes mL ret R h0 WS Q SF h k n pc' Ls' st) : Go l Z EL n0 nr kn y bytes mL ret R h0 WS Q SF h k n pc Ls (.int x :: st) :=
  Go.plain (fun p e below T m c target hA hx hb hk => XS.istoreS hA hx rfl (hb ▸ hd) rfl hold ho (by subst hq; subst hl; exact hk)) K
theorem Go.lstore_n {i : Fin 4} {x : Int64} (hd : decode bytes pc = .ok (.lstore_n i, 1)) (hq : pc + 1 = pc') (hl : storeLocals Ls i.val (.long x) = some Ls') (K : Go l Z EL n0 nr kn y bytes mL ret R h0 WS Q SF h k n pc' Ls' st) : Go l Z EL n0 nr kn y bytes mL ret R h0 WS Q SF h k n pc Ls (.long x :: st) :=
  Go.plain (fun p e below T m c target hA hx hb hk => XS.lstoreN hA hx rfl (hb ▸ hd) rfl hl (by subst hq; exact hk)) K
theorem Go.astore_n {i : Fin 4} {v : Value} (hd : decode bytes pc = .ok (.astore_n i, 1)) (hq : pc + 1 = pc') (hv : v.isRef = true) (hl : storeLocals Ls i.val v = some Ls') (K : Go l Z EL n0 nr kn y bytes mL ret R h0 WS Q SF h k n pc' Ls' st) : Go l Z EL n0 nr kn y bytes mL ret R h0 WS Q SF h k n pc Ls (v :: st) :=
  Go.plain (fun p e below T m c target hA hx hb hk => XS.astoreN hA hx rfl (hb ▸ hd) rfl hv hl (by subst hq; exact hk)) K
theorem Go.astore {i : Nat} {v : Value} (hd : decode bytes pc = .ok (.astore i, 2)) (hq : pc + 2 = pc') (hv : v.isRef = true) (hl : storeLocals Ls i v = some Ls') (K : Go l Z EL n0 nr kn y bytes mL ret R h0 WS Q SF h k n pc' Ls' st) : Go l Z EL n0 nr kn y bytes mL ret R h0 WS Q SF h k n pc Ls (v :: st) :=
  Go.plain (fun p e below T m c target hA hx hb hk => XS.astore hA hx rfl (hb ▸ hd) rfl hv hl (by subst hq; exact hk)) K
theorem Go.iinc {i : Nat} {cst : Int} {x cv : Int32} (hd : decode bytes pc = .ok (.iinc i cst, 3)) (hq : pc + 3 = pc') (hv : Int32.ofInt cst = cv) (hl : Ls[i]? = some (.val (.int x))) (hl' : storeLocals Ls i (.int (x + cv)) = some Ls') (K : Go l Z EL n0 nr kn y bytes mL ret R h0 WS Q SF h k n pc' Ls' st) : Go l Z EL n0 nr kn y bytes mL ret R h0 WS Q SF h k n pc Ls st :=
  Go.plain (fun p e below T m c target hA hx hb hk => XS.iinc hA hx rfl (hb ▸ hd) hl (by subst hv; exact hl') (by subst hq; exact hk)) K
theorem Go.irem {x z : Int32} (hd : decode bytes pc = .ok (.irem, 1)) (hq : pc + 1 = pc') (hz : z ≠ 0) (K : Go l Z EL n0 nr kn y bytes mL ret R h0 WS Q SF h k n pc' Ls (.int (x % z) :: st)) : Go l Z EL n0 nr kn y bytes mL ret R h0 WS Q SF h k n pc Ls (.int z :: .int x :: st) :=
  Go.plain (fun p e below T m c target hA hx hb hk => XS.irem hA hx rfl (hb ▸ hd) rfl hz (by rw [show x - x / z * z = x % z from irem_eq_mod x z]; subst hq; exact hk)) K
theorem Go.idiv {x z : Int32} (hd : decode bytes pc = .ok (.idiv, 1)) (hq : pc + 1 = pc') (hz : z ≠ 0) (K : Go l Z EL n0 nr kn y bytes mL ret R h0 WS Q SF h k n pc' Ls (.int (x / z) :: st)) : Go l Z EL n0 nr kn y bytes mL ret R h0 WS Q SF h k n pc Ls (.int z :: .int x :: st) :=
  Go.plain (fun p e below T m c target hA hx hb hk => XS.idiv hA hx rfl (hb ▸ hd) rfl hz (by subst hq; exact hk)) K
theorem Go.goto {o : Int} (hd : decode bytes pc = .ok (.goto o, 3)) (ho : 0 ≤ (pc : Int) + o) (hq : ((pc : Int) + o).toNat = pc') (K : Go l Z EL n0 nr kn y bytes mL ret R h0 WS Q SF h k n pc' Ls st) : Go l Z EL n0 nr kn y bytes mL ret R h0 WS Q SF h k n pc Ls st :=
  Go.plain (fun p e below T m c target hA hx hb hk => XS.goto hA hx rfl (pc0 := pc) (pc' := pc') rfl (hb ▸ hd) ho hq hk) K
theorem Go.ifY {cd : ClassFile.Cond} {x : Int32} {o : Int} (hd : decode bytes pc = .ok (.ifCond cd o, 3)) (ho : 0 ≤ (pc : Int) + o) (hq : ((pc : Int) + o).toNat = pc') (hc : ifCond.holds cd x = true) (K : Go l Z EL n0 nr kn y bytes mL ret R h0 WS Q SF h k n pc' Ls st) : Go l Z EL n0 nr kn y bytes mL ret R h0 WS Q SF h k n pc Ls (.int x :: st) :=
  Go.plain (fun p e below T m c target hA hx hb hk => XS.ifYes hA hx rfl (pc0 := pc) (pc' := pc') rfl (hb ▸ hd) rfl hc ho hq hk) K
theorem Go.icmpY {cd : ClassFile.Cond} {x z : Int32} {o : Int} (hd : decode bytes pc = .ok (.if_icmp cd o, 3)) (ho : 0 ≤ (pc : Int) + o) (hq : ((pc : Int) + o).toNat = pc') (hc : if_icmp.holds cd x z = true) (K : Go l Z EL n0 nr kn y bytes mL ret R h0 WS Q SF h k n pc' Ls st) : Go l Z EL n0 nr kn y bytes mL ret R h0 WS Q SF h k n pc Ls (.int z :: .int x :: st) :=
  Go.plain (fun p e below T m c target hA hx hb hk => XS.icmpYes hA hx rfl (pc0 := pc) (pc' := pc') rfl (hb ▸ hd) rfl hc ho hq hk) K
theorem Go.ifnullY {o : Int} (hd : decode bytes pc = .ok (.ifnull o, 3)) (ho : 0 ≤ (pc : Int) + o) (hq : ((pc : Int) + o).toNat = pc') (K : Go l Z EL n0 nr kn y bytes mL ret R h0 WS Q SF h k n pc' Ls st) : Go l Z EL n0 nr kn y bytes mL ret R h0 WS Q SF h k n pc Ls (.null :: st) :=
  Go.plain (fun p e below T m c target hA hx hb hk => XS.ifnullYes hA hx rfl (pc0 := pc) (pc' := pc') rfl (hb ▸ hd) rfl ho hq hk) K
theorem Go.ifnonnullY {b : Addr} {o : Int} (hd : decode bytes pc = .ok (.ifnonnull o, 3)) (ho : 0 ≤ (pc : Int) + o) (hq : ((pc : Int) + o).toNat = pc') (K : Go l Z EL n0 nr kn y bytes mL ret R h0 WS Q SF h k n pc' Ls st) : Go l Z EL n0 nr kn y bytes mL ret R h0 WS Q SF h k n pc Ls (.ref b :: st) :=
  Go.plain (fun p e below T m c target hA hx hb hk => XS.ifnonnullYes hA hx rfl (pc0 := pc) (pc' := pc') rfl (hb ▸ hd) rfl ho hq hk) K
theorem Go.ifN {cd : ClassFile.Cond} {o : Int} {x : Int32} (hd : decode bytes pc = .ok (.ifCond cd o, 3)) (hq : pc + 3 = pc') (hc : ifCond.holds cd x = false) (K : Go l Z EL n0 nr kn y bytes mL ret R h0 WS Q SF h k n pc' Ls st) : Go l Z EL n0 nr kn y bytes mL ret R h0 WS Q SF h k n pc Ls (.int x :: st) :=
  Go.plain (fun p e below T m c target hA hx hb hk => XS.ifNo hA hx rfl (hb ▸ hd) rfl hc (by subst hq; exact hk)) K
theorem Go.icmpN {cd : ClassFile.Cond} {o : Int} {x z : Int32} (hd : decode bytes pc = .ok (.if_icmp cd o, 3)) (hq : pc + 3 = pc') (hc : if_icmp.holds cd x z = false) (K : Go l Z EL n0 nr kn y bytes mL ret R h0 WS Q SF h k n pc' Ls st) : Go l Z EL n0 nr kn y bytes mL ret R h0 WS Q SF h k n pc Ls (.int z :: .int x :: st) :=
  Go.plain (fun p e below T m c target hA hx hb hk => XS.icmpNo hA hx rfl (hb ▸ hd) rfl hc (by subst hq; exact hk)) K
theorem Go.ifnullN {o : Int} {b : Addr} (hd : decode bytes pc = .ok (.ifnull o, 3)) (hq : pc + 3 = pc') (K : Go l Z EL n0 nr kn y bytes mL ret R h0 WS Q SF h k n pc' Ls st) : Go l Z EL n0 nr kn y bytes mL ret R h0 WS Q SF h k n pc Ls (.ref b :: st) :=
  Go.plain (fun p e below T m c target hA hx hb hk => XS.ifnullNo hA hx rfl (hb ▸ hd) rfl (by subst hq; exact hk)) K
theorem Go.ifnonnullN {o : Int} (hd : decode bytes pc = .ok (.ifnonnull o, 3)) (hq : pc + 3 = pc') (K : Go l Z EL n0 nr kn y bytes mL ret R h0 WS Q SF h k n pc' Ls st) : Go l Z EL n0 nr kn y bytes mL ret R h0 WS Q SF h k n pc Ls (.null :: st) :=
  Go.plain (fun p e below T m c target hA hx hb hk => XS.ifnonnullNo hA hx rfl (hb ▸ hd) rfl (by subst hq; exact hk)) K
theorem Go.acmp {cd : ACond} {v u : Value} {o : Int} {same : Bool} (hd : decode bytes pc = .ok (.if_acmp cd o, 3)) (hv : v.isRef = true) (hu : u.isRef = true) (hs : decide (v = u) = same) (ho : 0 ≤ (pc : Int) + o) (hq : pc' = if acV cd same = true then ((pc : Int) + o).toNat else pc + 3) (K : Go l Z EL n0 nr kn y bytes mL ret R h0 WS Q SF h k n pc' Ls st) : Go l Z EL n0 nr kn y bytes mL ret R h0 WS Q SF h k n pc Ls (u :: v :: st) := by
  intro p e s m args below meth c T hR
  obtain ⟨t, o, hs', r⟩ := K p e s m args below meth c T hR
  obtain ⟨⟨hx, hb, -⟩, vm0, k0, locs, X, -⟩ := hR
  exact ⟨t, o, Jvm.RoadKit.acmp (g := mkF m pc Ls (u :: v :: st)) X hx rfl hv hu (pc0 := pc) (pc' := pc') (same := same) rfl (hb ▸ hd) rfl hs ho hq hs', r⟩
theorem Go.getF {R0 O nf d host : String} {index : Nat} {a : Addr} {v : Value} (hd : decode bytes pc = .ok (.getfield index, 3)) (hq : pc + 3 = pc') (w : (Jvm.Cond.fieldLink y.cls index R0 nf d).before a0 Z = true ∨ (Jvm.Cond.fieldLinkNest y.cls index R0 nf d host).before a0 Z = true) (via : Via Z R0 O nf d) (F : Fld Z h a O nf d v) (K : Go l Z EL n0 nr kn y bytes mL ret R h0 WS Q SF h k n pc' Ls (v :: st)) : Go l Z EL n0 nr kn y bytes mL ret R h0 WS Q SF h k n pc Ls (.ref a :: st) := by
  intro p e s m args below meth c T hR
  obtain ⟨⟨hx, hby, hml, hown, hnm, hret, hlk, hkn⟩, vm0, k0, locs, X, e0, C⟩ := hR
  have hZ : Z.Warmed39 (s.setVm vm0).vm := C.1
  have hown' : (s.setVm vm0).vm.findClass y.cls = some m.cls := by rw [show (s.setVm vm0).vm = vm0 from rfl, C.2.1.1.1.alike.findClass]; exact hown
  obtain ⟨T', X', e', st'⟩ := Jvm.RoadKit.getF X hx hZ hown' w via e0 F (g := mkF m pc Ls (.ref a :: st)) rfl rfl (hb hby hd)
  obtain ⟨t, o, hs, r⟩ := K p e s m args below meth c T' ⟨⟨hx, hby, hml, hown, hnm, hret, hlk, hkn⟩, vm0, k0, locs, X', e', C⟩
  exact ⟨t, o, st' _ (by subst hq; exact hs), r⟩
theorem Go.getS {R0 O nf d host : String} {index : Nat} {v : Value} (hd : decode bytes pc = .ok (.getstatic index, 3)) (hq : pc + 3 = pc') (w : (Jvm.Cond.fieldLink y.cls index R0 nf d).before a0 Z = true ∨ (Jvm.Cond.fieldLinkNest y.cls index R0 nf d host).before a0 Z = true) (via : Via Z R0 O nf d) (F : Sta Z Z.heap O nf d v) (K : Go l Z EL n0 nr kn y bytes mL ret R h0 WS Q SF h k n pc' Ls (v :: st)) : Go l Z EL n0 nr kn y bytes mL ret R h0 WS Q SF h k n pc Ls st := by
  intro p e s m args below meth c T hR
  obtain ⟨⟨hx, hby, hml, hown, hnm, hret, hlk, hkn⟩, vm0, k0, locs, X, e0, C⟩ := hR
  have hZ : Z.Warmed39 (s.setVm vm0).vm := C.1
  have hown' : (s.setVm vm0).vm.findClass y.cls = some m.cls := by rw [show (s.setVm vm0).vm = vm0 from rfl, C.2.1.1.1.alike.findClass]; exact hown
  obtain ⟨T', X', e', st'⟩ := Jvm.RoadKit.getS2 X hx hZ hown' w via e0 (F.ext C.2.2.2.2.2.2.1.2) (g := mkF m pc Ls st) rfl (hb hby hd)
  obtain ⟨t, o, hs, r⟩ := K p e s m args below meth c T' ⟨⟨hx, hby, hml, hown, hnm, hret, hlk, hkn⟩, vm0, k0, locs, X', e', C⟩
  exact ⟨t, o, st' _ (by subst hq; exact hs), r⟩
theorem Go.castY {D : String} {index : Nat} {a : Addr} (hd : decode bytes pc = .ok (.checkcast index, 3)) (hq : pc + 3 = pc') (w : (Jvm.Cond.classLink y.cls index D).before a0 Z = true) (F : Ins Z h a D true) (K : Go l Z EL n0 nr kn y bytes mL ret R h0 WS Q SF h k n pc' Ls (.ref a :: st)) : Go l Z EL n0 nr kn y bytes mL ret R h0 WS Q SF h k n pc Ls (.ref a :: st) := by
  intro p e s m args below meth c T hR
  obtain ⟨⟨hx, hby, hml, hown, hnm, hret, hlk, hkn⟩, vm0, k0, locs, X, e0, C⟩ := hR
  have hZ : Z.Warmed39 (s.setVm vm0).vm := C.1
  have hown' : (s.setVm vm0).vm.findClass y.cls = some m.cls := by rw [show (s.setVm vm0).vm = vm0 from rfl, C.2.1.1.1.alike.findClass]; exact hown
  obtain ⟨T', X', e', st'⟩ := Jvm.RoadKit.castY X hx hZ hown' w e0 F (g := mkF m pc Ls (.ref a :: st)) rfl rfl (hb hby hd)
  obtain ⟨t, o, hs, r⟩ := K p e s m args below meth c T' ⟨⟨hx, hby, hml, hown, hnm, hret, hlk, hkn⟩, vm0, k0, locs, X', e', C⟩
  exact ⟨t, o, st' _ (by subst hq; exact hs), r⟩
theorem Go.instY {D : String} {index : Nat} {a : Addr} (hd : decode bytes pc = .ok (.instanceof index, 3)) (hq : pc + 3 = pc') (w : (Jvm.Cond.classLink y.cls index D).before a0 Z = true) (F : Ins Z h a D true) (K : Go l Z EL n0 nr kn y bytes mL ret R h0 WS Q SF h k n pc' Ls (.int 1 :: st)) : Go l Z EL n0 nr kn y bytes mL ret R h0 WS Q SF h k n pc Ls (.ref a :: st) := by
  intro p e s m args below meth c T hR
  obtain ⟨⟨hx, hby, hml, hown, hnm, hret, hlk, hkn⟩, vm0, k0, locs, X, e0, C⟩ := hR
  have hZ : Z.Warmed39 (s.setVm vm0).vm := C.1
  have hown' : (s.setVm vm0).vm.findClass y.cls = some m.cls := by rw [show (s.setVm vm0).vm = vm0 from rfl, C.2.1.1.1.alike.findClass]; exact hown
  obtain ⟨T', X', e', st'⟩ := Jvm.RoadKit.instY X hx hZ hown' w e0 F (g := mkF m pc Ls (.ref a :: st)) rfl rfl (hb hby hd)
  obtain ⟨t, o, hs, r⟩ := K p e s m args below meth c T' ⟨⟨hx, hby, hml, hown, hnm, hret, hlk, hkn⟩, vm0, k0, locs, X', e', C⟩
  exact ⟨t, o, st' _ (by subst hq; exact hs), r⟩
theorem Go.instNo {D CC : String} {index : Nat} {a : Addr} (hd : decode bytes pc = .ok (.instanceof index, 3)) (hq : pc + 3 = pc') (w : (Jvm.Cond.classLink y.cls index D).before a0 Z = true) (E : Exa Z h a CC) (F : ∃ c t, Z.vm.findClass CC = some c ∧ Z.vm.findClass D = some t ∧ Z.vm.assignable c t = false) (K : Go l Z EL n0 nr kn y bytes mL ret R h0 WS Q SF h k n pc' Ls (.int 0 :: st)) : Go l Z EL n0 nr kn y bytes mL ret R h0 WS Q SF h k n pc Ls (.ref a :: st) := by
  intro p e s m args below meth c T hR
  obtain ⟨⟨hx, hby, hml, hown, hnm, hret, hlk, hkn⟩, vm0, k0, locs, X, e0, C⟩ := hR
  have hZ : Z.Warmed39 (s.setVm vm0).vm := C.1
  have hown' : (s.setVm vm0).vm.findClass y.cls = some m.cls := by rw [show (s.setVm vm0).vm = vm0 from rfl, C.2.1.1.1.alike.findClass]; exact hown
  obtain ⟨T', X', e', st'⟩ := Jvm.RoadKit.instNo X hx hZ hown' w e0 E F (g := mkF m pc Ls (.ref a :: st)) rfl rfl (hb hby hd)
  obtain ⟨t, o, hs, r⟩ := K p e s m args below meth c T' ⟨⟨hx, hby, hml, hown, hnm, hret, hlk, hkn⟩, vm0, k0, locs, X', e', C⟩
  exact ⟨t, o, st' _ (by subst hq; exact hs), r⟩
theorem Go.initO {index W : Nat} {a : Addr} (hd : decode bytes pc = .ok (.invokespecial index, 3)) (hq : pc + 3 = pc') (w1 : (Jvm.Cond.methodLink y.cls index Lib.objectInit).before a0 Z = true) (w2 : (Jvm.Cond.instanceMethod Lib.objectInit).before a0 Z = true) (w3 : (Jvm.Cond.code Lib.objectInit ⟨#[0xb1]⟩ 1 none).before a0 Z = true) (hsz : Ls.size = mL) (hf : 1 ≤ R.frames) (hW : (st.map fun v => v.category).sum ≤ W) (hl : W + 12 ≤ R.locals) (K : Go l Z EL n0 nr kn y bytes mL ret R h0 WS Q SF h k n pc' Ls st) : Go l Z EL n0 nr kn y bytes mL ret R h0 WS Q SF h k n pc Ls (.ref a :: st) := by
  intro p e s m args below meth c T hR
  obtain ⟨⟨hx, hby, hml, hown, hnm, hret, hlk, hkn⟩, vm0, k0, locs, X, e0, C⟩ := hR
  have hZ : Z.Warmed39 (s.setVm vm0).vm := C.1
  have hown' : (s.setVm vm0).vm.findClass y.cls = some m.cls := by rw [show (s.setVm vm0).vm = vm0 from rfl, C.2.1.1.1.alike.findClass]; exact hown
  obtain ⟨T', X', e', st'⟩ := Jvm.RoadKit.initO X hx hZ hown' w1 w2 w3 e0 (g := mkF m pc Ls (.ref a :: st)) rfl (by rw [hml]; exact hsz) rfl (hb hby hd) hf (W := W) (by show 2 * 0 + _ ≤ _; rw [Nat.mul_zero, Nat.zero_add]; exact hW) hl
  obtain ⟨t, o, hs, r⟩ := K p e s m args below meth c T' ⟨⟨hx, hby, hml, hown, hnm, hret, hlk, hkn⟩, vm0, k0, locs, X', e', C⟩
  exact ⟨t, o, st' _ (by subst hq; exact hs), r⟩
theorem Go.gcls {index W : Nat} {CC : String} {a mr : Addr} (hd : decode bytes pc = .ok (.invokevirtual index, 3)) (hq : pc + 3 = pc') (w1 : (Jvm.Cond.methodLink y.cls index ⟨"java/lang/Object", "getClass", "()Ljava/lang/Class;"⟩).before a0 Z = true) (w2 : (Jvm.Cond.declares ⟨"java/lang/Object", "getClass", "()Ljava/lang/Class;"⟩).before a0 Z = true) (w3 : (Jvm.Cond.noSuperclass "java/lang/Object").before a0 Z = true) (w4 : (Jvm.Cond.selects CC ⟨"java/lang/Object", "getClass", "()Ljava/lang/Class;"⟩ ⟨"java/lang/Object", "getClass", "()Ljava/lang/Class;"⟩).before a0 Z = true)
    (w5 : (Jvm.Cond.instanceMethod ⟨"java/lang/Object", "getClass", "()Ljava/lang/Class;"⟩).before a0 Z = true) (w6 : (Jvm.Cond.native ⟨"java/lang/Object", "getClass", "()Ljava/lang/Class;"⟩).before a0 Z = true) (E : Exa Z h a CC) (M : Mr Z CC mr) (hsz : Ls.size = mL) (hf : 1 ≤ R.frames) (hW : (st.map fun v => v.category).sum ≤ W) (hl : W + (nativeFrameWords "java/lang/Object" "getClass" 1 + 11) ≤ R.locals) (K : Go l Z EL n0 nr kn y bytes mL ret R h0 WS Q SF h k n pc' Ls (.ref mr :: st)) : Go l Z EL n0 nr kn y bytes mL ret R h0 WS Q SF h k n pc Ls (.ref a :: st) := by
  intro p e s m args below meth c T hR
  obtain ⟨⟨hx, hby, hml, hown, hnm, hret, hlk, hkn⟩, vm0, k0, locs, X, e0, C⟩ := hR
  have hZ : Z.Warmed39 (s.setVm vm0).vm := C.1
  have hown' : (s.setVm vm0).vm.findClass y.cls = some m.cls := by rw [show (s.setVm vm0).vm = vm0 from rfl, C.2.1.1.1.alike.findClass]; exact hown
  obtain ⟨cB, kB, i1, i2, i3⟩ := isOf hZ e0 E
  obtain ⟨cc, kc, m1, m2, m3⟩ := M
  rw [hZ.alike.findClass] at i1
  cases i1.symm.trans m1
  obtain ⟨k', q, ek⟩ := hZ.alike.2.2 _ _ m2
  obtain ⟨vm', X', st'⟩ := X.getClassOf hx hown' (mvT hZ w1) (mvT hZ w2) (nf_top (args := #[]) (mvT hZ w3)) (mvT hZ w4) (mvT hZ w5) (mvT hZ w6) (by rw [hZ.alike.findClass]; exact m1) i3 q (by rw [ek]; exact m3) (g := mkF m pc Ls (.ref a :: st)) rfl (by rw [hml]; exact hsz) rfl (hb hby hd) hf (by show 2 * 0 + _ + _ ≤ _; omega)
  obtain ⟨t, o, hs, r⟩ := K p e s m args below meth c _ ⟨⟨hx, hby, hml, hown, hnm, hret, hlk, hkn⟩, vm0, k0, locs, X', e0, C⟩
  exact ⟨t, o, st' _ (by subst hq; exact hs), r⟩
theorem Go.ldcM {index : Nat} {CC : String} {mr : Addr} (hd : decode bytes pc = .ok (.ldc index, 2)) (hq : pc + 2 = pc') (w : (Jvm.Cond.classLink y.cls index CC).before a0 Z = true) (M : Mr Z CC mr) (K : Go l Z EL n0 nr kn y bytes mL ret R h0 WS Q SF h k n pc' Ls (.ref mr :: st)) : Go l Z EL n0 nr kn y bytes mL ret R h0 WS Q SF h k n pc Ls st := by
  intro p e s m args below meth c T hR
  obtain ⟨⟨hx, hby, hml, hown, hnm, hret, hlk, hkn⟩, vm0, k0, locs, X, e0, C⟩ := hR
  have hZ : Z.Warmed39 (s.setVm vm0).vm := C.1
  have hown' : (s.setVm vm0).vm.findClass y.cls = some m.cls := by rw [show (s.setVm vm0).vm = vm0 from rfl, C.2.1.1.1.alike.findClass]; exact hown
  obtain ⟨cc, kc, m1, m2, m3⟩ := M
  obtain ⟨k', q, ek⟩ := hZ.alike.2.2 _ _ m2
  have hev : (Term.mirror CC).eval args (s.setVm vm0) none [] (s.setVm vm0) = some (.ref mr) := by
    have q1 : (s.setVm vm0).vm.findClass CC = some cc := by rw [hZ.alike.findClass]; exact m1
    have q2 : k'.mirror = some mr := by rw [ek]; exact m3
    simp only [Term.eval, q1, q, q2, Option.bind_eq_bind, Option.bind_some, Option.pure_def]
  obtain ⟨vm', X', st'⟩ := X.ldcMirror hx hown' (mvT hZ w) hev (g := mkF m pc Ls st) rfl (hb hby hd)
  obtain ⟨t, o, hs, r⟩ := K p e s m args below meth c _ ⟨⟨hx, hby, hml, hown, hnm, hret, hlk, hkn⟩, vm0, k0, locs, X', e0, C⟩
  exact ⟨t, o, st' _ (by subst hq; exact hs), r⟩
theorem Go.ldcInt {index : Nat} {v : Int32} (hd : decode bytes pc = .ok (.ldc index, 2)) (hq : pc + 2 = pc') (w : (Jvm.Cond.constant y.cls index v).before a0 Z = true) (K : Go l Z EL n0 nr kn y bytes mL ret R h0 WS Q SF h k n pc' Ls (.int v :: st)) : Go l Z EL n0 nr kn y bytes mL ret R h0 WS Q SF h k n pc Ls st := by
  intro p e s m args below meth c T hR
  obtain ⟨⟨hx, hby, hml, hown, hnm, hret, hlk, hkn⟩, vm0, k0, locs, X, e0, C⟩ := hR
  have hZ : Z.Warmed39 (s.setVm vm0).vm := C.1
  have hown' : (s.setVm vm0).vm.findClass y.cls = some m.cls := by rw [show (s.setVm vm0).vm = vm0 from rfl, C.2.1.1.1.alike.findClass]; exact hown
  obtain ⟨t, o, hs, r⟩ := K p e s m args below meth c T ⟨⟨hx, hby, hml, hown, hnm, hret, hlk, hkn⟩, vm0, k0, locs, X, e0, C⟩
  exact ⟨t, o, X.ldcInt hx hown' (mvT hZ w) (g := mkF m pc Ls st) rfl (hb hby hd) _ (by subst hq; exact hs), r⟩
theorem Go.ldc2Long {index : Nat} {v : Int64} (hd : decode bytes pc = .ok (.ldc2_w index, 3)) (hq : pc + 3 = pc') (w : (Jvm.Cond.constantLong y.cls index v).before a0 Z = true) (K : Go l Z EL n0 nr kn y bytes mL ret R h0 WS Q SF h k n pc' Ls (.long v :: st)) : Go l Z EL n0 nr kn y bytes mL ret R h0 WS Q SF h k n pc Ls st := by
  intro p e s m args below meth c T hR
  obtain ⟨⟨hx, hby, hml, hown, hnm, hret, hlk, hkn⟩, vm0, k0, locs, X, e0, C⟩ := hR
  have hZ : Z.Warmed39 (s.setVm vm0).vm := C.1
  have hown' : (s.setVm vm0).vm.findClass y.cls = some m.cls := by rw [show (s.setVm vm0).vm = vm0 from rfl, C.2.1.1.1.alike.findClass]; exact hown
  obtain ⟨t, o, hs, r⟩ := K p e s m args below meth c T ⟨⟨hx, hby, hml, hown, hnm, hret, hlk, hkn⟩, vm0, k0, locs, X, e0, C⟩
  exact ⟨t, o, X.ldc2Long hx hown' (mvT hZ w) (g := mkF m pc Ls st) rfl (hb hby hd) _ (by subst hq; exact hs), r⟩
theorem Go.arraylength {a : Addr} {cl : Cell} {ty : FieldType} {z : Int32} (hd : decode bytes pc = .ok (.arraylength, 1)) (hq : pc + 1 = pc') (F : Arr Z h a cl ty) (hz : cl.slots.size.toInt32 = z) (K : Go l Z EL n0 nr kn y bytes mL ret R h0 WS Q SF h k n pc' Ls (.int z :: st)) : Go l Z EL n0 nr kn y bytes mL ret R h0 WS Q SF h k n pc Ls (.ref a :: st) := by
  intro p e s m args below meth c T hR
  obtain ⟨⟨hx, hby, hml, hown, hnm, hret, hlk, hkn⟩, vm0, k0, locs, X, e0, C⟩ := hR
  have hZ : Z.Warmed39 (s.setVm vm0).vm := C.1
  have hown' : (s.setVm vm0).vm.findClass y.cls = some m.cls := by rw [show (s.setVm vm0).vm = vm0 from rfl, C.2.1.1.1.alike.findClass]; exact hown
  obtain ⟨t, o, hs, r⟩ := K p e s m args below meth c T ⟨⟨hx, hby, hml, hown, hnm, hret, hlk, hkn⟩, vm0, k0, locs, X, e0, C⟩
  exact ⟨t, o, X.arraylength hx (by rw [e0]; exact F.1) (State.isArrayOf_alike hZ.alike F.2.1) (g := mkF m pc Ls (.ref a :: st)) rfl rfl (hb hby hd) _ (by subst hq; rw [hz]; exact hs), r⟩
theorem Go.lenV {a : Addr} {kk : ClassId} {ty : FieldType} {z : Int32} {vs : List Value} {dv : Value} (hd : decode bytes pc = .ok (.arraylength, 1)) (hq : pc + 1 = pc') (F : Arv Z h a kk ty z vs dv) (K : Go l Z EL n0 nr kn y bytes mL ret R h0 WS Q SF h k n pc' Ls (.int z :: st)) : Go l Z EL n0 nr kn y bytes mL ret R h0 WS Q SF h k n pc Ls (.ref a :: st) := by
  intro p e s m args below meth c T hR
  obtain ⟨⟨hx, hby, hml, hown, hnm, hret, hlk, hkn⟩, vm0, k0, locs, X, e0, C⟩ := hR
  have hZ : Z.Warmed39 (s.setVm vm0).vm := C.1
  have hown' : (s.setVm vm0).vm.findClass y.cls = some m.cls := by rw [show (s.setVm vm0).vm = vm0 from rfl, C.2.1.1.1.alike.findClass]; exact hown
  obtain ⟨cl, F, -, S, N, -, -⟩ := F
  obtain ⟨t, o, hs, r⟩ := K p e s m args below meth c T ⟨⟨hx, hby, hml, hown, hnm, hret, hlk, hkn⟩, vm0, k0, locs, X, e0, C⟩
  exact ⟨t, o, X.arraylength hx (by rw [e0]; exact F.1) (State.isArrayOf_alike hZ.alike F.2.1) (g := mkF m pc Ls (.ref a :: st)) rfl rfl (hb hby hd) _ (by subst hq; rw [len_of S N]; exact hs), r⟩
theorem Go.caload {a : Addr} {cl : Cell} {j : Int32} {v : Value} (hd : decode bytes pc = .ok (.caload, 1)) (hq : pc + 1 = pc') (F : Arr Z h a cl .char) (hin : ¬ (j < 0 ∨ cl.slots.size ≤ j.toNatClampNeg)) (hv : cl.slots[j.toNatClampNeg]? = some v) (K : Go l Z EL n0 nr kn y bytes mL ret R h0 WS Q SF h k n pc' Ls (v :: st)) : Go l Z EL n0 nr kn y bytes mL ret R h0 WS Q SF h k n pc Ls (.int j :: .ref a :: st) := by
  intro p e s m args below meth c T hR
  obtain ⟨⟨hx, hby, hml, hown, hnm, hret, hlk, hkn⟩, vm0, k0, locs, X, e0, C⟩ := hR
  have hZ : Z.Warmed39 (s.setVm vm0).vm := C.1
  have hown' : (s.setVm vm0).vm.findClass y.cls = some m.cls := by rw [show (s.setVm vm0).vm = vm0 from rfl, C.2.1.1.1.alike.findClass]; exact hown
  obtain ⟨t, o, hs, r⟩ := K p e s m args below meth c T ⟨⟨hx, hby, hml, hown, hnm, hret, hlk, hkn⟩, vm0, k0, locs, X, e0, C⟩
  exact ⟨t, o, X.caload hx (by rw [e0]; exact F.1) (State.isArrayOf_alike hZ.alike F.2.1) F.2.2 hin hv (g := mkF m pc Ls (.int j :: .ref a :: st)) rfl rfl (hb hby hd) _ (by subst hq; exact hs), r⟩
theorem Go.caloadV {a : Addr} {kk : ClassId} {z j : Int32} {vs : List Value} {v dv : Value} (hd : decode bytes pc = .ok (.caload, 1)) (hq : pc + 1 = pc') (F : Arv Z h a kk .char z vs dv) (hj : ¬ j < 0 ∧ j < z) (hv : vs.getD j.toNatClampNeg dv = v) (K : Go l Z EL n0 nr kn y bytes mL ret R h0 WS Q SF h k n pc' Ls (v :: st)) : Go l Z EL n0 nr kn y bytes mL ret R h0 WS Q SF h k n pc Ls (.int j :: .ref a :: st) := by
  intro p e s m args below meth c T hR
  obtain ⟨⟨hx, hby, hml, hown, hnm, hret, hlk, hkn⟩, vm0, k0, locs, X, e0, C⟩ := hR
  have hZ : Z.Warmed39 (s.setVm vm0).vm := C.1
  have hown' : (s.setVm vm0).vm.findClass y.cls = some m.cls := by rw [show (s.setVm vm0).vm = vm0 from rfl, C.2.1.1.1.alike.findClass]; exact hown
  obtain ⟨cl, F, -, S, N, H, -⟩ := F
  have hin := inb_of S hj
  have hv := Has.at H hin hv
  obtain ⟨t, o, hs, r⟩ := K p e s m args below meth c T ⟨⟨hx, hby, hml, hown, hnm, hret, hlk, hkn⟩, vm0, k0, locs, X, e0, C⟩
  exact ⟨t, o, X.caload hx (by rw [e0]; exact F.1) (State.isArrayOf_alike hZ.alike F.2.1) F.2.2 hin hv (g := mkF m pc Ls (.int j :: .ref a :: st)) rfl rfl (hb hby hd) _ (by subst hq; exact hs), r⟩
theorem Go.baload {a : Addr} {cl : Cell} {j : Int32} {v : Value} (hd : decode bytes pc = .ok (.baload, 1)) (hq : pc + 1 = pc') (F : Arr Z h a cl .byte) (hin : ¬ (j < 0 ∨ cl.slots.size ≤ j.toNatClampNeg)) (hv : cl.slots[j.toNatClampNeg]? = some v) (K : Go l Z EL n0 nr kn y bytes mL ret R h0 WS Q SF h k n pc' Ls (v :: st)) : Go l Z EL n0 nr kn y bytes mL ret R h0 WS Q SF h k n pc Ls (.int j :: .ref a :: st) := by
  intro p e s m args below meth c T hR
  obtain ⟨⟨hx, hby, hml, hown, hnm, hret, hlk, hkn⟩, vm0, k0, locs, X, e0, C⟩ := hR
  have hZ : Z.Warmed39 (s.setVm vm0).vm := C.1
  have hown' : (s.setVm vm0).vm.findClass y.cls = some m.cls := by rw [show (s.setVm vm0).vm = vm0 from rfl, C.2.1.1.1.alike.findClass]; exact hown
  obtain ⟨t, o, hs, r⟩ := K p e s m args below meth c T ⟨⟨hx, hby, hml, hown, hnm, hret, hlk, hkn⟩, vm0, k0, locs, X, e0, C⟩
  exact ⟨t, o, X.baloadBytes hx (by rw [e0]; exact F.1) (State.isArrayOf_alike hZ.alike F.2.1) F.2.2 hin hv (g := mkF m pc Ls (.int j :: .ref a :: st)) rfl rfl (hb hby hd) _ (by subst hq; exact hs), r⟩
theorem Go.baloadV {a : Addr} {kk : ClassId} {z j : Int32} {vs : List Value} {v dv : Value} (hd : decode bytes pc = .ok (.baload, 1)) (hq : pc + 1 = pc') (F : Arv Z h a kk .byte z vs dv) (hj : ¬ j < 0 ∧ j < z) (hv : vs.getD j.toNatClampNeg dv = v) (K : Go l Z EL n0 nr kn y bytes mL ret R h0 WS Q SF h k n pc' Ls (v :: st)) : Go l Z EL n0 nr kn y bytes mL ret R h0 WS Q SF h k n pc Ls (.int j :: .ref a :: st) := by
  intro p e s m args below meth c T hR
  obtain ⟨⟨hx, hby, hml, hown, hnm, hret, hlk, hkn⟩, vm0, k0, locs, X, e0, C⟩ := hR
  have hZ : Z.Warmed39 (s.setVm vm0).vm := C.1
  have hown' : (s.setVm vm0).vm.findClass y.cls = some m.cls := by rw [show (s.setVm vm0).vm = vm0 from rfl, C.2.1.1.1.alike.findClass]; exact hown
  obtain ⟨cl, F, -, S, N, H, -⟩ := F
  have hin := inb_of S hj
  have hv := Has.at H hin hv
  obtain ⟨t, o, hs, r⟩ := K p e s m args below meth c T ⟨⟨hx, hby, hml, hown, hnm, hret, hlk, hkn⟩, vm0, k0, locs, X, e0, C⟩
  exact ⟨t, o, X.baloadBytes hx (by rw [e0]; exact F.1) (State.isArrayOf_alike hZ.alike F.2.1) F.2.2 hin hv (g := mkF m pc Ls (.int j :: .ref a :: st)) rfl rfl (hb hby hd) _ (by subst hq; exact hs), r⟩
theorem Go.iaload {a : Addr} {cl : Cell} {j : Int32} {v : Value} (hd : decode bytes pc = .ok (.iaload, 1)) (hq : pc + 1 = pc') (F : Arr Z h a cl .int) (hin : ¬ (j < 0 ∨ cl.slots.size ≤ j.toNatClampNeg)) (hv : cl.slots[j.toNatClampNeg]? = some v) (K : Go l Z EL n0 nr kn y bytes mL ret R h0 WS Q SF h k n pc' Ls (v :: st)) : Go l Z EL n0 nr kn y bytes mL ret R h0 WS Q SF h k n pc Ls (.int j :: .ref a :: st) := by
  intro p e s m args below meth c T hR
  obtain ⟨⟨hx, hby, hml, hown, hnm, hret, hlk, hkn⟩, vm0, k0, locs, X, e0, C⟩ := hR
  have hZ : Z.Warmed39 (s.setVm vm0).vm := C.1
  have hown' : (s.setVm vm0).vm.findClass y.cls = some m.cls := by rw [show (s.setVm vm0).vm = vm0 from rfl, C.2.1.1.1.alike.findClass]; exact hown
  obtain ⟨t, o, hs, r⟩ := K p e s m args below meth c T ⟨⟨hx, hby, hml, hown, hnm, hret, hlk, hkn⟩, vm0, k0, locs, X, e0, C⟩
  exact ⟨t, o, X.iaload hx (by rw [e0]; exact F.1) (State.isArrayOf_alike hZ.alike F.2.1) F.2.2 hin hv (g := mkF m pc Ls (.int j :: .ref a :: st)) rfl rfl (hb hby hd) _ (by subst hq; exact hs), r⟩
theorem Go.ialoadV {a : Addr} {kk : ClassId} {z j : Int32} {vs : List Value} {v dv : Value} (hd : decode bytes pc = .ok (.iaload, 1)) (hq : pc + 1 = pc') (F : Arv Z h a kk .int z vs dv) (hj : ¬ j < 0 ∧ j < z) (hv : vs.getD j.toNatClampNeg dv = v) (K : Go l Z EL n0 nr kn y bytes mL ret R h0 WS Q SF h k n pc' Ls (v :: st)) : Go l Z EL n0 nr kn y bytes mL ret R h0 WS Q SF h k n pc Ls (.int j :: .ref a :: st) := by
  intro p e s m args below meth c T hR
  obtain ⟨⟨hx, hby, hml, hown, hnm, hret, hlk, hkn⟩, vm0, k0, locs, X, e0, C⟩ := hR
  have hZ : Z.Warmed39 (s.setVm vm0).vm := C.1
  have hown' : (s.setVm vm0).vm.findClass y.cls = some m.cls := by rw [show (s.setVm vm0).vm = vm0 from rfl, C.2.1.1.1.alike.findClass]; exact hown
  obtain ⟨cl, F, -, S, N, H, -⟩ := F
  have hin := inb_of S hj
  have hv := Has.at H hin hv
  obtain ⟨t, o, hs, r⟩ := K p e s m args below meth c T ⟨⟨hx, hby, hml, hown, hnm, hret, hlk, hkn⟩, vm0, k0, locs, X, e0, C⟩
  exact ⟨t, o, X.iaload hx (by rw [e0]; exact F.1) (State.isArrayOf_alike hZ.alike F.2.1) F.2.2 hin hv (g := mkF m pc Ls (.int j :: .ref a :: st)) rfl rfl (hb hby hd) _ (by subst hq; exact hs), r⟩
theorem Go.aaload {ty : FieldType} {a : Addr} {cl : Cell} {j : Int32} {v : Value} (hd : decode bytes pc = .ok (.aaload, 1)) (hq : pc + 1 = pc') (F : Arr Z h a cl ty) (hty : ty.isReference = true) (hin : ¬ (j < 0 ∨ cl.slots.size ≤ j.toNatClampNeg)) (hv : cl.slots[j.toNatClampNeg]? = some v) (K : Go l Z EL n0 nr kn y bytes mL ret R h0 WS Q SF h k n pc' Ls (v :: st)) : Go l Z EL n0 nr kn y bytes mL ret R h0 WS Q SF h k n pc Ls (.int j :: .ref a :: st) := by
  intro p e s m args below meth c T hR
  obtain ⟨⟨hx, hby, hml, hown, hnm, hret, hlk, hkn⟩, vm0, k0, locs, X, e0, C⟩ := hR
  have hZ : Z.Warmed39 (s.setVm vm0).vm := C.1
  have hown' : (s.setVm vm0).vm.findClass y.cls = some m.cls := by rw [show (s.setVm vm0).vm = vm0 from rfl, C.2.1.1.1.alike.findClass]; exact hown
  obtain ⟨t, o, hs, r⟩ := K p e s m args below meth c T ⟨⟨hx, hby, hml, hown, hnm, hret, hlk, hkn⟩, vm0, k0, locs, X, e0, C⟩
  exact ⟨t, o, X.aaload hx (by rw [e0]; exact F.1) (State.isArrayOf_alike hZ.alike F.2.1) hty F.2.2 hin hv (g := mkF m pc Ls (.int j :: .ref a :: st)) rfl rfl (hb hby hd) _ (by subst hq; exact hs), r⟩
theorem Go.aaloadV {ty : FieldType} {a : Addr} {kk : ClassId} {z j : Int32} {vs : List Value} {v dv : Value} (hd : decode bytes pc = .ok (.aaload, 1)) (hq : pc + 1 = pc') (F : Arv Z h a kk ty z vs dv) (hty : ty.isReference = true) (hj : ¬ j < 0 ∧ j < z) (hv : vs.getD j.toNatClampNeg dv = v) (K : Go l Z EL n0 nr kn y bytes mL ret R h0 WS Q SF h k n pc' Ls (v :: st)) : Go l Z EL n0 nr kn y bytes mL ret R h0 WS Q SF h k n pc Ls (.int j :: .ref a :: st) := by
  intro p e s m args below meth c T hR
  obtain ⟨⟨hx, hby, hml, hown, hnm, hret, hlk, hkn⟩, vm0, k0, locs, X, e0, C⟩ := hR
  have hZ : Z.Warmed39 (s.setVm vm0).vm := C.1
  have hown' : (s.setVm vm0).vm.findClass y.cls = some m.cls := by rw [show (s.setVm vm0).vm = vm0 from rfl, C.2.1.1.1.alike.findClass]; exact hown
  obtain ⟨cl, F, -, S, N, H, -⟩ := F
  have hin := inb_of S hj
  have hv := Has.at H hin hv
  obtain ⟨t, o, hs, r⟩ := K p e s m args below meth c T ⟨⟨hx, hby, hml, hown, hnm, hret, hlk, hkn⟩, vm0, k0, locs, X, e0, C⟩
  exact ⟨t, o, X.aaload hx (by rw [e0]; exact F.1) (State.isArrayOf_alike hZ.alike F.2.1) hty F.2.2 hin hv (g := mkF m pc Ls (.int j :: .ref a :: st)) rfl rfl (hb hby hd) _ (by subst hq; exact hs), r⟩
theorem Go.newO {CC : String} {index nn : Nat} (hd : decode bytes pc = .ok (.new index, 3)) (hq : pc + 3 = pc') (w : (Jvm.Cond.classLink y.cls index CC).before a0 Z = true) (wi : (Jvm.Cond.instantiable CC nn).before a0 Z = true) (wz : (Jvm.Cond.initialized CC).before a0 Z = true) (hc : k + 1 ≤ R.cells) (hl : n + nn ≤ R.slots)
    (K : ∀ h' a, h.size = a → h0.size ≤ a → Ext h h' → Exa Z h' a CC → (∀ {O nm d : String} {ty : FieldType}, Laid Z a0 CC O nm d → parseFieldDescriptor d = some ty → Fld Z h' a O nm d (defaultValue ty)) → Unt h' a → Go l Z EL n0 nr kn y bytes mL ret R h0 WS Q (a :: SF) h' (k + 1) (n + nn) pc' Ls (.ref a :: st)) : Go l Z EL n0 nr kn y bytes mL ret R h0 WS Q SF h k n pc Ls st := by
  intro p e s m args below meth c T hR
  obtain ⟨⟨hx, hby, hml, hown, hnm, hret, hlk, hkn⟩, vm0, k0, locs, X, e0, C⟩ := hR
  have hZ : Z.Warmed39 (s.setVm vm0).vm := C.1
  have hown' : (s.setVm vm0).vm.findClass y.cls = some m.cls := by rw [show (s.setVm vm0).vm = vm0 from rfl, C.2.1.1.1.alike.findClass]; exact hown
  obtain ⟨T', h', X', e', E, AA, D, U, st'⟩ := Jvm.RoadKit.newO X hx hZ hown' w wi wz e0 (g := mkF m pc Ls st) rfl (hb hby hd) hc hl
  have hlt : h.size < h'.size := AA.lt
  obtain ⟨t, o, hs, r⟩ := K h' h.size rfl C.2.2.2.2.2.2.2.1.1 E AA D U p e s m args below meth c T' ⟨⟨hx, hby, hml, hown, hnm, hret, hlk, hkn⟩, vm0, k0, locs, X', e', C.push E hlt⟩
  exact ⟨t, o, st' _ (by subst hq; exact hs), r⟩
theorem Go.newP {aty : ArrayType} {z : Int32} {cap : Nat} {ad : String} (hd : decode bytes pc = .ok (.newarray aty, 2)) (hq : pc + 2 = pc') (w : (Jvm.Cond.arrayClass (newarray.typeOf aty)).before a0 Z = true) (had : "[" ++ (newarray.typeOf aty).toString = ad) (hz : ¬ z < 0) (hcap : z.toNatClampNeg ≤ cap) (hbig : cap * 8 ≤ 536870912) (hc : k + 1 ≤ R.cells) (hl : n + cap ≤ R.slots)
    (K : ∀ h' a, h.size = a → h0.size ≤ a → ∀ cA, Ext h h' → Arv Z h' a cA (newarray.typeOf aty) z [] (defaultValue (newarray.typeOf aty)) → Exa Z h' a ad → Go l Z EL n0 nr kn y bytes mL ret R h0 WS Q (a :: SF) h' (k + 1) (n + cap) pc' Ls (.ref a :: st)) : Go l Z EL n0 nr kn y bytes mL ret R h0 WS Q SF h k n pc Ls (.int z :: st) := by
  intro p e s m args below meth c T hR
  obtain ⟨⟨hx, hby, hml, hown, hnm, hret, hlk, hkn⟩, vm0, k0, locs, X, e0, C⟩ := hR
  have hZ : Z.Warmed39 (s.setVm vm0).vm := C.1
  have hown' : (s.setVm vm0).vm.findClass y.cls = some m.cls := by rw [show (s.setVm vm0).vm = vm0 from rfl, C.2.1.1.1.alike.findClass]; exact hown
  obtain ⟨T', h', cA, X', e', E, AA, EE, st'⟩ := Jvm.RoadKit.newPE X hx hZ w e0 (g := mkF m pc Ls (.int z :: st)) rfl (hb hby hd) rfl hz hcap hbig hc hl had
  have hlt : h.size < h'.size := AA.lt
  obtain ⟨t, o, hs, r⟩ := K h' h.size rfl C.2.2.2.2.2.2.2.1.1 cA E (Arv.new AA hz) EE p e s m args below meth c T' ⟨⟨hx, hby, hml, hown, hnm, hret, hlk, hkn⟩, vm0, k0, locs, X', e', C.push E hlt⟩
  exact ⟨t, o, st' _ (by subst hq; exact hs), r⟩
theorem Go.newR {CC : String} {index : Nat} {z : Int32} {cap : Nat} {ad : String} (hd : decode bytes pc = .ok (.anewarray index, 3)) (hq : pc + 3 = pc') (w1 : (Jvm.Cond.classLink y.cls index CC).before a0 Z = true) (w2 : (Jvm.Cond.arrayOver (.object CC)).before a0 Z = true) (had : "[" ++ (FieldType.object CC).toString = ad) (hz : ¬ z < 0) (hcap : z.toNatClampNeg ≤ cap) (hbig : cap * 8 ≤ 536870912) (hc : k + 1 ≤ R.cells) (hl : n + cap ≤ R.slots)
    (K : ∀ h' a, h.size = a → h0.size ≤ a → ∀ cA, Ext h h' → Arv Z h' a cA (.object CC) z [] .null → Exa Z h' a ad → Ovr Z cA CC → Go l Z EL n0 nr kn y bytes mL ret R h0 WS Q (a :: SF) h' (k + 1) (n + cap) pc' Ls (.ref a :: st)) : Go l Z EL n0 nr kn y bytes mL ret R h0 WS Q SF h k n pc Ls (.int z :: st) := by
  intro p e s m args below meth c T hR
  obtain ⟨⟨hx, hby, hml, hown, hnm, hret, hlk, hkn⟩, vm0, k0, locs, X, e0, C⟩ := hR
  have hZ : Z.Warmed39 (s.setVm vm0).vm := C.1
  have hown' : (s.setVm vm0).vm.findClass y.cls = some m.cls := by rw [show (s.setVm vm0).vm = vm0 from rfl, C.2.1.1.1.alike.findClass]; exact hown
  obtain ⟨T', h', cA, X', e', E, AA, EE, OO, st'⟩ := Jvm.RoadKit.newRE X hx hZ hown' w1 w2 e0 (g := mkF m pc Ls (.int z :: st)) rfl (hb hby hd) rfl hz hcap hbig hc hl had
  have hlt : h.size < h'.size := AA.lt
  obtain ⟨t, o, hs, r⟩ := K h' h.size rfl C.2.2.2.2.2.2.2.1.1 cA E (Arv.new AA hz) EE OO p e s m args below meth c T' ⟨⟨hx, hby, hml, hown, hnm, hret, hlk, hkn⟩, vm0, k0, locs, X', e', C.push E hlt⟩
  exact ⟨t, o, st' _ (by subst hq; exact hs), r⟩
theorem Go.clone {index W : Nat} {ad : String} {a : Addr} {ty : FieldType} {kk : ClassId} {z : Int32} {hs0 : List (Int32 × Value)} {vs : List Value} {dv : Value} {cap : Nat} (hd : decode bytes pc = .ok (.invokevirtual index, 3)) (hq : pc + 3 = pc') (w1 : (Jvm.Cond.methodLink y.cls index ⟨ad, "clone", "()Ljava/lang/Object;"⟩).before a0 Z = true) (w2 : (Jvm.Cond.sameMethod ad "java/lang/Object" "clone" "()Ljava/lang/Object;").before a0 Z = true) (w3 : (Jvm.Cond.native ⟨"java/lang/Object", "clone", "()Ljava/lang/Object;"⟩).before a0 Z = true)
    (w4 : (Jvm.Cond.instanceMethod ⟨"java/lang/Object", "clone", "()Ljava/lang/Object;"⟩).before a0 Z = true) (w5 : (Jvm.Cond.selects ad ⟨ad, "clone", "()Ljava/lang/Object;"⟩ ⟨"java/lang/Object", "clone", "()Ljava/lang/Object;"⟩).before a0 Z = true) (w6 : (Jvm.Cond.castable ad "java/lang/Cloneable").before a0 Z = true) (F : Arh Z h a kk ty z hs0 vs dv) (E0 : Exa Z h a ad) (hsz : Ls.size = mL) (hf : 1 ≤ R.frames) (hW : (st.map fun v => v.category).sum ≤ W) (hl : W + 14 ≤ R.locals) (hcap : z.toNatClampNeg ≤ cap) (hc : k + 1 ≤ R.cells) (hsl : n + cap ≤ R.slots)
    (K : ∀ h' a, h.size = a → h0.size ≤ a → Ext h h' → Arh Z h' a kk ty z hs0 vs dv → Exa Z h' a ad → Go l Z EL n0 nr kn y bytes mL ret R h0 WS Q (a :: SF) h' (k + 1) (n + cap) pc' Ls (.ref a :: st)) : Go l Z EL n0 nr kn y bytes mL ret R h0 WS Q SF h k n pc Ls (.ref a :: st) := by
  intro p e s m args below meth c T hR
  obtain ⟨⟨hx, hby, hml, hown, hnm, hret, hlk, hkn⟩, vm0, k0, locs, X, e0, C⟩ := hR
  have hZ : Z.Warmed39 (s.setVm vm0).vm := C.1
  have hown' : (s.setVm vm0).vm.findClass y.cls = some m.cls := by rw [show (s.setVm vm0).vm = vm0 from rfl, C.2.1.1.1.alike.findClass]; exact hown
  obtain ⟨T', h', X', e', E, AA, EE, st'⟩ := Jvm.RoadKit.cloneH X hx hZ hown' w1 w2 w3 w4 w5 w6 e0 F E0 (g := mkF m pc Ls (.ref a :: st)) rfl (by rw [hml]; exact hsz) rfl (hb hby hd) hf (W := W) (cap := cap) (by show 2 * 0 + _ ≤ _; rw [Nat.mul_zero, Nat.zero_add]; exact hW) hl hcap hc hsl
  have hlt : h.size < h'.size := EE.lt
  obtain ⟨t, o, hs, r⟩ := K h' h.size rfl C.2.2.2.2.2.2.2.1.1 E AA EE p e s m args below meth c T' ⟨⟨hx, hby, hml, hown, hnm, hret, hlk, hkn⟩, vm0, k0, locs, X', e', C.push E hlt⟩
  exact ⟨t, o, st' _ (by subst hq; exact hs), r⟩
theorem Go.putF {R0 O nf d host CC : String} {index kk : Nat} {ty : FieldType} {a : Addr} {v old : Value} (hd : decode bytes pc = .ok (.putfield index, 3)) (hq : pc + 3 = pc') (ha : a ∈ SF) (w : (Jvm.Cond.fieldLink y.cls index R0 nf d).before a0 Z = true ∨ (Jvm.Cond.fieldLinkNest y.cls index R0 nf d host).before a0 Z = true) (via : Via Z R0 O nf d) (F : Fld Z h a O nf d old) (E : Exa Z h a CC) (L : (Jvm.Cond.lays CC O nf d).before a0 Z = true ∨ ((Jvm.Cond.laysFinal CC O nf d).before a0 Z = true ∧ y.cls = O ∧ y.name = "<init>")) (wi : (Jvm.Cond.instantiable CC kk).before a0 Z = true) (hty : parseFieldDescriptor d = some ty) (hn : narrow ty v = v) (hf : fits ty v = true)
    (K : ∀ h', Wr h h' a (Jvm.RoadKit.slotOf Z O nf d) v → Go l Z EL n0 nr kn y bytes mL ret R h0 WS Q SF h' k n pc' Ls st) : Go l Z EL n0 nr kn y bytes mL ret R h0 WS Q SF h k n pc Ls (v :: .ref a :: st) := by
  intro p e s m args below meth c T hR
  obtain ⟨⟨hx, hby, hml, hown, hnm, hret, hlk, hkn⟩, vm0, k0, locs, X, e0, C⟩ := hR
  have hZ : Z.Warmed39 (s.setVm vm0).vm := C.1
  have hown' : (s.setVm vm0).vm.findClass y.cls = some m.cls := by rw [show (s.setVm vm0).vm = vm0 from rfl, C.2.1.1.1.alike.findClass]; exact hown
  have L' := L.imp id (fun q => (⟨q.1, q.2.1, hnm.trans q.2.2⟩ : _ ∧ _ ∧ meth.name = "<init>"))
  obtain ⟨T', h', X', e', W', st'⟩ := Jvm.RoadKit.putF X hx hZ hown' w via e0 F E L' wi hty hn hf (g := mkF m pc Ls (v :: .ref a :: st)) rfl rfl (hb hby hd)
  obtain ⟨t, o, hs, r⟩ := K h' W' p e s m args below meth c T' ⟨⟨hx, hby, hml, hown, hnm, hret, hlk, hkn⟩, vm0, k0, _, X', e', C.wr W' ha⟩
  exact ⟨t, o, st' _ (by subst hq; exact hs), r⟩
theorem Go.putFN {R0 O nf d CC : String} {index kk : Nat} {ty : FieldType} {a : Addr} {v v' old : Value} (hd : decode bytes pc = .ok (.putfield index, 3)) (hq : pc + 3 = pc') (ha : a ∈ SF) (w : (Jvm.Cond.fieldLink y.cls index R0 nf d).before a0 Z = true) (via : Via Z R0 O nf d) (F : Fld Z h a O nf d old) (E : Exa Z h a CC) (L : (Jvm.Cond.lays CC O nf d).before a0 Z = true ∨ ((Jvm.Cond.laysFinal CC O nf d).before a0 Z = true ∧ y.cls = O ∧ y.name = "<init>")) (wi : (Jvm.Cond.instantiable CC kk).before a0 Z = true) (hty : parseFieldDescriptor d = some ty) (hn : narrow ty v = v') (hf : fits ty v' = true)
    (K : ∀ h', Wr h h' a (Jvm.RoadKit.slotOf Z O nf d) v' → Go l Z EL n0 nr kn y bytes mL ret R h0 WS Q SF h' k n pc' Ls st) : Go l Z EL n0 nr kn y bytes mL ret R h0 WS Q SF h k n pc Ls (v :: .ref a :: st) := by
  intro p e s m args below meth c T hR
  obtain ⟨⟨hx, hby, hml, hown, hnm, hret, hlk, hkn⟩, vm0, k0, locs, X, e0, C⟩ := hR
  have hZ : Z.Warmed39 (s.setVm vm0).vm := C.1
  have hown' : (s.setVm vm0).vm.findClass y.cls = some m.cls := by rw [show (s.setVm vm0).vm = vm0 from rfl, C.2.1.1.1.alike.findClass]; exact hown
  have L' := L.imp id (fun q => (⟨q.1, q.2.1, hnm.trans q.2.2⟩ : _ ∧ _ ∧ meth.name = "<init>"))
  obtain ⟨T', h', X', e', W', st'⟩ := Jvm.RoadKit.putFN X hx hZ hown' w via e0 F E L' wi hty hn hf (g := mkF m pc Ls (v :: .ref a :: st)) rfl rfl (hb hby hd)
  obtain ⟨t, o, hs, r⟩ := K h' W' p e s m args below meth c T' ⟨⟨hx, hby, hml, hown, hnm, hret, hlk, hkn⟩, vm0, k0, _, X', e', C.wr W' ha⟩
  exact ⟨t, o, st' _ (by subst hq; exact hs), r⟩
theorem Go.castore {a : Addr} {cl : Cell} {j x : Int32} (hd : decode bytes pc = .ok (.castore, 1)) (hq : pc + 1 = pc') (ha : a ∈ SF) (F : Arr Z h a cl .char) (hj : ¬ (j < 0 ∨ cl.slots.size ≤ j.toNatClampNeg))
    (K : ∀ h', Wr h h' a j.toNatClampNeg (.int (nar .char x)) → Go l Z EL n0 nr kn y bytes mL ret R h0 WS Q SF h' k n pc' Ls st) : Go l Z EL n0 nr kn y bytes mL ret R h0 WS Q SF h k n pc Ls (.int x :: .int j :: .ref a :: st) := by
  intro p e s m args below meth c T hR
  obtain ⟨⟨hx, hby, hml, hown, hnm, hret, hlk, hkn⟩, vm0, k0, locs, X, e0, C⟩ := hR
  have hZ : Z.Warmed39 (s.setVm vm0).vm := C.1
  have hown' : (s.setVm vm0).vm.findClass y.cls = some m.cls := by rw [show (s.setVm vm0).vm = vm0 from rfl, C.2.1.1.1.alike.findClass]; exact hown
  obtain ⟨T', h', X', e', W', st'⟩ := Jvm.RoadKit.stC X hx hZ e0 F hj (g := mkF m pc Ls (.int x :: .int j :: .ref a :: st)) rfl rfl (hb hby hd)
  obtain ⟨t, o, hs, r⟩ := K h' W' p e s m args below meth c T' ⟨⟨hx, hby, hml, hown, hnm, hret, hlk, hkn⟩, vm0, k0, _, X', e', C.wr W' ha⟩
  exact ⟨t, o, st' _ (by subst hq; exact hs), r⟩
theorem Go.castoreV {a : Addr} {cA : ClassId} {z j x : Int32} {vs : List Value} {dv : Value} {i : Nat} (hd : decode bytes pc = .ok (.castore, 1)) (hq : pc + 1 = pc') (ha : a ∈ SF) (F : Arv Z h a cA .char z vs dv) (hj : ¬ j < 0 ∧ j < z) (hji : j.toNatClampNeg = i) (hi : i < vs.length)
    (K : ∀ h', Wr h h' a j.toNatClampNeg (.int (nar .char x)) → Arv Z h' a cA .char z (vs.set i (.int (nar .char x))) dv → Go l Z EL n0 nr kn y bytes mL ret R h0 WS Q SF h' k n pc' Ls st) : Go l Z EL n0 nr kn y bytes mL ret R h0 WS Q SF h k n pc Ls (.int x :: .int j :: .ref a :: st) := by
  intro p e s m args below meth c T hR
  obtain ⟨⟨hx, hby, hml, hown, hnm, hret, hlk, hkn⟩, vm0, k0, locs, X, e0, C⟩ := hR
  have hZ : Z.Warmed39 (s.setVm vm0).vm := C.1
  have hown' : (s.setVm vm0).vm.findClass y.cls = some m.cls := by rw [show (s.setVm vm0).vm = vm0 from rfl, C.2.1.1.1.alike.findClass]; exact hown
  obtain ⟨cl, F, q1, S, q3, H, G⟩ := F
  obtain ⟨T', h', X', e', W', st'⟩ := Jvm.RoadKit.stC X hx hZ e0 F (inb_of S hj) (g := mkF m pc Ls (.int x :: .int j :: .ref a :: st)) rfl rfl (hb hby hd)
  obtain ⟨t, o, hs, r⟩ := K h' W' (Arv.set F q1 S q3 H G (fits_nar_char x) W' i hji hi) p e s m args below meth c T' ⟨⟨hx, hby, hml, hown, hnm, hret, hlk, hkn⟩, vm0, k0, _, X', e', C.wr W' ha⟩
  exact ⟨t, o, st' _ (by subst hq; exact hs), r⟩
theorem Go.bastore {a : Addr} {cl : Cell} {j x : Int32} (hd : decode bytes pc = .ok (.bastore, 1)) (hq : pc + 1 = pc') (ha : a ∈ SF) (F : Arr Z h a cl .byte) (hj : ¬ (j < 0 ∨ cl.slots.size ≤ j.toNatClampNeg))
    (K : ∀ h', Wr h h' a j.toNatClampNeg (.int (nar .byte x)) → Go l Z EL n0 nr kn y bytes mL ret R h0 WS Q SF h' k n pc' Ls st) : Go l Z EL n0 nr kn y bytes mL ret R h0 WS Q SF h k n pc Ls (.int x :: .int j :: .ref a :: st) := by
  intro p e s m args below meth c T hR
  obtain ⟨⟨hx, hby, hml, hown, hnm, hret, hlk, hkn⟩, vm0, k0, locs, X, e0, C⟩ := hR
  have hZ : Z.Warmed39 (s.setVm vm0).vm := C.1
  have hown' : (s.setVm vm0).vm.findClass y.cls = some m.cls := by rw [show (s.setVm vm0).vm = vm0 from rfl, C.2.1.1.1.alike.findClass]; exact hown
  obtain ⟨T', h', X', e', W', st'⟩ := Jvm.RoadKit.stB X hx hZ e0 F hj (g := mkF m pc Ls (.int x :: .int j :: .ref a :: st)) rfl rfl (hb hby hd)
  obtain ⟨t, o, hs, r⟩ := K h' W' p e s m args below meth c T' ⟨⟨hx, hby, hml, hown, hnm, hret, hlk, hkn⟩, vm0, k0, _, X', e', C.wr W' ha⟩
  exact ⟨t, o, st' _ (by subst hq; exact hs), r⟩
theorem Go.bastoreV {a : Addr} {cA : ClassId} {z j x : Int32} {vs : List Value} {dv : Value} {i : Nat} (hd : decode bytes pc = .ok (.bastore, 1)) (hq : pc + 1 = pc') (ha : a ∈ SF) (F : Arv Z h a cA .byte z vs dv) (hj : ¬ j < 0 ∧ j < z) (hji : j.toNatClampNeg = i) (hi : i < vs.length)
    (K : ∀ h', Wr h h' a j.toNatClampNeg (.int (nar .byte x)) → Arv Z h' a cA .byte z (vs.set i (.int (nar .byte x))) dv → Go l Z EL n0 nr kn y bytes mL ret R h0 WS Q SF h' k n pc' Ls st) : Go l Z EL n0 nr kn y bytes mL ret R h0 WS Q SF h k n pc Ls (.int x :: .int j :: .ref a :: st) := by
  intro p e s m args below meth c T hR
  obtain ⟨⟨hx, hby, hml, hown, hnm, hret, hlk, hkn⟩, vm0, k0, locs, X, e0, C⟩ := hR
  have hZ : Z.Warmed39 (s.setVm vm0).vm := C.1
  have hown' : (s.setVm vm0).vm.findClass y.cls = some m.cls := by rw [show (s.setVm vm0).vm = vm0 from rfl, C.2.1.1.1.alike.findClass]; exact hown
  obtain ⟨cl, F, q1, S, q3, H, G⟩ := F
  obtain ⟨T', h', X', e', W', st'⟩ := Jvm.RoadKit.stB X hx hZ e0 F (inb_of S hj) (g := mkF m pc Ls (.int x :: .int j :: .ref a :: st)) rfl rfl (hb hby hd)
  obtain ⟨t, o, hs, r⟩ := K h' W' (Arv.set F q1 S q3 H G (fits_nar_byte x) W' i hji hi) p e s m args below meth c T' ⟨⟨hx, hby, hml, hown, hnm, hret, hlk, hkn⟩, vm0, k0, _, X', e', C.wr W' ha⟩
  exact ⟨t, o, st' _ (by subst hq; exact hs), r⟩
theorem Go.aastore {a : Addr} {cl : Cell} {ty : FieldType} {j : Int32} {v : Value} (hd : decode bytes pc = .ok (.aastore, 1)) (hq : pc + 1 = pc') (ha : a ∈ SF) (F : Arr Z h a cl ty) (hj : ¬ (j < 0 ∨ cl.slots.size ≤ j.toNatClampNeg)) (hty : ty.isReference = true) (S : Sto Z h a v)
    (K : ∀ h', Wr h h' a j.toNatClampNeg v → Go l Z EL n0 nr kn y bytes mL ret R h0 WS Q SF h' k n pc' Ls st) : Go l Z EL n0 nr kn y bytes mL ret R h0 WS Q SF h k n pc Ls (v :: .int j :: .ref a :: st) := by
  intro p e s m args below meth c T hR
  obtain ⟨⟨hx, hby, hml, hown, hnm, hret, hlk, hkn⟩, vm0, k0, locs, X, e0, C⟩ := hR
  have hZ : Z.Warmed39 (s.setVm vm0).vm := C.1
  have hown' : (s.setVm vm0).vm.findClass y.cls = some m.cls := by rw [show (s.setVm vm0).vm = vm0 from rfl, C.2.1.1.1.alike.findClass]; exact hown
  obtain ⟨T', h', X', e', W', st'⟩ := Jvm.RoadKit.stR X hx hZ e0 F hj hty S (g := mkF m pc Ls (v :: .int j :: .ref a :: st)) rfl rfl (hb hby hd)
  obtain ⟨t, o, hs, r⟩ := K h' W' p e s m args below meth c T' ⟨⟨hx, hby, hml, hown, hnm, hret, hlk, hkn⟩, vm0, k0, _, X', e', C.wr W' ha⟩
  exact ⟨t, o, st' _ (by subst hq; exact hs), r⟩
theorem Go.aastoreV {a : Addr} {cA : ClassId} {ty : FieldType} {z j : Int32} {v : Value} {vs : List Value} {dv : Value} {i : Nat} (hd : decode bytes pc = .ok (.aastore, 1)) (hq : pc + 1 = pc') (ha : a ∈ SF) (F : Arv Z h a cA ty z vs dv) (hty : ty.isReference = true) (hft : fits ty v = true) (S : ∀ cl, Arr Z h a cl ty → cl.cls = cA → Sto Z h a v) (hj : ¬ j < 0 ∧ j < z) (hji : j.toNatClampNeg = i) (hi : i < vs.length)
    (K : ∀ h', Wr h h' a j.toNatClampNeg v → Arv Z h' a cA ty z (vs.set i v) dv → Go l Z EL n0 nr kn y bytes mL ret R h0 WS Q SF h' k n pc' Ls st) : Go l Z EL n0 nr kn y bytes mL ret R h0 WS Q SF h k n pc Ls (v :: .int j :: .ref a :: st) := by
  intro p e s m args below meth c T hR
  obtain ⟨⟨hx, hby, hml, hown, hnm, hret, hlk, hkn⟩, vm0, k0, locs, X, e0, C⟩ := hR
  have hZ : Z.Warmed39 (s.setVm vm0).vm := C.1
  have hown' : (s.setVm vm0).vm.findClass y.cls = some m.cls := by rw [show (s.setVm vm0).vm = vm0 from rfl, C.2.1.1.1.alike.findClass]; exact hown
  obtain ⟨cl, F, q1, S0, q3, H, G⟩ := F
  obtain ⟨T', h', X', e', W', st'⟩ := Jvm.RoadKit.stR X hx hZ e0 F (inb_of S0 hj) hty (S cl F q1) (g := mkF m pc Ls (v :: .int j :: .ref a :: st)) rfl rfl (hb hby hd)
  obtain ⟨t, o, hs, r⟩ := K h' W' (Arv.set F q1 S0 q3 H G hft W' i hji hi) p e s m args below meth c T' ⟨⟨hx, hby, hml, hown, hnm, hret, hlk, hkn⟩, vm0, k0, _, X', e', C.wr W' ha⟩
  exact ⟨t, o, st' _ (by subst hq; exact hs), r⟩
theorem Go.cpA {index W : Nat} {a b : Addr} {kk k' : ClassId} {ty ty' : FieldType} {z z' sp dp nn : Int32} {vs vd us : List Value} {dv dd : Value} (hd : decode bytes pc = .ok (.invokestatic index, 3)) (hq : pc + 3 = pc') (hb' : b ∈ SF) (w1 : (Jvm.Cond.methodLink y.cls index Jvm.Stand.acN).before a0 Z = true) (w2 : (Jvm.Cond.native Jvm.Stand.acN).before a0 Z = true) (w3 : (Jvm.Cond.static Jvm.Stand.acN).before a0 Z = true) (w4 : (Jvm.Cond.initialized "java/lang/System").before a0 Z = true)
    (AA : Arv Z h a kk ty z vs dv) (BB : Arv Z h b k' ty' z' vd dd) (hty : (ty = ty' ∧ refKind ty = false) ∨ (refKind ty = true ∧ refKind ty' = true ∧ StoL Z h b us)) (h1 : ¬ sp < 0) (h2 : ¬ dp < 0) (h3 : ¬ nn < 0) (h4 : sp.toNatClampNeg + nn.toNatClampNeg ≤ z.toNatClampNeg) (h5 : dp.toNatClampNeg + nn.toNatClampNeg ≤ z'.toNatClampNeg)
    (hus : us = (List.range nn.toNatClampNeg).map fun i => vs.getD (sp.toNatClampNeg + i) dv) (hvl : dp.toNatClampNeg + nn.toNatClampNeg ≤ vd.length) (hsz : Ls.size = mL) (hf : 1 ≤ R.frames) (hW : (st.map fun v => v.category).sum ≤ W) (hl : W + (nativeFrameWords "java/lang/System" "arraycopy" 5 + 11) ≤ R.locals)
    (K : ∀ h', Keep h h' [b] → Arv Z h' b k' ty' z' (vd.take dp.toNatClampNeg ++ us ++ vd.drop (dp.toNatClampNeg + nn.toNatClampNeg)) dd → Go l Z EL n0 nr kn y bytes mL ret R h0 WS Q SF h' k n pc' Ls st) : Go l Z EL n0 nr kn y bytes mL ret R h0 WS Q SF h k n pc Ls (.int nn :: .int dp :: .ref b :: .int sp :: .ref a :: st) := by
  intro p e s m args below meth c T hR
  obtain ⟨⟨hx, hby, hml, hown, hnm, hret, hlk, hkn⟩, vm0, k0, locs, X, e0, C⟩ := hR
  have hZ : Z.Warmed39 (s.setVm vm0).vm := C.1
  have hown' : (s.setVm vm0).vm.findClass y.cls = some m.cls := by rw [show (s.setVm vm0).vm = vm0 from rfl, C.2.1.1.1.alike.findClass]; exact hown
  have N := C.2.2.1
  have ge := (C.2.2.2.2.1 b hb').1.1
  obtain ⟨T', h', L, X', e', FL, KK, BB', st'⟩ := Jvm.RoadKit.cpA X hx hZ hown' w1 w2 w3 w4 e0 AA BB hty h1 h2 h3 h4 h5 hus hvl N ge (g := mkF m pc Ls (.int nn :: .int dp :: .ref b :: .int sp :: .ref a :: st)) rfl (by rw [hml]; exact hsz) rfl (hb hby hd) hf (W := W) (by show 2 * 0 + _ ≤ _; rw [Nat.mul_zero, Nat.zero_add]; exact hW) hl
  have hSb := (C.2.2.2.2.1 b hb').2
  have C' : Cor Z EL n0 nr h0 WS SF h' s vm0 k0 L := by
    have q := C.keep (SN := []) (L := []) KK (fun x hx => by cases List.mem_singleton.mp hx; exact hb') (Fr.nil n0) (CHr.keep KK (fun x hx => by cases List.mem_singleton.mp hx; exact hSb) C.2.2.2.1.1) C.1 C.2.1.1 (Nat.le_trans C.2.1.2 KK.1) C.2.2.2.2.2.1 (fun x hx => nomatch hx)
    exact ⟨q.1, q.2.1, FL, q.2.2.2⟩
  obtain ⟨t, o, hs, r⟩ := K h' KK BB' p e s m args below meth c T' ⟨⟨hx, hby, hml, hown, hnm, hret, hlk, hkn⟩, vm0, k0, L, X', e', C'⟩
  exact ⟨t, o, st' _ (by subst hq; exact hs), r⟩
theorem Go.ldcS {text : String} {index nn : Nat} {vs : List Value} {z : Int32} (hnr : nr = false) (hd : decode bytes pc = .ok (.ldc index, 2)) (hq : pc + 2 = pc') (w : (Jvm.Cond.stringLink y.cls index text).before a0 Z = true) (wS : ∀ a ∈ Bundle.stringAtoms, a.before a0 Z = true) (hmem : (y.cls, index) ∈ EL) (ht : (∀ c ∈ text.toList, c.toNat < 256) ∧ text.toList.map (fun c => Value.int (Jvm.Lit.byteI c.toNat.toUInt16)) = vs) (hz : ¬ z < 0) (hzl : z.toNatClampNeg = vs.length) (hn : 4 * text.toList.length ≤ nn) (hbig : nn ≤ 536870912) (hc : k + 2 ≤ R.cells) (hl : n + (nn + 4) ≤ R.slots)
    (K : ∀ h' a b kb, Ext h h' → Exa Z h' a "java/lang/String" → Fld Z h' a "java/lang/String" "coder" "B" (.int 0) → Fld Z h' a "java/lang/String" "value" "[B" (.ref b) → Arv Z h' b kb .byte z vs (.int 0) → (∀ x ∈ SF, x ≠ a ∧ x ≠ b) → Go l Z EL n0 nr kn y bytes mL ret R h0 WS Q SF h' (k + 2) (n + (nn + 4)) pc' Ls (.ref a :: st)) : Go l Z EL n0 nr kn y bytes mL ret R h0 WS Q SF h k n pc Ls st := by
  intro p e s m args below meth c T hR
  obtain ⟨⟨hx, hby, hml, hown, hnm, hret, hlk, hkn⟩, vm0, k0, locs, X, e0, C⟩ := hR
  have hZ : Z.Warmed39 (s.setVm vm0).vm := C.1
  have hown' : (s.setVm vm0).vm.findClass y.cls = some m.cls := by rw [show (s.setVm vm0).vm = vm0 from rfl, C.2.1.1.1.alike.findClass]; exact hown
  obtain ⟨c1, ⟨c2, c2'⟩, c3, c4, c5, c6, c7, c8, c9, a1, hEL⟩ := C
  have hEL' : EW Z a0 EL := fun q hq => by
    obtain ⟨tx, hx1, hx2⟩ := hEL q hq
    exact ⟨tx, (by simpa [Jvm.Cond.before, Jvm.Cond.holds, Jvm.Cond.value] using hx1), hx2⟩
  obtain ⟨a, T', h', k1, b, kb, X', e', E, hS, hk, hW, hf, E1, E2, E3, E4, -, -, hC, -, hne, st'⟩ := Jvm.RoadKit.ldcCH X hx c1 hown' w wS e0 c2 c2' hEL' hmem c4.1 ht hz hzl (g := mkF m pc Ls st) rfl (hb hby hd) hn hbig hc hl
  have C' : Cor Z EL n0 nr h0 WS SF h' s T'.vm k1 locs := by
    refine ⟨hW, ⟨hS, hk⟩, c3, c4.trans hC, fun x hx => ⟨⟨(c5 x hx).1.1, Nat.lt_of_lt_of_le (c5 x hx).1.2.1 E.1, (c5 x hx).1.2.2⟩, hC.safe (c5 x hx).1.2.1 (c5 x hx).2⟩, (fun q => by rw [hnr] at q; cases q), ⟨c7.1, Nat.le_trans c7.2.1 E.1, fun a c q => E.2 a c (c7.2.2 a c q)⟩, c8.ext E, c9, a1, hEL⟩
  obtain ⟨t, o, hs, r⟩ := K h' a b kb E E1 E2 E3 E4 (fun x hx => hne x (C'.2.2.2.2.1 x hx).2) p e s m args below meth c T' ⟨⟨hx, hby, hml, hown, hnm, hret, hlk, hkn⟩, T'.vm, k1, locs, X', e', C'⟩
  exact ⟨t, o, st' _ (by subst hq; exact hs), r⟩
theorem Go.ldcO {text : String} {index nn : Nat} (hnr : nr = false) (hd : decode bytes pc = .ok (.ldc index, 2)) (hq : pc + 2 = pc') (w : (Jvm.Cond.stringLink y.cls index text).before a0 Z = true) (wS : ∀ a ∈ Bundle.stringAtoms, a.before a0 Z = true) (hn : 4 * text.toList.length ≤ nn) (hbig : nn ≤ 536870912) (hc : k + 2 ≤ R.cells) (hl : n + (nn + 4) ≤ R.slots)
    (K : ∀ h' a, Ext h h' → Go l Z EL n0 nr kn y bytes mL ret R h0 WS Q SF h' (k + 2) (n + (nn + 4)) pc' Ls (.ref a :: st)) : Go l Z EL n0 nr kn y bytes mL ret R h0 WS Q SF h k n pc Ls st := by
  intro p e s m args below meth c T hR
  obtain ⟨⟨hx, hby, hml, hown, hnm, hret, hlk, hkn⟩, vm0, k0, locs, X, e0, C⟩ := hR
  have hZ : Z.Warmed39 (s.setVm vm0).vm := C.1
  have hown' : (s.setVm vm0).vm.findClass y.cls = some m.cls := by rw [show (s.setVm vm0).vm = vm0 from rfl, C.2.1.1.1.alike.findClass]; exact hown
  obtain ⟨c1, ⟨c2, c2'⟩, c3, c4, c5, c6, c7, c8, c9, a1, hEL⟩ := C
  have hEL' : EW Z a0 EL := fun q hq => by
    obtain ⟨tx, hx1, hx2⟩ := hEL q hq
    exact ⟨tx, (by simpa [Jvm.Cond.before, Jvm.Cond.holds, Jvm.Cond.value] using hx1), hx2⟩
  obtain ⟨a, T', h', k1, X', e', E, hS, hk, hW, hf, hC, -, st'⟩ := Jvm.RoadKit.ldcOH X hx c1 hown' w wS e0 c2 c2' hEL' c4.1 (g := mkF m pc Ls st) rfl (hb hby hd) hn hbig hc hl
  have C' : Cor Z EL n0 nr h0 WS SF h' s T'.vm k1 locs := by
    refine ⟨hW, ⟨hS, hk⟩, c3, c4.trans hC, fun x hx => ⟨⟨(c5 x hx).1.1, Nat.lt_of_lt_of_le (c5 x hx).1.2.1 E.1, (c5 x hx).1.2.2⟩, hC.safe (c5 x hx).1.2.1 (c5 x hx).2⟩, (fun q => by rw [hnr] at q; cases q), ⟨c7.1, Nat.le_trans c7.2.1 E.1, fun a c q => E.2 a c (c7.2.2 a c q)⟩, c8.ext E, c9, a1, hEL⟩
  obtain ⟨t, o, hs, r⟩ := K h' a E p e s m args below meth c T' ⟨⟨hx, hby, hml, hown, hnm, hret, hlk, hkn⟩, T'.vm, k1, locs, X', e', C'⟩
  exact ⟨t, o, st' _ (by subst hq; exact hs), r⟩
theorem Go.tsw {i : Int32} {dflt low high : Int} {offs : Array Int} {len : Nat} {o : Int} (hd : decode bytes pc = .ok (.tableswitch dflt low high offs, len)) (hin : ¬ (i.toInt < low ∨ i.toInt > high)) (hoff : offs[(i.toInt - low).toNat]? = some o) (ho : 0 ≤ (pc : Int) + o) (hq : ((pc : Int) + o).toNat = pc') (K : Go l Z EL n0 nr kn y bytes mL ret R h0 WS Q SF h k n pc' Ls st) : Go l Z EL n0 nr kn y bytes mL ret R h0 WS Q SF h k n pc Ls (.int i :: st) :=
  Go.plain (fun p e below T m c target hA hx hb hk => XS.tswIn hA hx rfl (pc0 := pc) (pc' := pc') rfl (hb ▸ hd) rfl hin hoff ho hq hk) K
theorem Go.retV (hd : decode bytes pc = .ok (.return_, 1)) (hr0 : ret = none) (hk : k ≤ R.cells) (hn : n ≤ R.slots) (SN : List Addr) (hSN : ∀ x ∈ SN, x ∈ SF ∧ h0.size ≤ x) (hQ : Q none h SN) : Go l Z EL n0 nr kn y bytes mL ret R h0 WS Q SF h k n pc Ls [] := by
  intro p e s m args below meth c T hR
  obtain ⟨⟨hx, hby, hml, hown, hnm, hret, hlk, hkn⟩, vm0, k0, locs, X, e0, C⟩ := hR
  have hZ : Z.Warmed39 (s.setVm vm0).vm := C.1
  have hown' : (s.setVm vm0).vm.findClass y.cls = some m.cls := by rw [show (s.setVm vm0).vm = vm0 from rfl, C.2.1.1.1.alike.findClass]; exact hown
  obtain ⟨c1, ⟨c2, c2'⟩, c3, c4, c5, c6, c7, c8, c9, a1, hEL⟩ := C
  obtain ⟨fs, hr, hrun, hended, hE⟩ := X.leaveW c2 (by rw [e0]; exact c2') (v := none) (fun _ => rfl) hlk
  have A1 := CHv.at X c1 hEL c4.1
  refine ⟨_, _, X.returnOut hx (hret.trans hr0) (hb hby hd) hr, hrun, hended, _, locs, SN, rfl, by show Q _ T.heap SN; rw [e0]; exact hQ, c3, by show Keep h0 T.heap WS; rw [e0]; exact c8, fun x hx => ?_, ?_, fun q => State.WarmedH.trans (t := s.setVm vm0) (c6 q) X.warmed, ⟨hE.1, hE.2.1, hE.2.2.1, hE.2.2.2.mono hk hn⟩⟩
  · show (h0.size ≤ x ∧ x < T.heap.size) ∧ Safe Z EL T.vm T.heap x
    rw [e0]
    exact ⟨⟨(hSN x hx).2, (c5 x (hSN x hx).1).1.2.1⟩, A1.safe (c5 x (hSN x hx).1).1.2.1 (c5 x (hSN x hx).1).2⟩
  · show CHr Z EL s.vm h0 T.vm T.heap
    rw [e0]
    exact c4.trans A1
theorem Go.retW {v : Value} {ty : FieldType} {i : Instr} (hd : decode bytes pc = .ok (i, 1)) (hr0 : ret = some ty) (hnw : narrow ty v = v) (hi : (i = .ireturn ∧ (ty = .int ∨ ty = .boolean ∨ ty = .byte ∨ ty = .char ∨ ty = .short) ∧ ∃ z, v = .int z) ∨ (i = .lreturn ∧ ty = .long ∧ ∃ z, v = .long z) ∨ (i = .dreturn ∧ ty = .double ∧ ∃ z, v = .double z) ∨ (i = .freturn ∧ ty = .float ∧ ∃ z, v = .float z) ∨ (i = .areturn ∧ ty.isReference = true ∧ v.isRef = true)) (hk : k ≤ R.cells) (hn : n ≤ R.slots) (SN : List Addr) (hSN : ∀ x ∈ SN, x ∈ SF ∧ h0.size ≤ x) (hQ : Q (some v) h SN) : Go l Z EL n0 nr kn y bytes mL ret R h0 WS Q SF h k n pc Ls (v :: st) := by
  intro p e s m args below meth c T hR
  obtain ⟨⟨hx, hby, hml, hown, hnm, hret, hlk, hkn⟩, vm0, k0, locs, X, e0, C⟩ := hR
  have hZ : Z.Warmed39 (s.setVm vm0).vm := C.1
  have hown' : (s.setVm vm0).vm.findClass y.cls = some m.cls := by rw [show (s.setVm vm0).vm = vm0 from rfl, C.2.1.1.1.alike.findClass]; exact hown
  obtain ⟨c1, ⟨c2, c2'⟩, c3, c4, c5, c6, c7, c8, c9, a1, hEL⟩ := C
  obtain ⟨fs, hr, hrun, hended, hE⟩ := X.leaveW c2 (by rw [e0]; exact c2') (v := some v) (fun q => by rw [hret, hr0] at q; cases q) hlk
  have A1 := CHv.at X c1 hEL c4.1
  refine ⟨_, _, Jvm.RoadKit.retOut X hx (hret.trans hr0) hnw hi (hb hby hd) hr, hrun, hended, _, locs, SN, rfl, by show Q _ T.heap SN; rw [e0]; exact hQ, c3, by show Keep h0 T.heap WS; rw [e0]; exact c8, fun x hx => ?_, ?_, fun q => State.WarmedH.trans (t := s.setVm vm0) (c6 q) X.warmed, ⟨hE.1, hE.2.1, hE.2.2.1, hE.2.2.2.mono hk hn⟩⟩
  · show (h0.size ≤ x ∧ x < T.heap.size) ∧ Safe Z EL T.vm T.heap x
    rw [e0]
    exact ⟨⟨(hSN x hx).2, (c5 x (hSN x hx).1).1.2.1⟩, A1.safe (c5 x (hSN x hx).1).1.2.1 (c5 x (hSN x hx).1).2⟩
  · show CHr Z EL s.vm h0 T.vm T.heap
    rw [e0]
    exact c4.trans A1
theorem Go.retI {z : Int32} (hd : decode bytes pc = .ok (.ireturn, 1)) (hr0 : ret = some .int) (hk : k ≤ R.cells) (hn : n ≤ R.slots) (SN : List Addr) (hSN : ∀ x ∈ SN, x ∈ SF ∧ h0.size ≤ x) (hQ : Q (some (.int z)) h SN) : Go l Z EL n0 nr kn y bytes mL ret R h0 WS Q SF h k n pc Ls (.int z :: st) :=
  Go.retW hd hr0 rfl (Or.inl ⟨rfl, Or.inl rfl, z, rfl⟩) hk hn SN hSN hQ
theorem Go.retA {v : Value} {ty : FieldType} (hd : decode bytes pc = .ok (.areturn, 1)) (hr0 : ret = some ty) (hty : ty.isReference = true) (hv : v.isRef = true) (hk : k ≤ R.cells) (hn : n ≤ R.slots) (SN : List Addr) (hSN : ∀ x ∈ SN, x ∈ SF ∧ h0.size ≤ x) (hQ : Q (some v) h SN) : Go l Z EL n0 nr kn y bytes mL ret R h0 WS Q SF h k n pc Ls (v :: st) :=
  Go.retW hd hr0 (by cases ty <;> first | (cases hty; done) | (rcases ref_cases hv with rfl | ⟨a, rfl⟩ <;> rfl)) (Or.inr (Or.inr (Or.inr (Or.inr ⟨rfl, hty, hv⟩)))) hk hn SN hSN hQ
theorem Go.retS {z : Int32} {ty : FieldType} (hd : decode bytes pc = .ok (.ireturn, 1)) (hr0 : ret = some ty) (hty : ty = .boolean ∨ ty = .byte ∨ ty = .char ∨ ty = .short) (hnw : narrow ty (.int z) = .int z) (hk : k ≤ R.cells) (hn : n ≤ R.slots) (SN : List Addr) (hSN : ∀ x ∈ SN, x ∈ SF ∧ h0.size ≤ x) (hQ : Q (some (.int z)) h SN) : Go l Z EL n0 nr kn y bytes mL ret R h0 WS Q SF h k n pc Ls (.int z :: st) :=
  Go.retW hd hr0 hnw (Or.inl ⟨rfl, Or.inr hty, z, rfl⟩) hk hn SN hSN hQ
theorem Met.of_go {as' : Array Value} (hpl : plainFor y = true) (hef : ∀ m, entryFrame m as' mL = mkF m 0 Ls []) (G : (Z.heap.size = n0 ∧ Ext Z.heap h0) → (∀ x ∈ WS, n0 ≤ x ∧ x < h0.size) → Go l Z EL n0 nr kn y bytes mL ret R h0 WS Q WS h0 0 0 0 Ls []) : Met l Z EL n0 nr kn y bytes mL ret R WS as' h0 Q := by
  intro ws
  refine MetFree.of_bodySF hpl hisR ?_
  intro p e s m args below meth c s₁ Bd hml0 hP hK
  obtain ⟨rfl, hZ, hh, hC, hS, hO, hEL⟩ := hP
  have X0 : Stand p l e R s m args below meth c s₁ [] 0 0 := Stand.of_body Bd
  have e0 : s₁.heap = h0 := by rw [← hh, Bd.state]; rfl
  have hnm := (name_of_methodNamed Bd.named Bd.method).1
  rw [hef m]
  exact G hO (fun x hx => (hS x hx).1) p e s m args below meth c s₁ ⟨⟨Bd.exec, Bd.bytes, hml0, findClass_of_methodNamed Bd.named, hnm, Bd.returns, BodyLoose.notSynchronized Bd, hK⟩, s.vm, 0, [], X0, e0,
    hZ, ⟨(State.WarmedH.refl s).since 0, Nat.zero_le _⟩, Fr.nil n0, CHr.refl hC, fun x hx => ⟨⟨(hS x hx).1.1, (hS x hx).1.2, Or.inl hx⟩, (hS x hx).2⟩, fun _ => State.WarmedH.refl s, hO, Keep.refl _ _, hh, hEL⟩
theorem Pays.of_met {z : MethodName} {zb : ByteArray} {zL : Nat} {zr : Option FieldType} {rm : Room} {len W : Nat} {ws : List Addr} {as' : Array Value} {Q' : Option Value → Heap → List Addr → Prop} (M : Met l Z EL n0 nr kn z zb zL zr rm ws as' h Q') (wc : (Jvm.Cond.code z zb zL zr).before a0 Z = true) (wz : (Jvm.Cond.initialized z.cls).before a0 Z = true) (hf : rm.frames + 1 ≤ R.frames) (hl : W + (zL + 11) + rm.locals ≤ R.locals) :
    Pays l Z EL n0 nr kn R len z W rm.cells rm.slots ws as' h Q' := by
  intro p e below s args vm0 hx hZ hC hS hO hEL hkn
  obtain ⟨a1, hE1⟩ := hEL
  refine BackS.of_freeWG (bytes := zb) (maxL := zL) (ret := zr) (E := fun _ first o t L kk nn => kk = rm.cells ∧ nn = rm.slots ∧ ∃ v SN, o = .returned v ∧ Q' v t.heap SN ∧ Fr n0 L ∧ Keep h t.heap ws ∧ (∀ x ∈ SN, (h.size ≤ x ∧ x < t.heap.size) ∧ Safe Z EL t.vm t.heap x) ∧ CHr Z EL first.vm h t.vm t.heap ∧ (nr = true → first.WarmedH t.vm)) (M []) hf hl ?_ ?_ ?_ ?_ ?_
  · intro m meth c A a Y hp
    have hU : Z.Warmed39 A.U.vm := wtrans (s := s.setVm vm0) hZ Y.warmed
    exact ⟨by show (Jvm.Cond.and _ .tt).before a A.U = true; rw [Cond.before_and, mv hU wc]; rfl, mv hU wc, mv hU wz, hp.2.2.1, hp.2.2.2⟩
  · intro m meth c A a g mk Y hp
    have A1 := CHv.at Y hZ hE1 hC
    exact ⟨hp.1, wtrans (s := s.setVm vm0) hZ Y.warmed, hp.2.1, A1.1, fun x hx => ⟨(hS x hx).1, A1.safe (hS x hx).1.2 (hS x hx).2⟩, hO, a1, hE1⟩
  · intro m meth c A a g mk Y hp hg q
    exact known_frames Y hg (hkn q).1 (hkn q).2
  · rintro a first o t ⟨v, L, SN, h1, h2, h3, h4, h5, h6, h7, h8⟩
    exact ⟨L, _, _, h8, rfl, rfl, v, SN, h1, h2, h3, h4, h5, h6, h7⟩
  · rintro m meth c A a g mk v t L kk nn Y hp - - ⟨e1, e2, v', SN, e3, e4, e5, e6, e7, e8, e9⟩
    cases e3
    subst e1 e2
    exact ⟨L, SN, e4, e5, e6, e7, (CHv.at Y hZ hE1 hC).trans e8, fun q => State.WarmedH.trans (t := A.U) Y.warmed (e9 q), rfl, rfl, rfl⟩
theorem Pays.of_back {z : MethodName} {len W ck cn : Nat} {ws : List Addr} {as' : Array Value} {Q' : Option Value → Heap → List Addr → Prop}
    (B : ∀ (p : Program) (e : Env) (below : List Frame) (s : State) (args : Array Value), p.tables.exec = Jvm.exec → Z.Warmed39 s.vm → (Z.heap.size = n0 ∧ Ext Z.heap h) → (∀ x ∈ ws, n0 ≤ x ∧ x < h.size) → Back l R p e below s args z len W (fun A a => a = as' ∧ A.U.heap = h ∧ A.cells + ck ≤ R.cells ∧ A.slots + cn ≤ R.slots) (fun A _ v B => ∃ L, Q' v B.U.heap [] ∧ Fr n0 L ∧ Keep h B.U.heap ws ∧ B.locs = A.locs ++ L ∧ B.cells = A.cells + ck ∧ B.slots = A.slots + cn)) :
    Pays l Z EL n0 nr kn R len z W ck cn ws as' h Q' := by
  intro p e below s args vm0 hx hZ hC hS hO hEL hkn
  obtain ⟨a1, hE1⟩ := hEL
  intro m meth c A g ig mk a X hg hsize hdg hW hn hp
  obtain ⟨v, B', X', ⟨L, q1, q2, q3, q4, q5, q6⟩, hst⟩ := B p e below (s.setVm vm0) args hx hZ hO (fun x hx => (hS x hx).1) m meth c A g ig mk a X hg hsize hdg hW hn hp
  have A1 : CHr Z EL vm0 h vm0 B'.U.heap := CHr.keep q3 (fun x hx => (hS x hx).2) hC
  have A2 := CHv.at X' hZ hE1 A1.1
  exact ⟨v, B', X'.retabled X'.warmed.wide, X'.warmed.since _, by rw [hp.2.1]; exact q3.1, ⟨L, [], q1, q2, q3, fun x hx => (nomatch hx), A1.trans A2, fun _ => X'.warmed, q4, q5, q6⟩, hst⟩
theorem Go.after {p : Program} {e : Env} {m : MethodId} {args : Array Value} {below : List Frame} {meth : Method} {c : Code} {T : State} {len ck cn : Nat} {ws : List Addr} {as' : Array Value} {Q' : Option Value → Heap → List Addr → Prop} {s₀ : State}
    (hA : p.tables.exec = Jvm.exec ∧ c.code = bytes ∧ c.maxLocals = mL ∧ s.vm.findClass y.cls = some m.cls ∧ meth.name = y.name ∧ meth.sig.returnType = ret ∧ meth.locks = false ∧ (kn = true → s.vm.MethodsKnown ∧ s.vm.FramesKnown below)) (e0 : T.heap = h) (C : Cor Z EL n0 nr h0 WS SF h s vm0 k0 locs) (hws : ∀ x ∈ ws, x ∈ SF)
    (H : ∃ (v : Option Value) (vm₁ : Vm) (B : Pt), (s.setVm vm0).WarmedH vm₁ ∧ Stand p l e R ((s.setVm vm0).setVm B.U.vm) m args below meth c B.U B.locs B.cells B.slots ∧ (s.setVm vm0).Since B.U.vm B.U.heap.size ∧ T.heap.size ≤ B.U.heap.size ∧ (∃ L SN, Q' v B.U.heap SN ∧ Fr n0 L ∧ Keep h B.U.heap ws ∧ (∀ x ∈ SN, (h.size ≤ x ∧ x < B.U.heap.size) ∧ Safe Z EL B.U.vm B.U.heap x) ∧ CHr Z EL vm0 h B.U.vm B.U.heap ∧ (nr = true → (s.setVm vm0).WarmedH B.U.vm) ∧ B.locs = locs ++ L ∧ B.cells = k + ck ∧ B.slots = n + cn) ∧
      Steps p.tables e below s₀ (B.U.setTop { mkF m pc Ls st with pc := pc + len, stack := v.toList ++ rest }))
    (hq : pc + len = pc') (K : ∀ v h' SN, Keep h h' ws → h0.size ≤ h.size → Q' v h' SN → Go l Z EL n0 nr kn y bytes mL ret R h0 WS Q (SN ++ SF) h' (k + ck) (n + cn) pc' Ls (v.toList ++ rest)) : ∃ t o, Steps p.tables e below s₀ t ∧ t.status = .running ∧ Ended t below o ∧ Pst Z EL n0 nr R h0 WS Q s o t := by
  obtain ⟨v, vm₁, ⟨T', L', kk, nn⟩, -, X', hS, hle, ⟨L, SN, h1, h2, h3, h4, h5, h6, h7, h8, h9⟩, hst⟩ := H
  dsimp only [Pt.U, Pt.locs, Pt.cells, Pt.slots] at X' hS hle h1 h3 h4 h5 h6 h7 h8 h9 hst
  subst h7 h8 h9 hq
  obtain ⟨t, o, hs, r⟩ := K v T'.heap SN h3 C.2.2.2.2.2.2.2.1.1 h1 p e s m args below meth c T' ⟨hA, T'.vm, T'.heap.size, _, X', rfl, C.keep h3 hws h2 h5 (State.Warmed39.trans (t := s.setVm vm0) C.1 hS.1) (C.2.1.1.trans hS (Nat.le_trans C.2.1.2 h3.1)) (Nat.le_refl _) (fun q => State.WarmedH.trans (t := s.setVm vm0) (C.2.2.2.2.2.1 q) (h6 q)) h4⟩
  exact ⟨t, o, hst.trans hs, r⟩
theorem Go.callS {ck cn W : Nat} {ws : List Addr} {as' : Array Value} {Q' : Option Value → Heap → List Addr → Prop} {index : Nat} {z : MethodName} {zb : ByteArray} {zL : Nat} {zr : Option FieldType} {argsL : List Value} (hd : decode bytes pc = .ok (.invokestatic index, 3)) (hq : pc + 3 = pc') (w1 : (Jvm.Cond.methodLink y.cls index z).before a0 Z = true) (w2 : (Jvm.Cond.static z).before a0 Z = true) (w3 : (Jvm.Cond.initialized z.cls).before a0 Z = true) (w4 : (Jvm.Cond.code z zb zL zr).before a0 Z = true) (hy : z.cls ≠ "java/lang/invoke/MethodHandle" ∧ z.cls ≠ "java/lang/invoke/VarHandle") (PP : Pays l Z EL n0 nr kn R 3 z W ck cn ws as' h Q') (hsz : Ls.size = mL) (hst : st = argsL.reverse ++ rest) (hlen : ∀ sig, parseMethodDescriptor z.desc = some sig → argsL.length = sig.parameters.length) (has : argsL.toArray = as') (hW : (rest.map fun v => v.category).sum ≤ W) (hws : ∀ x ∈ ws, x ∈ SF) (hc : k + ck ≤ R.cells) (hl : n + cn ≤ R.slots)
    (K : ∀ v h' SN, Keep h h' ws → h0.size ≤ h.size → Q' v h' SN → Go l Z EL n0 nr kn y bytes mL ret R h0 WS Q (SN ++ SF) h' (k + ck) (n + cn) pc' Ls (v.toList ++ rest)) : Go l Z EL n0 nr kn y bytes mL ret R h0 WS Q SF h k n pc Ls st := by
  intro p e s m args below meth c T hR
  obtain ⟨⟨hx, hby, hml, hown, hnm, hret, hlk, hkn⟩, vm0, k0, locs, X, e0, C⟩ := hR
  have hZ : Z.Warmed39 (s.setVm vm0).vm := C.1
  have hown' : (s.setVm vm0).vm.findClass y.cls = some m.cls := by rw [show (s.setVm vm0).vm = vm0 from rfl, C.2.1.1.1.alike.findClass]; exact hown
  have hBK := PP p e below s args vm0 hx C.1 C.2.2.2.1.1 (fun x hx => ⟨⟨(C.2.2.2.2.1 x (hws x hx)).1.1, (C.2.2.2.2.1 x (hws x hx)).1.2.1⟩, (C.2.2.2.2.1 x (hws x hx)).2⟩) C.2.2.2.2.2.2.1 C.2.2.2.2.2.2.2.2.2 (fun q => ⟨Vm.MethodsKnown.alikeC C.2.1.1.1.alike (hkn q).1, Vm.FramesKnown.alikeC C.2.1.1.1.alike (hkn q).2⟩)
  refine Go.after (st := st) (args := args) (ck := ck) (cn := cn) (ws := ws) (as' := as') (Q' := Q') (rest := rest) ⟨hx, hby, hml, hown, hnm, hret, hlk, hkn⟩ e0 C hws ?_ hq K
  exact callSS X hx (y := z) hown' (mvT hZ w1) (mvT hZ w2) (mvT hZ w3) (mvT hZ w4) hy hBK (g := mkF m pc Ls st) rfl (by rw [hml]; exact hsz) (argsL := argsL) (rest := rest) hlen hst (by show 2 * 0 + _ ≤ _; rw [Nat.mul_zero, Nat.zero_add]; exact hW) (hb hby hd) (fun _ _ => ⟨has, e0, hc, hl⟩)
theorem Go.callI {ck cn W : Nat} {ws : List Addr} {as' : Array Value} {Q' : Option Value → Heap → List Addr → Prop} {index : Nat} {z : MethodName} {zb : ByteArray} {zL : Nat} {a : Addr} {argsL : List Value} (hd : decode bytes pc = .ok (.invokespecial index, 3)) (hq : pc + 3 = pc') (hi : z.name = "<init>") (w1 : (Jvm.Cond.methodLink y.cls index z).before a0 Z = true) (w2 : (Jvm.Cond.instanceMethod z).before a0 Z = true) (w4 : (Jvm.Cond.code z zb zL none).before a0 Z = true) (hy : z.cls ≠ "java/lang/invoke/MethodHandle" ∧ z.cls ≠ "java/lang/invoke/VarHandle") (PP : Pays l Z EL n0 nr kn R 3 z W ck cn ws as' h Q') (hsz : Ls.size = mL) (hst : st = argsL.reverse ++ .ref a :: rest) (hlen : ∀ sig, parseMethodDescriptor z.desc = some sig → argsL.length = sig.parameters.length) (has : (.ref a :: argsL).toArray = as') (hW : (rest.map fun v => v.category).sum ≤ W) (hws : ∀ x ∈ ws, x ∈ SF) (hc : k + ck ≤ R.cells) (hl : n + cn ≤ R.slots)
    (K : ∀ v h' SN, Keep h h' ws → h0.size ≤ h.size → Q' v h' SN → Go l Z EL n0 nr kn y bytes mL ret R h0 WS Q (SN ++ SF) h' (k + ck) (n + cn) pc' Ls (v.toList ++ rest)) : Go l Z EL n0 nr kn y bytes mL ret R h0 WS Q SF h k n pc Ls st := by
  intro p e s m args below meth c T hR
  obtain ⟨⟨hx, hby, hml, hown, hnm, hret, hlk, hkn⟩, vm0, k0, locs, X, e0, C⟩ := hR
  have hZ : Z.Warmed39 (s.setVm vm0).vm := C.1
  have hown' : (s.setVm vm0).vm.findClass y.cls = some m.cls := by rw [show (s.setVm vm0).vm = vm0 from rfl, C.2.1.1.1.alike.findClass]; exact hown
  have hBK := PP p e below s args vm0 hx C.1 C.2.2.2.1.1 (fun x hx => ⟨⟨(C.2.2.2.2.1 x (hws x hx)).1.1, (C.2.2.2.2.1 x (hws x hx)).1.2.1⟩, (C.2.2.2.2.1 x (hws x hx)).2⟩) C.2.2.2.2.2.2.1 C.2.2.2.2.2.2.2.2.2 (fun q => ⟨Vm.MethodsKnown.alikeC C.2.1.1.1.alike (hkn q).1, Vm.FramesKnown.alikeC C.2.1.1.1.alike (hkn q).2⟩)
  refine Go.after (st := st) (args := args) (ck := ck) (cn := cn) (ws := ws) (as' := as') (Q' := Q') (rest := rest) ⟨hx, hby, hml, hown, hnm, hret, hlk, hkn⟩ e0 C hws ?_ hq K
  exact X.specialBackS hx (y := z) hi hown' (mvT hZ w1) (mvT hZ w2) (mvT hZ w4) hy hBK (g := mkF m pc Ls st) rfl (by rw [hml]; exact hsz) (Steps.refl _) (a := a) (argsL := argsL) (rest := rest) hlen hst (by show 2 * 0 + _ ≤ _; rw [Nat.mul_zero, Nat.zero_add]; exact hW) (hb hby hd) (fun _ _ => ⟨has, e0, hc, hl⟩)
theorem Go.callV {ck cn W : Nat} {ws : List Addr} {as' : Array Value} {Q' : Option Value → Heap → List Addr → Prop} {index : Nat} {u z : MethodName} {CC : String} {a : Addr} {argsL : List Value} (hd : decode bytes pc = .ok (.invokevirtual index, 3)) (hq : pc + 3 = pc') (w1 : (Jvm.Cond.methodLink y.cls index u).before a0 Z = true) (w2 : (Jvm.Cond.declares u).before a0 Z = true) (hnf : ∀ (s : State), Z.Warmed39 s.vm → NotFace s u) (w3 : (Jvm.Cond.selects CC u z).before a0 Z = true) (w4 : (Jvm.Cond.instanceMethod z).before a0 Z = true) (hy : u.cls ≠ "java/lang/invoke/MethodHandle" ∧ u.cls ≠ "java/lang/invoke/VarHandle") (E : Exa Z h a CC) (PP : Pays l Z EL n0 nr kn R 3 z W ck cn ws as' h Q') (hsz : Ls.size = mL) (hst : st = argsL.reverse ++ .ref a :: rest) (hlen : ∀ sig, parseMethodDescriptor u.desc = some sig → argsL.length = sig.parameters.length) (has : (.ref a :: argsL).toArray = as') (hW : (rest.map fun v => v.category).sum ≤ W) (hws : ∀ x ∈ ws, x ∈ SF) (hc : k + ck ≤ R.cells) (hl : n + cn ≤ R.slots)
    (K : ∀ v h' SN, Keep h h' ws → h0.size ≤ h.size → Q' v h' SN → Go l Z EL n0 nr kn y bytes mL ret R h0 WS Q (SN ++ SF) h' (k + ck) (n + cn) pc' Ls (v.toList ++ rest)) : Go l Z EL n0 nr kn y bytes mL ret R h0 WS Q SF h k n pc Ls st := by
  intro p e s m args below meth c T hR
  obtain ⟨⟨hx, hby, hml, hown, hnm, hret, hlk, hkn⟩, vm0, k0, locs, X, e0, C⟩ := hR
  have hZ : Z.Warmed39 (s.setVm vm0).vm := C.1
  have hown' : (s.setVm vm0).vm.findClass y.cls = some m.cls := by rw [show (s.setVm vm0).vm = vm0 from rfl, C.2.1.1.1.alike.findClass]; exact hown
  have hBK := PP p e below s args vm0 hx C.1 C.2.2.2.1.1 (fun x hx => ⟨⟨(C.2.2.2.2.1 x (hws x hx)).1.1, (C.2.2.2.2.1 x (hws x hx)).1.2.1⟩, (C.2.2.2.2.1 x (hws x hx)).2⟩) C.2.2.2.2.2.2.1 C.2.2.2.2.2.2.2.2.2 (fun q => ⟨Vm.MethodsKnown.alikeC C.2.1.1.1.alike (hkn q).1, Vm.FramesKnown.alikeC C.2.1.1.1.alike (hkn q).2⟩)
  obtain ⟨cB, kB, qa, qb, qc⟩ := isOf hZ e0 E
  refine Go.after (st := st) (args := args) (ck := ck) (cn := cn) (ws := ws) (as' := as') (Q' := Q') (rest := rest) ⟨hx, hby, hml, hown, hnm, hret, hlk, hkn⟩ e0 C hws ?_ hq K
  exact X.virtualBackS hx (y := u) (z := z) hown' (mvT hZ w1) (mvT hZ w2) (hnf _ hZ) (mvT hZ w3) (mvT hZ w4) hy hBK qa qc (g := mkF m pc Ls st) rfl (by rw [hml]; exact hsz) (Steps.refl _) (argsL := argsL) (rest := rest) hlen hst (by show 2 * 0 + _ ≤ _; rw [Nat.mul_zero, Nat.zero_add]; exact hW) (hb hby hd) (fun _ _ => ⟨has, e0, hc, hl⟩)
theorem Go.callU {ck cn W : Nat} {ws : List Addr} {as' : Array Value} {Q' : Option Value → Heap → List Addr → Prop} {index : Nat} {u z : MethodName} {CC owner : String} {a : Addr} {argsL : List Value} (hd : decode bytes pc = .ok (.invokevirtual index, 3)) (hq : pc + 3 = pc') (w1 : (Jvm.Cond.methodLink y.cls index u).before a0 Z = true) (w5 : (Jvm.Cond.sameMethod u.cls owner u.name u.desc).before a0 Z = true) (w2 : (Jvm.Cond.declares ⟨owner, u.name, u.desc⟩).before a0 Z = true) (ho : owner ≠ "java/lang/invoke/MethodHandle" ∧ owner ≠ "java/lang/invoke/VarHandle") (w3 : (Jvm.Cond.selects CC u z).before a0 Z = true) (w4 : (Jvm.Cond.instanceMethod z).before a0 Z = true) (E : Exa Z h a CC) (PP : Pays l Z EL n0 nr kn R 3 z W ck cn ws as' h Q') (hsz : Ls.size = mL) (hst : st = argsL.reverse ++ .ref a :: rest) (hlen : ∀ sig, parseMethodDescriptor u.desc = some sig → argsL.length = sig.parameters.length) (has : (.ref a :: argsL).toArray = as') (hW : (rest.map fun v => v.category).sum ≤ W) (hws : ∀ x ∈ ws, x ∈ SF) (hc : k + ck ≤ R.cells) (hl : n + cn ≤ R.slots)
    (K : ∀ v h' SN, Keep h h' ws → h0.size ≤ h.size → Q' v h' SN → Go l Z EL n0 nr kn y bytes mL ret R h0 WS Q (SN ++ SF) h' (k + ck) (n + cn) pc' Ls (v.toList ++ rest)) : Go l Z EL n0 nr kn y bytes mL ret R h0 WS Q SF h k n pc Ls st := by
  intro p e s m args below meth c T hR
  obtain ⟨⟨hx, hby, hml, hown, hnm, hret, hlk, hkn⟩, vm0, k0, locs, X, e0, C⟩ := hR
  have hZ : Z.Warmed39 (s.setVm vm0).vm := C.1
  have hown' : (s.setVm vm0).vm.findClass y.cls = some m.cls := by rw [show (s.setVm vm0).vm = vm0 from rfl, C.2.1.1.1.alike.findClass]; exact hown
  have hBK := PP p e below s args vm0 hx C.1 C.2.2.2.1.1 (fun x hx => ⟨⟨(C.2.2.2.2.1 x (hws x hx)).1.1, (C.2.2.2.2.1 x (hws x hx)).1.2.1⟩, (C.2.2.2.2.1 x (hws x hx)).2⟩) C.2.2.2.2.2.2.1 C.2.2.2.2.2.2.2.2.2 (fun q => ⟨Vm.MethodsKnown.alikeC C.2.1.1.1.alike (hkn q).1, Vm.FramesKnown.alikeC C.2.1.1.1.alike (hkn q).2⟩)
  obtain ⟨cB, kB, qa, qb, qc⟩ := isOf hZ e0 E
  refine Go.after (st := st) (args := args) (ck := ck) (cn := cn) (ws := ws) (as' := as') (Q' := Q') (rest := rest) ⟨hx, hby, hml, hown, hnm, hret, hlk, hkn⟩ e0 C hws ?_ hq K
  exact X.virtualBackUpS hx (x := u) (y := z) (owner := owner) hown' (mvT hZ w1) (mvT hZ w5) (mvT hZ w2) ho (mvT hZ w3) (mvT hZ w4) hBK qa qc (g := mkF m pc Ls st) rfl (by rw [hml]; exact hsz) (Steps.refl _) (argsL := argsL) (rest := rest) hlen hst (by show 2 * 0 + _ ≤ _; rw [Nat.mul_zero, Nat.zero_add]; exact hW) (hb hby hd) (fun _ _ => ⟨has, e0, hc, hl⟩)
theorem Go.callF {ck cn W : Nat} {ws : List Addr} {as' : Array Value} {Q' : Option Value → Heap → List Addr → Prop} {index count : Nat} {u z : MethodName} {CC : String} {a : Addr} {argsL : List Value} (hd : decode bytes pc = .ok (.invokeinterface index count, 5)) (hq : pc + 5 = pc') (w1 : (Jvm.Cond.methodLink y.cls index u).before a0 Z = true) (w2 : (Jvm.Cond.declares u).before a0 Z = true) (w5 : (Jvm.Cond.interfaceMethod u.cls u.cls u.name u.desc).before a0 Z = true) (w3 : (Jvm.Cond.selects CC u z).before a0 Z = true) (w4 : (Jvm.Cond.instanceMethod z).before a0 Z = true) (w6 : (Jvm.Cond.publicMethod z).before a0 Z = true) (w7 : (Jvm.Cond.unhidden CC u.name u.desc).before a0 Z = true) (w8 : (Jvm.Cond.castable CC u.cls).before a0 Z = true) (hy : u.cls ≠ "java/lang/invoke/MethodHandle" ∧ u.cls ≠ "java/lang/invoke/VarHandle") (E : Exa Z h a CC) (PP : Pays l Z EL n0 nr kn R 5 z W ck cn ws as' h Q') (hsz : Ls.size = mL) (hst : st = argsL.reverse ++ .ref a :: rest) (hlen : ∀ sig, parseMethodDescriptor u.desc = some sig → argsL.length = sig.parameters.length) (has : (.ref a :: argsL).toArray = as') (hW : (rest.map fun v => v.category).sum ≤ W) (hws : ∀ x ∈ ws, x ∈ SF) (hc : k + ck ≤ R.cells) (hl : n + cn ≤ R.slots)
    (K : ∀ v h' SN, Keep h h' ws → h0.size ≤ h.size → Q' v h' SN → Go l Z EL n0 nr kn y bytes mL ret R h0 WS Q (SN ++ SF) h' (k + ck) (n + cn) pc' Ls (v.toList ++ rest)) : Go l Z EL n0 nr kn y bytes mL ret R h0 WS Q SF h k n pc Ls st := by
  intro p e s m args below meth c T hR
  obtain ⟨⟨hx, hby, hml, hown, hnm, hret, hlk, hkn⟩, vm0, k0, locs, X, e0, C⟩ := hR
  have hZ : Z.Warmed39 (s.setVm vm0).vm := C.1
  have hown' : (s.setVm vm0).vm.findClass y.cls = some m.cls := by rw [show (s.setVm vm0).vm = vm0 from rfl, C.2.1.1.1.alike.findClass]; exact hown
  have hBK := PP p e below s args vm0 hx C.1 C.2.2.2.1.1 (fun x hx => ⟨⟨(C.2.2.2.2.1 x (hws x hx)).1.1, (C.2.2.2.2.1 x (hws x hx)).1.2.1⟩, (C.2.2.2.2.1 x (hws x hx)).2⟩) C.2.2.2.2.2.2.1 C.2.2.2.2.2.2.2.2.2 (fun q => ⟨Vm.MethodsKnown.alikeC C.2.1.1.1.alike (hkn q).1, Vm.FramesKnown.alikeC C.2.1.1.1.alike (hkn q).2⟩)
  obtain ⟨cB, kB, qa, qb, qc⟩ := isOf hZ e0 E
  refine Go.after (st := st) (args := args) (ck := ck) (cn := cn) (ws := ws) (as' := as') (Q' := Q') (rest := rest) ⟨hx, hby, hml, hown, hnm, hret, hlk, hkn⟩ e0 C hws ?_ hq K
  exact X.interfaceBackS hx (xi := u) (y := z) hown' (mvT hZ w1) (mvT hZ w2) (mvT hZ w5 (by simp [Cond.onTables, Cond.keepsFace, Cond.keeps, Cond.steady, Cond.faceAtom]; exact hy)) (mvT hZ w3) (mvT hZ w4) (mvT hZ w6) (mvT hZ w7) (mvT hZ w8) hy hBK qa qb qc (g := mkF m pc Ls st) rfl (by rw [hml]; exact hsz) (Steps.refl _) (argsL := argsL) (rest := rest) hlen hst (by show 2 * 0 + _ ≤ _; rw [Nat.mul_zero, Nat.zero_add]; exact hW) (hb hby hd) (fun _ _ => ⟨has, e0, hc, hl⟩)
theorem Go.callP {ck cn W : Nat} {ws : List Addr} {as' : Array Value} {Q' : Option Value → Heap → List Addr → Prop} {index : Nat} {z : MethodName} {zb : ByteArray} {zL : Nat} {zr : Option FieldType} {CC : String} {a : Addr} {argsL : List Value} (hd : decode bytes pc = .ok (.invokevirtual index, 3)) (hq : pc + 3 = pc') (w1 : (Jvm.Cond.methodLink y.cls index z).before a0 Z = true) (w2 : (Jvm.Cond.instanceMethod z).before a0 Z = true) (w3 : (Jvm.Cond.selects z.cls z z).before a0 Z = true) (w5 : (Jvm.Cond.privateMethod z).before a0 Z = true) (w4 : (Jvm.Cond.code z zb zL zr).before a0 Z = true) (hy : z.cls ≠ "java/lang/invoke/MethodHandle" ∧ z.cls ≠ "java/lang/invoke/VarHandle") (E : Exa Z h a CC) (PP : Pays l Z EL n0 nr kn R 3 z W ck cn ws as' h Q') (hsz : Ls.size = mL) (hst : st = argsL.reverse ++ .ref a :: rest) (hlen : ∀ sig, parseMethodDescriptor z.desc = some sig → argsL.length = sig.parameters.length) (has : (.ref a :: argsL).toArray = as') (hW : (rest.map fun v => v.category).sum ≤ W) (hws : ∀ x ∈ ws, x ∈ SF) (hc : k + ck ≤ R.cells) (hl : n + cn ≤ R.slots)
    (K : ∀ v h' SN, Keep h h' ws → h0.size ≤ h.size → Q' v h' SN → Go l Z EL n0 nr kn y bytes mL ret R h0 WS Q (SN ++ SF) h' (k + ck) (n + cn) pc' Ls (v.toList ++ rest)) : Go l Z EL n0 nr kn y bytes mL ret R h0 WS Q SF h k n pc Ls st := by
  intro p e s m args below meth c T hR
  obtain ⟨⟨hx, hby, hml, hown, hnm, hret, hlk, hkn⟩, vm0, k0, locs, X, e0, C⟩ := hR
  have hZ : Z.Warmed39 (s.setVm vm0).vm := C.1
  have hown' : (s.setVm vm0).vm.findClass y.cls = some m.cls := by rw [show (s.setVm vm0).vm = vm0 from rfl, C.2.1.1.1.alike.findClass]; exact hown
  have hBK := PP p e below s args vm0 hx C.1 C.2.2.2.1.1 (fun x hx => ⟨⟨(C.2.2.2.2.1 x (hws x hx)).1.1, (C.2.2.2.2.1 x (hws x hx)).1.2.1⟩, (C.2.2.2.2.1 x (hws x hx)).2⟩) C.2.2.2.2.2.2.1 C.2.2.2.2.2.2.2.2.2 (fun q => ⟨Vm.MethodsKnown.alikeC C.2.1.1.1.alike (hkn q).1, Vm.FramesKnown.alikeC C.2.1.1.1.alike (hkn q).2⟩)
  obtain ⟨cq, q1, q2⟩ := E.cell
  refine Go.after (st := st) (args := args) (ck := ck) (cn := cn) (ws := ws) (as' := as') (Q' := Q') (rest := rest) ⟨hx, hby, hml, hown, hnm, hret, hlk, hkn⟩ e0 C hws ?_ hq K
  exact X.privateBackS hx (y := z) hown' (mvT hZ w1) (mvT hZ w2) (mvT hZ w3) (Cond.privateMethod_at (mvP hZ w5 (args := #[]))) (mvT hZ w4) hy hBK (g := mkF m pc Ls st) rfl (by rw [hml]; exact hsz) (Steps.refl _) (a := a) (by rw [e0]; exact q1) q2 (argsL := argsL) (rest := rest) hlen hst (by show 2 * 0 + _ ≤ _; rw [Nat.mul_zero, Nat.zero_add]; exact hW) (hb hby hd) (fun _ _ => ⟨has, e0, hc, hl⟩)
theorem nf {u z : MethodName} {CC : String} (w : (Jvm.Cond.selects CC u z).before a0 Z = true) (e : u = z) : ∀ (s : State), Z.Warmed39 s.vm → NotFace s u := fun s hZ => by
  subst e
  exact notFace_of_selects (args := #[]) (mvT hZ w)
theorem mem0 {SF : List Addr} : ∀ x ∈ ([] : List Addr), x ∈ SF := fun _ q => nomatch q
theorem memS {SF L : List Addr} {a : Addr} (q : a ∈ SF) (r : ∀ x ∈ L, x ∈ SF) : ∀ x ∈ a :: L, x ∈ SF := fun x z => (List.mem_cons.mp z).elim (fun u => u ▸ q) (r x)
theorem sn0 {SF : List Addr} {h0 : Heap} : ∀ x ∈ ([] : List Addr), x ∈ SF ∧ h0.size ≤ x := fun _ q => nomatch q
theorem snS {SF L : List Addr} {h0 : Heap} {a : Addr} (q : a ∈ SF ∧ h0.size ≤ a) (r : ∀ x ∈ L, x ∈ SF ∧ h0.size ≤ x) : ∀ x ∈ a :: L, x ∈ SF ∧ h0.size ≤ x := fun x z => (List.mem_cons.mp z).elim (fun u => u ▸ q) (r x)
theorem Ext.refl (h : Heap) : Ext h h := ⟨Nat.le_refl _, fun _ _ q => q⟩
theorem Ext.trans {h1 h2 h3 : Heap} (E : Ext h1 h2) (F : Ext h2 h3) : Ext h1 h3 := ⟨Nat.le_trans E.1 F.1, fun a c q => F.2 a c (E.2 a c q)⟩
theorem Keep.toExt {h1 h2 : Heap} (K : Keep h1 h2 []) : Ext h1 h2 := ⟨K.1, fun a c q => K.2.1 a c q (fun z => nomatch z)⟩
end Rules
end Jvm.OwnK
namespace Jvm.OwnK
open Jvm Sem ClassFile Op Lib Jvm.Free Jvm.Stand Jvm.LawKit Jvm.RoadKit Bundle
/-! plain facts on numbers and lists -/
def lowV (c : Int32) : Value := .int c.toInt8.toInt32
theorem byte_idem (c : Int32) : c.toInt8.toInt32.toInt8.toInt32 = c.toInt8.toInt32 := by
  rw [Int8.toInt8_toInt32]
theorem nar_byte (c : Int32) : nar .byte c.toInt8.toInt32 = c.toInt8.toInt32 := byte_idem c
theorem shr0 (x : Int32) : x >>> ((0 : Int32) &&& 31) = x := by
  apply Int32.toInt_inj.mp
  rw [c_ishr x 0 0 (by decide)]
  simp
theorem mask255 (x : Int32) : ¬ (x &&& 255) < 0 ∧ ¬ 255 < (x &&& 255) := by
  have h := c_and x 255 (by decide)
  rw [Int32.lt_iff_toInt_lt, Int32.lt_iff_toInt_lt]
  have e1 : (255 : Int32).toInt = 255 := by decide
  have e0 : (0 : Int32).toInt = 0 := by decide
  omega
theorem i2c_in {x : Int32} (h1 : ¬ x < 0) (h2 : ¬ 65535 < x) : x.toUInt32.toUInt16.toUInt32.toInt32 = x := by
  apply Int32.toInt_inj.mp
  have h := c_i2c x
  rw [Int32.lt_iff_toInt_lt] at h1 h2
  have e1 : (65535 : Int32).toInt = 65535 := by decide
  have e0 : (0 : Int32).toInt = 0 := by decide
  omega
theorem nar_char {x : Int32} (h1 : ¬ x < 0) (h2 : ¬ 65535 < x) : nar .char x = x := i2c_in h1 h2
theorem le255 {x : Int32} (h : ¬ 255 < x) : ¬ 65535 < x := by
  rw [Int32.lt_iff_toInt_lt] at h ⊢
  have e1 : (65535 : Int32).toInt = 65535 := by decide
  have e0 : (255 : Int32).toInt = 255 := by decide
  omega
theorem own_lowback {c : Int32} (h1 : ¬ c < 0) (h2 : ¬ 255 < c) : (c.toInt8.toInt32 &&& 255).toUInt32.toUInt16.toUInt32.toInt32 = c := by
  have m := mask255 c.toInt8.toInt32
  rw [i2c_in m.1 (le255 m.2)]
  apply Int32.toInt_inj.mp
  have e := c_mask c.toInt8.toInt32 255 8 (by decide) (by decide)
  have b := c_i2b c
  rw [Int32.lt_iff_toInt_lt] at h1 h2
  have e1 : (255 : Int32).toInt = 255 := by decide
  have e0 : (0 : Int32).toInt = 0 := by decide
  have e2 : ((2 ^ 8 : Nat) : Int) = 256 := by decide
  rw [e, e2]
  omega
theorem ofNat_succ (i : Nat) : Int32.ofNat i + 1 = Int32.ofNat (i + 1) := by
  rw [Int32.ofNat_add]; rfl
theorem ofNat_toInt {i : Nat} (h : i < 2 ^ 31) : (Int32.ofNat i).toInt = i := Int32.toInt_ofNat_small h
theorem ofNat_clamp {i : Nat} (h : i < 2 ^ 31) : (Int32.ofNat i).toNatClampNeg = i := by
  simp only [Int32.toNatClampNeg, ofNat_toInt h, Int.toNat_natCast]
theorem ofNat_nn {i : Nat} (h : i < 2 ^ 31) : ¬ Int32.ofNat i < 0 := by
  rw [Int32.lt_iff_toInt_lt, ofNat_toInt h]
  have e0 : (0 : Int32).toInt = 0 := by decide
  omega
theorem clamp_toInt {z : Int32} (h : ¬ z < 0) : z.toInt = z.toNatClampNeg := nat_of h
theorem ofNat_lt {i : Nat} {z : Int32} (hz : ¬ z < 0) (h : i < z.toNatClampNeg) : Int32.ofNat i < z := by
  have q := (back32 hz).2
  rw [Int32.lt_iff_toInt_lt, ofNat_toInt (by omega), clamp_toInt hz]
  omega
theorem ofNat_ge {i : Nat} {z : Int32} (hz : ¬ z < 0) (hi : i < 2 ^ 31) (h : z.toNatClampNeg ≤ i) : ¬ Int32.ofNat i < z := by
  rw [Int32.lt_iff_toInt_lt, ofNat_toInt hi, clamp_toInt hz]
  omega
theorem arv_nn {Z : State} {h : Heap} {a : Addr} {k : ClassId} {ty : FieldType} {z : Int32} {vs : List Value} {d : Value} (F : Arv Z h a k ty z vs d) : ¬ z < 0 := by obtain ⟨_, _, _, _, q, _⟩ := F; exact q
theorem getD_int (cs : List Int32) (i : Nat) : (cs.map Value.int).getD i (.int 0) = .int (cs.getD i 0) := by
  simp only [List.getD_eq_getElem?_getD, List.getElem?_map]
  cases cs[i]? <;> rfl
theorem getD_low (cs : List Int32) (i : Nat) (h : i < cs.length) : (cs.map lowV).getD i (.int 0) = .int (cs.getD i 0).toInt8.toInt32 := by
  simp only [List.getD_eq_getElem?_getD, List.getElem?_map, List.getElem?_eq_getElem h]
  rfl
theorem set_low (cs : List Int32) (i m : Nat) (h : i < cs.length) (z : Value) : ((cs.take i).map lowV ++ List.replicate (m + 1) z).set i (lowV (cs.getD i 0)) = (cs.take (i + 1)).map lowV ++ List.replicate m z := by
  have hl : ((cs.take i).map lowV).length = i := by simp; omega
  have e : cs.getD i 0 = cs[i] := by simp [List.getD_eq_getElem?_getD, List.getElem?_eq_getElem h]
  rw [List.set_append_right _ _ (by omega), hl, Nat.sub_self, List.replicate_succ, List.set_cons_zero, List.take_succ_eq_append_getElem h, List.map_append, List.append_assoc, e]
  rfl
theorem getD_mem {cs : List Int32} {P : Int32 → Prop} (h : ∀ x ∈ cs, P x) {i : Nat} (hi : i < cs.length) : P (cs.getD i 0) := by
  have e : cs.getD i 0 = cs[i] := by simp [List.getD_eq_getElem?_getD, List.getElem?_eq_getElem hi]
  rw [e]; exact h _ (List.getElem_mem hi)
theorem own_back (x : Int32) : x + (128 : Int32) - (128 : Int32) = x := Int32.add_sub_cancel x 128
theorem own_cache {x : Int32} {n : Nat} (h1 : ¬ x < (-128 : Int32)) (h2 : ¬ (127 : Int32) < x) (hn : n = (256 : Int32).toNatClampNeg) : ¬ (x + (128 : Int32) < 0 ∨ n ≤ (x + (128 : Int32)).toNatClampNeg) := by
  have c := c_iadd x 128
  have r := rng32 (x + 128)
  rw [Int32.lt_iff_toInt_lt] at h1 h2 ⊢
  have e1 : (-128 : Int32).toInt = -128 := by decide
  have e2 : (127 : Int32).toInt = 127 := by decide
  have e3 : (128 : Int32).toInt = 128 := by decide
  have e0 : (0 : Int32).toInt = 0 := by decide
  have e4 : (256 : Int32).toNatClampNeg = 256 := by decide
  simp only [Int32.toNatClampNeg] at hn e4 ⊢
  omega
theorem own_coder0 {z : Int32} : ((z - z).toUInt32 >>> ((31 : Int32) &&& 31).toUInt32).toInt32.toInt8.toInt32 = (0 : Int32) := by
  rw [Int32.sub_self]; decide
theorem own_nz {z : Int32} {cs : List Int32} (hz : z.toNatClampNeg = cs.length) (h : cs ≠ []) : ¬ z = (0 : Int32) := fun e => by
  subst e
  have : (0 : Int32).toNatClampNeg = 0 := by decide
  rw [this] at hz
  exact h (List.length_eq_zero_iff.mp hz.symm)
theorem own_narc (u : Int32) : narrow .char (.int (u &&& (255 : Int32)).toUInt32.toUInt16.toUInt32.toInt32) = .int (u &&& (255 : Int32)).toUInt32.toUInt16.toUInt32.toInt32 := by
  show Value.int _ = _
  have m := mask255 u
  rw [i2c_in m.1 (le255 m.2), i2c_in m.1 (le255 m.2)]
theorem own_one {P : Int32 → Prop} {a : Int32} (h : P a) : ∀ x ∈ [a], P x := fun x hx => by cases List.mem_singleton.mp hx; exact h
theorem own_cons {P : Int32 → Prop} {a : Int32} {L : List Int32} (h : P a) (r : ∀ x ∈ L, P x) : ∀ x ∈ a :: L, P x := fun x hx => (List.mem_cons.mp hx).elim (fun e => e ▸ h) (r x)
theorem own_two {P : Int32 → Prop} {a b : Int32} (h : P a) (h' : P b) : ∀ x ∈ [a, b], P x := own_cons h (own_one h')
def stRef (Z : State) (C n d : String) : Addr := match (Term.static C n d).eval #[] Z none [] Z with
  | some (.ref a) => a
  | _ => 0
theorem stRef_of {Z : State} {args : Array Value} {C n d : String} {a : Addr} (h : (Term.static C n d).eval args Z none [] Z = some (.ref a)) : stRef Z C n d = a := by
  have q : (Term.static C n d).eval #[] Z none [] Z = some (.ref a) := h
  simp only [stRef, q]
theorem arv_of_arr {Z : State} {h : Heap} {a : Addr} {cl : Cell} {ty : FieldType} {z : Int32} {vs : List Value} {d : Value} (A : Arr Z h a cl ty) (hz : ¬ z < 0) (hs : cl.slots.size = z.toNatClampNeg) (H : ∀ i, i < cl.slots.size → cl.slots[i]? = some (vs.getD i d) ∧ fits ty (vs.getD i d) = true) : Arv Z h a cl.cls ty z vs d :=
  ⟨cl, A, rfl, hs, hz, fun i hi => (H i hi).1, fun i hi => (H i hi).2⟩
theorem arv_ext {Z : State} {h h' : Heap} {a : Addr} {k : ClassId} {ty : FieldType} {z : Int32} {vs : List Value} {d : Value} (F : Arv Z h a k ty z vs d) (E : Ext h h') : Arv Z h' a k ty z vs d := F.ext E
theorem own_len {Z : State} {args : Array Value} {t : Term} {a : Addr} {cl : Cell} {ty : FieldType} {z : Int32} (e : t.eval args Z none [] Z = some (.ref a)) (A : Arr Z Z.heap a cl ty) (h : (Term.length t).eval args Z none [] Z = some (.int z)) : cl.slots.size < 2 ^ 31 ∧ cl.slots.size.toInt32 = z := by
  have q := A.fin (Vm.Alike.refl _)
  simp only [Term.eval, e, q, Option.bind_eq_bind, Option.bind_some] at h
  split at h
  · rename_i hl
    exact ⟨hl, by simpa using h⟩
  · cases h
theorem own_sto {Z : State} {h : Heap} {a y : Addr} {k : ClassId} {ty : FieldType} {z : Int32} {vs : List Value} {d : Value} {C : String} (F : Arv Z h a k ty z vs d) (O : Ovr Z k C) (I : Ins Z h y C true) : Sto Z h a (.ref y) := by
  obtain ⟨cl, A, q, -⟩ := F
  exact Sto.ofV A q O I
def NFc (Z : State) (K : String) : Prop := ∃ t kt, Z.vm.findClass K = some t ∧ Z.vm.classes[t]? = some kt ∧ kt.isInterface = false
theorem own_face_inst {Z : State} {a0 : Array Value} {K : String} {n : Nat} (w : (Jvm.Cond.instantiable K n).before a0 Z = true) : NFc Z K := by
  obtain ⟨c, k, h1, h2, -, h4, -⟩ := Cond.instantiable_spec w
  exact ⟨c, k, h1, h2, by simpa using (Bool.or_eq_false_iff.mp h4).1⟩
theorem own_face_sel {Z : State} {a0 : Array Value} {K : String} {u z : MethodName} (w : (Jvm.Cond.selects K u z).before a0 Z = true) : NFc Z z.cls := by
  obtain ⟨c, r, m, -, -, h3, -, mk, h5, h6⟩ := Cond.selects_spec w
  exact ⟨m.cls, mk, findClass_of_methodNamed h3, h5, h6⟩
theorem own_root {Z : State} {a0 : Array Value} {O K : String} (w : (Jvm.Cond.noSuperclass O).before a0 Z = true) (hk : NFc Z K) (hn : O ≠ K) : NS Z O K := by
  obtain ⟨c, k, h1, h2, h3, -, -⟩ := Cond.noSuperclass_spec w
  obtain ⟨t, kt, g1, -⟩ := hk
  have ne := ids_ne h1 g1 hn
  refine ⟨c, t, h1, g1, fun fuel => ?_⟩
  cases fuel with
  | zero => rfl
  | succ f => simp [Vm.isSubclassAux, ne, h2, h3]
theorem own_nsno {Z : State} {a0 : Array Value} {C K : String} {n : Nat} (w : (Jvm.Cond.instantiable C n).before a0 Z = true) (hk : NFc Z K) (ns : NS Z C K) (hn : C ≠ K) : ∃ c t, Z.vm.findClass C = some c ∧ Z.vm.findClass K = some t ∧ Z.vm.assignable c t = false := by
  obtain ⟨c, t, h0, g0, n3⟩ := ns
  obtain ⟨c', k, h1, h2, h5, -⟩ := Cond.instantiable_spec w
  cases h0.symm.trans h1
  obtain ⟨t', kt, g1, g2, g7⟩ := hk
  cases g0.symm.trans g1
  have ne := ids_ne h0 g0 hn
  refine ⟨c, t, h0, g0, ?_⟩
  show Z.vm.assignableAux (255 + 1) c t = false
  cases hkk : kt.kind <;> simp [Vm.assignableAux, ne, h2, g2, h5, hkk, g7, Vm.isSubclass, n3]
theorem own_arv0 {Z : State} {h : Heap} {a : Addr} {cl : Cell} {ty : FieldType} {d : Value} (A : Arr Z h a cl ty) (l : cl.slots.size < 2 ^ 31 ∧ cl.slots.size.toInt32 = (0 : Int32)) : Arv Z h a cl.cls ty (0 : Int32) [] d := by
  have e : cl.slots.size = 0 := by
    have q := len_toInt l.1
    rw [l.2] at q
    have : (0 : Int32).toInt = 0 := by decide
    omega
  refine ⟨cl, A, rfl, by rw [e]; decide, by decide, fun i hi => ?_, fun i hi => ?_⟩ <;> (rw [e] at hi; exact absurd hi (Nat.not_lt_zero _))
theorem own_cat {v : Value} (h : v.isRef = true) : v.category = 1 := by rcases ref_cases h with rfl | ⟨_, rfl⟩ <;> rfl
theorem unt_ext {h h' : Heap} {a : Addr} (E : Ext h h') (U : Unt h a) : Unt h' a := by obtain ⟨c, q, r⟩ := U; exact ⟨c, E.2 _ _ q, r⟩
theorem own_selP {Z : State} {a0 : Array Value} {z u : MethodName} (w3 : (Jvm.Cond.selects u.cls u u).before a0 Z = true) (he : u.cls = z.cls) (hx : z.cls ≠ "java/lang/invoke/MethodHandle" ∧ z.cls ≠ "java/lang/invoke/VarHandle") (w2 : (Jvm.Cond.instanceMethod z).before a0 Z = true) (w5 : (Jvm.Cond.privateMethod z).before a0 Z = true) : (Jvm.Cond.selects z.cls z z).before a0 Z = true := by
  obtain ⟨mk, methM, hnamed, hmethM, hstM, habM⟩ := Cond.instanceMethod_spec w2
  obtain ⟨c2, r2, m2, q1, q2, q3, q4, kP, hkP, hkPi⟩ := Cond.selects_spec w3
  have e1 := findClass_of_methodNamed hnamed
  have e3 := findClass_of_methodNamed q3
  have hp := Cond.privateMethod_at w5 mk methM hnamed hmethM
  rw [he, e1] at e3
  have e4 := Option.some.inj e3
  rw [← e4] at hkP
  have hf := State.methodFound?_of_named hnamed hx
  have hs : selectMethod {} Z.vm mk.cls mk = .method mk := selectMethod_private hmethM hp
  show Cond.holds _ _ _ _ _ _ = true
  simp [Cond.holds, Cond.value, e1, hf, hnamed, hs, hkP, hkPi]
theorem own_elem {Z : State} {args : Array Value} {t : Term} {a : Addr} {cl : Cell} {ty : FieldType} {j : Int32} {v : Value} (e : t.eval args Z none [] Z = some (.ref a)) (A : Arr Z Z.heap a cl ty) (h : (Term.elem t (Term.int j)).eval args Z none [] Z = some v) : cl.slots[j.toNatClampNeg]? = some v := by
  have q := A.fin (Vm.Alike.refl _)
  simp only [Term.eval, e, q, Option.bind_eq_bind, Option.bind_some] at h
  split at h
  · cases h
  · exact h
theorem own_eqr {Z : State} {args : Array Value} {X F : Term} {y : Addr} (hF : F.eval args Z none [] Z = some (.ref y)) (h : (Cond.eq X F).value args Z none Z [] = some true) : X.eval args Z none [] Z = some (.ref y) := by
  simp only [Cond.value, hF] at h
  cases hX : X.eval args Z none [] Z with
  | none => simp [hX] at h
  | some x => cases x <;> simp [hX] at h ⊢; exact h
theorem own_eqn {Z : State} {args : Array Value} {X : Term} (h : (Cond.eq X Term.null).value args Z none Z [] = some true) : X.eval args Z none [] Z = some .null := by
  simp only [Cond.value, Term.eval] at h
  cases hX : X.eval args Z none [] Z with
  | none => simp [hX] at h
  | some x => cases x <;> simp [hX] at h ⊢
def own_eqb (us ws : List Int32) : Int32 := if us = ws then 1 else 0
theorem own_take_succ {us ws : List Int32} {i : Nat} (hu : i < us.length) (hw : i < ws.length) (h : us.take i = ws.take i) (e : us.getD i 0 = ws.getD i 0) : us.take (i + 1) = ws.take (i + 1) := by
  rw [List.take_succ_eq_append_getElem hu, List.take_succ_eq_append_getElem hw, h]
  simp [List.getD_eq_getElem?_getD, List.getElem?_eq_getElem hu, List.getElem?_eq_getElem hw] at e
  rw [e]
theorem own_low_map (cs : List Int32) : cs.map lowV = (cs.map (fun c => c.toInt8.toInt32)).map Value.int := by simp [lowV]
theorem own_eqb_pos {us ws : List Int32} (h : us = ws) : own_eqb us ws = 1 := if_pos h
theorem own_eqb_neg {us ws : List Int32} (h : ¬ us = ws) : own_eqb us ws = 0 := if_neg h
theorem own_eqb0 {us ws : List Int32} (h : own_eqb us ws = 0) : ¬ us = ws := fun e => by rw [own_eqb_pos e] at h; exact absurd h (by decide)
theorem own_eqb1 {us ws : List Int32} (h : ¬ own_eqb us ws = 0) : us = ws := Classical.byContradiction fun e => h (own_eqb_neg e)
theorem own_eqb0' {us ws : List Int32} (h : own_eqb ws us = 0) : ¬ us = ws := fun e => own_eqb0 h e.symm
theorem own_eqb_nar (us ws : List Int32) : narrow .boolean (.int (own_eqb us ws)) = .int (own_eqb us ws) := by
  by_cases h : us = ws
  · rw [own_eqb_pos h]; rfl
  · rw [own_eqb_neg h]; rfl
theorem own_idx {j z : Int32} (h1 : ¬ j < 0) (h2 : j < z) : j.toNatClampNeg < z.toNatClampNeg := by
  have e := clamp_toInt h1
  rw [Int32.lt_iff_toInt_lt] at h2
  simp only [Int32.toNatClampNeg] at e ⊢
  omega
theorem own_clamp_inj {x z : Int32} (h1 : ¬ x < 0) (h2 : ¬ z < 0) (h : x.toNatClampNeg = z.toNatClampNeg) : x = z := by
  have e1 := clamp_toInt h1
  have e2 := clamp_toInt h2
  apply Int32.toInt_inj.mp
  omega
theorem own_pad0 (m i : Nat) : ((List.replicate m (0 : Int32)).map Value.int).getD i (.int (0 : Int32)) = ([] : List Value).getD i (.int (0 : Int32)) := by
  simp only [List.map_replicate, List.getD_eq_getElem?_getD, List.getElem?_replicate]
  split <;> rfl
theorem own_set_mem {cs : List Int32} {P : Int32 → Prop} {i : Nat} {x : Int32} (h : ∀ y ∈ cs, P y) (hx : P x) : ∀ y ∈ cs.set i x, P y := fun y hy => by
  rcases List.mem_or_eq_of_mem_set hy with q | q
  · exact h y q
  · rw [q]; exact hx
theorem own_set_map (cs : List Int32) (i : Nat) (x : Int32) : (cs.map Value.int).set i (.int x) = (cs.set i x).map Value.int := by rw [List.map_set]
theorem own_arv_uniq {Z : State} {h : Heap} {t : Addr} {k k' : ClassId} {ty ty' : FieldType} {z z' : Int32} {us ws : List Int32} {d d' : Value} (A : Arv Z h t k ty z (us.map Value.int) d) (B : Arv Z h t k' ty' z' (ws.map Value.int) d') (hu : z.toNatClampNeg = us.length) (hw : z'.toNatClampNeg = ws.length) : us = ws := by
  obtain ⟨c, A1, -, A2, -, A3, -⟩ := A
  obtain ⟨c', B1, -, B2, -, B3, -⟩ := B
  cases A1.1.symm.trans B1.1
  apply List.ext_getElem (by omega)
  intro i h1 h2
  have q1 := A3 i (by omega)
  have q2 := B3 i (by omega)
  have q := Option.some.inj (q1.symm.trans q2)
  simp [List.getD_eq_getElem?_getD, List.getElem?_map, List.getElem?_eq_getElem h1, List.getElem?_eq_getElem h2] at q
  exact q
theorem own_fld_uniq {Z : State} {h : Heap} {a : Addr} {C n d : String} {x y : Addr} (F : Fld Z h a C n d (.ref x)) (G : Fld Z h a C n d (.ref y)) : x = y := Classical.byContradiction fun q => Fld.ne F G (fun e => q (Value.ref.inj e)) rfl
theorem own_rem {x : Int32} {m : Int32} (h : ¬ x < 0) (hm : (0 : Int32) < m) : ¬ x % m < 0 ∧ x % m < m := by
  have e := (c_iremV x m).1
  rw [Int32.lt_iff_toInt_lt] at h hm ⊢
  rw [Int32.lt_iff_toInt_lt]
  have e0 : (0 : Int32).toInt = 0 := by decide
  rw [e0] at h hm ⊢
  have := e (by omega) hm
  omega
theorem own_maskn (x m : Int32) (h : ¬ m < 0) : ¬ (x &&& m) < 0 := by
  have e0 : (0 : Int32).toInt = 0 := by decide
  rw [Int32.lt_iff_toInt_lt, e0] at h ⊢
  have q := c_and x m (by omega)
  omega
theorem own_remcap {x m : Int32} {c : Nat} (h : ¬ x < 0) (hm : (0 : Int32) < m) (hc : m.toNatClampNeg ≤ c + 1) : (x % m).toNatClampNeg ≤ c := by
  have q := own_rem h hm
  have r := own_idx q.1 q.2
  omega
end Jvm.OwnK
namespace Jvm.OwnK
open Jvm Sem ClassFile Op Lib Jvm.Free Jvm.Stand Jvm.LawKit Jvm.RoadKit Bundle
/-! plain facts on UTF16 bytes -/
def ub0 (c : Int32) : Int32 := (c >>> ((0 : Int32) &&& 31)).toInt8.toInt32
def ub1 (c : Int32) : Int32 := (c >>> ((8 : Int32) &&& 31)).toInt8.toInt32
def udec (x y : Int32) : Int32 := (((x &&& (255 : Int32)) <<< ((0 : Int32) &&& 31)) ||| ((y &&& (255 : Int32)) <<< ((8 : Int32) &&& 31))).toUInt32.toUInt16.toUInt32.toInt32
theorem own_udec {c : Int32} (h1 : ¬ c < 0) (h2 : ¬ 65535 < c) : udec (ub0 c) (ub1 c) = c := by
  have e0 : (0 : Int32).toInt = 0 := by decide
  have e1 : (65535 : Int32).toInt = 65535 := by decide
  rw [Int32.lt_iff_toInt_lt] at h1 h2
  rw [e0] at h1
  rw [e1] at h2
  apply Int32.toInt_inj.mp
  have s0 := c_ishr c 0 0 (by decide)
  have s8 := c_ishr c 8 8 (by decide)
  have p0 : ((2 ^ 0 : Nat) : Int) = 1 := by decide
  have p8 : ((2 ^ 8 : Nat) : Int) = 256 := by decide
  rw [p0] at s0
  rw [p8] at s8
  have i0 := c_i2b (c >>> ((0 : Int32) &&& 31))
  have i8 := c_i2b (c >>> ((8 : Int32) &&& 31))
  have m0 := c_mask (ub0 c) 255 8 (by decide) (by decide)
  have m8 := c_mask (ub1 c) 255 8 (by decide) (by decide)
  rw [p8] at m0 m8
  have l0 := c_ishl (ub0 c &&& 255) 0 0 (by decide)
  have l8 := c_ishl (ub1 c &&& 255) 8 8 (by decide)
  rw [p0] at l0
  rw [p8] at l8
  have r0 := rng32 ((ub0 c &&& 255) <<< ((0 : Int32) &&& 31))
  have r8 := rng32 ((ub1 c &&& 255) <<< ((8 : Int32) &&& 31))
  have q0 : (ub0 c).toInt = (c >>> ((0 : Int32) &&& 31)).toInt8.toInt32.toInt := rfl
  have q8 : (ub1 c).toInt = (c >>> ((8 : Int32) &&& 31)).toInt8.toInt32.toInt := rfl
  have v0 : ((ub0 c &&& 255) <<< ((0 : Int32) &&& 31)).toInt = c.toInt % 256 := by omega
  have v8 : ((ub1 c &&& 255) <<< ((8 : Int32) &&& 31)).toInt = (c.toInt / 256) * 256 := by omega
  have o := c_or' ((ub0 c &&& 255) <<< ((0 : Int32) &&& 31)) ((ub1 c &&& 255) <<< ((8 : Int32) &&& 31)) 8 (by decide) 256 (by decide) (by omega) (by omega) (by omega)
  have ro := rng32 (((ub0 c &&& 255) <<< ((0 : Int32) &&& 31)) ||| ((ub1 c &&& 255) <<< ((8 : Int32) &&& 31)))
  have cc := c_i2c (((ub0 c &&& 255) <<< ((0 : Int32) &&& 31)) ||| ((ub1 c &&& 255) <<< ((8 : Int32) &&& 31)))
  show (udec (ub0 c) (ub1 c)).toInt = c.toInt
  unfold udec
  omega
def Enc (bs cs : List Int32) (n : Nat) : Prop := bs.length = 2 * cs.length ∧ ∀ j, j < n → bs.getD (2 * j) 0 = ub0 (cs.getD j 0) ∧ bs.getD (2 * j + 1) 0 = ub1 (cs.getD j 0)
theorem own_getD_set (bs : List Int32) (i j : Nat) (x : Int32) (hi : i < bs.length) : (bs.set i x).getD j 0 = if i = j then x else bs.getD j 0 := by
  simp only [List.getD_eq_getElem?_getD, List.getElem?_set]
  by_cases h : i = j
  · subst h; simp [hi]
  · simp [h]
theorem Enc.step {bs cs : List Int32} {i : Nat} (h : Enc bs cs i) (hi : i < cs.length) : Enc ((bs.set (2 * i) (ub0 (cs.getD i 0))).set (2 * i + 1) (ub1 (cs.getD i 0))) cs (i + 1) := by
  refine ⟨by simp only [List.length_set]; exact h.1, fun j hj => ?_⟩
  have hl := h.1
  have A := fun k => own_getD_set (bs.set (2 * i) (ub0 (cs.getD i 0))) (2 * i + 1) k (ub1 (cs.getD i 0)) (by rw [List.length_set]; omega)
  have B := fun k => own_getD_set bs (2 * i) k (ub0 (cs.getD i 0)) (by omega)
  rw [A, A, B, B]
  by_cases e : j = i
  · subst e
    simp
  · have hj2 : j < i := by omega
    obtain ⟨q1, q2⟩ := h.2 j hj2
    rw [if_neg (by omega), if_neg (by omega), if_neg (by omega), if_neg (by omega)]
    exact ⟨q1, q2⟩
theorem own_shl1 {j : Int32} (h1 : ¬ j < 0) (h2 : j.toNatClampNeg < 1073741824) : ¬ (j <<< ((1 : Int32) &&& 31)) < 0 ∧ (j <<< ((1 : Int32) &&& 31)).toNatClampNeg = 2 * j.toNatClampNeg := by
  have e0 : (0 : Int32).toInt = 0 := by decide
  have n := clamp_toInt h1
  have l := c_ishl j 1 1 (by decide)
  have p1 : ((2 ^ 1 : Nat) : Int) = 2 := by decide
  rw [p1] at l
  have r := rng32 (j <<< ((1 : Int32) &&& 31))
  have v : (j <<< ((1 : Int32) &&& 31)).toInt = 2 * j.toInt := by omega
  rw [Int32.lt_iff_toInt_lt, e0, v]
  refine ⟨by omega, ?_⟩
  simp only [Int32.toNatClampNeg] at n h2 ⊢
  rw [v]
  omega
theorem own_shr1 {z : Int32} (h1 : ¬ z < 0) (h2 : z.toNatClampNeg < 1073741824) : ((z <<< ((1 : Int32) &&& 31)) >>> ((1 : Int32) &&& 31)) = z := by
  have n := clamp_toInt h1
  have q := own_shl1 h1 h2
  have n2 := clamp_toInt q.1
  apply Int32.toInt_inj.mp
  have s := c_ishr (z <<< ((1 : Int32) &&& 31)) 1 1 (by decide)
  have p1 : ((2 ^ 1 : Nat) : Int) = 2 := by decide
  rw [p1] at s
  omega
theorem own_coder1 {z : Int32} (h1 : ¬ z < 0) (h0 : ¬ z = 0) (h2 : z.toNatClampNeg < 1073741824) : ((z - (z <<< ((1 : Int32) &&& 31))).toUInt32 >>> ((31 : Int32) &&& 31).toUInt32).toInt32.toInt8.toInt32 = (1 : Int32) := by
  have n := clamp_toInt h1
  have q := own_shl1 h1 h2
  have n2 := clamp_toInt q.1
  have sb := c_isub z (z <<< ((1 : Int32) &&& 31))
  have r := rng32 (z - (z <<< ((1 : Int32) &&& 31)))
  have u := c_iushr (z - (z <<< ((1 : Int32) &&& 31))) 31 31 (by decide) (by decide)
  have p31 : ((2 ^ 31 : Nat) : Int) = 2147483648 := by decide
  rw [p31] at u
  have zn : z.toInt ≠ 0 := fun e => h0 (Int32.toInt_inj.mp (e.trans (by decide)))
  have v : ((z - (z <<< ((1 : Int32) &&& 31))).toUInt32 >>> ((31 : Int32) &&& 31).toUInt32).toInt32 = 1 := by
    apply Int32.toInt_inj.mp
    rw [u]
    have e1 : (1 : Int32).toInt = 1 := by decide
    rw [e1]
    omega
  rw [v]
  decide
theorem own_succ {j z : Int32} (h1 : ¬ j < 0) (h : j.toNatClampNeg + 1 < 2147483648) : ¬ (j + 1) < 0 ∧ (j + 1).toNatClampNeg = j.toNatClampNeg + 1 := by
  have e0 : (0 : Int32).toInt = 0 := by decide
  have e1 : (1 : Int32).toInt = 1 := by decide
  have n := clamp_toInt h1
  have a := c_iadd j 1
  have r := rng32 (j + 1)
  have v : (j + 1).toInt = j.toInt + 1 := by omega
  rw [Int32.lt_iff_toInt_lt, e0, v]
  refine ⟨by omega, ?_⟩
  simp only [Int32.toNatClampNeg] at n h ⊢
  rw [v]
  omega
theorem own_ltc {j z : Int32} (h1 : ¬ j < 0) (h2 : ¬ z < 0) (h : j.toNatClampNeg < z.toNatClampNeg) : j < z := by
  rw [Int32.lt_iff_toInt_lt, clamp_toInt h1, clamp_toInt h2]; omega
theorem own_gec {j z : Int32} (h1 : ¬ j < 0) (h2 : ¬ z < 0) (h : z.toNatClampNeg ≤ j.toNatClampNeg) : ¬ j < z := by
  rw [Int32.lt_iff_toInt_lt, clamp_toInt h1, clamp_toInt h2]; omega
end Jvm.OwnK
namespace Jvm.OwnK
open Jvm Sem ClassFile Op Lib Jvm.Free Jvm.Stand Jvm.LawKit Jvm.RoadKit Bundle
theorem own_ltle {i z zc : Int32} (h : i < z) (hle : ¬ zc < z) : i < zc := by
  rw [Int32.lt_iff_toInt_lt] at *; omega
theorem own_take_all {cs : List Int32} {P : Int32 → Prop} {i : Nat} (hi : i < cs.length) (h : ∀ x ∈ cs.take i, P x) (hp : P (cs.getD i 0)) : ∀ x ∈ cs.take (i + 1), P x := fun x hx => by
  rw [List.take_succ_eq_append_getElem hi] at hx
  have e : cs.getD i 0 = cs[i] := by simp [List.getD_eq_getElem?_getD, List.getElem?_eq_getElem hi]
  rcases List.mem_append.mp hx with q | q
  · exact h x q
  · rw [List.mem_singleton.mp q, ← e]; exact hp
theorem own_nar_i2c (x : Int32) : narrow .char (.int x.toUInt32.toUInt16.toUInt32.toInt32) = .int x.toUInt32.toUInt16.toUInt32.toInt32 := by
  show Value.int _ = _
  have h := c_i2c x
  have e0 : (0 : Int32).toInt = 0 := by decide
  have e1 : (65535 : Int32).toInt = 65535 := by decide
  rw [i2c_in (by rw [Int32.lt_iff_toInt_lt, e0]; omega) (by rw [Int32.lt_iff_toInt_lt, e1]; omega)]
theorem arv_nnz {z : Int32} (h : ¬ z < 0) : ¬ z < 0 := h
end Jvm.OwnK
namespace Jvm.OwnK
open Jvm Sem ClassFile Op Lib Jvm.Free Jvm.Stand Jvm.LawKit Jvm.RoadKit Bundle
theorem own_lt_ne {r z : Int32} (h : r < z) : ¬ r = z := fun e => by subst e; rw [Int32.lt_iff_toInt_lt] at h; omega
theorem own_enc_at {bs cs : List Int32} {r : Nat} (hE : Enc bs cs cs.length) (hr : r < cs.length) (h16 : ∀ x ∈ cs, ¬ x < 0 ∧ ¬ 65535 < x) : udec (bs.getD (2 * r) 0) (bs.getD (2 * r + 1) 0) = cs.getD r 0 := by
  obtain ⟨q1, q2⟩ := hE.2 r hr
  have m := getD_mem h16 hr
  rw [q1, q2, own_udec m.1 m.2]
theorem own_nar16 {cs : List Int32} {r : Nat} (h16 : ∀ x ∈ cs, ¬ x < 0 ∧ ¬ 65535 < x) (hr : r < cs.length) : narrow .char (.int (cs.getD r 0)) = .int (cs.getD r 0) := by
  have m := getD_mem h16 hr
  show Value.int _ = _
  rw [i2c_in m.1 m.2]
theorem own_or3 {z zc : Int32} (h1 : ¬ z < 0) (h2 : ¬ zc < 0) : ¬ ((zc ||| (0 : Int32)) ||| z) < 0 := by
  have e0 : (0 : Int32).toInt = 0 := by decide
  rw [Int32.lt_iff_toInt_lt, e0] at h1 h2 ⊢
  have a := (c_orS zc 0).1 (by omega) (by rw [e0]; omega)
  have b := (c_orS (zc ||| 0) z).1 a (by omega)
  omega
theorem own_lt_irr (z : Int32) : ¬ z < z := by rw [Int32.lt_iff_toInt_lt]; omega
theorem own_sub0 {z : Int32} : z - (0 : Int32) = z := Int32.sub_zero z
end Jvm.OwnK
namespace Jvm.OwnK
open Jvm Sem ClassFile Op Lib Jvm.Free Jvm.Stand Jvm.LawKit Jvm.RoadKit Bundle
theorem own_fill {cs : List Int32} {i M : Nat} (hi : i < cs.length) (hM : i < M) : (cs.take i ++ List.replicate (M - i) (0 : Int32)).set i (cs.getD i 0) = cs.take (i + 1) ++ List.replicate (M - (i + 1)) (0 : Int32) := by
  have hl : (cs.take i).length = i := by rw [List.length_take]; omega
  have e : cs.getD i 0 = cs[i] := by simp [List.getD_eq_getElem?_getD, List.getElem?_eq_getElem hi]
  obtain ⟨k, hk⟩ : ∃ k, M - i = k + 1 := ⟨M - i - 1, by omega⟩
  have hk2 : M - (i + 1) = k := by omega
  rw [hk, hk2, List.set_append_right _ _ (by omega), hl, Nat.sub_self, List.replicate_succ, List.set_cons_zero, List.take_succ_eq_append_getElem hi, List.append_assoc, e]
  rfl
theorem own_padr (l : List Int32) (k i : Nat) : (l.map Value.int).getD i (.int (0 : Int32)) = ((l ++ List.replicate k (0 : Int32)).map Value.int).getD i (.int (0 : Int32)) := by
  rw [List.map_append, List.map_replicate]
  exact (pad_rep _ _ k i).symm
end Jvm.OwnK
namespace Jvm.OwnK
open Jvm Sem ClassFile Op Lib Jvm.Free Jvm.Stand Jvm.LawKit Jvm.RoadKit Bundle
theorem own_range_all (cs : List Int32) (k : Nat) (hl : cs.length = k) : cs.map Value.int = (List.range k).map fun i => (cs.map Value.int).getD (0 + i) (.int (0 : Int32)) := by
  subst hl
  apply List.ext_getElem (by simp)
  intro i h1 h2
  simp at h1 h2
  simp [List.getD_eq_getElem?_getD, h2]
theorem own_room1 {len zc : Int32} (h0 : ¬ len < 0) (hc : ¬ zc < 0) (h : len < zc) : ¬ (zc - len) < (1 : Int32) := by
  have e0 : (0 : Int32).toInt = 0 := by decide
  have e1 : (1 : Int32).toInt = 1 := by decide
  have r1 := rng32 zc
  have r2 := rng32 len
  have s := c_isub zc len
  have r := rng32 (zc - len)
  rw [Int32.lt_iff_toInt_lt] at h0 hc h ⊢
  omega
theorem own_push {cs : List Int32} {d : Int32} {m : Nat} (h : 0 < m) : (cs ++ List.replicate m (0 : Int32)).set cs.length d = (cs ++ [d]) ++ List.replicate (m - 1) (0 : Int32) := by
  obtain ⟨k, rfl⟩ : ∃ k, m = k + 1 := ⟨m - 1, by omega⟩
  rw [List.set_append_right _ _ (Nat.le_refl _), Nat.sub_self, List.replicate_succ, List.set_cons_zero, List.append_assoc]
  rfl
theorem own_0add {n : Int32} : (0 : Int32) + (n - (0 : Int32)) = n := by rw [own_sub0, Int32.zero_add]
end Jvm.OwnK
namespace Jvm.OwnK
open Jvm Sem ClassFile Op Lib Jvm.Free Jvm.Stand Jvm.LawKit Jvm.RoadKit Bundle
theorem own_addn {n k : Int32} (h0 : ¬ n < 0) (h : n.toNatClampNeg ≤ 256) (hk : ¬ k < 0) (hk2 : k.toNatClampNeg ≤ 2) : ¬ (n + k) < 0 ∧ (n + k).toNatClampNeg = n.toNatClampNeg + k.toNatClampNeg := by
  have e0 : (0 : Int32).toInt = 0 := by decide
  have n1 := clamp_toInt h0
  have n2 := clamp_toInt hk
  have a := c_iadd n k
  have r := rng32 (n + k)
  have v : (n + k).toInt = n.toInt + k.toInt := by omega
  rw [Int32.lt_iff_toInt_lt, e0, v]
  refine ⟨by omega, ?_⟩
  simp only [Int32.toNatClampNeg] at n1 n2 h hk2 ⊢
  rw [v]
  omega
theorem own_add1 {n : Int32} (h0 : ¬ n < 0) (h : n.toNatClampNeg ≤ 256) : ¬ (n + (1 : Int32)) < 0 ∧ (n + (1 : Int32)).toNatClampNeg = n.toNatClampNeg + 1 := own_addn (k := 1) h0 h (by decide) (by decide)
theorem own_add2 {n : Int32} (h0 : ¬ n < 0) (h : n.toNatClampNeg ≤ 256) : ¬ (n + (2 : Int32)) < 0 ∧ (n + (2 : Int32)).toNatClampNeg = n.toNatClampNeg + 2 := own_addn (k := 2) h0 h (by decide) (by decide)
theorem own_pos {n : Int32} (p : (0 : Int32) < n) : 0 < n.toNatClampNeg := by
  have e0 : (0 : Int32).toInt = 0 := by decide
  rw [Int32.lt_iff_toInt_lt, e0] at p
  simp only [Int32.toNatClampNeg]
  omega
theorem own_subn {n : Int32} (p : (0 : Int32) < n) (h : n.toNatClampNeg ≤ 256) : ¬ (n - (1 : Int32)) < 0 ∧ (n - (1 : Int32)).toNatClampNeg = n.toNatClampNeg - 1 := by
  have e0 : (0 : Int32).toInt = 0 := by decide
  have e1 : (1 : Int32).toInt = 1 := by decide
  have q := own_pos p
  rw [Int32.lt_iff_toInt_lt, e0] at p
  have a := c_isub n 1
  have r := rng32 (n - 1)
  have rn := rng32 n
  have v : (n - 1).toInt = n.toInt - 1 := by omega
  rw [Int32.lt_iff_toInt_lt, e0, v]
  refine ⟨by omega, ?_⟩
  simp only [Int32.toNatClampNeg]
  rw [v]
  omega
theorem own_add11 (n : Int32) : n + (1 : Int32) + (1 : Int32) = n + (2 : Int32) := by rw [Int32.add_assoc]; rfl
theorem own_all2 {K : List Int32} {P : Int32 → Prop} {c d : Int32} (h : ∀ x ∈ K, P x) (hc : P c) (hd : P d) : ∀ x ∈ (K ++ [c]) ++ [d], P x := fun x hx => by
  rcases List.mem_append.mp hx with q | q
  · rcases List.mem_append.mp q with q | q
    · exact h x q
    · rw [List.mem_singleton.mp q]; exact hc
  · rw [List.mem_singleton.mp q]; exact hd
theorem own_cases256 {n : Int32} (h0 : ¬ n < 0) (h : n.toNatClampNeg ≤ 256) : n.toNatClampNeg < 255 ∨ n.toNatClampNeg = 255 ∨ n.toNatClampNeg = 256 := by omega
theorem own_ne0 {x : Int32} {k : Nat} (h : x.toNatClampNeg = k + 2) : ¬ x = 0 := fun e => by
  rw [e] at h
  have e0 : (0 : Int32).toNatClampNeg = 0 := by decide
  omega
theorem own_T1 {K : List Int32} {k : Nat} {c d : Int32} (h : k = K.length) : ((K ++ [c]) ++ [d]).getD k 0 = c := by
  subst h; simp [List.getD_eq_getElem?_getD]
theorem own_T2 {K : List Int32} {k : Nat} {c d : Int32} (h : k = K.length) : ((K ++ [c]) ++ [d]).getD (k + 1) 0 = d := by
  subst h; simp [List.getD_eq_getElem?_getD]
theorem own_Tlt {K : List Int32} {j : Nat} {c d : Int32} (h : j < K.length) : ((K ++ [c]) ++ [d]).getD j 0 = K.getD j 0 := by
  simp only [List.getD_eq_getElem?_getD]
  rw [List.getElem?_append_left (by simp; omega), List.getElem?_append_left h]
theorem own_T3 {K : List Int32} {k : Nat} {c d : Int32} (h : k = K.length) (hp : 0 < k) : ((K ++ [c]) ++ [d]).getD (k - 1) 0 = K.getD (k - 1) 0 := own_Tlt (by omega)
theorem own_T4 {K : List Int32} {k : Nat} {c d : Int32} (h : k = K.length) (hp : 0 < k) : ((K ++ [c]) ++ [d]).getD 0 0 = K.getD 0 0 := own_Tlt (by omega)
theorem own_takeD {D : List Int32} {j k : Nat} (h : j < k) : (D.take k).getD j 0 = D.getD j 0 := by
  simp only [List.getD_eq_getElem?_getD, List.getElem?_take, h, if_true]
theorem own_D3 {k : Nat} {fi la : Int32} (hp : 0 < k) (h : k ≤ 256) : (((List.replicate 256 (0 : Int32)).set 0 fi).set (k - 1) la).getD (k - 1) 0 = la := by
  rw [own_getD_set _ _ _ _ (by rw [List.length_set, List.length_replicate]; omega), if_pos rfl]
theorem own_D4 {n : Int32} {fi la : Int32} (h0 : ¬ n < 0) (hp : 0 < n.toNatClampNeg) (h : n.toNatClampNeg ≤ 256) : (((List.replicate 256 (0 : Int32)).set 0 fi).set (n.toNatClampNeg - 1) la).getD 0 0 = if n = (1 : Int32) then la else fi := by
  rw [own_getD_set _ _ _ _ (by rw [List.length_set, List.length_replicate]; omega), own_getD_set _ _ _ _ (by rw [List.length_replicate]; decide)]
  have e1 : (1 : Int32).toNatClampNeg = 1 := by decide
  by_cases e : n = (1 : Int32)
  · subst e
    rw [if_pos (show (1 : Int32).toNatClampNeg - 1 = 0 by rw [e1]), if_pos rfl]
  · have : ¬ n.toNatClampNeg - 1 = 0 := fun q => e (own_clamp_inj h0 (by decide) (by rw [e1]; omega))
    rw [if_neg this, if_pos rfl, if_neg e]
theorem mask65535 (x : Int32) : ¬ (x &&& 65535) < 0 ∧ ¬ 65535 < (x &&& 65535) := by
  have h := c_and x 65535 (by decide)
  rw [Int32.lt_iff_toInt_lt, Int32.lt_iff_toInt_lt]
  have e1 : (65535 : Int32).toInt = 65535 := by decide
  have e0 : (0 : Int32).toInt = 0 := by decide
  omega
end Jvm.OwnK
namespace Jvm.OwnK
open Jvm Sem ClassFile Op Lib Jvm.Free Jvm.Stand Jvm.LawKit Jvm.RoadKit Bundle
theorem own_getD_in {cs : List Int32} {i : Nat} (h : i < cs.length) : cs.getD i 0 ∈ cs := by
  have e : cs.getD i 0 = cs[i] := by simp [List.getD_eq_getElem?_getD, List.getElem?_eq_getElem h]
  rw [e]; exact List.getElem_mem h
theorem own_take_len {cs : List Int32} {n : Nat} (h : cs.length ≤ n) : cs.take n = cs := List.take_of_length_le h
theorem Enc.uniq {bs bs' cs : List Int32} (h : Enc bs cs cs.length) (h' : Enc bs' cs cs.length) : bs = bs' := by
  have l1 := h.1
  have l2 := h'.1
  apply List.ext_getElem (by omega)
  intro i h1 h2
  have g : ∀ (l : List Int32) (hi : i < l.length), l.getD i 0 = l[i] := fun l hi => by simp [List.getD_eq_getElem?_getD, List.getElem?_eq_getElem hi]
  rw [← g bs h1, ← g bs' h2]
  obtain ⟨k, hk⟩ : ∃ k, i = 2 * k ∨ i = 2 * k + 1 := ⟨i / 2, by omega⟩
  rcases hk with rfl | rfl
  · rw [(h.2 k (by omega)).1, (h'.2 k (by omega)).1]
  · rw [(h.2 k (by omega)).2, (h'.2 k (by omega)).2]
theorem own_255D {h t : Int32} : (((List.replicate 255 (0 : Int32)).set 0 h).set 254 t).getD 0 0 = h ∧ (((List.replicate 255 (0 : Int32)).set 0 h).set 254 t).getD 1 0 = 0 ∧ (((List.replicate 255 (0 : Int32)).set 0 h).set 254 t).getD 254 0 = t := by
  have A := fun k => own_getD_set ((List.replicate 255 (0 : Int32)).set 0 h) 254 k t (by rw [List.length_set, List.length_replicate]; decide)
  have B := fun k => own_getD_set (List.replicate 255 (0 : Int32)) 0 k h (by rw [List.length_replicate]; decide)
  refine ⟨?_, ?_, ?_⟩
  · rw [A, if_neg (by decide), B, if_pos rfl]
  · rw [A, if_neg (by decide), B, if_neg (by decide)]; rfl
  · rw [A, if_pos rfl]
theorem own_ap_lt {K : List Int32} {d : Int32} {j : Nat} (h : j < K.length) : (K ++ [d]).getD j 0 = K.getD j 0 := by
  simp only [List.getD_eq_getElem?_getD]
  rw [List.getElem?_append_left h]
theorem own_ap_eq {K : List Int32} {d : Int32} {j : Nat} (h : j = K.length) : (K ++ [d]).getD j 0 = d := by
  subst h; simp [List.getD_eq_getElem?_getD]
theorem own_ap_all {K : List Int32} {P : Int32 → Prop} {d : Int32} (h : ∀ x ∈ K, P x) (hd : P d) : ∀ x ∈ K ++ [d], P x := fun x hx => by
  rcases List.mem_append.mp hx with q | q
  · exact h x q
  · rw [List.mem_singleton.mp q]; exact hd
theorem own_and3 (x : Int32) : (x &&& (3 : Int32)) = (0 : Int32) ∨ (x &&& (3 : Int32)) = (1 : Int32) ∨ (x &&& (3 : Int32)) = (2 : Int32) ∨ (x &&& (3 : Int32)) = (3 : Int32) := by
  have h := c_and x 3 (by decide)
  simp only [← Int32.toInt_inj]
  have e0 : (0 : Int32).toInt = 0 := by decide
  have e1 : (1 : Int32).toInt = 1 := by decide
  have e2 : (2 : Int32).toInt = 2 := by decide
  have e3 : (3 : Int32).toInt = 3 := by decide
  omega
end Jvm.OwnK

namespace Jvm.Pilot.@@N@@
open Jvm Jvm.ClassFile Sem Op Lib Jvm.Free Jvm.Stand Jvm.LawKit Jvm.RoadKit Bundle Jvm.OwnK Jvm.Pilot.@@N@@.Jvm.D
abbrev EL0 : List (String × Nat) := [("java/lang/String", 7)]
abbrev NR0 : Bool := false
abbrev KN0 : Bool := false
abbrev CAP : Nat := 258
abbrev LatS (Z : State) (h : Heap) (a t : Addr) (kt : ClassId) (z : Int32) (cs : List Int32) : Prop := Fld Z h a "java/lang/String" "coder" "B" (.int (0 : Int32)) ∧ Fld Z h a "java/lang/String" "value" "[B" (.ref t) ∧ Arv Z h t kt .byte z (cs.map lowV) (.int (0 : Int32)) ∧ ∀ x ∈ cs, ¬ 255 < x
abbrev U16S (Z : State) (h : Heap) (a t : Addr) (kt : ClassId) (z : Int32) (cs : List Int32) : Prop := Fld Z h a "java/lang/String" "coder" "B" (.int (1 : Int32)) ∧ Fld Z h a "java/lang/String" "value" "[B" (.ref t) ∧ ∃ bs : List Int32, Arv Z h t kt .byte (z <<< ((1 : Int32) &&& 31)) (bs.map Value.int) (.int (0 : Int32)) ∧ Enc bs cs cs.length ∧ ∃ x ∈ cs, 255 < x
def Stat (Z : State) : Prop := (∃ zc : Int32, Sta Z Z.heap "java/lang/String" "COMPACT_STRINGS" "Z" (.int zc) ∧ ¬ zc = 0) ∧ (∃ fm : Value, Sta Z Z.heap "jdk/internal/util/Preconditions" "SIOOBE_FORMATTER" "Ljava/util/function/BiFunction;" fm ∧ fm.isRef = true) ∧ (Sta Z Z.heap "java/lang/StringUTF16" "$assertionsDisabled" "Z" (.int (1 : Int32)) ∧ Sta Z Z.heap "java/lang/StringUTF16" "HI_BYTE_SHIFT" "I" (.int (0 : Int32)) ∧ Sta Z Z.heap "java/lang/StringUTF16" "LO_BYTE_SHIFT" "I" (.int (8 : Int32))) ∧ True
theorem hs_c {Z : State} (h : Stat Z) : (∃ zc : Int32, Sta Z Z.heap "java/lang/String" "COMPACT_STRINGS" "Z" (.int zc) ∧ ¬ zc = 0) := h.1
theorem hs_f {Z : State} (h : Stat Z) : (∃ fm : Value, Sta Z Z.heap "jdk/internal/util/Preconditions" "SIOOBE_FORMATTER" "Ljava/util/function/BiFunction;" fm ∧ fm.isRef = true) := h.2.1
theorem hs_u {Z : State} (h : Stat Z) : (Sta Z Z.heap "java/lang/StringUTF16" "$assertionsDisabled" "Z" (.int (1 : Int32)) ∧ Sta Z Z.heap "java/lang/StringUTF16" "HI_BYTE_SHIFT" "I" (.int (0 : Int32)) ∧ Sta Z Z.heap "java/lang/StringUTF16" "LO_BYTE_SHIFT" "I" (.int (8 : Int32))) := h.2.2.1
abbrev N_0 : MethodName := ⟨"java/lang/StringUTF16", "compress", "([CI[BII)I"⟩
abbrev N_1 : MethodName := ⟨"java/lang/StringUTF16", "putChar", "([BII)V"⟩
abbrev N_2 : MethodName := ⟨"java/lang/StringUTF16", "newBytesLength", "(I)I"⟩
abbrev N_3 : MethodName := ⟨"java/lang/StringUTF16", "newBytesFor", "(I)[B"⟩
abbrev N_4 : MethodName := ⟨"java/lang/StringUTF16", "getChar", "([BI)C"⟩
abbrev N_5 : MethodName := ⟨"java/lang/StringUTF16", "toBytes", "([CII)[B"⟩
abbrev N_6 : MethodName := ⟨"java/lang/StringUTF16", "compress", "([CII)[B"⟩
abbrev N_7 : MethodName := ⟨"java/lang/StringUTF16", "coderFromArrayLen", "([BI)B"⟩
abbrev N_8 : MethodName := ⟨"java/lang/String", "<init>", "([CIILjava/lang/Void;)V"⟩
abbrev N_9 : MethodName := ⟨"java/lang/String", "<init>", "([C)V"⟩
abbrev N_10 : MethodName := ⟨"jdk/internal/util/Preconditions", "checkFromIndexSize", "(IIILjava/util/function/BiFunction;)I"⟩
abbrev N_11 : MethodName := ⟨"java/lang/String", "checkBoundsOffCount", "(III)I"⟩
abbrev N_12 : MethodName := ⟨"java/lang/String", "rangeCheck", "([CII)Ljava/lang/Void;"⟩
abbrev N_13 : MethodName := ⟨"java/lang/String", "<init>", "([CII)V"⟩
abbrev N_14 : MethodName := ⟨"java/lang/String", "coder", "()B"⟩
abbrev N_15 : MethodName := ⟨"java/lang/String", "isLatin1", "()Z"⟩
abbrev N_16 : MethodName := ⟨"java/lang/String", "length", "()I"⟩
abbrev N_17 : MethodName := ⟨"jdk/internal/util/Preconditions", "checkIndex", "(IILjava/util/function/BiFunction;)I"⟩
abbrev N_18 : MethodName := ⟨"java/lang/String", "checkIndex", "(II)V"⟩
abbrev N_19 : MethodName := ⟨"java/lang/StringLatin1", "charAt", "([BI)C"⟩
abbrev N_20 : MethodName := ⟨"java/lang/String", "charAt", "(I)C"⟩
abbrev N_21 : MethodName := ⟨"java/lang/StringUTF16", "length", "([B)I"⟩
abbrev N_22 : MethodName := ⟨"java/lang/StringUTF16", "checkIndex", "(I[B)V"⟩
abbrev N_23 : MethodName := ⟨"java/lang/StringUTF16", "charAt", "([BI)C"⟩
abbrev N_24 : MethodName := ⟨"java/lang/StringLatin1", "inflate", "([BI[CII)V"⟩
abbrev N_25 : MethodName := ⟨"java/lang/StringLatin1", "getChars", "([BII[CI)V"⟩
abbrev N_26 : MethodName := ⟨"java/lang/StringUTF16", "checkBoundsOffCount", "(II[B)V"⟩
abbrev N_27 : MethodName := ⟨"java/lang/StringUTF16", "getChars", "([BII[CI)V"⟩
abbrev N_28 : MethodName := ⟨"jdk/internal/util/Preconditions", "checkFromToIndex", "(IIILjava/util/function/BiFunction;)I"⟩
abbrev N_29 : MethodName := ⟨"java/lang/String", "checkBoundsBeginEnd", "(III)V"⟩
abbrev N_30 : MethodName := ⟨"java/lang/String", "getChars", "(II[CI)V"⟩
abbrev N_31 : MethodName := ⟨"com/example/beleg/beleg/JsonOutput", "<init>", "([C)V"⟩
abbrev N_32 : MethodName := ⟨"com/example/beleg/beleg/JsonOutput", "<init>", "()V"⟩
abbrev N_33 : MethodName := ⟨"com/example/beleg/beleg/JsonOutput", "ensureRoom", "(I)V"⟩
abbrev N_34 : MethodName := ⟨"java/lang/Math", "min", "(II)I"⟩
abbrev N_35 : MethodName := ⟨"java/util/Arrays", "copyOf", "([CI)[C"⟩
abbrev N_36 : MethodName := ⟨"java/lang/Math", "max", "(JJ)J"⟩
abbrev N_37 : MethodName := ⟨"java/lang/Math", "min", "(JJ)J"⟩
abbrev N_38 : MethodName := ⟨"com/example/beleg/beleg/JsonOutput", "append", "(C)Lcom/example/beleg/beleg/JsonOutput;"⟩
abbrev N_39 : MethodName := ⟨"com/example/beleg/beleg/JsonOutput", "append", "(Ljava/lang/String;II)Lcom/example/beleg/beleg/JsonOutput;"⟩
abbrev N_40 : MethodName := ⟨"com/example/beleg/beleg/JsonOutput", "length", "()I"⟩
abbrev N_41 : MethodName := ⟨"com/example/beleg/beleg/JsonOutput", "toString", "()Ljava/lang/String;"⟩
abbrev N_42 : MethodName := ⟨"java/lang/StringLatin1", "equals", "([B[B)Z"⟩
abbrev N_43 : MethodName := ⟨"java/lang/String", "equals", "(Ljava/lang/Object;)Z"⟩
abbrev N_44 : MethodName := ⟨"com/example/beleg/beleg/JsonOutput", "append", "(Ljava/lang/String;)Lcom/example/beleg/beleg/JsonOutput;"⟩
theorem pd_0 : parseMethodDescriptor "(I)I" = some ⟨[.int], some .int⟩ := by decide +kernel
theorem pd_1 : parseMethodDescriptor "([BII)V" = some ⟨[(.array .byte), .int, .int], none⟩ := by decide +kernel
theorem pd_2 : parseMethodDescriptor "(I)[B" = some ⟨[.int], some (.array .byte)⟩ := by decide +kernel
theorem pd_3 : parseMethodDescriptor "([CI[BII)I" = some ⟨[(.array .char), .int, (.array .byte), .int, .int], some .int⟩ := by decide +kernel
theorem pd_4 : parseMethodDescriptor "([CII)[B" = some ⟨[(.array .char), .int, .int], some (.array .byte)⟩ := by decide +kernel
theorem pd_5 : parseMethodDescriptor "([BI)C" = some ⟨[(.array .byte), .int], some .char⟩ := by decide +kernel
theorem pd_6 : parseMethodDescriptor "([BI)B" = some ⟨[(.array .byte), .int], some .byte⟩ := by decide +kernel
theorem pd_7 : parseMethodDescriptor "([CIILjava/lang/Void;)V" = some ⟨[(.array .char), .int, .int, (.object "java/lang/Void")], none⟩ := by decide +kernel
theorem pd_8 : parseMethodDescriptor "(IIILjava/util/function/BiFunction;)I" = some ⟨[.int, .int, .int, (.object "java/util/function/BiFunction")], some .int⟩ := by decide +kernel
theorem pd_9 : parseMethodDescriptor "(III)I" = some ⟨[.int, .int, .int], some .int⟩ := by decide +kernel
theorem pd_10 : parseMethodDescriptor "([CII)Ljava/lang/Void;" = some ⟨[(.array .char), .int, .int], some (.object "java/lang/Void")⟩ := by decide +kernel
theorem pd_11 : parseMethodDescriptor "()B" = some ⟨[], some .byte⟩ := by decide +kernel
theorem pd_12 : parseMethodDescriptor "(IILjava/util/function/BiFunction;)I" = some ⟨[.int, .int, (.object "java/util/function/BiFunction")], some .int⟩ := by decide +kernel
theorem pd_13 : parseMethodDescriptor "(II)V" = some ⟨[.int, .int], none⟩ := by decide +kernel
theorem pd_14 : parseMethodDescriptor "()Z" = some ⟨[], some .boolean⟩ := by decide +kernel
theorem pd_15 : parseMethodDescriptor "([B)I" = some ⟨[(.array .byte)], some .int⟩ := by decide +kernel
theorem pd_16 : parseMethodDescriptor "(I[B)V" = some ⟨[.int, (.array .byte)], none⟩ := by decide +kernel
theorem pd_17 : parseMethodDescriptor "([BI[CII)V" = some ⟨[(.array .byte), .int, (.array .char), .int, .int], none⟩ := by decide +kernel
theorem pd_18 : parseMethodDescriptor "(II[B)V" = some ⟨[.int, .int, (.array .byte)], none⟩ := by decide +kernel
theorem pd_19 : parseMethodDescriptor "()I" = some ⟨[], some .int⟩ := by decide +kernel
theorem pd_20 : parseMethodDescriptor "(III)V" = some ⟨[.int, .int, .int], none⟩ := by decide +kernel
theorem pd_21 : parseMethodDescriptor "([BII[CI)V" = some ⟨[(.array .byte), .int, .int, (.array .char), .int], none⟩ := by decide +kernel
theorem pd_22 : parseMethodDescriptor "([C)V" = some ⟨[(.array .char)], none⟩ := by decide +kernel
theorem pd_23 : parseMethodDescriptor "(II)I" = some ⟨[.int, .int], some .int⟩ := by decide +kernel
theorem pd_24 : parseMethodDescriptor "(JJ)J" = some ⟨[.long, .long], some .long⟩ := by decide +kernel
theorem pd_25 : parseMethodDescriptor "([CI)[C" = some ⟨[(.array .char), .int], some (.array .char)⟩ := by decide +kernel
theorem pd_26 : parseMethodDescriptor "(I)V" = some ⟨[.int], none⟩ := by decide +kernel
theorem pd_27 : parseMethodDescriptor "(II[CI)V" = some ⟨[.int, .int, (.array .char), .int], none⟩ := by decide +kernel
theorem pd_28 : parseMethodDescriptor "([CII)V" = some ⟨[(.array .char), .int, .int], none⟩ := by decide +kernel
theorem pd_29 : parseMethodDescriptor "([B[B)Z" = some ⟨[(.array .byte), (.array .byte)], some .boolean⟩ := by decide +kernel
theorem pd_30 : parseMethodDescriptor "(Ljava/lang/String;II)Lcom/example/beleg/beleg/JsonOutput;" = some ⟨[(.object "java/lang/String"), .int, .int], some (.object "com/example/beleg/beleg/JsonOutput")⟩ := by decide +kernel
theorem pd_31 : parseMethodDescriptor "()Ljava/lang/String;" = some ⟨[], some (.object "java/lang/String")⟩ := by decide +kernel
theorem pd_32 : parseMethodDescriptor "(Ljava/lang/Object;)Z" = some ⟨[(.object "java/lang/Object")], some .boolean⟩ := by decide +kernel
theorem pd_33 : parseMethodDescriptor "(C)Lcom/example/beleg/beleg/JsonOutput;" = some ⟨[.char], some (.object "com/example/beleg/beleg/JsonOutput")⟩ := by decide +kernel
theorem pd_34 : parseMethodDescriptor "(I)C" = some ⟨[.int], some .char⟩ := by decide +kernel
theorem pd_35 : parseMethodDescriptor "()V" = some ⟨[], none⟩ := by decide +kernel
theorem pd_36 : parseMethodDescriptor "(Ljava/lang/String;)Lcom/example/beleg/beleg/JsonOutput;" = some ⟨[(.object "java/lang/String")], some (.object "com/example/beleg/beleg/JsonOutput")⟩ := by decide +kernel
theorem lit_0 : (∀ c ∈ ("" : String).toList, c.toNat < 256) ∧ ("" : String).toList.map (fun c => Value.int (Jvm.Lit.byteI c.toNat.toUInt16)) = [] := ⟨by decide +kernel, by decide +kernel⟩
theorem ic_0 : Int32.ofInt (0) = (0 : Int32) := by decide
theorem ic_1 : Int32.ofInt (1) = (1 : Int32) := by decide
theorem ic_2 : Int32.ofInt (2) = (2 : Int32) := by decide
theorem ic_3 : Int32.ofInt (3) = (3 : Int32) := by decide
theorem icb_16 : (Int8.ofInt (16)).toInt32 = (16 : Int32) := by decide
theorem icb_31 : (Int8.ofInt (31)).toInt32 = (31 : Int32) := by decide
theorem ics_254 : (Int16.ofInt (254)).toInt32 = (254 : Int32) := by decide
theorem ics_255 : (Int16.ofInt (255)).toInt32 = (255 : Int32) := by decide
theorem ics_256 : (Int16.ofInt (256)).toInt32 = (256 : Int32) := by decide
theorem d_prog_11_method_1_0 : decode prog_11_method_1_code 0 = .ok (.aload_n 0, 1) := by decide +kernel
theorem d_prog_11_method_1_1 : decode prog_11_method_1_code 1 = .ok (.sipush 256, 3) := by decide +kernel
theorem d_prog_11_method_1_4 : decode prog_11_method_1_code 4 = .ok (.newarray .char, 2) := by decide +kernel
theorem d_prog_11_method_1_6 : decode prog_11_method_1_code 6 = .ok (.invokespecial 3, 3) := by decide +kernel
theorem d_prog_11_method_1_9 : decode prog_11_method_1_code 9 = .ok (.return_, 1) := by decide +kernel
theorem d_prog_11_method_2_0 : decode prog_11_method_2_code 0 = .ok (.aload_n 0, 1) := by decide +kernel
theorem d_prog_11_method_2_1 : decode prog_11_method_2_code 1 = .ok (.invokespecial 7, 3) := by decide +kernel
theorem d_prog_11_method_2_4 : decode prog_11_method_2_code 4 = .ok (.aload_n 0, 1) := by decide +kernel
theorem d_prog_11_method_2_5 : decode prog_11_method_2_code 5 = .ok (.aload_n 1, 1) := by decide +kernel
theorem d_prog_11_method_2_6 : decode prog_11_method_2_code 6 = .ok (.putfield 12, 3) := by decide +kernel
theorem d_prog_11_method_2_9 : decode prog_11_method_2_code 9 = .ok (.return_, 1) := by decide +kernel
theorem d_prog_11_method_5_0 : decode prog_11_method_5_code 0 = .ok (.aload_n 0, 1) := by decide +kernel
theorem d_prog_11_method_5_1 : decode prog_11_method_5_code 1 = .ok (.iconst 1, 1) := by decide +kernel
theorem d_prog_11_method_5_2 : decode prog_11_method_5_code 2 = .ok (.invokevirtual 41, 3) := by decide +kernel
theorem d_prog_11_method_5_5 : decode prog_11_method_5_code 5 = .ok (.aload_n 0, 1) := by decide +kernel
theorem d_prog_11_method_5_6 : decode prog_11_method_5_code 6 = .ok (.getfield 12, 3) := by decide +kernel
theorem d_prog_11_method_5_9 : decode prog_11_method_5_code 9 = .ok (.aload_n 0, 1) := by decide +kernel
theorem d_prog_11_method_5_10 : decode prog_11_method_5_code 10 = .ok (.dup, 1) := by decide +kernel
theorem d_prog_11_method_5_11 : decode prog_11_method_5_code 11 = .ok (.getfield 45, 3) := by decide +kernel
theorem d_prog_11_method_5_14 : decode prog_11_method_5_code 14 = .ok (.dup_x1, 1) := by decide +kernel
theorem d_prog_11_method_5_15 : decode prog_11_method_5_code 15 = .ok (.iconst 1, 1) := by decide +kernel
theorem d_prog_11_method_5_16 : decode prog_11_method_5_code 16 = .ok (.iadd, 1) := by decide +kernel
theorem d_prog_11_method_5_17 : decode prog_11_method_5_code 17 = .ok (.putfield 45, 3) := by decide +kernel
theorem d_prog_11_method_5_20 : decode prog_11_method_5_code 20 = .ok (.iload_n 1, 1) := by decide +kernel
theorem d_prog_11_method_5_21 : decode prog_11_method_5_code 21 = .ok (.castore, 1) := by decide +kernel
theorem d_prog_11_method_5_22 : decode prog_11_method_5_code 22 = .ok (.aload_n 0, 1) := by decide +kernel
theorem d_prog_11_method_5_23 : decode prog_11_method_5_code 23 = .ok (.areturn, 1) := by decide +kernel
theorem d_prog_11_method_6_0 : decode prog_11_method_6_code 0 = .ok (.aload_n 0, 1) := by decide +kernel
theorem d_prog_11_method_6_1 : decode prog_11_method_6_code 1 = .ok (.aload_n 1, 1) := by decide +kernel
theorem d_prog_11_method_6_2 : decode prog_11_method_6_code 2 = .ok (.iconst 0, 1) := by decide +kernel
theorem d_prog_11_method_6_3 : decode prog_11_method_6_code 3 = .ok (.aload_n 1, 1) := by decide +kernel
theorem d_prog_11_method_6_4 : decode prog_11_method_6_code 4 = .ok (.invokevirtual 49, 3) := by decide +kernel
theorem d_prog_11_method_6_7 : decode prog_11_method_6_code 7 = .ok (.invokevirtual 54, 3) := by decide +kernel
theorem d_prog_11_method_6_10 : decode prog_11_method_6_code 10 = .ok (.areturn, 1) := by decide +kernel
theorem d_prog_11_method_7_0 : decode prog_11_method_7_code 0 = .ok (.aload_n 0, 1) := by decide +kernel
theorem d_prog_11_method_7_1 : decode prog_11_method_7_code 1 = .ok (.iload_n 3, 1) := by decide +kernel
theorem d_prog_11_method_7_2 : decode prog_11_method_7_code 2 = .ok (.iload_n 2, 1) := by decide +kernel
theorem d_prog_11_method_7_3 : decode prog_11_method_7_code 3 = .ok (.isub, 1) := by decide +kernel
theorem d_prog_11_method_7_4 : decode prog_11_method_7_code 4 = .ok (.invokevirtual 41, 3) := by decide +kernel
theorem d_prog_11_method_7_7 : decode prog_11_method_7_code 7 = .ok (.aload_n 1, 1) := by decide +kernel
theorem d_prog_11_method_7_8 : decode prog_11_method_7_code 8 = .ok (.iload_n 2, 1) := by decide +kernel
theorem d_prog_11_method_7_9 : decode prog_11_method_7_code 9 = .ok (.iload_n 3, 1) := by decide +kernel
theorem d_prog_11_method_7_10 : decode prog_11_method_7_code 10 = .ok (.aload_n 0, 1) := by decide +kernel
theorem d_prog_11_method_7_11 : decode prog_11_method_7_code 11 = .ok (.getfield 12, 3) := by decide +kernel
theorem d_prog_11_method_7_14 : decode prog_11_method_7_code 14 = .ok (.aload_n 0, 1) := by decide +kernel
theorem d_prog_11_method_7_15 : decode prog_11_method_7_code 15 = .ok (.getfield 45, 3) := by decide +kernel
theorem d_prog_11_method_7_18 : decode prog_11_method_7_code 18 = .ok (.invokevirtual 58, 3) := by decide +kernel
theorem d_prog_11_method_7_21 : decode prog_11_method_7_code 21 = .ok (.aload_n 0, 1) := by decide +kernel
theorem d_prog_11_method_7_22 : decode prog_11_method_7_code 22 = .ok (.dup, 1) := by decide +kernel
theorem d_prog_11_method_7_23 : decode prog_11_method_7_code 23 = .ok (.getfield 45, 3) := by decide +kernel
theorem d_prog_11_method_7_26 : decode prog_11_method_7_code 26 = .ok (.iload_n 3, 1) := by decide +kernel
theorem d_prog_11_method_7_27 : decode prog_11_method_7_code 27 = .ok (.iload_n 2, 1) := by decide +kernel
theorem d_prog_11_method_7_28 : decode prog_11_method_7_code 28 = .ok (.isub, 1) := by decide +kernel
theorem d_prog_11_method_7_29 : decode prog_11_method_7_code 29 = .ok (.iadd, 1) := by decide +kernel
theorem d_prog_11_method_7_30 : decode prog_11_method_7_code 30 = .ok (.putfield 45, 3) := by decide +kernel
theorem d_prog_11_method_7_33 : decode prog_11_method_7_code 33 = .ok (.aload_n 0, 1) := by decide +kernel
theorem d_prog_11_method_7_34 : decode prog_11_method_7_code 34 = .ok (.areturn, 1) := by decide +kernel
theorem d_prog_11_method_14_0 : decode prog_11_method_14_code 0 = .ok (.iload_n 1, 1) := by decide +kernel
theorem d_prog_11_method_14_1 : decode prog_11_method_14_code 1 = .ok (.aload_n 0, 1) := by decide +kernel
theorem d_prog_11_method_14_2 : decode prog_11_method_14_code 2 = .ok (.getfield 12, 3) := by decide +kernel
theorem d_prog_11_method_14_5 : decode prog_11_method_14_code 5 = .ok (.arraylength, 1) := by decide +kernel
theorem d_prog_11_method_14_6 : decode prog_11_method_14_code 6 = .ok (.aload_n 0, 1) := by decide +kernel
theorem d_prog_11_method_14_7 : decode prog_11_method_14_code 7 = .ok (.getfield 45, 3) := by decide +kernel
theorem d_prog_11_method_14_10 : decode prog_11_method_14_code 10 = .ok (.isub, 1) := by decide +kernel
theorem d_prog_11_method_14_11 : decode prog_11_method_14_code 11 = .ok (.if_icmp .le 66, 3) := by decide +kernel
theorem d_prog_11_method_14_14 : decode prog_11_method_14_code 14 = .ok (.aload_n 0, 1) := by decide +kernel
theorem d_prog_11_method_14_15 : decode prog_11_method_14_code 15 = .ok (.getfield 45, 3) := by decide +kernel
theorem d_prog_11_method_14_18 : decode prog_11_method_14_code 18 = .ok (.i2l, 1) := by decide +kernel
theorem d_prog_11_method_14_19 : decode prog_11_method_14_code 19 = .ok (.iload_n 1, 1) := by decide +kernel
theorem d_prog_11_method_14_20 : decode prog_11_method_14_code 20 = .ok (.i2l, 1) := by decide +kernel
theorem d_prog_11_method_14_21 : decode prog_11_method_14_code 21 = .ok (.ladd, 1) := by decide +kernel
theorem d_prog_11_method_14_22 : decode prog_11_method_14_code 22 = .ok (.lstore_n 2, 1) := by decide +kernel
theorem d_prog_11_method_14_23 : decode prog_11_method_14_code 23 = .ok (.lload_n 2, 1) := by decide +kernel
theorem d_prog_11_method_14_24 : decode prog_11_method_14_code 24 = .ok (.ldc2_w 85, 3) := by decide +kernel
theorem d_prog_11_method_14_27 : decode prog_11_method_14_code 27 = .ok (.lcmp, 1) := by decide +kernel
theorem d_prog_11_method_14_28 : decode prog_11_method_14_code 28 = .ok (.ifCond .le 17, 3) := by decide +kernel
theorem d_prog_11_method_14_45 : decode prog_11_method_14_code 45 = .ok (.aload_n 0, 1) := by decide +kernel
theorem d_prog_11_method_14_46 : decode prog_11_method_14_code 46 = .ok (.aload_n 0, 1) := by decide +kernel
theorem d_prog_11_method_14_47 : decode prog_11_method_14_code 47 = .ok (.getfield 12, 3) := by decide +kernel
theorem d_prog_11_method_14_50 : decode prog_11_method_14_code 50 = .ok (.ldc2_w 85, 3) := by decide +kernel
theorem d_prog_11_method_14_53 : decode prog_11_method_14_code 53 = .ok (.lload_n 2, 1) := by decide +kernel
theorem d_prog_11_method_14_54 : decode prog_11_method_14_code 54 = .ok (.ldc2_w 96, 3) := by decide +kernel
theorem d_prog_11_method_14_57 : decode prog_11_method_14_code 57 = .ok (.aload_n 0, 1) := by decide +kernel
theorem d_prog_11_method_14_58 : decode prog_11_method_14_code 58 = .ok (.getfield 12, 3) := by decide +kernel
theorem d_prog_11_method_14_61 : decode prog_11_method_14_code 61 = .ok (.arraylength, 1) := by decide +kernel
theorem d_prog_11_method_14_62 : decode prog_11_method_14_code 62 = .ok (.i2l, 1) := by decide +kernel
theorem d_prog_11_method_14_63 : decode prog_11_method_14_code 63 = .ok (.lmul, 1) := by decide +kernel
theorem d_prog_11_method_14_64 : decode prog_11_method_14_code 64 = .ok (.invokestatic 98, 3) := by decide +kernel
theorem d_prog_11_method_14_67 : decode prog_11_method_14_code 67 = .ok (.invokestatic 104, 3) := by decide +kernel
theorem d_prog_11_method_14_70 : decode prog_11_method_14_code 70 = .ok (.l2i, 1) := by decide +kernel
theorem d_prog_11_method_14_71 : decode prog_11_method_14_code 71 = .ok (.invokestatic 107, 3) := by decide +kernel
theorem d_prog_11_method_14_74 : decode prog_11_method_14_code 74 = .ok (.putfield 12, 3) := by decide +kernel
theorem d_prog_11_method_14_77 : decode prog_11_method_14_code 77 = .ok (.return_, 1) := by decide +kernel
theorem d_prog_11_method_9_0 : decode prog_11_method_9_code 0 = .ok (.aload_n 0, 1) := by decide +kernel
theorem d_prog_11_method_9_1 : decode prog_11_method_9_code 1 = .ok (.getfield 45, 3) := by decide +kernel
theorem d_prog_11_method_9_4 : decode prog_11_method_9_code 4 = .ok (.ireturn, 1) := by decide +kernel
theorem d_prog_11_method_13_0 : decode prog_11_method_13_code 0 = .ok (.new 50, 3) := by decide +kernel
theorem d_prog_11_method_13_3 : decode prog_11_method_13_code 3 = .ok (.dup, 1) := by decide +kernel
theorem d_prog_11_method_13_4 : decode prog_11_method_13_code 4 = .ok (.aload_n 0, 1) := by decide +kernel
theorem d_prog_11_method_13_5 : decode prog_11_method_13_code 5 = .ok (.getfield 12, 3) := by decide +kernel
theorem d_prog_11_method_13_8 : decode prog_11_method_13_code 8 = .ok (.iconst 0, 1) := by decide +kernel
theorem d_prog_11_method_13_9 : decode prog_11_method_13_code 9 = .ok (.aload_n 0, 1) := by decide +kernel
theorem d_prog_11_method_13_10 : decode prog_11_method_13_code 10 = .ok (.getfield 45, 3) := by decide +kernel
theorem d_prog_11_method_13_13 : decode prog_11_method_13_code 13 = .ok (.invokespecial 80, 3) := by decide +kernel
theorem d_prog_11_method_13_16 : decode prog_11_method_13_code 16 = .ok (.areturn, 1) := by decide +kernel
theorem d_jdk_29_method_66_0 : decode jdk_29_method_66_code 0 = .ok (.lload_n 0, 1) := by decide +kernel
theorem d_jdk_29_method_66_1 : decode jdk_29_method_66_code 1 = .ok (.lload_n 2, 1) := by decide +kernel
theorem d_jdk_29_method_66_2 : decode jdk_29_method_66_code 2 = .ok (.lcmp, 1) := by decide +kernel
theorem d_jdk_29_method_66_3 : decode jdk_29_method_66_code 3 = .ok (.ifCond .lt 7, 3) := by decide +kernel
theorem d_jdk_29_method_66_10 : decode jdk_29_method_66_code 10 = .ok (.lload_n 2, 1) := by decide +kernel
theorem d_jdk_29_method_66_11 : decode jdk_29_method_66_code 11 = .ok (.lreturn, 1) := by decide +kernel
theorem d_jdk_29_method_69_0 : decode jdk_29_method_69_code 0 = .ok (.iload_n 0, 1) := by decide +kernel
theorem d_jdk_29_method_69_1 : decode jdk_29_method_69_code 1 = .ok (.iload_n 1, 1) := by decide +kernel
theorem d_jdk_29_method_69_2 : decode jdk_29_method_69_code 2 = .ok (.if_icmp .gt 7, 3) := by decide +kernel
theorem d_jdk_29_method_69_5 : decode jdk_29_method_69_code 5 = .ok (.iload_n 0, 1) := by decide +kernel
theorem d_jdk_29_method_69_6 : decode jdk_29_method_69_code 6 = .ok (.goto 4, 3) := by decide +kernel
theorem d_jdk_29_method_69_9 : decode jdk_29_method_69_code 9 = .ok (.iload_n 1, 1) := by decide +kernel
theorem d_jdk_29_method_69_10 : decode jdk_29_method_69_code 10 = .ok (.ireturn, 1) := by decide +kernel
theorem d_jdk_29_method_70_0 : decode jdk_29_method_70_code 0 = .ok (.lload_n 0, 1) := by decide +kernel
theorem d_jdk_29_method_70_1 : decode jdk_29_method_70_code 1 = .ok (.lload_n 2, 1) := by decide +kernel
theorem d_jdk_29_method_70_2 : decode jdk_29_method_70_code 2 = .ok (.lcmp, 1) := by decide +kernel
theorem d_jdk_29_method_70_3 : decode jdk_29_method_70_code 3 = .ok (.ifCond .gt 7, 3) := by decide +kernel
theorem d_jdk_29_method_70_10 : decode jdk_29_method_70_code 10 = .ok (.lload_n 2, 1) := by decide +kernel
theorem d_jdk_29_method_70_11 : decode jdk_29_method_70_code 11 = .ok (.lreturn, 1) := by decide +kernel
theorem d_jdk_42_method_3_0 : decode jdk_42_method_3_code 0 = .ok (.aload_n 0, 1) := by decide +kernel
theorem d_jdk_42_method_3_1 : decode jdk_42_method_3_code 1 = .ok (.aload_n 1, 1) := by decide +kernel
theorem d_jdk_42_method_3_2 : decode jdk_42_method_3_code 2 = .ok (.iconst 0, 1) := by decide +kernel
theorem d_jdk_42_method_3_3 : decode jdk_42_method_3_code 3 = .ok (.aload_n 1, 1) := by decide +kernel
theorem d_jdk_42_method_3_4 : decode jdk_42_method_3_code 4 = .ok (.arraylength, 1) := by decide +kernel
theorem d_jdk_42_method_3_5 : decode jdk_42_method_3_code 5 = .ok (.aconst_null, 1) := by decide +kernel
theorem d_jdk_42_method_3_6 : decode jdk_42_method_3_code 6 = .ok (.invokespecial 27, 3) := by decide +kernel
theorem d_jdk_42_method_3_9 : decode jdk_42_method_3_code 9 = .ok (.return_, 1) := by decide +kernel
theorem d_jdk_42_method_4_0 : decode jdk_42_method_4_code 0 = .ok (.aload_n 0, 1) := by decide +kernel
theorem d_jdk_42_method_4_1 : decode jdk_42_method_4_code 1 = .ok (.aload_n 1, 1) := by decide +kernel
theorem d_jdk_42_method_4_2 : decode jdk_42_method_4_code 2 = .ok (.iload_n 2, 1) := by decide +kernel
theorem d_jdk_42_method_4_3 : decode jdk_42_method_4_code 3 = .ok (.iload_n 3, 1) := by decide +kernel
theorem d_jdk_42_method_4_4 : decode jdk_42_method_4_code 4 = .ok (.aload_n 1, 1) := by decide +kernel
theorem d_jdk_42_method_4_5 : decode jdk_42_method_4_code 5 = .ok (.iload_n 2, 1) := by decide +kernel
theorem d_jdk_42_method_4_6 : decode jdk_42_method_4_code 6 = .ok (.iload_n 3, 1) := by decide +kernel
theorem d_jdk_42_method_4_7 : decode jdk_42_method_4_code 7 = .ok (.invokestatic 30, 3) := by decide +kernel
theorem d_jdk_42_method_4_10 : decode jdk_42_method_4_code 10 = .ok (.invokespecial 27, 3) := by decide +kernel
theorem d_jdk_42_method_4_13 : decode jdk_42_method_4_code 13 = .ok (.return_, 1) := by decide +kernel
theorem d_jdk_42_method_149_0 : decode jdk_42_method_149_code 0 = .ok (.aload_n 0, 1) := by decide +kernel
theorem d_jdk_42_method_149_1 : decode jdk_42_method_149_code 1 = .ok (.invokespecial 1, 3) := by decide +kernel
theorem d_jdk_42_method_149_4 : decode jdk_42_method_149_code 4 = .ok (.iload_n 3, 1) := by decide +kernel
theorem d_jdk_42_method_149_5 : decode jdk_42_method_149_code 5 = .ok (.ifCond .ne 22, 3) := by decide +kernel
theorem d_jdk_42_method_149_8 : decode jdk_42_method_149_code 8 = .ok (.aload_n 0, 1) := by decide +kernel
theorem d_jdk_42_method_149_9 : decode jdk_42_method_149_code 9 = .ok (.ldc 7, 2) := by decide +kernel
theorem d_jdk_42_method_149_11 : decode jdk_42_method_149_code 11 = .ok (.getfield 9, 3) := by decide +kernel
theorem d_jdk_42_method_149_14 : decode jdk_42_method_149_code 14 = .ok (.putfield 9, 3) := by decide +kernel
theorem d_jdk_42_method_149_17 : decode jdk_42_method_149_code 17 = .ok (.aload_n 0, 1) := by decide +kernel
theorem d_jdk_42_method_149_18 : decode jdk_42_method_149_code 18 = .ok (.ldc 7, 2) := by decide +kernel
theorem d_jdk_42_method_149_20 : decode jdk_42_method_149_code 20 = .ok (.getfield 15, 3) := by decide +kernel
theorem d_jdk_42_method_149_23 : decode jdk_42_method_149_code 23 = .ok (.putfield 15, 3) := by decide +kernel
theorem d_jdk_42_method_149_26 : decode jdk_42_method_149_code 26 = .ok (.return_, 1) := by decide +kernel
theorem d_jdk_42_method_149_27 : decode jdk_42_method_149_code 27 = .ok (.getstatic 38, 3) := by decide +kernel
theorem d_jdk_42_method_149_30 : decode jdk_42_method_149_code 30 = .ok (.ifCond .eq 28, 3) := by decide +kernel
theorem d_jdk_42_method_149_33 : decode jdk_42_method_149_code 33 = .ok (.aload_n 1, 1) := by decide +kernel
theorem d_jdk_42_method_149_34 : decode jdk_42_method_149_code 34 = .ok (.iload_n 2, 1) := by decide +kernel
theorem d_jdk_42_method_149_35 : decode jdk_42_method_149_code 35 = .ok (.iload_n 3, 1) := by decide +kernel
theorem d_jdk_42_method_149_36 : decode jdk_42_method_149_code 36 = .ok (.invokestatic 177, 3) := by decide +kernel
theorem d_jdk_42_method_149_39 : decode jdk_42_method_149_code 39 = .ok (.astore 5, 2) := by decide +kernel
theorem d_jdk_42_method_149_41 : decode jdk_42_method_149_code 41 = .ok (.aload_n 0, 1) := by decide +kernel
theorem d_jdk_42_method_149_42 : decode jdk_42_method_149_code 42 = .ok (.aload 5, 2) := by decide +kernel
theorem d_jdk_42_method_149_44 : decode jdk_42_method_149_code 44 = .ok (.iload_n 3, 1) := by decide +kernel
theorem d_jdk_42_method_149_45 : decode jdk_42_method_149_code 45 = .ok (.invokestatic 47, 3) := by decide +kernel
theorem d_jdk_42_method_149_48 : decode jdk_42_method_149_code 48 = .ok (.putfield 15, 3) := by decide +kernel
theorem d_jdk_42_method_149_51 : decode jdk_42_method_149_code 51 = .ok (.aload_n 0, 1) := by decide +kernel
theorem d_jdk_42_method_149_52 : decode jdk_42_method_149_code 52 = .ok (.aload 5, 2) := by decide +kernel
theorem d_jdk_42_method_149_54 : decode jdk_42_method_149_code 54 = .ok (.putfield 9, 3) := by decide +kernel
theorem d_jdk_42_method_149_57 : decode jdk_42_method_149_code 57 = .ok (.return_, 1) := by decide +kernel
theorem d_jdk_42_method_56_0 : decode jdk_42_method_56_code 0 = .ok (.aload_n 0, 1) := by decide +kernel
theorem d_jdk_42_method_56_1 : decode jdk_42_method_56_code 1 = .ok (.invokevirtual 492, 3) := by decide +kernel
theorem d_jdk_42_method_56_4 : decode jdk_42_method_56_code 4 = .ok (.ifCond .eq 12, 3) := by decide +kernel
theorem d_jdk_42_method_56_7 : decode jdk_42_method_56_code 7 = .ok (.aload_n 0, 1) := by decide +kernel
theorem d_jdk_42_method_56_8 : decode jdk_42_method_56_code 8 = .ok (.getfield 9, 3) := by decide +kernel
theorem d_jdk_42_method_56_11 : decode jdk_42_method_56_code 11 = .ok (.iload_n 1, 1) := by decide +kernel
theorem d_jdk_42_method_56_12 : decode jdk_42_method_56_code 12 = .ok (.invokestatic 495, 3) := by decide +kernel
theorem d_jdk_42_method_56_15 : decode jdk_42_method_56_code 15 = .ok (.ireturn, 1) := by decide +kernel
theorem d_jdk_42_method_56_16 : decode jdk_42_method_56_code 16 = .ok (.aload_n 0, 1) := by decide +kernel
theorem d_jdk_42_method_56_17 : decode jdk_42_method_56_code 17 = .ok (.getfield 9, 3) := by decide +kernel
theorem d_jdk_42_method_56_20 : decode jdk_42_method_56_code 20 = .ok (.iload_n 1, 1) := by decide +kernel
theorem d_jdk_42_method_56_21 : decode jdk_42_method_56_code 21 = .ok (.invokestatic 498, 3) := by decide +kernel
theorem d_jdk_42_method_56_24 : decode jdk_42_method_56_code 24 = .ok (.ireturn, 1) := by decide +kernel
theorem d_jdk_42_method_158_0 : decode jdk_42_method_158_code 0 = .ok (.iload_n 0, 1) := by decide +kernel
theorem d_jdk_42_method_158_1 : decode jdk_42_method_158_code 1 = .ok (.iload_n 1, 1) := by decide +kernel
theorem d_jdk_42_method_158_2 : decode jdk_42_method_158_code 2 = .ok (.iload_n 2, 1) := by decide +kernel
theorem d_jdk_42_method_158_3 : decode jdk_42_method_158_code 3 = .ok (.getstatic 1053, 3) := by decide +kernel
theorem d_jdk_42_method_158_6 : decode jdk_42_method_158_code 6 = .ok (.invokestatic 1062, 3) := by decide +kernel
theorem d_jdk_42_method_158_9 : decode jdk_42_method_158_code 9 = .ok (.pop, 1) := by decide +kernel
theorem d_jdk_42_method_158_10 : decode jdk_42_method_158_code 10 = .ok (.return_, 1) := by decide +kernel
theorem d_jdk_42_method_157_0 : decode jdk_42_method_157_code 0 = .ok (.iload_n 0, 1) := by decide +kernel
theorem d_jdk_42_method_157_1 : decode jdk_42_method_157_code 1 = .ok (.iload_n 1, 1) := by decide +kernel
theorem d_jdk_42_method_157_2 : decode jdk_42_method_157_code 2 = .ok (.iload_n 2, 1) := by decide +kernel
theorem d_jdk_42_method_157_3 : decode jdk_42_method_157_code 3 = .ok (.getstatic 1053, 3) := by decide +kernel
theorem d_jdk_42_method_157_6 : decode jdk_42_method_157_code 6 = .ok (.invokestatic 1065, 3) := by decide +kernel
theorem d_jdk_42_method_157_9 : decode jdk_42_method_157_code 9 = .ok (.ireturn, 1) := by decide +kernel
theorem d_jdk_42_method_155_0 : decode jdk_42_method_155_code 0 = .ok (.iload_n 0, 1) := by decide +kernel
theorem d_jdk_42_method_155_1 : decode jdk_42_method_155_code 1 = .ok (.iload_n 1, 1) := by decide +kernel
theorem d_jdk_42_method_155_2 : decode jdk_42_method_155_code 2 = .ok (.getstatic 1053, 3) := by decide +kernel
theorem d_jdk_42_method_155_5 : decode jdk_42_method_155_code 5 = .ok (.invokestatic 1059, 3) := by decide +kernel
theorem d_jdk_42_method_155_8 : decode jdk_42_method_155_code 8 = .ok (.pop, 1) := by decide +kernel
theorem d_jdk_42_method_155_9 : decode jdk_42_method_155_code 9 = .ok (.return_, 1) := by decide +kernel
theorem d_jdk_42_method_152_0 : decode jdk_42_method_152_code 0 = .ok (.getstatic 38, 3) := by decide +kernel
theorem d_jdk_42_method_152_3 : decode jdk_42_method_152_code 3 = .ok (.ifCond .eq 10, 3) := by decide +kernel
theorem d_jdk_42_method_152_6 : decode jdk_42_method_152_code 6 = .ok (.aload_n 0, 1) := by decide +kernel
theorem d_jdk_42_method_152_7 : decode jdk_42_method_152_code 7 = .ok (.getfield 15, 3) := by decide +kernel
theorem d_jdk_42_method_152_10 : decode jdk_42_method_152_code 10 = .ok (.goto 4, 3) := by decide +kernel
theorem d_jdk_42_method_152_14 : decode jdk_42_method_152_code 14 = .ok (.ireturn, 1) := by decide +kernel
theorem d_jdk_42_method_66_0 : decode jdk_42_method_66_code 0 = .ok (.aload_n 0, 1) := by decide +kernel
theorem d_jdk_42_method_66_1 : decode jdk_42_method_66_code 1 = .ok (.aload_n 1, 1) := by decide +kernel
theorem d_jdk_42_method_66_2 : decode jdk_42_method_66_code 2 = .ok (.if_acmp .ne 5, 3) := by decide +kernel
theorem d_jdk_42_method_66_5 : decode jdk_42_method_66_code 5 = .ok (.iconst 1, 1) := by decide +kernel
theorem d_jdk_42_method_66_6 : decode jdk_42_method_66_code 6 = .ok (.ireturn, 1) := by decide +kernel
theorem d_jdk_42_method_66_7 : decode jdk_42_method_66_code 7 = .ok (.aload_n 1, 1) := by decide +kernel
theorem d_jdk_42_method_66_8 : decode jdk_42_method_66_code 8 = .ok (.instanceof 10, 3) := by decide +kernel
theorem d_jdk_42_method_66_11 : decode jdk_42_method_66_code 11 = .ok (.ifCond .eq 43, 3) := by decide +kernel
theorem d_jdk_42_method_66_14 : decode jdk_42_method_66_code 14 = .ok (.aload_n 1, 1) := by decide +kernel
theorem d_jdk_42_method_66_15 : decode jdk_42_method_66_code 15 = .ok (.checkcast 10, 3) := by decide +kernel
theorem d_jdk_42_method_66_18 : decode jdk_42_method_66_code 18 = .ok (.astore_n 2, 1) := by decide +kernel
theorem d_jdk_42_method_66_19 : decode jdk_42_method_66_code 19 = .ok (.getstatic 38, 3) := by decide +kernel
theorem d_jdk_42_method_66_22 : decode jdk_42_method_66_code 22 = .ok (.ifCond .eq 14, 3) := by decide +kernel
theorem d_jdk_42_method_66_25 : decode jdk_42_method_66_code 25 = .ok (.aload_n 0, 1) := by decide +kernel
theorem d_jdk_42_method_66_26 : decode jdk_42_method_66_code 26 = .ok (.getfield 15, 3) := by decide +kernel
theorem d_jdk_42_method_66_29 : decode jdk_42_method_66_code 29 = .ok (.aload_n 2, 1) := by decide +kernel
theorem d_jdk_42_method_66_30 : decode jdk_42_method_66_code 30 = .ok (.getfield 15, 3) := by decide +kernel
theorem d_jdk_42_method_66_33 : decode jdk_42_method_66_code 33 = .ok (.if_icmp .ne 21, 3) := by decide +kernel
theorem d_jdk_42_method_66_36 : decode jdk_42_method_66_code 36 = .ok (.aload_n 0, 1) := by decide +kernel
theorem d_jdk_42_method_66_37 : decode jdk_42_method_66_code 37 = .ok (.getfield 9, 3) := by decide +kernel
theorem d_jdk_42_method_66_40 : decode jdk_42_method_66_code 40 = .ok (.aload_n 2, 1) := by decide +kernel
theorem d_jdk_42_method_66_41 : decode jdk_42_method_66_code 41 = .ok (.getfield 9, 3) := by decide +kernel
theorem d_jdk_42_method_66_44 : decode jdk_42_method_66_code 44 = .ok (.invokestatic 541, 3) := by decide +kernel
theorem d_jdk_42_method_66_47 : decode jdk_42_method_66_code 47 = .ok (.ifCond .eq 7, 3) := by decide +kernel
theorem d_jdk_42_method_66_50 : decode jdk_42_method_66_code 50 = .ok (.iconst 1, 1) := by decide +kernel
theorem d_jdk_42_method_66_51 : decode jdk_42_method_66_code 51 = .ok (.goto 4, 3) := by decide +kernel
theorem d_jdk_42_method_66_54 : decode jdk_42_method_66_code 54 = .ok (.iconst 0, 1) := by decide +kernel
theorem d_jdk_42_method_66_55 : decode jdk_42_method_66_code 55 = .ok (.ireturn, 1) := by decide +kernel
theorem d_jdk_42_method_61_0 : decode jdk_42_method_61_code 0 = .ok (.iload_n 1, 1) := by decide +kernel
theorem d_jdk_42_method_61_1 : decode jdk_42_method_61_code 1 = .ok (.iload_n 2, 1) := by decide +kernel
theorem d_jdk_42_method_61_2 : decode jdk_42_method_61_code 2 = .ok (.aload_n 0, 1) := by decide +kernel
theorem d_jdk_42_method_61_3 : decode jdk_42_method_61_code 3 = .ok (.invokevirtual 505, 3) := by decide +kernel
theorem d_jdk_42_method_61_6 : decode jdk_42_method_61_code 6 = .ok (.invokestatic 521, 3) := by decide +kernel
theorem d_jdk_42_method_61_9 : decode jdk_42_method_61_code 9 = .ok (.iload 4, 2) := by decide +kernel
theorem d_jdk_42_method_61_11 : decode jdk_42_method_61_code 11 = .ok (.iload_n 2, 1) := by decide +kernel
theorem d_jdk_42_method_61_12 : decode jdk_42_method_61_code 12 = .ok (.iload_n 1, 1) := by decide +kernel
theorem d_jdk_42_method_61_13 : decode jdk_42_method_61_code 13 = .ok (.isub, 1) := by decide +kernel
theorem d_jdk_42_method_61_14 : decode jdk_42_method_61_code 14 = .ok (.aload_n 3, 1) := by decide +kernel
theorem d_jdk_42_method_61_15 : decode jdk_42_method_61_code 15 = .ok (.arraylength, 1) := by decide +kernel
theorem d_jdk_42_method_61_16 : decode jdk_42_method_61_code 16 = .ok (.invokestatic 34, 3) := by decide +kernel
theorem d_jdk_42_method_61_19 : decode jdk_42_method_61_code 19 = .ok (.pop, 1) := by decide +kernel
theorem d_jdk_42_method_61_20 : decode jdk_42_method_61_code 20 = .ok (.aload_n 0, 1) := by decide +kernel
theorem d_jdk_42_method_61_21 : decode jdk_42_method_61_code 21 = .ok (.invokevirtual 492, 3) := by decide +kernel
theorem d_jdk_42_method_61_24 : decode jdk_42_method_61_code 24 = .ok (.ifCond .eq 18, 3) := by decide +kernel
theorem d_jdk_42_method_61_27 : decode jdk_42_method_61_code 27 = .ok (.aload_n 0, 1) := by decide +kernel
theorem d_jdk_42_method_61_28 : decode jdk_42_method_61_code 28 = .ok (.getfield 9, 3) := by decide +kernel
theorem d_jdk_42_method_61_31 : decode jdk_42_method_61_code 31 = .ok (.iload_n 1, 1) := by decide +kernel
theorem d_jdk_42_method_61_32 : decode jdk_42_method_61_code 32 = .ok (.iload_n 2, 1) := by decide +kernel
theorem d_jdk_42_method_61_33 : decode jdk_42_method_61_code 33 = .ok (.aload_n 3, 1) := by decide +kernel
theorem d_jdk_42_method_61_34 : decode jdk_42_method_61_code 34 = .ok (.iload 4, 2) := by decide +kernel
theorem d_jdk_42_method_61_36 : decode jdk_42_method_61_code 36 = .ok (.invokestatic 525, 3) := by decide +kernel
theorem d_jdk_42_method_61_39 : decode jdk_42_method_61_code 39 = .ok (.goto 15, 3) := by decide +kernel
theorem d_jdk_42_method_61_42 : decode jdk_42_method_61_code 42 = .ok (.aload_n 0, 1) := by decide +kernel
theorem d_jdk_42_method_61_43 : decode jdk_42_method_61_code 43 = .ok (.getfield 9, 3) := by decide +kernel
theorem d_jdk_42_method_61_46 : decode jdk_42_method_61_code 46 = .ok (.iload_n 1, 1) := by decide +kernel
theorem d_jdk_42_method_61_47 : decode jdk_42_method_61_code 47 = .ok (.iload_n 2, 1) := by decide +kernel
theorem d_jdk_42_method_61_48 : decode jdk_42_method_61_code 48 = .ok (.aload_n 3, 1) := by decide +kernel
theorem d_jdk_42_method_61_49 : decode jdk_42_method_61_code 49 = .ok (.iload 4, 2) := by decide +kernel
theorem d_jdk_42_method_61_51 : decode jdk_42_method_61_code 51 = .ok (.invokestatic 529, 3) := by decide +kernel
theorem d_jdk_42_method_61_54 : decode jdk_42_method_61_code 54 = .ok (.return_, 1) := by decide +kernel
theorem d_jdk_42_method_154_0 : decode jdk_42_method_154_code 0 = .ok (.getstatic 38, 3) := by decide +kernel
theorem d_jdk_42_method_154_3 : decode jdk_42_method_154_code 3 = .ok (.ifCond .eq 14, 3) := by decide +kernel
theorem d_jdk_42_method_154_6 : decode jdk_42_method_154_code 6 = .ok (.aload_n 0, 1) := by decide +kernel
theorem d_jdk_42_method_154_7 : decode jdk_42_method_154_code 7 = .ok (.getfield 15, 3) := by decide +kernel
theorem d_jdk_42_method_154_10 : decode jdk_42_method_154_code 10 = .ok (.ifCond .ne 7, 3) := by decide +kernel
theorem d_jdk_42_method_154_13 : decode jdk_42_method_154_code 13 = .ok (.iconst 1, 1) := by decide +kernel
theorem d_jdk_42_method_154_14 : decode jdk_42_method_154_code 14 = .ok (.goto 4, 3) := by decide +kernel
theorem d_jdk_42_method_154_17 : decode jdk_42_method_154_code 17 = .ok (.iconst 0, 1) := by decide +kernel
theorem d_jdk_42_method_154_18 : decode jdk_42_method_154_code 18 = .ok (.ireturn, 1) := by decide +kernel
theorem d_jdk_42_method_54_0 : decode jdk_42_method_54_code 0 = .ok (.aload_n 0, 1) := by decide +kernel
theorem d_jdk_42_method_54_1 : decode jdk_42_method_54_code 1 = .ok (.getfield 9, 3) := by decide +kernel
theorem d_jdk_42_method_54_4 : decode jdk_42_method_54_code 4 = .ok (.arraylength, 1) := by decide +kernel
theorem d_jdk_42_method_54_5 : decode jdk_42_method_54_code 5 = .ok (.aload_n 0, 1) := by decide +kernel
theorem d_jdk_42_method_54_6 : decode jdk_42_method_54_code 6 = .ok (.invokevirtual 335, 3) := by decide +kernel
theorem d_jdk_42_method_54_9 : decode jdk_42_method_54_code 9 = .ok (.ishr, 1) := by decide +kernel
theorem d_jdk_42_method_54_10 : decode jdk_42_method_54_code 10 = .ok (.ireturn, 1) := by decide +kernel
theorem d_jdk_42_method_5_0 : decode jdk_42_method_5_code 0 = .ok (.iload_n 1, 1) := by decide +kernel
theorem d_jdk_42_method_5_1 : decode jdk_42_method_5_code 1 = .ok (.iload_n 2, 1) := by decide +kernel
theorem d_jdk_42_method_5_2 : decode jdk_42_method_5_code 2 = .ok (.aload_n 0, 1) := by decide +kernel
theorem d_jdk_42_method_5_3 : decode jdk_42_method_5_code 3 = .ok (.arraylength, 1) := by decide +kernel
theorem d_jdk_42_method_5_4 : decode jdk_42_method_5_code 4 = .ok (.invokestatic 34, 3) := by decide +kernel
theorem d_jdk_42_method_5_7 : decode jdk_42_method_5_code 7 = .ok (.pop, 1) := by decide +kernel
theorem d_jdk_42_method_5_8 : decode jdk_42_method_5_code 8 = .ok (.aconst_null, 1) := by decide +kernel
theorem d_jdk_42_method_5_9 : decode jdk_42_method_5_code 9 = .ok (.areturn, 1) := by decide +kernel
theorem d_jdk_43_method_2_0 : decode jdk_43_method_2_code 0 = .ok (.iload_n 1, 1) := by decide +kernel
theorem d_jdk_43_method_2_1 : decode jdk_43_method_2_code 1 = .ok (.aload_n 0, 1) := by decide +kernel
theorem d_jdk_43_method_2_2 : decode jdk_43_method_2_code 2 = .ok (.arraylength, 1) := by decide +kernel
theorem d_jdk_43_method_2_3 : decode jdk_43_method_2_code 3 = .ok (.invokestatic 9, 3) := by decide +kernel
theorem d_jdk_43_method_2_6 : decode jdk_43_method_2_code 6 = .ok (.aload_n 0, 1) := by decide +kernel
theorem d_jdk_43_method_2_7 : decode jdk_43_method_2_code 7 = .ok (.iload_n 1, 1) := by decide +kernel
theorem d_jdk_43_method_2_8 : decode jdk_43_method_2_code 8 = .ok (.baload, 1) := by decide +kernel
theorem d_jdk_43_method_2_9 : decode jdk_43_method_2_code 9 = .ok (.sipush 255, 3) := by decide +kernel
theorem d_jdk_43_method_2_12 : decode jdk_43_method_2_code 12 = .ok (.iand, 1) := by decide +kernel
theorem d_jdk_43_method_2_13 : decode jdk_43_method_2_code 13 = .ok (.i2c, 1) := by decide +kernel
theorem d_jdk_43_method_2_14 : decode jdk_43_method_2_code 14 = .ok (.ireturn, 1) := by decide +kernel
theorem d_jdk_43_method_13_0 : decode jdk_43_method_13_code 0 = .ok (.aload_n 0, 1) := by decide +kernel
theorem d_jdk_43_method_13_1 : decode jdk_43_method_13_code 1 = .ok (.arraylength, 1) := by decide +kernel
theorem d_jdk_43_method_13_2 : decode jdk_43_method_13_code 2 = .ok (.aload_n 1, 1) := by decide +kernel
theorem d_jdk_43_method_13_3 : decode jdk_43_method_13_code 3 = .ok (.arraylength, 1) := by decide +kernel
theorem d_jdk_43_method_13_4 : decode jdk_43_method_13_code 4 = .ok (.if_icmp .ne 30, 3) := by decide +kernel
theorem d_jdk_43_method_13_7 : decode jdk_43_method_13_code 7 = .ok (.iconst 0, 1) := by decide +kernel
theorem d_jdk_43_method_13_8 : decode jdk_43_method_13_code 8 = .ok (.istore_n 2, 1) := by decide +kernel
theorem d_jdk_43_method_13_9 : decode jdk_43_method_13_code 9 = .ok (.iload_n 2, 1) := by decide +kernel
theorem d_jdk_43_method_13_10 : decode jdk_43_method_13_code 10 = .ok (.aload_n 0, 1) := by decide +kernel
theorem d_jdk_43_method_13_11 : decode jdk_43_method_13_code 11 = .ok (.arraylength, 1) := by decide +kernel
theorem d_jdk_43_method_13_12 : decode jdk_43_method_13_code 12 = .ok (.if_icmp .ge 20, 3) := by decide +kernel
theorem d_jdk_43_method_13_15 : decode jdk_43_method_13_code 15 = .ok (.aload_n 0, 1) := by decide +kernel
theorem d_jdk_43_method_13_16 : decode jdk_43_method_13_code 16 = .ok (.iload_n 2, 1) := by decide +kernel
theorem d_jdk_43_method_13_17 : decode jdk_43_method_13_code 17 = .ok (.baload, 1) := by decide +kernel
theorem d_jdk_43_method_13_18 : decode jdk_43_method_13_code 18 = .ok (.aload_n 1, 1) := by decide +kernel
theorem d_jdk_43_method_13_19 : decode jdk_43_method_13_code 19 = .ok (.iload_n 2, 1) := by decide +kernel
theorem d_jdk_43_method_13_20 : decode jdk_43_method_13_code 20 = .ok (.baload, 1) := by decide +kernel
theorem d_jdk_43_method_13_21 : decode jdk_43_method_13_code 21 = .ok (.if_icmp .eq 5, 3) := by decide +kernel
theorem d_jdk_43_method_13_24 : decode jdk_43_method_13_code 24 = .ok (.iconst 0, 1) := by decide +kernel
theorem d_jdk_43_method_13_25 : decode jdk_43_method_13_code 25 = .ok (.ireturn, 1) := by decide +kernel
theorem d_jdk_43_method_13_26 : decode jdk_43_method_13_code 26 = .ok (.iinc 2 1, 3) := by decide +kernel
theorem d_jdk_43_method_13_29 : decode jdk_43_method_13_code 29 = .ok (.goto (-20), 3) := by decide +kernel
theorem d_jdk_43_method_13_32 : decode jdk_43_method_13_code 32 = .ok (.iconst 1, 1) := by decide +kernel
theorem d_jdk_43_method_13_33 : decode jdk_43_method_13_code 33 = .ok (.ireturn, 1) := by decide +kernel
theorem d_jdk_43_method_13_34 : decode jdk_43_method_13_code 34 = .ok (.iconst 0, 1) := by decide +kernel
theorem d_jdk_43_method_13_35 : decode jdk_43_method_13_code 35 = .ok (.ireturn, 1) := by decide +kernel
theorem d_jdk_43_method_11_0 : decode jdk_43_method_11_code 0 = .ok (.aload_n 0, 1) := by decide +kernel
theorem d_jdk_43_method_11_1 : decode jdk_43_method_11_code 1 = .ok (.iload_n 1, 1) := by decide +kernel
theorem d_jdk_43_method_11_2 : decode jdk_43_method_11_code 2 = .ok (.aload_n 3, 1) := by decide +kernel
theorem d_jdk_43_method_11_3 : decode jdk_43_method_11_code 3 = .ok (.iload 4, 2) := by decide +kernel
theorem d_jdk_43_method_11_5 : decode jdk_43_method_11_code 5 = .ok (.iload_n 2, 1) := by decide +kernel
theorem d_jdk_43_method_11_6 : decode jdk_43_method_11_code 6 = .ok (.iload_n 1, 1) := by decide +kernel
theorem d_jdk_43_method_11_7 : decode jdk_43_method_11_code 7 = .ok (.isub, 1) := by decide +kernel
theorem d_jdk_43_method_11_8 : decode jdk_43_method_11_code 8 = .ok (.invokestatic 13, 3) := by decide +kernel
theorem d_jdk_43_method_11_11 : decode jdk_43_method_11_code 11 = .ok (.return_, 1) := by decide +kernel
theorem d_jdk_43_method_49_0 : decode jdk_43_method_49_code 0 = .ok (.iconst 0, 1) := by decide +kernel
theorem d_jdk_43_method_49_1 : decode jdk_43_method_49_code 1 = .ok (.istore 5, 2) := by decide +kernel
theorem d_jdk_43_method_49_3 : decode jdk_43_method_49_code 3 = .ok (.iload 5, 2) := by decide +kernel
theorem d_jdk_43_method_49_5 : decode jdk_43_method_49_code 5 = .ok (.iload 4, 2) := by decide +kernel
theorem d_jdk_43_method_49_7 : decode jdk_43_method_49_code 7 = .ok (.if_icmp .ge 26, 3) := by decide +kernel
theorem d_jdk_43_method_49_10 : decode jdk_43_method_49_code 10 = .ok (.aload_n 2, 1) := by decide +kernel
theorem d_jdk_43_method_49_11 : decode jdk_43_method_49_code 11 = .ok (.iload_n 3, 1) := by decide +kernel
theorem d_jdk_43_method_49_12 : decode jdk_43_method_49_code 12 = .ok (.iinc 3 1, 3) := by decide +kernel
theorem d_jdk_43_method_49_15 : decode jdk_43_method_49_code 15 = .ok (.aload_n 0, 1) := by decide +kernel
theorem d_jdk_43_method_49_16 : decode jdk_43_method_49_code 16 = .ok (.iload_n 1, 1) := by decide +kernel
theorem d_jdk_43_method_49_17 : decode jdk_43_method_49_code 17 = .ok (.iinc 1 1, 3) := by decide +kernel
theorem d_jdk_43_method_49_20 : decode jdk_43_method_49_code 20 = .ok (.baload, 1) := by decide +kernel
theorem d_jdk_43_method_49_21 : decode jdk_43_method_49_code 21 = .ok (.sipush 255, 3) := by decide +kernel
theorem d_jdk_43_method_49_24 : decode jdk_43_method_49_code 24 = .ok (.iand, 1) := by decide +kernel
theorem d_jdk_43_method_49_25 : decode jdk_43_method_49_code 25 = .ok (.i2c, 1) := by decide +kernel
theorem d_jdk_43_method_49_26 : decode jdk_43_method_49_code 26 = .ok (.castore, 1) := by decide +kernel
theorem d_jdk_43_method_49_27 : decode jdk_43_method_49_code 27 = .ok (.iinc 5 1, 3) := by decide +kernel
theorem d_jdk_43_method_49_30 : decode jdk_43_method_49_code 30 = .ok (.goto (-27), 3) := by decide +kernel
theorem d_jdk_43_method_49_33 : decode jdk_43_method_49_code 33 = .ok (.return_, 1) := by decide +kernel
theorem d_jdk_52_method_83_0 : decode jdk_52_method_83_code 0 = .ok (.iload_n 1, 1) := by decide +kernel
theorem d_jdk_52_method_83_1 : decode jdk_52_method_83_code 1 = .ok (.aload_n 0, 1) := by decide +kernel
theorem d_jdk_52_method_83_2 : decode jdk_52_method_83_code 2 = .ok (.invokestatic 67, 3) := by decide +kernel
theorem d_jdk_52_method_83_5 : decode jdk_52_method_83_code 5 = .ok (.aload_n 0, 1) := by decide +kernel
theorem d_jdk_52_method_83_6 : decode jdk_52_method_83_code 6 = .ok (.iload_n 1, 1) := by decide +kernel
theorem d_jdk_52_method_83_7 : decode jdk_52_method_83_code 7 = .ok (.invokestatic 71, 3) := by decide +kernel
theorem d_jdk_52_method_83_10 : decode jdk_52_method_83_code 10 = .ok (.ireturn, 1) := by decide +kernel
theorem d_jdk_52_method_94_0 : decode jdk_52_method_94_code 0 = .ok (.iload_n 0, 1) := by decide +kernel
theorem d_jdk_52_method_94_1 : decode jdk_52_method_94_code 1 = .ok (.iload_n 1, 1) := by decide +kernel
theorem d_jdk_52_method_94_2 : decode jdk_52_method_94_code 2 = .ok (.aload_n 2, 1) := by decide +kernel
theorem d_jdk_52_method_94_3 : decode jdk_52_method_94_code 3 = .ok (.invokestatic 48, 3) := by decide +kernel
theorem d_jdk_52_method_94_6 : decode jdk_52_method_94_code 6 = .ok (.invokestatic 419, 3) := by decide +kernel
theorem d_jdk_52_method_94_9 : decode jdk_52_method_94_code 9 = .ok (.pop, 1) := by decide +kernel
theorem d_jdk_52_method_94_10 : decode jdk_52_method_94_code 10 = .ok (.return_, 1) := by decide +kernel
theorem d_jdk_52_method_91_0 : decode jdk_52_method_91_code 0 = .ok (.iload_n 0, 1) := by decide +kernel
theorem d_jdk_52_method_91_1 : decode jdk_52_method_91_code 1 = .ok (.aload_n 1, 1) := by decide +kernel
theorem d_jdk_52_method_91_2 : decode jdk_52_method_91_code 2 = .ok (.invokestatic 48, 3) := by decide +kernel
theorem d_jdk_52_method_91_5 : decode jdk_52_method_91_code 5 = .ok (.invokestatic 414, 3) := by decide +kernel
theorem d_jdk_52_method_91_8 : decode jdk_52_method_91_code 8 = .ok (.return_, 1) := by decide +kernel
theorem d_jdk_52_method_15_0 : decode jdk_52_method_15_code 0 = .ok (.iload_n 1, 1) := by decide +kernel
theorem d_jdk_52_method_15_1 : decode jdk_52_method_15_code 1 = .ok (.aload_n 0, 1) := by decide +kernel
theorem d_jdk_52_method_15_2 : decode jdk_52_method_15_code 2 = .ok (.arraylength, 1) := by decide +kernel
theorem d_jdk_52_method_15_3 : decode jdk_52_method_15_code 3 = .ok (.isub, 1) := by decide +kernel
theorem d_jdk_52_method_15_4 : decode jdk_52_method_15_code 4 = .ok (.bipush 31, 2) := by decide +kernel
theorem d_jdk_52_method_15_6 : decode jdk_52_method_15_code 6 = .ok (.iushr, 1) := by decide +kernel
theorem d_jdk_52_method_15_7 : decode jdk_52_method_15_code 7 = .ok (.i2b, 1) := by decide +kernel
theorem d_jdk_52_method_15_8 : decode jdk_52_method_15_code 8 = .ok (.ireturn, 1) := by decide +kernel
theorem d_jdk_52_method_16_0 : decode jdk_52_method_16_code 0 = .ok (.iload_n 2, 1) := by decide +kernel
theorem d_jdk_52_method_16_1 : decode jdk_52_method_16_code 1 = .ok (.newarray .byte, 2) := by decide +kernel
theorem d_jdk_52_method_16_3 : decode jdk_52_method_16_code 3 = .ok (.astore_n 3, 1) := by decide +kernel
theorem d_jdk_52_method_16_4 : decode jdk_52_method_16_code 4 = .ok (.aload_n 0, 1) := by decide +kernel
theorem d_jdk_52_method_16_5 : decode jdk_52_method_16_code 5 = .ok (.iload_n 1, 1) := by decide +kernel
theorem d_jdk_52_method_16_6 : decode jdk_52_method_16_code 6 = .ok (.aload_n 3, 1) := by decide +kernel
theorem d_jdk_52_method_16_7 : decode jdk_52_method_16_code 7 = .ok (.iconst 0, 1) := by decide +kernel
theorem d_jdk_52_method_16_8 : decode jdk_52_method_16_code 8 = .ok (.iload_n 2, 1) := by decide +kernel
theorem d_jdk_52_method_16_9 : decode jdk_52_method_16_code 9 = .ok (.invokestatic 115, 3) := by decide +kernel
theorem d_jdk_52_method_16_12 : decode jdk_52_method_16_code 12 = .ok (.istore 4, 2) := by decide +kernel
theorem d_jdk_52_method_16_14 : decode jdk_52_method_16_code 14 = .ok (.iload 4, 2) := by decide +kernel
theorem d_jdk_52_method_16_16 : decode jdk_52_method_16_code 16 = .ok (.iload_n 2, 1) := by decide +kernel
theorem d_jdk_52_method_16_17 : decode jdk_52_method_16_code 17 = .ok (.if_icmp .eq 40, 3) := by decide +kernel
theorem d_jdk_52_method_16_20 : decode jdk_52_method_16_code 20 = .ok (.aload_n 0, 1) := by decide +kernel
theorem d_jdk_52_method_16_21 : decode jdk_52_method_16_code 21 = .ok (.iload_n 1, 1) := by decide +kernel
theorem d_jdk_52_method_16_22 : decode jdk_52_method_16_code 22 = .ok (.iload_n 2, 1) := by decide +kernel
theorem d_jdk_52_method_16_23 : decode jdk_52_method_16_code 23 = .ok (.invokestatic 119, 3) := by decide +kernel
theorem d_jdk_52_method_16_26 : decode jdk_52_method_16_code 26 = .ok (.astore 5, 2) := by decide +kernel
theorem d_jdk_52_method_16_28 : decode jdk_52_method_16_code 28 = .ok (.aload 5, 2) := by decide +kernel
theorem d_jdk_52_method_16_30 : decode jdk_52_method_16_code 30 = .ok (.iload 4, 2) := by decide +kernel
theorem d_jdk_52_method_16_32 : decode jdk_52_method_16_code 32 = .ok (.invokestatic 71, 3) := by decide +kernel
theorem d_jdk_52_method_16_35 : decode jdk_52_method_16_code 35 = .ok (.sipush 255, 3) := by decide +kernel
theorem d_jdk_52_method_16_38 : decode jdk_52_method_16_code 38 = .ok (.if_icmp .gt 16, 3) := by decide +kernel
theorem d_jdk_52_method_16_54 : decode jdk_52_method_16_code 54 = .ok (.aload 5, 2) := by decide +kernel
theorem d_jdk_52_method_16_56 : decode jdk_52_method_16_code 56 = .ok (.areturn, 1) := by decide +kernel
theorem d_jdk_52_method_16_57 : decode jdk_52_method_16_code 57 = .ok (.aload_n 3, 1) := by decide +kernel
theorem d_jdk_52_method_16_58 : decode jdk_52_method_16_code 58 = .ok (.areturn, 1) := by decide +kernel
theorem d_jdk_52_method_21_0 : decode jdk_52_method_21_code 0 = .ok (.iconst 0, 1) := by decide +kernel
theorem d_jdk_52_method_21_1 : decode jdk_52_method_21_code 1 = .ok (.istore 5, 2) := by decide +kernel
theorem d_jdk_52_method_21_3 : decode jdk_52_method_21_code 3 = .ok (.iload 5, 2) := by decide +kernel
theorem d_jdk_52_method_21_5 : decode jdk_52_method_21_code 5 = .ok (.iload 4, 2) := by decide +kernel
theorem d_jdk_52_method_21_7 : decode jdk_52_method_21_code 7 = .ok (.if_icmp .ge 37, 3) := by decide +kernel
theorem d_jdk_52_method_21_10 : decode jdk_52_method_21_code 10 = .ok (.aload_n 0, 1) := by decide +kernel
theorem d_jdk_52_method_21_11 : decode jdk_52_method_21_code 11 = .ok (.iload_n 1, 1) := by decide +kernel
theorem d_jdk_52_method_21_12 : decode jdk_52_method_21_code 12 = .ok (.caload, 1) := by decide +kernel
theorem d_jdk_52_method_21_13 : decode jdk_52_method_21_code 13 = .ok (.istore 6, 2) := by decide +kernel
theorem d_jdk_52_method_21_15 : decode jdk_52_method_21_code 15 = .ok (.iload 6, 2) := by decide +kernel
theorem d_jdk_52_method_21_17 : decode jdk_52_method_21_code 17 = .ok (.sipush 255, 3) := by decide +kernel
theorem d_jdk_52_method_21_20 : decode jdk_52_method_21_code 20 = .ok (.if_icmp .le 6, 3) := by decide +kernel
theorem d_jdk_52_method_21_23 : decode jdk_52_method_21_code 23 = .ok (.iload 5, 2) := by decide +kernel
theorem d_jdk_52_method_21_25 : decode jdk_52_method_21_code 25 = .ok (.ireturn, 1) := by decide +kernel
theorem d_jdk_52_method_21_26 : decode jdk_52_method_21_code 26 = .ok (.aload_n 2, 1) := by decide +kernel
theorem d_jdk_52_method_21_27 : decode jdk_52_method_21_code 27 = .ok (.iload_n 3, 1) := by decide +kernel
theorem d_jdk_52_method_21_28 : decode jdk_52_method_21_code 28 = .ok (.iload 6, 2) := by decide +kernel
theorem d_jdk_52_method_21_30 : decode jdk_52_method_21_code 30 = .ok (.i2b, 1) := by decide +kernel
theorem d_jdk_52_method_21_31 : decode jdk_52_method_21_code 31 = .ok (.bastore, 1) := by decide +kernel
theorem d_jdk_52_method_21_32 : decode jdk_52_method_21_code 32 = .ok (.iinc 1 1, 3) := by decide +kernel
theorem d_jdk_52_method_21_35 : decode jdk_52_method_21_code 35 = .ok (.iinc 3 1, 3) := by decide +kernel
theorem d_jdk_52_method_21_38 : decode jdk_52_method_21_code 38 = .ok (.iinc 5 1, 3) := by decide +kernel
theorem d_jdk_52_method_21_41 : decode jdk_52_method_21_code 41 = .ok (.goto (-38), 3) := by decide +kernel
theorem d_jdk_52_method_21_44 : decode jdk_52_method_21_code 44 = .ok (.iload 4, 2) := by decide +kernel
theorem d_jdk_52_method_21_46 : decode jdk_52_method_21_code 46 = .ok (.ireturn, 1) := by decide +kernel
theorem d_jdk_52_method_5_0 : decode jdk_52_method_5_code 0 = .ok (.getstatic 44, 3) := by decide +kernel
theorem d_jdk_52_method_5_3 : decode jdk_52_method_5_code 3 = .ok (.ifCond .ne 25, 3) := by decide +kernel
theorem d_jdk_52_method_5_28 : decode jdk_52_method_5_code 28 = .ok (.iload_n 1, 1) := by decide +kernel
theorem d_jdk_52_method_5_29 : decode jdk_52_method_5_code 29 = .ok (.iconst 1, 1) := by decide +kernel
theorem d_jdk_52_method_5_30 : decode jdk_52_method_5_code 30 = .ok (.ishl, 1) := by decide +kernel
theorem d_jdk_52_method_5_31 : decode jdk_52_method_5_code 31 = .ok (.istore_n 1, 1) := by decide +kernel
theorem d_jdk_52_method_5_32 : decode jdk_52_method_5_code 32 = .ok (.aload_n 0, 1) := by decide +kernel
theorem d_jdk_52_method_5_33 : decode jdk_52_method_5_code 33 = .ok (.iload_n 1, 1) := by decide +kernel
theorem d_jdk_52_method_5_34 : decode jdk_52_method_5_code 34 = .ok (.iinc 1 1, 3) := by decide +kernel
theorem d_jdk_52_method_5_37 : decode jdk_52_method_5_code 37 = .ok (.baload, 1) := by decide +kernel
theorem d_jdk_52_method_5_38 : decode jdk_52_method_5_code 38 = .ok (.sipush 255, 3) := by decide +kernel
theorem d_jdk_52_method_5_41 : decode jdk_52_method_5_code 41 = .ok (.iand, 1) := by decide +kernel
theorem d_jdk_52_method_5_42 : decode jdk_52_method_5_code 42 = .ok (.getstatic 59, 3) := by decide +kernel
theorem d_jdk_52_method_5_45 : decode jdk_52_method_5_code 45 = .ok (.ishl, 1) := by decide +kernel
theorem d_jdk_52_method_5_46 : decode jdk_52_method_5_code 46 = .ok (.aload_n 0, 1) := by decide +kernel
theorem d_jdk_52_method_5_47 : decode jdk_52_method_5_code 47 = .ok (.iload_n 1, 1) := by decide +kernel
theorem d_jdk_52_method_5_48 : decode jdk_52_method_5_code 48 = .ok (.baload, 1) := by decide +kernel
theorem d_jdk_52_method_5_49 : decode jdk_52_method_5_code 49 = .ok (.sipush 255, 3) := by decide +kernel
theorem d_jdk_52_method_5_52 : decode jdk_52_method_5_code 52 = .ok (.iand, 1) := by decide +kernel
theorem d_jdk_52_method_5_53 : decode jdk_52_method_5_code 53 = .ok (.getstatic 63, 3) := by decide +kernel
theorem d_jdk_52_method_5_56 : decode jdk_52_method_5_code 56 = .ok (.ishl, 1) := by decide +kernel
theorem d_jdk_52_method_5_57 : decode jdk_52_method_5_code 57 = .ok (.ior, 1) := by decide +kernel
theorem d_jdk_52_method_5_58 : decode jdk_52_method_5_code 58 = .ok (.i2c, 1) := by decide +kernel
theorem d_jdk_52_method_5_59 : decode jdk_52_method_5_code 59 = .ok (.ireturn, 1) := by decide +kernel
theorem d_jdk_52_method_26_0 : decode jdk_52_method_26_code 0 = .ok (.iload_n 1, 1) := by decide +kernel
theorem d_jdk_52_method_26_1 : decode jdk_52_method_26_code 1 = .ok (.iload_n 2, 1) := by decide +kernel
theorem d_jdk_52_method_26_2 : decode jdk_52_method_26_code 2 = .ok (.if_icmp .ge 11, 3) := by decide +kernel
theorem d_jdk_52_method_26_5 : decode jdk_52_method_26_code 5 = .ok (.iload_n 1, 1) := by decide +kernel
theorem d_jdk_52_method_26_6 : decode jdk_52_method_26_code 6 = .ok (.iload_n 2, 1) := by decide +kernel
theorem d_jdk_52_method_26_7 : decode jdk_52_method_26_code 7 = .ok (.iload_n 1, 1) := by decide +kernel
theorem d_jdk_52_method_26_8 : decode jdk_52_method_26_code 8 = .ok (.isub, 1) := by decide +kernel
theorem d_jdk_52_method_26_9 : decode jdk_52_method_26_code 9 = .ok (.aload_n 0, 1) := by decide +kernel
theorem d_jdk_52_method_26_10 : decode jdk_52_method_26_code 10 = .ok (.invokestatic 173, 3) := by decide +kernel
theorem d_jdk_52_method_26_13 : decode jdk_52_method_26_code 13 = .ok (.iload_n 1, 1) := by decide +kernel
theorem d_jdk_52_method_26_14 : decode jdk_52_method_26_code 14 = .ok (.istore 5, 2) := by decide +kernel
theorem d_jdk_52_method_26_16 : decode jdk_52_method_26_code 16 = .ok (.iload 5, 2) := by decide +kernel
theorem d_jdk_52_method_26_18 : decode jdk_52_method_26_code 18 = .ok (.iload_n 2, 1) := by decide +kernel
theorem d_jdk_52_method_26_19 : decode jdk_52_method_26_code 19 = .ok (.if_icmp .ge 22, 3) := by decide +kernel
theorem d_jdk_52_method_26_22 : decode jdk_52_method_26_code 22 = .ok (.aload_n 3, 1) := by decide +kernel
theorem d_jdk_52_method_26_23 : decode jdk_52_method_26_code 23 = .ok (.iload 4, 2) := by decide +kernel
theorem d_jdk_52_method_26_25 : decode jdk_52_method_26_code 25 = .ok (.iinc 4 1, 3) := by decide +kernel
theorem d_jdk_52_method_26_28 : decode jdk_52_method_26_code 28 = .ok (.aload_n 0, 1) := by decide +kernel
theorem d_jdk_52_method_26_29 : decode jdk_52_method_26_code 29 = .ok (.iload 5, 2) := by decide +kernel
theorem d_jdk_52_method_26_31 : decode jdk_52_method_26_code 31 = .ok (.invokestatic 71, 3) := by decide +kernel
theorem d_jdk_52_method_26_34 : decode jdk_52_method_26_code 34 = .ok (.castore, 1) := by decide +kernel
theorem d_jdk_52_method_26_35 : decode jdk_52_method_26_code 35 = .ok (.iinc 5 1, 3) := by decide +kernel
theorem d_jdk_52_method_26_38 : decode jdk_52_method_26_code 38 = .ok (.goto (-22), 3) := by decide +kernel
theorem d_jdk_52_method_26_41 : decode jdk_52_method_26_code 41 = .ok (.return_, 1) := by decide +kernel
theorem d_jdk_52_method_6_0 : decode jdk_52_method_6_code 0 = .ok (.aload_n 0, 1) := by decide +kernel
theorem d_jdk_52_method_6_1 : decode jdk_52_method_6_code 1 = .ok (.arraylength, 1) := by decide +kernel
theorem d_jdk_52_method_6_2 : decode jdk_52_method_6_code 2 = .ok (.iconst 1, 1) := by decide +kernel
theorem d_jdk_52_method_6_3 : decode jdk_52_method_6_code 3 = .ok (.ishr, 1) := by decide +kernel
theorem d_jdk_52_method_6_4 : decode jdk_52_method_6_code 4 = .ok (.ireturn, 1) := by decide +kernel
theorem d_jdk_52_method_2_0 : decode jdk_52_method_2_code 0 = .ok (.iload_n 0, 1) := by decide +kernel
theorem d_jdk_52_method_2_1 : decode jdk_52_method_2_code 1 = .ok (.invokestatic 11, 3) := by decide +kernel
theorem d_jdk_52_method_2_4 : decode jdk_52_method_2_code 4 = .ok (.newarray .byte, 2) := by decide +kernel
theorem d_jdk_52_method_2_6 : decode jdk_52_method_2_code 6 = .ok (.areturn, 1) := by decide +kernel
theorem d_jdk_52_method_3_0 : decode jdk_52_method_3_code 0 = .ok (.iload_n 0, 1) := by decide +kernel
theorem d_jdk_52_method_3_1 : decode jdk_52_method_3_code 1 = .ok (.ifCond .ge 11, 3) := by decide +kernel
theorem d_jdk_52_method_3_12 : decode jdk_52_method_3_code 12 = .ok (.iload_n 0, 1) := by decide +kernel
theorem d_jdk_52_method_3_13 : decode jdk_52_method_3_code 13 = .ok (.ldc 20, 2) := by decide +kernel
theorem d_jdk_52_method_3_15 : decode jdk_52_method_3_code 15 = .ok (.if_icmp .lt 40, 3) := by decide +kernel
theorem d_jdk_52_method_3_55 : decode jdk_52_method_3_code 55 = .ok (.iload_n 0, 1) := by decide +kernel
theorem d_jdk_52_method_3_56 : decode jdk_52_method_3_code 56 = .ok (.iconst 1, 1) := by decide +kernel
theorem d_jdk_52_method_3_57 : decode jdk_52_method_3_code 57 = .ok (.ishl, 1) := by decide +kernel
theorem d_jdk_52_method_3_58 : decode jdk_52_method_3_code 58 = .ok (.ireturn, 1) := by decide +kernel
theorem d_jdk_52_method_4_0 : decode jdk_52_method_4_code 0 = .ok (.getstatic 44, 3) := by decide +kernel
theorem d_jdk_52_method_4_3 : decode jdk_52_method_4_code 3 = .ok (.ifCond .ne 25, 3) := by decide +kernel
theorem d_jdk_52_method_4_28 : decode jdk_52_method_4_code 28 = .ok (.iload_n 1, 1) := by decide +kernel
theorem d_jdk_52_method_4_29 : decode jdk_52_method_4_code 29 = .ok (.iconst 1, 1) := by decide +kernel
theorem d_jdk_52_method_4_30 : decode jdk_52_method_4_code 30 = .ok (.ishl, 1) := by decide +kernel
theorem d_jdk_52_method_4_31 : decode jdk_52_method_4_code 31 = .ok (.istore_n 1, 1) := by decide +kernel
theorem d_jdk_52_method_4_32 : decode jdk_52_method_4_code 32 = .ok (.aload_n 0, 1) := by decide +kernel
theorem d_jdk_52_method_4_33 : decode jdk_52_method_4_code 33 = .ok (.iload_n 1, 1) := by decide +kernel
theorem d_jdk_52_method_4_34 : decode jdk_52_method_4_code 34 = .ok (.iinc 1 1, 3) := by decide +kernel
theorem d_jdk_52_method_4_37 : decode jdk_52_method_4_code 37 = .ok (.iload_n 2, 1) := by decide +kernel
theorem d_jdk_52_method_4_38 : decode jdk_52_method_4_code 38 = .ok (.getstatic 59, 3) := by decide +kernel
theorem d_jdk_52_method_4_41 : decode jdk_52_method_4_code 41 = .ok (.ishr, 1) := by decide +kernel
theorem d_jdk_52_method_4_42 : decode jdk_52_method_4_code 42 = .ok (.i2b, 1) := by decide +kernel
theorem d_jdk_52_method_4_43 : decode jdk_52_method_4_code 43 = .ok (.bastore, 1) := by decide +kernel
theorem d_jdk_52_method_4_44 : decode jdk_52_method_4_code 44 = .ok (.aload_n 0, 1) := by decide +kernel
theorem d_jdk_52_method_4_45 : decode jdk_52_method_4_code 45 = .ok (.iload_n 1, 1) := by decide +kernel
theorem d_jdk_52_method_4_46 : decode jdk_52_method_4_code 46 = .ok (.iload_n 2, 1) := by decide +kernel
theorem d_jdk_52_method_4_47 : decode jdk_52_method_4_code 47 = .ok (.getstatic 63, 3) := by decide +kernel
theorem d_jdk_52_method_4_50 : decode jdk_52_method_4_code 50 = .ok (.ishr, 1) := by decide +kernel
theorem d_jdk_52_method_4_51 : decode jdk_52_method_4_code 51 = .ok (.i2b, 1) := by decide +kernel
theorem d_jdk_52_method_4_52 : decode jdk_52_method_4_code 52 = .ok (.bastore, 1) := by decide +kernel
theorem d_jdk_52_method_4_53 : decode jdk_52_method_4_code 53 = .ok (.return_, 1) := by decide +kernel
theorem d_jdk_52_method_14_0 : decode jdk_52_method_14_code 0 = .ok (.iload_n 2, 1) := by decide +kernel
theorem d_jdk_52_method_14_1 : decode jdk_52_method_14_code 1 = .ok (.invokestatic 107, 3) := by decide +kernel
theorem d_jdk_52_method_14_4 : decode jdk_52_method_14_code 4 = .ok (.astore_n 3, 1) := by decide +kernel
theorem d_jdk_52_method_14_5 : decode jdk_52_method_14_code 5 = .ok (.iconst 0, 1) := by decide +kernel
theorem d_jdk_52_method_14_6 : decode jdk_52_method_14_code 6 = .ok (.istore 4, 2) := by decide +kernel
theorem d_jdk_52_method_14_8 : decode jdk_52_method_14_code 8 = .ok (.iload 4, 2) := by decide +kernel
theorem d_jdk_52_method_14_10 : decode jdk_52_method_14_code 10 = .ok (.iload_n 2, 1) := by decide +kernel
theorem d_jdk_52_method_14_11 : decode jdk_52_method_14_code 11 = .ok (.if_icmp .ge 21, 3) := by decide +kernel
theorem d_jdk_52_method_14_14 : decode jdk_52_method_14_code 14 = .ok (.aload_n 3, 1) := by decide +kernel
theorem d_jdk_52_method_14_15 : decode jdk_52_method_14_code 15 = .ok (.iload 4, 2) := by decide +kernel
theorem d_jdk_52_method_14_17 : decode jdk_52_method_14_code 17 = .ok (.aload_n 0, 1) := by decide +kernel
theorem d_jdk_52_method_14_18 : decode jdk_52_method_14_code 18 = .ok (.iload_n 1, 1) := by decide +kernel
theorem d_jdk_52_method_14_19 : decode jdk_52_method_14_code 19 = .ok (.caload, 1) := by decide +kernel
theorem d_jdk_52_method_14_20 : decode jdk_52_method_14_code 20 = .ok (.invokestatic 111, 3) := by decide +kernel
theorem d_jdk_52_method_14_23 : decode jdk_52_method_14_code 23 = .ok (.iinc 1 1, 3) := by decide +kernel
theorem d_jdk_52_method_14_26 : decode jdk_52_method_14_code 26 = .ok (.iinc 4 1, 3) := by decide +kernel
theorem d_jdk_52_method_14_29 : decode jdk_52_method_14_code 29 = .ok (.goto (-21), 3) := by decide +kernel
theorem d_jdk_52_method_14_32 : decode jdk_52_method_14_code 32 = .ok (.aload_n 3, 1) := by decide +kernel
theorem d_jdk_52_method_14_33 : decode jdk_52_method_14_code 33 = .ok (.areturn, 1) := by decide +kernel
theorem d_jdk_65_method_125_0 : decode jdk_65_method_125_code 0 = .ok (.iload_n 1, 1) := by decide +kernel
theorem d_jdk_65_method_125_1 : decode jdk_65_method_125_code 1 = .ok (.aload_n 0, 1) := by decide +kernel
theorem d_jdk_65_method_125_2 : decode jdk_65_method_125_code 2 = .ok (.arraylength, 1) := by decide +kernel
theorem d_jdk_65_method_125_3 : decode jdk_65_method_125_code 3 = .ok (.if_icmp .ne 11, 3) := by decide +kernel
theorem d_jdk_65_method_125_14 : decode jdk_65_method_125_code 14 = .ok (.iload_n 1, 1) := by decide +kernel
theorem d_jdk_65_method_125_15 : decode jdk_65_method_125_code 15 = .ok (.newarray .char, 2) := by decide +kernel
theorem d_jdk_65_method_125_17 : decode jdk_65_method_125_code 17 = .ok (.astore_n 2, 1) := by decide +kernel
theorem d_jdk_65_method_125_18 : decode jdk_65_method_125_code 18 = .ok (.aload_n 0, 1) := by decide +kernel
theorem d_jdk_65_method_125_19 : decode jdk_65_method_125_code 19 = .ok (.iconst 0, 1) := by decide +kernel
theorem d_jdk_65_method_125_20 : decode jdk_65_method_125_code 20 = .ok (.aload_n 2, 1) := by decide +kernel
theorem d_jdk_65_method_125_21 : decode jdk_65_method_125_code 21 = .ok (.iconst 0, 1) := by decide +kernel
theorem d_jdk_65_method_125_22 : decode jdk_65_method_125_code 22 = .ok (.aload_n 0, 1) := by decide +kernel
theorem d_jdk_65_method_125_23 : decode jdk_65_method_125_code 23 = .ok (.arraylength, 1) := by decide +kernel
theorem d_jdk_65_method_125_24 : decode jdk_65_method_125_code 24 = .ok (.iload_n 1, 1) := by decide +kernel
theorem d_jdk_65_method_125_25 : decode jdk_65_method_125_code 25 = .ok (.invokestatic 304, 3) := by decide +kernel
theorem d_jdk_65_method_125_28 : decode jdk_65_method_125_code 28 = .ok (.invokestatic 150, 3) := by decide +kernel
theorem d_jdk_65_method_125_31 : decode jdk_65_method_125_code 31 = .ok (.aload_n 2, 1) := by decide +kernel
theorem d_jdk_65_method_125_32 : decode jdk_65_method_125_code 32 = .ok (.areturn, 1) := by decide +kernel
theorem d_jdk_41_method_13_0 : decode jdk_41_method_13_code 0 = .ok (.iload_n 2, 1) := by decide +kernel
theorem d_jdk_41_method_13_1 : decode jdk_41_method_13_code 1 = .ok (.iload_n 0, 1) := by decide +kernel
theorem d_jdk_41_method_13_2 : decode jdk_41_method_13_code 2 = .ok (.ior, 1) := by decide +kernel
theorem d_jdk_41_method_13_3 : decode jdk_41_method_13_code 3 = .ok (.iload_n 1, 1) := by decide +kernel
theorem d_jdk_41_method_13_4 : decode jdk_41_method_13_code 4 = .ok (.ior, 1) := by decide +kernel
theorem d_jdk_41_method_13_5 : decode jdk_41_method_13_code 5 = .ok (.ifCond .lt 10, 3) := by decide +kernel
theorem d_jdk_41_method_13_8 : decode jdk_41_method_13_code 8 = .ok (.iload_n 1, 1) := by decide +kernel
theorem d_jdk_41_method_13_9 : decode jdk_41_method_13_code 9 = .ok (.iload_n 2, 1) := by decide +kernel
theorem d_jdk_41_method_13_10 : decode jdk_41_method_13_code 10 = .ok (.iload_n 0, 1) := by decide +kernel
theorem d_jdk_41_method_13_11 : decode jdk_41_method_13_code 11 = .ok (.isub, 1) := by decide +kernel
theorem d_jdk_41_method_13_12 : decode jdk_41_method_13_code 12 = .ok (.if_icmp .le 11, 3) := by decide +kernel
theorem d_jdk_41_method_13_23 : decode jdk_41_method_13_code 23 = .ok (.iload_n 0, 1) := by decide +kernel
theorem d_jdk_41_method_13_24 : decode jdk_41_method_13_code 24 = .ok (.ireturn, 1) := by decide +kernel
theorem d_jdk_41_method_12_0 : decode jdk_41_method_12_code 0 = .ok (.iload_n 0, 1) := by decide +kernel
theorem d_jdk_41_method_12_1 : decode jdk_41_method_12_code 1 = .ok (.ifCond .lt 13, 3) := by decide +kernel
theorem d_jdk_41_method_12_4 : decode jdk_41_method_12_code 4 = .ok (.iload_n 0, 1) := by decide +kernel
theorem d_jdk_41_method_12_5 : decode jdk_41_method_12_code 5 = .ok (.iload_n 1, 1) := by decide +kernel
theorem d_jdk_41_method_12_6 : decode jdk_41_method_12_code 6 = .ok (.if_icmp .gt 8, 3) := by decide +kernel
theorem d_jdk_41_method_12_9 : decode jdk_41_method_12_code 9 = .ok (.iload_n 1, 1) := by decide +kernel
theorem d_jdk_41_method_12_10 : decode jdk_41_method_12_code 10 = .ok (.iload_n 2, 1) := by decide +kernel
theorem d_jdk_41_method_12_11 : decode jdk_41_method_12_code 11 = .ok (.if_icmp .le 11, 3) := by decide +kernel
theorem d_jdk_41_method_12_22 : decode jdk_41_method_12_code 22 = .ok (.iload_n 0, 1) := by decide +kernel
theorem d_jdk_41_method_12_23 : decode jdk_41_method_12_code 23 = .ok (.ireturn, 1) := by decide +kernel
theorem d_jdk_41_method_11_0 : decode jdk_41_method_11_code 0 = .ok (.iload_n 0, 1) := by decide +kernel
theorem d_jdk_41_method_11_1 : decode jdk_41_method_11_code 1 = .ok (.ifCond .lt 8, 3) := by decide +kernel
theorem d_jdk_41_method_11_4 : decode jdk_41_method_11_code 4 = .ok (.iload_n 0, 1) := by decide +kernel
theorem d_jdk_41_method_11_5 : decode jdk_41_method_11_code 5 = .ok (.iload_n 1, 1) := by decide +kernel
theorem d_jdk_41_method_11_6 : decode jdk_41_method_11_code 6 = .ok (.if_icmp .lt 10, 3) := by decide +kernel
theorem d_jdk_41_method_11_16 : decode jdk_41_method_11_code 16 = .ok (.iload_n 0, 1) := by decide +kernel
theorem d_jdk_41_method_11_17 : decode jdk_41_method_11_code 17 = .ok (.ireturn, 1) := by decide +kernel
theorem w_0 {Z : State} {a0 : Array Value} (hw : ∀ d ∈ tables_1, d.before a0 Z = true) : (Jvm.Cond.constant "com/example/beleg/beleg/JsonOutputToStringPinLaw" (7 : Nat) (65535 : Int32)).before a0 Z = true := hw _ (List.mem_of_getElem? (i := 0) rfl)
theorem w_1 {Z : State} {a0 : Array Value} (hw : ∀ d ∈ tables_1, d.before a0 Z = true) : (Jvm.Cond.arrayClass Jvm.ClassFile.FieldType.char).before a0 Z = true := hw _ (List.mem_of_getElem? (i := 1) rfl)
theorem w_2 {Z : State} {a0 : Array Value} (hw : ∀ d ∈ tables_1, d.before a0 Z = true) : (Jvm.Cond.classLink "com/example/beleg/beleg/JsonOutputToStringPinLaw" (8 : Nat) "java/lang/String").before a0 Z = true := hw _ (List.mem_of_getElem? (i := 2) rfl)
theorem w_3 {Z : State} {a0 : Array Value} (hw : ∀ d ∈ tables_1, d.before a0 Z = true) : (Jvm.Cond.instantiable "java/lang/String" (4 : Nat)).before a0 Z = true := hw _ (List.mem_of_getElem? (i := 3) rfl)
theorem w_4 {Z : State} {a0 : Array Value} (hw : ∀ d ∈ tables_1, d.before a0 Z = true) : (Jvm.Cond.initialized "java/lang/String").before a0 Z = true := hw _ (List.mem_of_getElem? (i := 4) rfl)
theorem w_5 {Z : State} {a0 : Array Value} (hw : ∀ d ∈ tables_1, d.before a0 Z = true) : (Jvm.Cond.methodLink "com/example/beleg/beleg/JsonOutputToStringPinLaw" (10 : Nat) ({ cls := "java/lang/String", name := "<init>", desc := "([C)V" } : Jvm.MethodName)).before a0 Z = true := hw _ (List.mem_of_getElem? (i := 5) rfl)
theorem w_6 {Z : State} {a0 : Array Value} (hw : ∀ d ∈ tables_1, d.before a0 Z = true) : (Jvm.Cond.instanceMethod ({ cls := "java/lang/String", name := "<init>", desc := "([C)V" } : Jvm.MethodName)).before a0 Z = true := hw _ (List.mem_of_getElem? (i := 6) rfl)
theorem w_7 {Z : State} {a0 : Array Value} (hw : ∀ d ∈ tables_1, d.before a0 Z = true) : (Jvm.Cond.code ({ cls := "java/lang/String", name := "<init>", desc := "([C)V" } : Jvm.MethodName) jdk_42_method_3_code (2 : Nat) (Option.none : Option Jvm.ClassFile.FieldType)).before a0 Z = true := hw _ (List.mem_of_getElem? (i := 7) rfl)
theorem w_8 {Z : State} {a0 : Array Value} (hw : ∀ d ∈ tables_1, d.before a0 Z = true) : (Jvm.Cond.methodLink "java/lang/String" (27 : Nat) ({ cls := "java/lang/String", name := "<init>", desc := "([CIILjava/lang/Void;)V" } : Jvm.MethodName)).before a0 Z = true := hw _ (List.mem_of_getElem? (i := 8) rfl)
theorem w_9 {Z : State} {a0 : Array Value} (hw : ∀ d ∈ tables_1, d.before a0 Z = true) : (Jvm.Cond.instanceMethod ({ cls := "java/lang/String", name := "<init>", desc := "([CIILjava/lang/Void;)V" } : Jvm.MethodName)).before a0 Z = true := hw _ (List.mem_of_getElem? (i := 9) rfl)
theorem w_11 {Z : State} {a0 : Array Value} (hw : ∀ d ∈ tables_1, d.before a0 Z = true) : (Jvm.Cond.code ({ cls := "java/lang/String", name := "<init>", desc := "([CIILjava/lang/Void;)V" } : Jvm.MethodName) jdk_42_method_149_code (6 : Nat) (Option.none : Option Jvm.ClassFile.FieldType)).before a0 Z = true := hw _ (List.mem_of_getElem? (i := 11) rfl)
theorem w_12 {Z : State} {a0 : Array Value} (hw : ∀ d ∈ tables_1, d.before a0 Z = true) : (Jvm.Cond.methodLink "java/lang/String" (1 : Nat) ({ cls := "java/lang/Object", name := "<init>", desc := "()V" } : Jvm.MethodName)).before a0 Z = true := hw _ (List.mem_of_getElem? (i := 12) rfl)
theorem w_13 {Z : State} {a0 : Array Value} (hw : ∀ d ∈ tables_1, d.before a0 Z = true) : (Jvm.Cond.instanceMethod ({ cls := "java/lang/Object", name := "<init>", desc := "()V" } : Jvm.MethodName)).before a0 Z = true := hw _ (List.mem_of_getElem? (i := 13) rfl)
theorem w_14 {Z : State} {a0 : Array Value} (hw : ∀ d ∈ tables_1, d.before a0 Z = true) : (Jvm.Cond.code ({ cls := "java/lang/Object", name := "<init>", desc := "()V" } : Jvm.MethodName) object_method_1_code (1 : Nat) (Option.none : Option Jvm.ClassFile.FieldType)).before a0 Z = true := hw _ (List.mem_of_getElem? (i := 14) rfl)
theorem w_15 {Z : State} {a0 : Array Value} (hw : ∀ d ∈ tables_1, d.before a0 Z = true) : (Jvm.Cond.fieldLink "java/lang/String" (38 : Nat) "java/lang/String" "COMPACT_STRINGS" "Z").before a0 Z = true := hw _ (List.mem_of_getElem? (i := 15) rfl)
theorem w_16 {Z : State} {a0 : Array Value} (hw : ∀ d ∈ tables_1, d.before a0 Z = true) : (Jvm.Cond.methodLink "java/lang/String" (177 : Nat) ({ cls := "java/lang/StringUTF16", name := "compress", desc := "([CII)[B" } : Jvm.MethodName)).before a0 Z = true := hw _ (List.mem_of_getElem? (i := 16) rfl)
theorem w_17 {Z : State} {a0 : Array Value} (hw : ∀ d ∈ tables_1, d.before a0 Z = true) : (Jvm.Cond.static ({ cls := "java/lang/StringUTF16", name := "compress", desc := "([CII)[B" } : Jvm.MethodName)).before a0 Z = true := hw _ (List.mem_of_getElem? (i := 17) rfl)
theorem w_18 {Z : State} {a0 : Array Value} (hw : ∀ d ∈ tables_1, d.before a0 Z = true) : (Jvm.Cond.initialized "java/lang/StringUTF16").before a0 Z = true := hw _ (List.mem_of_getElem? (i := 18) rfl)
theorem w_19 {Z : State} {a0 : Array Value} (hw : ∀ d ∈ tables_1, d.before a0 Z = true) : (Jvm.Cond.code ({ cls := "java/lang/StringUTF16", name := "compress", desc := "([CII)[B" } : Jvm.MethodName) jdk_52_method_16_code (6 : Nat) (Option.some (Jvm.ClassFile.FieldType.array Jvm.ClassFile.FieldType.byte))).before a0 Z = true := hw _ (List.mem_of_getElem? (i := 19) rfl)
theorem w_20 {Z : State} {a0 : Array Value} (hw : ∀ d ∈ tables_1, d.before a0 Z = true) : (Jvm.Cond.arrayClass Jvm.ClassFile.FieldType.byte).before a0 Z = true := hw _ (List.mem_of_getElem? (i := 20) rfl)
theorem w_21 {Z : State} {a0 : Array Value} (hw : ∀ d ∈ tables_1, d.before a0 Z = true) : (Jvm.Cond.methodLink "java/lang/StringUTF16" (115 : Nat) ({ cls := "java/lang/StringUTF16", name := "compress", desc := "([CI[BII)I" } : Jvm.MethodName)).before a0 Z = true := hw _ (List.mem_of_getElem? (i := 21) rfl)
theorem w_22 {Z : State} {a0 : Array Value} (hw : ∀ d ∈ tables_1, d.before a0 Z = true) : (Jvm.Cond.static ({ cls := "java/lang/StringUTF16", name := "compress", desc := "([CI[BII)I" } : Jvm.MethodName)).before a0 Z = true := hw _ (List.mem_of_getElem? (i := 22) rfl)
theorem w_23 {Z : State} {a0 : Array Value} (hw : ∀ d ∈ tables_1, d.before a0 Z = true) : (Jvm.Cond.code ({ cls := "java/lang/StringUTF16", name := "compress", desc := "([CI[BII)I" } : Jvm.MethodName) jdk_52_method_21_code (7 : Nat) (Option.some Jvm.ClassFile.FieldType.int)).before a0 Z = true := hw _ (List.mem_of_getElem? (i := 23) rfl)
theorem w_24 {Z : State} {a0 : Array Value} (hw : ∀ d ∈ tables_1, d.before a0 Z = true) : (Jvm.Cond.methodLink "java/lang/String" (47 : Nat) ({ cls := "java/lang/StringUTF16", name := "coderFromArrayLen", desc := "([BI)B" } : Jvm.MethodName)).before a0 Z = true := hw _ (List.mem_of_getElem? (i := 24) rfl)
theorem w_25 {Z : State} {a0 : Array Value} (hw : ∀ d ∈ tables_1, d.before a0 Z = true) : (Jvm.Cond.static ({ cls := "java/lang/StringUTF16", name := "coderFromArrayLen", desc := "([BI)B" } : Jvm.MethodName)).before a0 Z = true := hw _ (List.mem_of_getElem? (i := 25) rfl)
theorem w_26 {Z : State} {a0 : Array Value} (hw : ∀ d ∈ tables_1, d.before a0 Z = true) : (Jvm.Cond.code ({ cls := "java/lang/StringUTF16", name := "coderFromArrayLen", desc := "([BI)B" } : Jvm.MethodName) jdk_52_method_15_code (2 : Nat) (Option.some Jvm.ClassFile.FieldType.byte)).before a0 Z = true := hw _ (List.mem_of_getElem? (i := 26) rfl)
theorem w_27 {Z : State} {a0 : Array Value} (hw : ∀ d ∈ tables_1, d.before a0 Z = true) : (Jvm.Cond.fieldLink "java/lang/String" (15 : Nat) "java/lang/String" "coder" "B").before a0 Z = true := hw _ (List.mem_of_getElem? (i := 27) rfl)
theorem w_28 {Z : State} {a0 : Array Value} (hw : ∀ d ∈ tables_1, d.before a0 Z = true) : (Jvm.Cond.laysFinal "java/lang/String" "java/lang/String" "coder" "B").before a0 Z = true := hw _ (List.mem_of_getElem? (i := 28) rfl)
theorem w_29 {Z : State} {a0 : Array Value} (hw : ∀ d ∈ tables_1, d.before a0 Z = true) : (Jvm.Cond.fieldLink "java/lang/String" (9 : Nat) "java/lang/String" "value" "[B").before a0 Z = true := hw _ (List.mem_of_getElem? (i := 29) rfl)
theorem w_30 {Z : State} {a0 : Array Value} (hw : ∀ d ∈ tables_1, d.before a0 Z = true) : (Jvm.Cond.laysFinal "java/lang/String" "java/lang/String" "value" "[B").before a0 Z = true := hw _ (List.mem_of_getElem? (i := 30) rfl)
theorem w_31 {Z : State} {a0 : Array Value} (hw : ∀ d ∈ tables_1, d.before a0 Z = true) : (Jvm.Cond.classLink "com/example/beleg/beleg/JsonOutputToStringPinLaw" (13 : Nat) "com/example/beleg/beleg/JsonOutput").before a0 Z = true := hw _ (List.mem_of_getElem? (i := 31) rfl)
theorem w_32 {Z : State} {a0 : Array Value} (hw : ∀ d ∈ tables_1, d.before a0 Z = true) : (Jvm.Cond.instantiable "com/example/beleg/beleg/JsonOutput" (3 : Nat)).before a0 Z = true := hw _ (List.mem_of_getElem? (i := 32) rfl)
theorem w_33 {Z : State} {a0 : Array Value} (hw : ∀ d ∈ tables_1, d.before a0 Z = true) : (Jvm.Cond.initialized "com/example/beleg/beleg/JsonOutput").before a0 Z = true := hw _ (List.mem_of_getElem? (i := 33) rfl)
theorem w_34 {Z : State} {a0 : Array Value} (hw : ∀ d ∈ tables_1, d.before a0 Z = true) : (Jvm.Cond.methodLink "com/example/beleg/beleg/JsonOutputToStringPinLaw" (15 : Nat) ({ cls := "com/example/beleg/beleg/JsonOutput", name := "<init>", desc := "()V" } : Jvm.MethodName)).before a0 Z = true := hw _ (List.mem_of_getElem? (i := 34) rfl)
theorem w_35 {Z : State} {a0 : Array Value} (hw : ∀ d ∈ tables_1, d.before a0 Z = true) : (Jvm.Cond.instanceMethod ({ cls := "com/example/beleg/beleg/JsonOutput", name := "<init>", desc := "()V" } : Jvm.MethodName)).before a0 Z = true := hw _ (List.mem_of_getElem? (i := 35) rfl)
theorem w_36 {Z : State} {a0 : Array Value} (hw : ∀ d ∈ tables_1, d.before a0 Z = true) : (Jvm.Cond.code ({ cls := "com/example/beleg/beleg/JsonOutput", name := "<init>", desc := "()V" } : Jvm.MethodName) prog_11_method_1_code (1 : Nat) (Option.none : Option Jvm.ClassFile.FieldType)).before a0 Z = true := hw _ (List.mem_of_getElem? (i := 36) rfl)
theorem w_37 {Z : State} {a0 : Array Value} (hw : ∀ d ∈ tables_1, d.before a0 Z = true) : (Jvm.Cond.methodLink "com/example/beleg/beleg/JsonOutput" (3 : Nat) ({ cls := "com/example/beleg/beleg/JsonOutput", name := "<init>", desc := "([C)V" } : Jvm.MethodName)).before a0 Z = true := hw _ (List.mem_of_getElem? (i := 37) rfl)
theorem w_38 {Z : State} {a0 : Array Value} (hw : ∀ d ∈ tables_1, d.before a0 Z = true) : (Jvm.Cond.instanceMethod ({ cls := "com/example/beleg/beleg/JsonOutput", name := "<init>", desc := "([C)V" } : Jvm.MethodName)).before a0 Z = true := hw _ (List.mem_of_getElem? (i := 38) rfl)
theorem w_39 {Z : State} {a0 : Array Value} (hw : ∀ d ∈ tables_1, d.before a0 Z = true) : (Jvm.Cond.code ({ cls := "com/example/beleg/beleg/JsonOutput", name := "<init>", desc := "([C)V" } : Jvm.MethodName) prog_11_method_2_code (2 : Nat) (Option.none : Option Jvm.ClassFile.FieldType)).before a0 Z = true := hw _ (List.mem_of_getElem? (i := 39) rfl)
theorem w_40 {Z : State} {a0 : Array Value} (hw : ∀ d ∈ tables_1, d.before a0 Z = true) : (Jvm.Cond.methodLink "com/example/beleg/beleg/JsonOutput" (7 : Nat) ({ cls := "java/lang/Object", name := "<init>", desc := "()V" } : Jvm.MethodName)).before a0 Z = true := hw _ (List.mem_of_getElem? (i := 40) rfl)
theorem w_41 {Z : State} {a0 : Array Value} (hw : ∀ d ∈ tables_1, d.before a0 Z = true) : (Jvm.Cond.fieldLink "com/example/beleg/beleg/JsonOutput" (12 : Nat) "com/example/beleg/beleg/JsonOutput" "chars" "[C").before a0 Z = true := hw _ (List.mem_of_getElem? (i := 41) rfl)
theorem w_42 {Z : State} {a0 : Array Value} (hw : ∀ d ∈ tables_1, d.before a0 Z = true) : (Jvm.Cond.lays "com/example/beleg/beleg/JsonOutput" "com/example/beleg/beleg/JsonOutput" "chars" "[C").before a0 Z = true := hw _ (List.mem_of_getElem? (i := 42) rfl)
theorem w_43 {Z : State} {a0 : Array Value} (hw : ∀ d ∈ tables_1, d.before a0 Z = true) : (Jvm.Cond.methodLink "com/example/beleg/beleg/JsonOutputToStringPinLaw" (23 : Nat) ({ cls := "com/example/beleg/beleg/JsonOutput", name := "toString", desc := "()Ljava/lang/String;" } : Jvm.MethodName)).before a0 Z = true := hw _ (List.mem_of_getElem? (i := 43) rfl)
theorem w_44 {Z : State} {a0 : Array Value} (hw : ∀ d ∈ tables_1, d.before a0 Z = true) : (Jvm.Cond.declares ({ cls := "com/example/beleg/beleg/JsonOutput", name := "toString", desc := "()Ljava/lang/String;" } : Jvm.MethodName)).before a0 Z = true := hw _ (List.mem_of_getElem? (i := 44) rfl)
theorem w_45 {Z : State} {a0 : Array Value} (hw : ∀ d ∈ tables_1, d.before a0 Z = true) : (Jvm.Cond.instanceMethod ({ cls := "com/example/beleg/beleg/JsonOutput", name := "toString", desc := "()Ljava/lang/String;" } : Jvm.MethodName)).before a0 Z = true := hw _ (List.mem_of_getElem? (i := 45) rfl)
theorem w_46 {Z : State} {a0 : Array Value} (hw : ∀ d ∈ tables_1, d.before a0 Z = true) : (Jvm.Cond.selects "com/example/beleg/beleg/JsonOutput" ({ cls := "com/example/beleg/beleg/JsonOutput", name := "toString", desc := "()Ljava/lang/String;" } : Jvm.MethodName) ({ cls := "com/example/beleg/beleg/JsonOutput", name := "toString", desc := "()Ljava/lang/String;" } : Jvm.MethodName)).before a0 Z = true := hw _ (List.mem_of_getElem? (i := 46) rfl)
theorem w_47 {Z : State} {a0 : Array Value} (hw : ∀ d ∈ tables_1, d.before a0 Z = true) : (Jvm.Cond.code ({ cls := "com/example/beleg/beleg/JsonOutput", name := "toString", desc := "()Ljava/lang/String;" } : Jvm.MethodName) prog_11_method_13_code (1 : Nat) (Option.some (Jvm.ClassFile.FieldType.object "java/lang/String"))).before a0 Z = true := hw _ (List.mem_of_getElem? (i := 47) rfl)
theorem w_48 {Z : State} {a0 : Array Value} (hw : ∀ d ∈ tables_1, d.before a0 Z = true) : (Jvm.Cond.classLink "com/example/beleg/beleg/JsonOutput" (50 : Nat) "java/lang/String").before a0 Z = true := hw _ (List.mem_of_getElem? (i := 48) rfl)
theorem w_49 {Z : State} {a0 : Array Value} (hw : ∀ d ∈ tables_1, d.before a0 Z = true) : (Jvm.Cond.fieldLink "com/example/beleg/beleg/JsonOutput" (45 : Nat) "com/example/beleg/beleg/JsonOutput" "length" "I").before a0 Z = true := hw _ (List.mem_of_getElem? (i := 49) rfl)
theorem w_50 {Z : State} {a0 : Array Value} (hw : ∀ d ∈ tables_1, d.before a0 Z = true) : (Jvm.Cond.lays "com/example/beleg/beleg/JsonOutput" "com/example/beleg/beleg/JsonOutput" "length" "I").before a0 Z = true := hw _ (List.mem_of_getElem? (i := 50) rfl)
theorem w_51 {Z : State} {a0 : Array Value} (hw : ∀ d ∈ tables_1, d.before a0 Z = true) : (Jvm.Cond.methodLink "com/example/beleg/beleg/JsonOutput" (80 : Nat) ({ cls := "java/lang/String", name := "<init>", desc := "([CII)V" } : Jvm.MethodName)).before a0 Z = true := hw _ (List.mem_of_getElem? (i := 51) rfl)
theorem w_52 {Z : State} {a0 : Array Value} (hw : ∀ d ∈ tables_1, d.before a0 Z = true) : (Jvm.Cond.instanceMethod ({ cls := "java/lang/String", name := "<init>", desc := "([CII)V" } : Jvm.MethodName)).before a0 Z = true := hw _ (List.mem_of_getElem? (i := 52) rfl)
theorem w_53 {Z : State} {a0 : Array Value} (hw : ∀ d ∈ tables_1, d.before a0 Z = true) : (Jvm.Cond.code ({ cls := "java/lang/String", name := "<init>", desc := "([CII)V" } : Jvm.MethodName) jdk_42_method_4_code (4 : Nat) (Option.none : Option Jvm.ClassFile.FieldType)).before a0 Z = true := hw _ (List.mem_of_getElem? (i := 53) rfl)
theorem w_54 {Z : State} {a0 : Array Value} (hw : ∀ d ∈ tables_1, d.before a0 Z = true) : (Jvm.Cond.methodLink "java/lang/String" (30 : Nat) ({ cls := "java/lang/String", name := "rangeCheck", desc := "([CII)Ljava/lang/Void;" } : Jvm.MethodName)).before a0 Z = true := hw _ (List.mem_of_getElem? (i := 54) rfl)
theorem w_55 {Z : State} {a0 : Array Value} (hw : ∀ d ∈ tables_1, d.before a0 Z = true) : (Jvm.Cond.static ({ cls := "java/lang/String", name := "rangeCheck", desc := "([CII)Ljava/lang/Void;" } : Jvm.MethodName)).before a0 Z = true := hw _ (List.mem_of_getElem? (i := 55) rfl)
theorem w_56 {Z : State} {a0 : Array Value} (hw : ∀ d ∈ tables_1, d.before a0 Z = true) : (Jvm.Cond.code ({ cls := "java/lang/String", name := "rangeCheck", desc := "([CII)Ljava/lang/Void;" } : Jvm.MethodName) jdk_42_method_5_code (3 : Nat) (Option.some (Jvm.ClassFile.FieldType.object "java/lang/Void"))).before a0 Z = true := hw _ (List.mem_of_getElem? (i := 56) rfl)
theorem w_57 {Z : State} {a0 : Array Value} (hw : ∀ d ∈ tables_1, d.before a0 Z = true) : (Jvm.Cond.methodLink "java/lang/String" (34 : Nat) ({ cls := "java/lang/String", name := "checkBoundsOffCount", desc := "(III)I" } : Jvm.MethodName)).before a0 Z = true := hw _ (List.mem_of_getElem? (i := 57) rfl)
theorem w_58 {Z : State} {a0 : Array Value} (hw : ∀ d ∈ tables_1, d.before a0 Z = true) : (Jvm.Cond.static ({ cls := "java/lang/String", name := "checkBoundsOffCount", desc := "(III)I" } : Jvm.MethodName)).before a0 Z = true := hw _ (List.mem_of_getElem? (i := 58) rfl)
theorem w_59 {Z : State} {a0 : Array Value} (hw : ∀ d ∈ tables_1, d.before a0 Z = true) : (Jvm.Cond.code ({ cls := "java/lang/String", name := "checkBoundsOffCount", desc := "(III)I" } : Jvm.MethodName) jdk_42_method_157_code (3 : Nat) (Option.some Jvm.ClassFile.FieldType.int)).before a0 Z = true := hw _ (List.mem_of_getElem? (i := 59) rfl)
theorem w_60 {Z : State} {a0 : Array Value} (hw : ∀ d ∈ tables_1, d.before a0 Z = true) : (Jvm.Cond.fieldLink "java/lang/String" (1053 : Nat) "jdk/internal/util/Preconditions" "SIOOBE_FORMATTER" "Ljava/util/function/BiFunction;").before a0 Z = true := hw _ (List.mem_of_getElem? (i := 60) rfl)
theorem w_61 {Z : State} {a0 : Array Value} (hw : ∀ d ∈ tables_1, d.before a0 Z = true) : (Jvm.Cond.initialized "jdk/internal/util/Preconditions").before a0 Z = true := hw _ (List.mem_of_getElem? (i := 61) rfl)
theorem w_62 {Z : State} {a0 : Array Value} (hw : ∀ d ∈ tables_1, d.before a0 Z = true) : (Jvm.Cond.methodLink "java/lang/String" (1065 : Nat) ({ cls := "jdk/internal/util/Preconditions", name := "checkFromIndexSize", desc := "(IIILjava/util/function/BiFunction;)I" } : Jvm.MethodName)).before a0 Z = true := hw _ (List.mem_of_getElem? (i := 62) rfl)
theorem w_63 {Z : State} {a0 : Array Value} (hw : ∀ d ∈ tables_1, d.before a0 Z = true) : (Jvm.Cond.static ({ cls := "jdk/internal/util/Preconditions", name := "checkFromIndexSize", desc := "(IIILjava/util/function/BiFunction;)I" } : Jvm.MethodName)).before a0 Z = true := hw _ (List.mem_of_getElem? (i := 63) rfl)
theorem w_64 {Z : State} {a0 : Array Value} (hw : ∀ d ∈ tables_1, d.before a0 Z = true) : (Jvm.Cond.code ({ cls := "jdk/internal/util/Preconditions", name := "checkFromIndexSize", desc := "(IIILjava/util/function/BiFunction;)I" } : Jvm.MethodName) jdk_41_method_13_code (4 : Nat) (Option.some Jvm.ClassFile.FieldType.int)).before a0 Z = true := hw _ (List.mem_of_getElem? (i := 64) rfl)
theorem w_65 {Z : State} {a0 : Array Value} (hw : ∀ d ∈ tables_1, d.before a0 Z = true) : (Jvm.Cond.stringLink "java/lang/String" (7 : Nat) "").before a0 Z = true := hw _ (List.mem_of_getElem? (i := 65) rfl)
theorem w_66 {Z : State} {a0 : Array Value} (hw : ∀ d ∈ tables_1, d.before a0 Z = true) : (Jvm.Cond.soleField "java/lang/String" "value").before a0 Z = true := hw _ (List.mem_of_getElem? (i := 66) rfl)
theorem w_67 {Z : State} {a0 : Array Value} (hw : ∀ d ∈ tables_1, d.before a0 Z = true) : (Jvm.Cond.soleField "java/lang/String" "coder").before a0 Z = true := hw _ (List.mem_of_getElem? (i := 67) rfl)
theorem w_68 {Z : State} {a0 : Array Value} (hw : ∀ d ∈ tables_1, d.before a0 Z = true) : (Jvm.Cond.methodLink "com/example/beleg/beleg/JsonOutputToStringPinLaw" (27 : Nat) ({ cls := "java/lang/String", name := "equals", desc := "(Ljava/lang/Object;)Z" } : Jvm.MethodName)).before a0 Z = true := hw _ (List.mem_of_getElem? (i := 68) rfl)
theorem w_69 {Z : State} {a0 : Array Value} (hw : ∀ d ∈ tables_1, d.before a0 Z = true) : (Jvm.Cond.declares ({ cls := "java/lang/String", name := "equals", desc := "(Ljava/lang/Object;)Z" } : Jvm.MethodName)).before a0 Z = true := hw _ (List.mem_of_getElem? (i := 69) rfl)
theorem w_70 {Z : State} {a0 : Array Value} (hw : ∀ d ∈ tables_1, d.before a0 Z = true) : (Jvm.Cond.instanceMethod ({ cls := "java/lang/String", name := "equals", desc := "(Ljava/lang/Object;)Z" } : Jvm.MethodName)).before a0 Z = true := hw _ (List.mem_of_getElem? (i := 70) rfl)
theorem w_71 {Z : State} {a0 : Array Value} (hw : ∀ d ∈ tables_1, d.before a0 Z = true) : (Jvm.Cond.selects "java/lang/String" ({ cls := "java/lang/String", name := "equals", desc := "(Ljava/lang/Object;)Z" } : Jvm.MethodName) ({ cls := "java/lang/String", name := "equals", desc := "(Ljava/lang/Object;)Z" } : Jvm.MethodName)).before a0 Z = true := hw _ (List.mem_of_getElem? (i := 71) rfl)
theorem w_72 {Z : State} {a0 : Array Value} (hw : ∀ d ∈ tables_1, d.before a0 Z = true) : (Jvm.Cond.code ({ cls := "java/lang/String", name := "equals", desc := "(Ljava/lang/Object;)Z" } : Jvm.MethodName) jdk_42_method_66_code (3 : Nat) (Option.some Jvm.ClassFile.FieldType.boolean)).before a0 Z = true := hw _ (List.mem_of_getElem? (i := 72) rfl)
theorem w_73 {Z : State} {a0 : Array Value} (hw : ∀ d ∈ tables_1, d.before a0 Z = true) : (Jvm.Cond.classLink "java/lang/String" (10 : Nat) "java/lang/String").before a0 Z = true := hw _ (List.mem_of_getElem? (i := 73) rfl)
theorem w_74 {Z : State} {a0 : Array Value} (hw : ∀ d ∈ tables_1, d.before a0 Z = true) : (Jvm.Cond.methodLink "java/lang/String" (541 : Nat) ({ cls := "java/lang/StringLatin1", name := "equals", desc := "([B[B)Z" } : Jvm.MethodName)).before a0 Z = true := hw _ (List.mem_of_getElem? (i := 74) rfl)
theorem w_75 {Z : State} {a0 : Array Value} (hw : ∀ d ∈ tables_1, d.before a0 Z = true) : (Jvm.Cond.static ({ cls := "java/lang/StringLatin1", name := "equals", desc := "([B[B)Z" } : Jvm.MethodName)).before a0 Z = true := hw _ (List.mem_of_getElem? (i := 75) rfl)
theorem w_76 {Z : State} {a0 : Array Value} (hw : ∀ d ∈ tables_1, d.before a0 Z = true) : (Jvm.Cond.initialized "java/lang/StringLatin1").before a0 Z = true := hw _ (List.mem_of_getElem? (i := 76) rfl)
theorem w_77 {Z : State} {a0 : Array Value} (hw : ∀ d ∈ tables_1, d.before a0 Z = true) : (Jvm.Cond.code ({ cls := "java/lang/StringLatin1", name := "equals", desc := "([B[B)Z" } : Jvm.MethodName) jdk_43_method_13_code (3 : Nat) (Option.some Jvm.ClassFile.FieldType.boolean)).before a0 Z = true := hw _ (List.mem_of_getElem? (i := 77) rfl)
theorem w_78 {Z : State} {a0 : Array Value} (hw : ∀ d ∈ tables_1, d.before a0 Z = true) : (Jvm.Cond.methodLink "com/example/beleg/beleg/JsonOutputToStringPinLaw" (31 : Nat) ({ cls := "com/example/beleg/beleg/JsonOutput", name := "length", desc := "()I" } : Jvm.MethodName)).before a0 Z = true := hw _ (List.mem_of_getElem? (i := 78) rfl)
theorem w_79 {Z : State} {a0 : Array Value} (hw : ∀ d ∈ tables_1, d.before a0 Z = true) : (Jvm.Cond.declares ({ cls := "com/example/beleg/beleg/JsonOutput", name := "length", desc := "()I" } : Jvm.MethodName)).before a0 Z = true := hw _ (List.mem_of_getElem? (i := 79) rfl)
theorem w_80 {Z : State} {a0 : Array Value} (hw : ∀ d ∈ tables_1, d.before a0 Z = true) : (Jvm.Cond.instanceMethod ({ cls := "com/example/beleg/beleg/JsonOutput", name := "length", desc := "()I" } : Jvm.MethodName)).before a0 Z = true := hw _ (List.mem_of_getElem? (i := 80) rfl)
theorem w_81 {Z : State} {a0 : Array Value} (hw : ∀ d ∈ tables_1, d.before a0 Z = true) : (Jvm.Cond.selects "com/example/beleg/beleg/JsonOutput" ({ cls := "com/example/beleg/beleg/JsonOutput", name := "length", desc := "()I" } : Jvm.MethodName) ({ cls := "com/example/beleg/beleg/JsonOutput", name := "length", desc := "()I" } : Jvm.MethodName)).before a0 Z = true := hw _ (List.mem_of_getElem? (i := 81) rfl)
theorem w_82 {Z : State} {a0 : Array Value} (hw : ∀ d ∈ tables_1, d.before a0 Z = true) : (Jvm.Cond.code ({ cls := "com/example/beleg/beleg/JsonOutput", name := "length", desc := "()I" } : Jvm.MethodName) prog_11_method_9_code (1 : Nat) (Option.some Jvm.ClassFile.FieldType.int)).before a0 Z = true := hw _ (List.mem_of_getElem? (i := 82) rfl)
theorem w_83 {Z : State} {a0 : Array Value} (hw : ∀ d ∈ tables_1, d.before a0 Z = true) : (Jvm.Cond.methodLink "com/example/beleg/beleg/JsonOutputToStringPinLaw" (35 : Nat) ({ cls := "java/lang/String", name := "length", desc := "()I" } : Jvm.MethodName)).before a0 Z = true := hw _ (List.mem_of_getElem? (i := 83) rfl)
theorem w_84 {Z : State} {a0 : Array Value} (hw : ∀ d ∈ tables_1, d.before a0 Z = true) : (Jvm.Cond.declares ({ cls := "java/lang/String", name := "length", desc := "()I" } : Jvm.MethodName)).before a0 Z = true := hw _ (List.mem_of_getElem? (i := 84) rfl)
theorem w_85 {Z : State} {a0 : Array Value} (hw : ∀ d ∈ tables_1, d.before a0 Z = true) : (Jvm.Cond.instanceMethod ({ cls := "java/lang/String", name := "length", desc := "()I" } : Jvm.MethodName)).before a0 Z = true := hw _ (List.mem_of_getElem? (i := 85) rfl)
theorem w_86 {Z : State} {a0 : Array Value} (hw : ∀ d ∈ tables_1, d.before a0 Z = true) : (Jvm.Cond.selects "java/lang/String" ({ cls := "java/lang/String", name := "length", desc := "()I" } : Jvm.MethodName) ({ cls := "java/lang/String", name := "length", desc := "()I" } : Jvm.MethodName)).before a0 Z = true := hw _ (List.mem_of_getElem? (i := 86) rfl)
theorem w_87 {Z : State} {a0 : Array Value} (hw : ∀ d ∈ tables_1, d.before a0 Z = true) : (Jvm.Cond.code ({ cls := "java/lang/String", name := "length", desc := "()I" } : Jvm.MethodName) jdk_42_method_54_code (1 : Nat) (Option.some Jvm.ClassFile.FieldType.int)).before a0 Z = true := hw _ (List.mem_of_getElem? (i := 87) rfl)
theorem w_88 {Z : State} {a0 : Array Value} (hw : ∀ d ∈ tables_1, d.before a0 Z = true) : (Jvm.Cond.methodLink "java/lang/String" (335 : Nat) ({ cls := "java/lang/String", name := "coder", desc := "()B" } : Jvm.MethodName)).before a0 Z = true := hw _ (List.mem_of_getElem? (i := 88) rfl)
theorem w_89 {Z : State} {a0 : Array Value} (hw : ∀ d ∈ tables_1, d.before a0 Z = true) : (Jvm.Cond.declares ({ cls := "java/lang/String", name := "coder", desc := "()B" } : Jvm.MethodName)).before a0 Z = true := hw _ (List.mem_of_getElem? (i := 89) rfl)
theorem w_90 {Z : State} {a0 : Array Value} (hw : ∀ d ∈ tables_1, d.before a0 Z = true) : (Jvm.Cond.instanceMethod ({ cls := "java/lang/String", name := "coder", desc := "()B" } : Jvm.MethodName)).before a0 Z = true := hw _ (List.mem_of_getElem? (i := 90) rfl)
theorem w_91 {Z : State} {a0 : Array Value} (hw : ∀ d ∈ tables_1, d.before a0 Z = true) : (Jvm.Cond.selects "java/lang/String" ({ cls := "java/lang/String", name := "coder", desc := "()B" } : Jvm.MethodName) ({ cls := "java/lang/String", name := "coder", desc := "()B" } : Jvm.MethodName)).before a0 Z = true := hw _ (List.mem_of_getElem? (i := 91) rfl)
theorem w_92 {Z : State} {a0 : Array Value} (hw : ∀ d ∈ tables_1, d.before a0 Z = true) : (Jvm.Cond.code ({ cls := "java/lang/String", name := "coder", desc := "()B" } : Jvm.MethodName) jdk_42_method_152_code (1 : Nat) (Option.some Jvm.ClassFile.FieldType.byte)).before a0 Z = true := hw _ (List.mem_of_getElem? (i := 92) rfl)
theorem w_93 {Z : State} {a0 : Array Value} (hw : ∀ d ∈ tables_1, d.before a0 Z = true) : (Jvm.Cond.methodLink "com/example/beleg/beleg/JsonOutputToStringPinLaw" (16 : Nat) ({ cls := "com/example/beleg/beleg/JsonOutput", name := "append", desc := "(Ljava/lang/String;)Lcom/example/beleg/beleg/JsonOutput;" } : Jvm.MethodName)).before a0 Z = true := hw _ (List.mem_of_getElem? (i := 93) rfl)
theorem w_94 {Z : State} {a0 : Array Value} (hw : ∀ d ∈ tables_1, d.before a0 Z = true) : (Jvm.Cond.declares ({ cls := "com/example/beleg/beleg/JsonOutput", name := "append", desc := "(Ljava/lang/String;)Lcom/example/beleg/beleg/JsonOutput;" } : Jvm.MethodName)).before a0 Z = true := hw _ (List.mem_of_getElem? (i := 94) rfl)
theorem w_95 {Z : State} {a0 : Array Value} (hw : ∀ d ∈ tables_1, d.before a0 Z = true) : (Jvm.Cond.instanceMethod ({ cls := "com/example/beleg/beleg/JsonOutput", name := "append", desc := "(Ljava/lang/String;)Lcom/example/beleg/beleg/JsonOutput;" } : Jvm.MethodName)).before a0 Z = true := hw _ (List.mem_of_getElem? (i := 95) rfl)
theorem w_96 {Z : State} {a0 : Array Value} (hw : ∀ d ∈ tables_1, d.before a0 Z = true) : (Jvm.Cond.selects "com/example/beleg/beleg/JsonOutput" ({ cls := "com/example/beleg/beleg/JsonOutput", name := "append", desc := "(Ljava/lang/String;)Lcom/example/beleg/beleg/JsonOutput;" } : Jvm.MethodName) ({ cls := "com/example/beleg/beleg/JsonOutput", name := "append", desc := "(Ljava/lang/String;)Lcom/example/beleg/beleg/JsonOutput;" } : Jvm.MethodName)).before a0 Z = true := hw _ (List.mem_of_getElem? (i := 96) rfl)
theorem w_97 {Z : State} {a0 : Array Value} (hw : ∀ d ∈ tables_1, d.before a0 Z = true) : (Jvm.Cond.code ({ cls := "com/example/beleg/beleg/JsonOutput", name := "append", desc := "(Ljava/lang/String;)Lcom/example/beleg/beleg/JsonOutput;" } : Jvm.MethodName) prog_11_method_6_code (2 : Nat) (Option.some (Jvm.ClassFile.FieldType.object "com/example/beleg/beleg/JsonOutput"))).before a0 Z = true := hw _ (List.mem_of_getElem? (i := 97) rfl)
theorem w_98 {Z : State} {a0 : Array Value} (hw : ∀ d ∈ tables_1, d.before a0 Z = true) : (Jvm.Cond.methodLink "com/example/beleg/beleg/JsonOutput" (49 : Nat) ({ cls := "java/lang/String", name := "length", desc := "()I" } : Jvm.MethodName)).before a0 Z = true := hw _ (List.mem_of_getElem? (i := 98) rfl)
theorem w_99 {Z : State} {a0 : Array Value} (hw : ∀ d ∈ tables_1, d.before a0 Z = true) : (Jvm.Cond.methodLink "com/example/beleg/beleg/JsonOutput" (54 : Nat) ({ cls := "com/example/beleg/beleg/JsonOutput", name := "append", desc := "(Ljava/lang/String;II)Lcom/example/beleg/beleg/JsonOutput;" } : Jvm.MethodName)).before a0 Z = true := hw _ (List.mem_of_getElem? (i := 99) rfl)
theorem w_100 {Z : State} {a0 : Array Value} (hw : ∀ d ∈ tables_1, d.before a0 Z = true) : (Jvm.Cond.declares ({ cls := "com/example/beleg/beleg/JsonOutput", name := "append", desc := "(Ljava/lang/String;II)Lcom/example/beleg/beleg/JsonOutput;" } : Jvm.MethodName)).before a0 Z = true := hw _ (List.mem_of_getElem? (i := 100) rfl)
theorem w_101 {Z : State} {a0 : Array Value} (hw : ∀ d ∈ tables_1, d.before a0 Z = true) : (Jvm.Cond.instanceMethod ({ cls := "com/example/beleg/beleg/JsonOutput", name := "append", desc := "(Ljava/lang/String;II)Lcom/example/beleg/beleg/JsonOutput;" } : Jvm.MethodName)).before a0 Z = true := hw _ (List.mem_of_getElem? (i := 101) rfl)
theorem w_102 {Z : State} {a0 : Array Value} (hw : ∀ d ∈ tables_1, d.before a0 Z = true) : (Jvm.Cond.selects "com/example/beleg/beleg/JsonOutput" ({ cls := "com/example/beleg/beleg/JsonOutput", name := "append", desc := "(Ljava/lang/String;II)Lcom/example/beleg/beleg/JsonOutput;" } : Jvm.MethodName) ({ cls := "com/example/beleg/beleg/JsonOutput", name := "append", desc := "(Ljava/lang/String;II)Lcom/example/beleg/beleg/JsonOutput;" } : Jvm.MethodName)).before a0 Z = true := hw _ (List.mem_of_getElem? (i := 102) rfl)
theorem w_103 {Z : State} {a0 : Array Value} (hw : ∀ d ∈ tables_1, d.before a0 Z = true) : (Jvm.Cond.code ({ cls := "com/example/beleg/beleg/JsonOutput", name := "append", desc := "(Ljava/lang/String;II)Lcom/example/beleg/beleg/JsonOutput;" } : Jvm.MethodName) prog_11_method_7_code (4 : Nat) (Option.some (Jvm.ClassFile.FieldType.object "com/example/beleg/beleg/JsonOutput"))).before a0 Z = true := hw _ (List.mem_of_getElem? (i := 103) rfl)
theorem w_104 {Z : State} {a0 : Array Value} (hw : ∀ d ∈ tables_1, d.before a0 Z = true) : (Jvm.Cond.methodLink "com/example/beleg/beleg/JsonOutput" (41 : Nat) ({ cls := "com/example/beleg/beleg/JsonOutput", name := "ensureRoom", desc := "(I)V" } : Jvm.MethodName)).before a0 Z = true := hw _ (List.mem_of_getElem? (i := 104) rfl)
theorem w_105 {Z : State} {a0 : Array Value} (hw : ∀ d ∈ tables_1, d.before a0 Z = true) : (Jvm.Cond.instanceMethod ({ cls := "com/example/beleg/beleg/JsonOutput", name := "ensureRoom", desc := "(I)V" } : Jvm.MethodName)).before a0 Z = true := hw _ (List.mem_of_getElem? (i := 105) rfl)
theorem w_106 {Z : State} {a0 : Array Value} (hw : ∀ d ∈ tables_1, d.before a0 Z = true) : (Jvm.Cond.privateMethod ({ cls := "com/example/beleg/beleg/JsonOutput", name := "ensureRoom", desc := "(I)V" } : Jvm.MethodName)).before a0 Z = true := hw _ (List.mem_of_getElem? (i := 106) rfl)
theorem w_107 {Z : State} {a0 : Array Value} (hw : ∀ d ∈ tables_1, d.before a0 Z = true) : (Jvm.Cond.code ({ cls := "com/example/beleg/beleg/JsonOutput", name := "ensureRoom", desc := "(I)V" } : Jvm.MethodName) prog_11_method_14_code (4 : Nat) (Option.none : Option Jvm.ClassFile.FieldType)).before a0 Z = true := hw _ (List.mem_of_getElem? (i := 107) rfl)
theorem w_108 {Z : State} {a0 : Array Value} (hw : ∀ d ∈ tables_1, d.before a0 Z = true) : (Jvm.Cond.methodLink "com/example/beleg/beleg/JsonOutput" (58 : Nat) ({ cls := "java/lang/String", name := "getChars", desc := "(II[CI)V" } : Jvm.MethodName)).before a0 Z = true := hw _ (List.mem_of_getElem? (i := 108) rfl)
theorem w_109 {Z : State} {a0 : Array Value} (hw : ∀ d ∈ tables_1, d.before a0 Z = true) : (Jvm.Cond.declares ({ cls := "java/lang/String", name := "getChars", desc := "(II[CI)V" } : Jvm.MethodName)).before a0 Z = true := hw _ (List.mem_of_getElem? (i := 109) rfl)
theorem w_110 {Z : State} {a0 : Array Value} (hw : ∀ d ∈ tables_1, d.before a0 Z = true) : (Jvm.Cond.instanceMethod ({ cls := "java/lang/String", name := "getChars", desc := "(II[CI)V" } : Jvm.MethodName)).before a0 Z = true := hw _ (List.mem_of_getElem? (i := 110) rfl)
theorem w_111 {Z : State} {a0 : Array Value} (hw : ∀ d ∈ tables_1, d.before a0 Z = true) : (Jvm.Cond.selects "java/lang/String" ({ cls := "java/lang/String", name := "getChars", desc := "(II[CI)V" } : Jvm.MethodName) ({ cls := "java/lang/String", name := "getChars", desc := "(II[CI)V" } : Jvm.MethodName)).before a0 Z = true := hw _ (List.mem_of_getElem? (i := 111) rfl)
theorem w_112 {Z : State} {a0 : Array Value} (hw : ∀ d ∈ tables_1, d.before a0 Z = true) : (Jvm.Cond.code ({ cls := "java/lang/String", name := "getChars", desc := "(II[CI)V" } : Jvm.MethodName) jdk_42_method_61_code (5 : Nat) (Option.none : Option Jvm.ClassFile.FieldType)).before a0 Z = true := hw _ (List.mem_of_getElem? (i := 112) rfl)
theorem w_113 {Z : State} {a0 : Array Value} (hw : ∀ d ∈ tables_1, d.before a0 Z = true) : (Jvm.Cond.methodLink "java/lang/String" (505 : Nat) ({ cls := "java/lang/String", name := "length", desc := "()I" } : Jvm.MethodName)).before a0 Z = true := hw _ (List.mem_of_getElem? (i := 113) rfl)
theorem w_114 {Z : State} {a0 : Array Value} (hw : ∀ d ∈ tables_1, d.before a0 Z = true) : (Jvm.Cond.methodLink "java/lang/String" (521 : Nat) ({ cls := "java/lang/String", name := "checkBoundsBeginEnd", desc := "(III)V" } : Jvm.MethodName)).before a0 Z = true := hw _ (List.mem_of_getElem? (i := 114) rfl)
theorem w_115 {Z : State} {a0 : Array Value} (hw : ∀ d ∈ tables_1, d.before a0 Z = true) : (Jvm.Cond.static ({ cls := "java/lang/String", name := "checkBoundsBeginEnd", desc := "(III)V" } : Jvm.MethodName)).before a0 Z = true := hw _ (List.mem_of_getElem? (i := 115) rfl)
theorem w_116 {Z : State} {a0 : Array Value} (hw : ∀ d ∈ tables_1, d.before a0 Z = true) : (Jvm.Cond.code ({ cls := "java/lang/String", name := "checkBoundsBeginEnd", desc := "(III)V" } : Jvm.MethodName) jdk_42_method_158_code (3 : Nat) (Option.none : Option Jvm.ClassFile.FieldType)).before a0 Z = true := hw _ (List.mem_of_getElem? (i := 116) rfl)
theorem w_117 {Z : State} {a0 : Array Value} (hw : ∀ d ∈ tables_1, d.before a0 Z = true) : (Jvm.Cond.methodLink "java/lang/String" (1062 : Nat) ({ cls := "jdk/internal/util/Preconditions", name := "checkFromToIndex", desc := "(IIILjava/util/function/BiFunction;)I" } : Jvm.MethodName)).before a0 Z = true := hw _ (List.mem_of_getElem? (i := 117) rfl)
theorem w_118 {Z : State} {a0 : Array Value} (hw : ∀ d ∈ tables_1, d.before a0 Z = true) : (Jvm.Cond.static ({ cls := "jdk/internal/util/Preconditions", name := "checkFromToIndex", desc := "(IIILjava/util/function/BiFunction;)I" } : Jvm.MethodName)).before a0 Z = true := hw _ (List.mem_of_getElem? (i := 118) rfl)
theorem w_119 {Z : State} {a0 : Array Value} (hw : ∀ d ∈ tables_1, d.before a0 Z = true) : (Jvm.Cond.code ({ cls := "jdk/internal/util/Preconditions", name := "checkFromToIndex", desc := "(IIILjava/util/function/BiFunction;)I" } : Jvm.MethodName) jdk_41_method_12_code (4 : Nat) (Option.some Jvm.ClassFile.FieldType.int)).before a0 Z = true := hw _ (List.mem_of_getElem? (i := 119) rfl)
theorem w_120 {Z : State} {a0 : Array Value} (hw : ∀ d ∈ tables_1, d.before a0 Z = true) : (Jvm.Cond.methodLink "java/lang/String" (492 : Nat) ({ cls := "java/lang/String", name := "isLatin1", desc := "()Z" } : Jvm.MethodName)).before a0 Z = true := hw _ (List.mem_of_getElem? (i := 120) rfl)
theorem w_121 {Z : State} {a0 : Array Value} (hw : ∀ d ∈ tables_1, d.before a0 Z = true) : (Jvm.Cond.declares ({ cls := "java/lang/String", name := "isLatin1", desc := "()Z" } : Jvm.MethodName)).before a0 Z = true := hw _ (List.mem_of_getElem? (i := 121) rfl)
theorem w_122 {Z : State} {a0 : Array Value} (hw : ∀ d ∈ tables_1, d.before a0 Z = true) : (Jvm.Cond.instanceMethod ({ cls := "java/lang/String", name := "isLatin1", desc := "()Z" } : Jvm.MethodName)).before a0 Z = true := hw _ (List.mem_of_getElem? (i := 122) rfl)
theorem w_123 {Z : State} {a0 : Array Value} (hw : ∀ d ∈ tables_1, d.before a0 Z = true) : (Jvm.Cond.selects "java/lang/String" ({ cls := "java/lang/String", name := "isLatin1", desc := "()Z" } : Jvm.MethodName) ({ cls := "java/lang/String", name := "isLatin1", desc := "()Z" } : Jvm.MethodName)).before a0 Z = true := hw _ (List.mem_of_getElem? (i := 123) rfl)
theorem w_124 {Z : State} {a0 : Array Value} (hw : ∀ d ∈ tables_1, d.before a0 Z = true) : (Jvm.Cond.code ({ cls := "java/lang/String", name := "isLatin1", desc := "()Z" } : Jvm.MethodName) jdk_42_method_154_code (1 : Nat) (Option.some Jvm.ClassFile.FieldType.boolean)).before a0 Z = true := hw _ (List.mem_of_getElem? (i := 124) rfl)
theorem w_125 {Z : State} {a0 : Array Value} (hw : ∀ d ∈ tables_1, d.before a0 Z = true) : (Jvm.Cond.methodLink "java/lang/String" (525 : Nat) ({ cls := "java/lang/StringLatin1", name := "getChars", desc := "([BII[CI)V" } : Jvm.MethodName)).before a0 Z = true := hw _ (List.mem_of_getElem? (i := 125) rfl)
theorem w_126 {Z : State} {a0 : Array Value} (hw : ∀ d ∈ tables_1, d.before a0 Z = true) : (Jvm.Cond.static ({ cls := "java/lang/StringLatin1", name := "getChars", desc := "([BII[CI)V" } : Jvm.MethodName)).before a0 Z = true := hw _ (List.mem_of_getElem? (i := 126) rfl)
theorem w_127 {Z : State} {a0 : Array Value} (hw : ∀ d ∈ tables_1, d.before a0 Z = true) : (Jvm.Cond.code ({ cls := "java/lang/StringLatin1", name := "getChars", desc := "([BII[CI)V" } : Jvm.MethodName) jdk_43_method_11_code (5 : Nat) (Option.none : Option Jvm.ClassFile.FieldType)).before a0 Z = true := hw _ (List.mem_of_getElem? (i := 127) rfl)
theorem w_128 {Z : State} {a0 : Array Value} (hw : ∀ d ∈ tables_1, d.before a0 Z = true) : (Jvm.Cond.methodLink "java/lang/StringLatin1" (13 : Nat) ({ cls := "java/lang/StringLatin1", name := "inflate", desc := "([BI[CII)V" } : Jvm.MethodName)).before a0 Z = true := hw _ (List.mem_of_getElem? (i := 128) rfl)
theorem w_129 {Z : State} {a0 : Array Value} (hw : ∀ d ∈ tables_1, d.before a0 Z = true) : (Jvm.Cond.static ({ cls := "java/lang/StringLatin1", name := "inflate", desc := "([BI[CII)V" } : Jvm.MethodName)).before a0 Z = true := hw _ (List.mem_of_getElem? (i := 129) rfl)
theorem w_130 {Z : State} {a0 : Array Value} (hw : ∀ d ∈ tables_1, d.before a0 Z = true) : (Jvm.Cond.code ({ cls := "java/lang/StringLatin1", name := "inflate", desc := "([BI[CII)V" } : Jvm.MethodName) jdk_43_method_49_code (6 : Nat) (Option.none : Option Jvm.ClassFile.FieldType)).before a0 Z = true := hw _ (List.mem_of_getElem? (i := 130) rfl)
theorem w_131 {Z : State} {a0 : Array Value} (hw : ∀ d ∈ tables_1, d.before a0 Z = true) : (Jvm.Cond.methodLink "com/example/beleg/beleg/JsonOutputToStringPinLaw" (20 : Nat) ({ cls := "com/example/beleg/beleg/JsonOutput", name := "append", desc := "(C)Lcom/example/beleg/beleg/JsonOutput;" } : Jvm.MethodName)).before a0 Z = true := hw _ (List.mem_of_getElem? (i := 131) rfl)
theorem w_132 {Z : State} {a0 : Array Value} (hw : ∀ d ∈ tables_1, d.before a0 Z = true) : (Jvm.Cond.declares ({ cls := "com/example/beleg/beleg/JsonOutput", name := "append", desc := "(C)Lcom/example/beleg/beleg/JsonOutput;" } : Jvm.MethodName)).before a0 Z = true := hw _ (List.mem_of_getElem? (i := 132) rfl)
theorem w_133 {Z : State} {a0 : Array Value} (hw : ∀ d ∈ tables_1, d.before a0 Z = true) : (Jvm.Cond.instanceMethod ({ cls := "com/example/beleg/beleg/JsonOutput", name := "append", desc := "(C)Lcom/example/beleg/beleg/JsonOutput;" } : Jvm.MethodName)).before a0 Z = true := hw _ (List.mem_of_getElem? (i := 133) rfl)
theorem w_134 {Z : State} {a0 : Array Value} (hw : ∀ d ∈ tables_1, d.before a0 Z = true) : (Jvm.Cond.selects "com/example/beleg/beleg/JsonOutput" ({ cls := "com/example/beleg/beleg/JsonOutput", name := "append", desc := "(C)Lcom/example/beleg/beleg/JsonOutput;" } : Jvm.MethodName) ({ cls := "com/example/beleg/beleg/JsonOutput", name := "append", desc := "(C)Lcom/example/beleg/beleg/JsonOutput;" } : Jvm.MethodName)).before a0 Z = true := hw _ (List.mem_of_getElem? (i := 134) rfl)
theorem w_135 {Z : State} {a0 : Array Value} (hw : ∀ d ∈ tables_1, d.before a0 Z = true) : (Jvm.Cond.code ({ cls := "com/example/beleg/beleg/JsonOutput", name := "append", desc := "(C)Lcom/example/beleg/beleg/JsonOutput;" } : Jvm.MethodName) prog_11_method_5_code (2 : Nat) (Option.some (Jvm.ClassFile.FieldType.object "com/example/beleg/beleg/JsonOutput"))).before a0 Z = true := hw _ (List.mem_of_getElem? (i := 135) rfl)
theorem w_136 {Z : State} {a0 : Array Value} (hw : ∀ d ∈ tables_1, d.before a0 Z = true) : (Jvm.Cond.constantLong "com/example/beleg/beleg/JsonOutput" (85 : Nat) (2147483639 : Int64)).before a0 Z = true := hw _ (List.mem_of_getElem? (i := 136) rfl)
theorem w_137 {Z : State} {a0 : Array Value} (hw : ∀ d ∈ tables_1, d.before a0 Z = true) : (Jvm.Cond.constantLong "com/example/beleg/beleg/JsonOutput" (96 : Nat) (2 : Int64)).before a0 Z = true := hw _ (List.mem_of_getElem? (i := 137) rfl)
theorem w_138 {Z : State} {a0 : Array Value} (hw : ∀ d ∈ tables_1, d.before a0 Z = true) : (Jvm.Cond.methodLink "com/example/beleg/beleg/JsonOutput" (98 : Nat) ({ cls := "java/lang/Math", name := "max", desc := "(JJ)J" } : Jvm.MethodName)).before a0 Z = true := hw _ (List.mem_of_getElem? (i := 138) rfl)
theorem w_139 {Z : State} {a0 : Array Value} (hw : ∀ d ∈ tables_1, d.before a0 Z = true) : (Jvm.Cond.static ({ cls := "java/lang/Math", name := "max", desc := "(JJ)J" } : Jvm.MethodName)).before a0 Z = true := hw _ (List.mem_of_getElem? (i := 139) rfl)
theorem w_140 {Z : State} {a0 : Array Value} (hw : ∀ d ∈ tables_1, d.before a0 Z = true) : (Jvm.Cond.initialized "java/lang/Math").before a0 Z = true := hw _ (List.mem_of_getElem? (i := 140) rfl)
theorem w_141 {Z : State} {a0 : Array Value} (hw : ∀ d ∈ tables_1, d.before a0 Z = true) : (Jvm.Cond.code ({ cls := "java/lang/Math", name := "max", desc := "(JJ)J" } : Jvm.MethodName) jdk_29_method_66_code (4 : Nat) (Option.some Jvm.ClassFile.FieldType.long)).before a0 Z = true := hw _ (List.mem_of_getElem? (i := 141) rfl)
theorem w_142 {Z : State} {a0 : Array Value} (hw : ∀ d ∈ tables_1, d.before a0 Z = true) : (Jvm.Cond.methodLink "com/example/beleg/beleg/JsonOutput" (104 : Nat) ({ cls := "java/lang/Math", name := "min", desc := "(JJ)J" } : Jvm.MethodName)).before a0 Z = true := hw _ (List.mem_of_getElem? (i := 142) rfl)
theorem w_143 {Z : State} {a0 : Array Value} (hw : ∀ d ∈ tables_1, d.before a0 Z = true) : (Jvm.Cond.static ({ cls := "java/lang/Math", name := "min", desc := "(JJ)J" } : Jvm.MethodName)).before a0 Z = true := hw _ (List.mem_of_getElem? (i := 143) rfl)
theorem w_144 {Z : State} {a0 : Array Value} (hw : ∀ d ∈ tables_1, d.before a0 Z = true) : (Jvm.Cond.code ({ cls := "java/lang/Math", name := "min", desc := "(JJ)J" } : Jvm.MethodName) jdk_29_method_70_code (4 : Nat) (Option.some Jvm.ClassFile.FieldType.long)).before a0 Z = true := hw _ (List.mem_of_getElem? (i := 144) rfl)
theorem w_145 {Z : State} {a0 : Array Value} (hw : ∀ d ∈ tables_1, d.before a0 Z = true) : (Jvm.Cond.methodLink "com/example/beleg/beleg/JsonOutput" (107 : Nat) ({ cls := "java/util/Arrays", name := "copyOf", desc := "([CI)[C" } : Jvm.MethodName)).before a0 Z = true := hw _ (List.mem_of_getElem? (i := 145) rfl)
theorem w_146 {Z : State} {a0 : Array Value} (hw : ∀ d ∈ tables_1, d.before a0 Z = true) : (Jvm.Cond.static ({ cls := "java/util/Arrays", name := "copyOf", desc := "([CI)[C" } : Jvm.MethodName)).before a0 Z = true := hw _ (List.mem_of_getElem? (i := 146) rfl)
theorem w_147 {Z : State} {a0 : Array Value} (hw : ∀ d ∈ tables_1, d.before a0 Z = true) : (Jvm.Cond.initialized "java/util/Arrays").before a0 Z = true := hw _ (List.mem_of_getElem? (i := 147) rfl)
theorem w_148 {Z : State} {a0 : Array Value} (hw : ∀ d ∈ tables_1, d.before a0 Z = true) : (Jvm.Cond.code ({ cls := "java/util/Arrays", name := "copyOf", desc := "([CI)[C" } : Jvm.MethodName) jdk_65_method_125_code (3 : Nat) (Option.some (Jvm.ClassFile.FieldType.array Jvm.ClassFile.FieldType.char))).before a0 Z = true := hw _ (List.mem_of_getElem? (i := 148) rfl)
theorem w_149 {Z : State} {a0 : Array Value} (hw : ∀ d ∈ tables_1, d.before a0 Z = true) : (Jvm.Cond.methodLink "java/util/Arrays" (304 : Nat) ({ cls := "java/lang/Math", name := "min", desc := "(II)I" } : Jvm.MethodName)).before a0 Z = true := hw _ (List.mem_of_getElem? (i := 149) rfl)
theorem w_150 {Z : State} {a0 : Array Value} (hw : ∀ d ∈ tables_1, d.before a0 Z = true) : (Jvm.Cond.static ({ cls := "java/lang/Math", name := "min", desc := "(II)I" } : Jvm.MethodName)).before a0 Z = true := hw _ (List.mem_of_getElem? (i := 150) rfl)
theorem w_151 {Z : State} {a0 : Array Value} (hw : ∀ d ∈ tables_1, d.before a0 Z = true) : (Jvm.Cond.code ({ cls := "java/lang/Math", name := "min", desc := "(II)I" } : Jvm.MethodName) jdk_29_method_69_code (2 : Nat) (Option.some Jvm.ClassFile.FieldType.int)).before a0 Z = true := hw _ (List.mem_of_getElem? (i := 151) rfl)
theorem w_152 {Z : State} {a0 : Array Value} (hw : ∀ d ∈ tables_1, d.before a0 Z = true) : (Jvm.Cond.methodLink "java/util/Arrays" (150 : Nat) ({ cls := "java/lang/System", name := "arraycopy", desc := "(Ljava/lang/Object;ILjava/lang/Object;II)V" } : Jvm.MethodName)).before a0 Z = true := hw _ (List.mem_of_getElem? (i := 152) rfl)
theorem w_153 {Z : State} {a0 : Array Value} (hw : ∀ d ∈ tables_1, d.before a0 Z = true) : (Jvm.Cond.static ({ cls := "java/lang/System", name := "arraycopy", desc := "(Ljava/lang/Object;ILjava/lang/Object;II)V" } : Jvm.MethodName)).before a0 Z = true := hw _ (List.mem_of_getElem? (i := 153) rfl)
theorem w_154 {Z : State} {a0 : Array Value} (hw : ∀ d ∈ tables_1, d.before a0 Z = true) : (Jvm.Cond.initialized "java/lang/System").before a0 Z = true := hw _ (List.mem_of_getElem? (i := 154) rfl)
theorem w_155 {Z : State} {a0 : Array Value} (hw : ∀ d ∈ tables_1, d.before a0 Z = true) : (Jvm.Cond.native ({ cls := "java/lang/System", name := "arraycopy", desc := "(Ljava/lang/Object;ILjava/lang/Object;II)V" } : Jvm.MethodName)).before a0 Z = true := hw _ (List.mem_of_getElem? (i := 155) rfl)
theorem w_156 {Z : State} {a0 : Array Value} (hw : ∀ d ∈ tables_1, d.before a0 Z = true) : (Jvm.Cond.methodLink "com/example/beleg/beleg/JsonOutputToStringPinLaw" (36 : Nat) ({ cls := "java/lang/String", name := "charAt", desc := "(I)C" } : Jvm.MethodName)).before a0 Z = true := hw _ (List.mem_of_getElem? (i := 156) rfl)
theorem w_157 {Z : State} {a0 : Array Value} (hw : ∀ d ∈ tables_1, d.before a0 Z = true) : (Jvm.Cond.declares ({ cls := "java/lang/String", name := "charAt", desc := "(I)C" } : Jvm.MethodName)).before a0 Z = true := hw _ (List.mem_of_getElem? (i := 157) rfl)
theorem w_158 {Z : State} {a0 : Array Value} (hw : ∀ d ∈ tables_1, d.before a0 Z = true) : (Jvm.Cond.instanceMethod ({ cls := "java/lang/String", name := "charAt", desc := "(I)C" } : Jvm.MethodName)).before a0 Z = true := hw _ (List.mem_of_getElem? (i := 158) rfl)
theorem w_159 {Z : State} {a0 : Array Value} (hw : ∀ d ∈ tables_1, d.before a0 Z = true) : (Jvm.Cond.selects "java/lang/String" ({ cls := "java/lang/String", name := "charAt", desc := "(I)C" } : Jvm.MethodName) ({ cls := "java/lang/String", name := "charAt", desc := "(I)C" } : Jvm.MethodName)).before a0 Z = true := hw _ (List.mem_of_getElem? (i := 159) rfl)
theorem w_160 {Z : State} {a0 : Array Value} (hw : ∀ d ∈ tables_1, d.before a0 Z = true) : (Jvm.Cond.code ({ cls := "java/lang/String", name := "charAt", desc := "(I)C" } : Jvm.MethodName) jdk_42_method_56_code (2 : Nat) (Option.some Jvm.ClassFile.FieldType.char)).before a0 Z = true := hw _ (List.mem_of_getElem? (i := 160) rfl)
theorem w_161 {Z : State} {a0 : Array Value} (hw : ∀ d ∈ tables_1, d.before a0 Z = true) : (Jvm.Cond.methodLink "java/lang/String" (495 : Nat) ({ cls := "java/lang/StringLatin1", name := "charAt", desc := "([BI)C" } : Jvm.MethodName)).before a0 Z = true := hw _ (List.mem_of_getElem? (i := 161) rfl)
theorem w_162 {Z : State} {a0 : Array Value} (hw : ∀ d ∈ tables_1, d.before a0 Z = true) : (Jvm.Cond.static ({ cls := "java/lang/StringLatin1", name := "charAt", desc := "([BI)C" } : Jvm.MethodName)).before a0 Z = true := hw _ (List.mem_of_getElem? (i := 162) rfl)
theorem w_163 {Z : State} {a0 : Array Value} (hw : ∀ d ∈ tables_1, d.before a0 Z = true) : (Jvm.Cond.code ({ cls := "java/lang/StringLatin1", name := "charAt", desc := "([BI)C" } : Jvm.MethodName) jdk_43_method_2_code (2 : Nat) (Option.some Jvm.ClassFile.FieldType.char)).before a0 Z = true := hw _ (List.mem_of_getElem? (i := 163) rfl)
theorem w_164 {Z : State} {a0 : Array Value} (hw : ∀ d ∈ tables_1, d.before a0 Z = true) : (Jvm.Cond.methodLink "java/lang/StringLatin1" (9 : Nat) ({ cls := "java/lang/String", name := "checkIndex", desc := "(II)V" } : Jvm.MethodName)).before a0 Z = true := hw _ (List.mem_of_getElem? (i := 164) rfl)
theorem w_165 {Z : State} {a0 : Array Value} (hw : ∀ d ∈ tables_1, d.before a0 Z = true) : (Jvm.Cond.static ({ cls := "java/lang/String", name := "checkIndex", desc := "(II)V" } : Jvm.MethodName)).before a0 Z = true := hw _ (List.mem_of_getElem? (i := 165) rfl)
theorem w_166 {Z : State} {a0 : Array Value} (hw : ∀ d ∈ tables_1, d.before a0 Z = true) : (Jvm.Cond.code ({ cls := "java/lang/String", name := "checkIndex", desc := "(II)V" } : Jvm.MethodName) jdk_42_method_155_code (2 : Nat) (Option.none : Option Jvm.ClassFile.FieldType)).before a0 Z = true := hw _ (List.mem_of_getElem? (i := 166) rfl)
theorem w_167 {Z : State} {a0 : Array Value} (hw : ∀ d ∈ tables_1, d.before a0 Z = true) : (Jvm.Cond.methodLink "java/lang/String" (1059 : Nat) ({ cls := "jdk/internal/util/Preconditions", name := "checkIndex", desc := "(IILjava/util/function/BiFunction;)I" } : Jvm.MethodName)).before a0 Z = true := hw _ (List.mem_of_getElem? (i := 167) rfl)
theorem w_168 {Z : State} {a0 : Array Value} (hw : ∀ d ∈ tables_1, d.before a0 Z = true) : (Jvm.Cond.static ({ cls := "jdk/internal/util/Preconditions", name := "checkIndex", desc := "(IILjava/util/function/BiFunction;)I" } : Jvm.MethodName)).before a0 Z = true := hw _ (List.mem_of_getElem? (i := 168) rfl)
theorem w_169 {Z : State} {a0 : Array Value} (hw : ∀ d ∈ tables_1, d.before a0 Z = true) : (Jvm.Cond.code ({ cls := "jdk/internal/util/Preconditions", name := "checkIndex", desc := "(IILjava/util/function/BiFunction;)I" } : Jvm.MethodName) jdk_41_method_11_code (3 : Nat) (Option.some Jvm.ClassFile.FieldType.int)).before a0 Z = true := hw _ (List.mem_of_getElem? (i := 169) rfl)
theorem w_170 {Z : State} {a0 : Array Value} (hw : ∀ d ∈ tables_1, d.before a0 Z = true) : (Jvm.Cond.methodLink "java/lang/StringUTF16" (119 : Nat) ({ cls := "java/lang/StringUTF16", name := "toBytes", desc := "([CII)[B" } : Jvm.MethodName)).before a0 Z = true := hw _ (List.mem_of_getElem? (i := 170) rfl)
theorem w_171 {Z : State} {a0 : Array Value} (hw : ∀ d ∈ tables_1, d.before a0 Z = true) : (Jvm.Cond.static ({ cls := "java/lang/StringUTF16", name := "toBytes", desc := "([CII)[B" } : Jvm.MethodName)).before a0 Z = true := hw _ (List.mem_of_getElem? (i := 171) rfl)
theorem w_172 {Z : State} {a0 : Array Value} (hw : ∀ d ∈ tables_1, d.before a0 Z = true) : (Jvm.Cond.code ({ cls := "java/lang/StringUTF16", name := "toBytes", desc := "([CII)[B" } : Jvm.MethodName) jdk_52_method_14_code (5 : Nat) (Option.some (Jvm.ClassFile.FieldType.array Jvm.ClassFile.FieldType.byte))).before a0 Z = true := hw _ (List.mem_of_getElem? (i := 172) rfl)
theorem w_173 {Z : State} {a0 : Array Value} (hw : ∀ d ∈ tables_1, d.before a0 Z = true) : (Jvm.Cond.methodLink "java/lang/StringUTF16" (107 : Nat) ({ cls := "java/lang/StringUTF16", name := "newBytesFor", desc := "(I)[B" } : Jvm.MethodName)).before a0 Z = true := hw _ (List.mem_of_getElem? (i := 173) rfl)
theorem w_174 {Z : State} {a0 : Array Value} (hw : ∀ d ∈ tables_1, d.before a0 Z = true) : (Jvm.Cond.static ({ cls := "java/lang/StringUTF16", name := "newBytesFor", desc := "(I)[B" } : Jvm.MethodName)).before a0 Z = true := hw _ (List.mem_of_getElem? (i := 174) rfl)
theorem w_175 {Z : State} {a0 : Array Value} (hw : ∀ d ∈ tables_1, d.before a0 Z = true) : (Jvm.Cond.code ({ cls := "java/lang/StringUTF16", name := "newBytesFor", desc := "(I)[B" } : Jvm.MethodName) jdk_52_method_2_code (1 : Nat) (Option.some (Jvm.ClassFile.FieldType.array Jvm.ClassFile.FieldType.byte))).before a0 Z = true := hw _ (List.mem_of_getElem? (i := 175) rfl)
theorem w_176 {Z : State} {a0 : Array Value} (hw : ∀ d ∈ tables_1, d.before a0 Z = true) : (Jvm.Cond.methodLink "java/lang/StringUTF16" (11 : Nat) ({ cls := "java/lang/StringUTF16", name := "newBytesLength", desc := "(I)I" } : Jvm.MethodName)).before a0 Z = true := hw _ (List.mem_of_getElem? (i := 176) rfl)
theorem w_177 {Z : State} {a0 : Array Value} (hw : ∀ d ∈ tables_1, d.before a0 Z = true) : (Jvm.Cond.static ({ cls := "java/lang/StringUTF16", name := "newBytesLength", desc := "(I)I" } : Jvm.MethodName)).before a0 Z = true := hw _ (List.mem_of_getElem? (i := 177) rfl)
theorem w_178 {Z : State} {a0 : Array Value} (hw : ∀ d ∈ tables_1, d.before a0 Z = true) : (Jvm.Cond.code ({ cls := "java/lang/StringUTF16", name := "newBytesLength", desc := "(I)I" } : Jvm.MethodName) jdk_52_method_3_code (1 : Nat) (Option.some Jvm.ClassFile.FieldType.int)).before a0 Z = true := hw _ (List.mem_of_getElem? (i := 178) rfl)
theorem w_179 {Z : State} {a0 : Array Value} (hw : ∀ d ∈ tables_1, d.before a0 Z = true) : (Jvm.Cond.constant "java/lang/StringUTF16" (20 : Nat) (1073741823 : Int32)).before a0 Z = true := hw _ (List.mem_of_getElem? (i := 179) rfl)
theorem w_180 {Z : State} {a0 : Array Value} (hw : ∀ d ∈ tables_1, d.before a0 Z = true) : (Jvm.Cond.methodLink "java/lang/StringUTF16" (111 : Nat) ({ cls := "java/lang/StringUTF16", name := "putChar", desc := "([BII)V" } : Jvm.MethodName)).before a0 Z = true := hw _ (List.mem_of_getElem? (i := 180) rfl)
theorem w_181 {Z : State} {a0 : Array Value} (hw : ∀ d ∈ tables_1, d.before a0 Z = true) : (Jvm.Cond.static ({ cls := "java/lang/StringUTF16", name := "putChar", desc := "([BII)V" } : Jvm.MethodName)).before a0 Z = true := hw _ (List.mem_of_getElem? (i := 181) rfl)
theorem w_182 {Z : State} {a0 : Array Value} (hw : ∀ d ∈ tables_1, d.before a0 Z = true) : (Jvm.Cond.code ({ cls := "java/lang/StringUTF16", name := "putChar", desc := "([BII)V" } : Jvm.MethodName) jdk_52_method_4_code (3 : Nat) (Option.none : Option Jvm.ClassFile.FieldType)).before a0 Z = true := hw _ (List.mem_of_getElem? (i := 182) rfl)
theorem w_183 {Z : State} {a0 : Array Value} (hw : ∀ d ∈ tables_1, d.before a0 Z = true) : (Jvm.Cond.fieldLink "java/lang/StringUTF16" (44 : Nat) "java/lang/StringUTF16" "$assertionsDisabled" "Z").before a0 Z = true := hw _ (List.mem_of_getElem? (i := 183) rfl)
theorem w_184 {Z : State} {a0 : Array Value} (hw : ∀ d ∈ tables_1, d.before a0 Z = true) : (Jvm.Cond.fieldLink "java/lang/StringUTF16" (59 : Nat) "java/lang/StringUTF16" "HI_BYTE_SHIFT" "I").before a0 Z = true := hw _ (List.mem_of_getElem? (i := 184) rfl)
theorem w_185 {Z : State} {a0 : Array Value} (hw : ∀ d ∈ tables_1, d.before a0 Z = true) : (Jvm.Cond.fieldLink "java/lang/StringUTF16" (63 : Nat) "java/lang/StringUTF16" "LO_BYTE_SHIFT" "I").before a0 Z = true := hw _ (List.mem_of_getElem? (i := 185) rfl)
theorem w_186 {Z : State} {a0 : Array Value} (hw : ∀ d ∈ tables_1, d.before a0 Z = true) : (Jvm.Cond.methodLink "java/lang/StringUTF16" (71 : Nat) ({ cls := "java/lang/StringUTF16", name := "getChar", desc := "([BI)C" } : Jvm.MethodName)).before a0 Z = true := hw _ (List.mem_of_getElem? (i := 186) rfl)
theorem w_187 {Z : State} {a0 : Array Value} (hw : ∀ d ∈ tables_1, d.before a0 Z = true) : (Jvm.Cond.static ({ cls := "java/lang/StringUTF16", name := "getChar", desc := "([BI)C" } : Jvm.MethodName)).before a0 Z = true := hw _ (List.mem_of_getElem? (i := 187) rfl)
theorem w_188 {Z : State} {a0 : Array Value} (hw : ∀ d ∈ tables_1, d.before a0 Z = true) : (Jvm.Cond.code ({ cls := "java/lang/StringUTF16", name := "getChar", desc := "([BI)C" } : Jvm.MethodName) jdk_52_method_5_code (2 : Nat) (Option.some Jvm.ClassFile.FieldType.char)).before a0 Z = true := hw _ (List.mem_of_getElem? (i := 188) rfl)
theorem w_189 {Z : State} {a0 : Array Value} (hw : ∀ d ∈ tables_1, d.before a0 Z = true) : (Jvm.Cond.methodLink "java/lang/String" (498 : Nat) ({ cls := "java/lang/StringUTF16", name := "charAt", desc := "([BI)C" } : Jvm.MethodName)).before a0 Z = true := hw _ (List.mem_of_getElem? (i := 189) rfl)
theorem w_190 {Z : State} {a0 : Array Value} (hw : ∀ d ∈ tables_1, d.before a0 Z = true) : (Jvm.Cond.static ({ cls := "java/lang/StringUTF16", name := "charAt", desc := "([BI)C" } : Jvm.MethodName)).before a0 Z = true := hw _ (List.mem_of_getElem? (i := 190) rfl)
theorem w_191 {Z : State} {a0 : Array Value} (hw : ∀ d ∈ tables_1, d.before a0 Z = true) : (Jvm.Cond.code ({ cls := "java/lang/StringUTF16", name := "charAt", desc := "([BI)C" } : Jvm.MethodName) jdk_52_method_83_code (2 : Nat) (Option.some Jvm.ClassFile.FieldType.char)).before a0 Z = true := hw _ (List.mem_of_getElem? (i := 191) rfl)
theorem w_192 {Z : State} {a0 : Array Value} (hw : ∀ d ∈ tables_1, d.before a0 Z = true) : (Jvm.Cond.methodLink "java/lang/StringUTF16" (67 : Nat) ({ cls := "java/lang/StringUTF16", name := "checkIndex", desc := "(I[B)V" } : Jvm.MethodName)).before a0 Z = true := hw _ (List.mem_of_getElem? (i := 192) rfl)
theorem w_193 {Z : State} {a0 : Array Value} (hw : ∀ d ∈ tables_1, d.before a0 Z = true) : (Jvm.Cond.static ({ cls := "java/lang/StringUTF16", name := "checkIndex", desc := "(I[B)V" } : Jvm.MethodName)).before a0 Z = true := hw _ (List.mem_of_getElem? (i := 193) rfl)
theorem w_194 {Z : State} {a0 : Array Value} (hw : ∀ d ∈ tables_1, d.before a0 Z = true) : (Jvm.Cond.code ({ cls := "java/lang/StringUTF16", name := "checkIndex", desc := "(I[B)V" } : Jvm.MethodName) jdk_52_method_91_code (2 : Nat) (Option.none : Option Jvm.ClassFile.FieldType)).before a0 Z = true := hw _ (List.mem_of_getElem? (i := 194) rfl)
theorem w_195 {Z : State} {a0 : Array Value} (hw : ∀ d ∈ tables_1, d.before a0 Z = true) : (Jvm.Cond.methodLink "java/lang/StringUTF16" (48 : Nat) ({ cls := "java/lang/StringUTF16", name := "length", desc := "([B)I" } : Jvm.MethodName)).before a0 Z = true := hw _ (List.mem_of_getElem? (i := 195) rfl)
theorem w_196 {Z : State} {a0 : Array Value} (hw : ∀ d ∈ tables_1, d.before a0 Z = true) : (Jvm.Cond.static ({ cls := "java/lang/StringUTF16", name := "length", desc := "([B)I" } : Jvm.MethodName)).before a0 Z = true := hw _ (List.mem_of_getElem? (i := 196) rfl)
theorem w_197 {Z : State} {a0 : Array Value} (hw : ∀ d ∈ tables_1, d.before a0 Z = true) : (Jvm.Cond.code ({ cls := "java/lang/StringUTF16", name := "length", desc := "([B)I" } : Jvm.MethodName) jdk_52_method_6_code (1 : Nat) (Option.some Jvm.ClassFile.FieldType.int)).before a0 Z = true := hw _ (List.mem_of_getElem? (i := 197) rfl)
theorem w_198 {Z : State} {a0 : Array Value} (hw : ∀ d ∈ tables_1, d.before a0 Z = true) : (Jvm.Cond.methodLink "java/lang/StringUTF16" (414 : Nat) ({ cls := "java/lang/String", name := "checkIndex", desc := "(II)V" } : Jvm.MethodName)).before a0 Z = true := hw _ (List.mem_of_getElem? (i := 198) rfl)
theorem w_199 {Z : State} {a0 : Array Value} (hw : ∀ d ∈ tables_1, d.before a0 Z = true) : (Jvm.Cond.methodLink "java/lang/String" (529 : Nat) ({ cls := "java/lang/StringUTF16", name := "getChars", desc := "([BII[CI)V" } : Jvm.MethodName)).before a0 Z = true := hw _ (List.mem_of_getElem? (i := 199) rfl)
theorem w_200 {Z : State} {a0 : Array Value} (hw : ∀ d ∈ tables_1, d.before a0 Z = true) : (Jvm.Cond.static ({ cls := "java/lang/StringUTF16", name := "getChars", desc := "([BII[CI)V" } : Jvm.MethodName)).before a0 Z = true := hw _ (List.mem_of_getElem? (i := 200) rfl)
theorem w_201 {Z : State} {a0 : Array Value} (hw : ∀ d ∈ tables_1, d.before a0 Z = true) : (Jvm.Cond.code ({ cls := "java/lang/StringUTF16", name := "getChars", desc := "([BII[CI)V" } : Jvm.MethodName) jdk_52_method_26_code (6 : Nat) (Option.none : Option Jvm.ClassFile.FieldType)).before a0 Z = true := hw _ (List.mem_of_getElem? (i := 201) rfl)
theorem w_202 {Z : State} {a0 : Array Value} (hw : ∀ d ∈ tables_1, d.before a0 Z = true) : (Jvm.Cond.methodLink "java/lang/StringUTF16" (173 : Nat) ({ cls := "java/lang/StringUTF16", name := "checkBoundsOffCount", desc := "(II[B)V" } : Jvm.MethodName)).before a0 Z = true := hw _ (List.mem_of_getElem? (i := 202) rfl)
theorem w_203 {Z : State} {a0 : Array Value} (hw : ∀ d ∈ tables_1, d.before a0 Z = true) : (Jvm.Cond.static ({ cls := "java/lang/StringUTF16", name := "checkBoundsOffCount", desc := "(II[B)V" } : Jvm.MethodName)).before a0 Z = true := hw _ (List.mem_of_getElem? (i := 203) rfl)
theorem w_204 {Z : State} {a0 : Array Value} (hw : ∀ d ∈ tables_1, d.before a0 Z = true) : (Jvm.Cond.code ({ cls := "java/lang/StringUTF16", name := "checkBoundsOffCount", desc := "(II[B)V" } : Jvm.MethodName) jdk_52_method_94_code (3 : Nat) (Option.none : Option Jvm.ClassFile.FieldType)).before a0 Z = true := hw _ (List.mem_of_getElem? (i := 204) rfl)
theorem w_205 {Z : State} {a0 : Array Value} (hw : ∀ d ∈ tables_1, d.before a0 Z = true) : (Jvm.Cond.methodLink "java/lang/StringUTF16" (419 : Nat) ({ cls := "java/lang/String", name := "checkBoundsOffCount", desc := "(III)I" } : Jvm.MethodName)).before a0 Z = true := hw _ (List.mem_of_getElem? (i := 205) rfl)
theorem sA {Z : State} {a0 : Array Value} (hw : ∀ d ∈ tables_1, d.before a0 Z = true) : ∀ a ∈ Bundle.stringAtoms, a.before a0 Z = true := fun a ha => by
  simp only [Bundle.stringAtoms, List.mem_cons, List.not_mem_nil, or_false] at ha
  rcases ha with rfl | rfl | rfl | rfl | rfl | rfl | rfl
  · exact w_4 hw
  · exact w_3 hw
  · exact w_20 hw
  · exact w_30 hw
  · exact w_28 hw
  · exact w_66 hw
  · exact w_67 hw
abbrev RL_ucl : Room := { frames := 0, cells := 0, slots := 0, locals := 0 }
set_option maxRecDepth 65536 in
set_option maxHeartbeats 40000000 in
theorem m_ucl_loop {l : Launch} {Z : State} {n0 : Nat} {h0 : Heap} {Q : Option Value → Heap → List Addr → Prop} {c t : Addr} {kc kt : ClassId} {cs : List Int32} {zc z : Int32} (hz : z.toNatClampNeg = cs.length) (zn : ¬ z < 0) (hle : ¬ zc < z) (ne_c_t : c ≠ t)
    (K1 : ∀ h' o, Arv Z h' t kt .byte z (cs.map lowV) (.int (0 : Int32)) → (∀ x ∈ cs, ¬ 255 < x) → Go l Z EL0 n0 NR0 KN0 N_0 jdk_52_method_21_code 7 (Option.some Jvm.ClassFile.FieldType.int) RL_ucl h0 [t] Q [t] h' 0 0 44 #[.val (.ref c), .val (.int (Int32.ofNat cs.length)), .val (.ref t), .val (.int (Int32.ofNat cs.length)), .val (.int z), .val (.int (Int32.ofNat cs.length)), o] [])
    (K2 : ∀ h' i vs, i < cs.length → 255 < cs.getD i 0 → Arv Z h' t kt .byte z vs (.int (0 : Int32)) → Go l Z EL0 n0 NR0 KN0 N_0 jdk_52_method_21_code 7 (Option.some Jvm.ClassFile.FieldType.int) RL_ucl h0 [t] Q [t] h' 0 0 23 #[.val (.ref c), .val (.int (Int32.ofNat i)), .val (.ref t), .val (.int (Int32.ofNat i)), .val (.int z), .val (.int (Int32.ofNat i)), .val (.int (cs.getD i 0))] []) :
    ∀ (m i : Nat) (h : Heap) (o : Slot), i + m = cs.length → One o → Arv Z h c kc .char zc (cs.map Value.int) (.int (0 : Int32)) → Arv Z h t kt .byte z ((cs.take i).map lowV ++ List.replicate m (.int (0 : Int32))) (.int (0 : Int32)) → (∀ x ∈ cs.take i, ¬ 255 < x) →
      Go l Z EL0 n0 NR0 KN0 N_0 jdk_52_method_21_code 7 (Option.some Jvm.ClassFile.FieldType.int) RL_ucl h0 [t] Q [t] h 0 0 3 #[.val (.ref c), .val (.int (Int32.ofNat i)), .val (.ref t), .val (.int (Int32.ofNat i)), .val (.int z), .val (.int (Int32.ofNat i)), o] [] := by
  have q := (back32 zn).2
  intro m
  induction m with
  | zero =>
    intro i h o hi ho V_c V_t ha
    obtain rfl : i = cs.length := by omega
    refine Go.iload (pc' := 5) d_jdk_52_method_21_3 rfl rfl ?_
    refine Go.iload (pc' := 7) d_jdk_52_method_21_5 rfl rfl ?_
    refine Go.icmpY (pc' := 44) d_jdk_52_method_21_7 (by decide) (by decide) (flt (ofNat_ge zn (by omega) (Nat.le_of_eq hz) : ¬ ((Int32.ofNat cs.length) < z))).2.1 ?_
    refine K1 h o ?_ (by rw [List.take_length] at ha; exact ha)
    simpa using V_t
  | succ m ih =>
    intro i h o hi ho V_c V_t ha
    have hi2 : i < cs.length := by omega
    have ci := ofNat_clamp (i := i) (by omega)
    have nn := ofNat_nn (i := i) (by omega)
    have lt := ofNat_lt (i := i) zn (by omega)
    have ltc := own_ltle lt hle
    refine Go.iload (pc' := 5) d_jdk_52_method_21_3 rfl rfl ?_
    refine Go.iload (pc' := 7) d_jdk_52_method_21_5 rfl rfl ?_
    refine Go.icmpN (pc' := 10) d_jdk_52_method_21_7 rfl (tlt (lt : (Int32.ofNat i) < z)).2.1 ?_
    refine Go.aload_n (pc' := 11) d_jdk_52_method_21_10 rfl rfl rfl ?_
    refine Go.iload_n (pc' := 12) d_jdk_52_method_21_11 rfl rfl ?_
    refine Go.caloadV (pc' := 13) (v := (.int (cs.getD i 0))) d_jdk_52_method_21_12 rfl V_c ⟨nn, ltc⟩ (by rw [ci]; exact getD_int cs i) ?_
    refine Go.istoreS (pc' := 15) (Ls' := #[.val (.ref c), .val (.int (Int32.ofNat i)), .val (.ref t), .val (.int (Int32.ofNat i)), .val (.int z), .val (.int (Int32.ofNat i)), .val (.int (cs.getD i 0))]) d_jdk_52_method_21_13 rfl rfl ho rfl ?_
    refine Go.iload (pc' := 17) d_jdk_52_method_21_15 rfl rfl ?_
    refine Go.sipush (pc' := 20) d_jdk_52_method_21_17 rfl ics_255 ?_
    by_cases h1 : (255 : Int32) < (cs.getD i 0)
    · skip
      refine Go.icmpN (pc' := 23) d_jdk_52_method_21_20 rfl (tlt (h1 : (255 : Int32) < (cs.getD i 0))).2.2.2 ?_
      exact K2 h i _ hi2 h1 V_t
    · skip
      refine Go.icmpY (pc' := 26) d_jdk_52_method_21_20 (by decide) (by decide) (flt (h1 : ¬ ((255 : Int32) < (cs.getD i 0)))).2.2.2 ?_
      refine Go.aload_n (pc' := 27) d_jdk_52_method_21_26 rfl rfl rfl ?_
      refine Go.iload_n (pc' := 28) d_jdk_52_method_21_27 rfl rfl ?_
      refine Go.iload (pc' := 30) d_jdk_52_method_21_28 rfl rfl ?_
      refine Go.i2b (pc' := 31) d_jdk_52_method_21_30 rfl ?_
      refine Go.bastoreV (pc' := 32) (i := i) d_jdk_52_method_21_31 rfl (List.mem_of_getElem? (i := 0) rfl) V_t ⟨nn, lt⟩ ci (by simp; omega) ?_
      intro h2 W2 V_t2
      rw [nar_byte] at V_t2
      have V_t3 := V_t2
      rw [show (Value.int (cs.getD i 0).toInt8.toInt32) = lowV (cs.getD i 0) from rfl, set_low cs i m hi2] at V_t3
      replace V_c := V_c.other W2 ne_c_t
      change Go _ _ _ _ _ _ _ _ _ _ _ _ _ _ [t] h2 0 0 32 #[.val (.ref c), .val (.int (Int32.ofNat i)), .val (.ref t), .val (.int (Int32.ofNat i)), .val (.int z), .val (.int (Int32.ofNat i)), .val (.int (cs.getD i 0))] []
      refine Go.iinc (pc' := 35) (Ls' := #[.val (.ref c), .val (.int ((Int32.ofNat i) + (1 : Int32))), .val (.ref t), .val (.int (Int32.ofNat i)), .val (.int z), .val (.int (Int32.ofNat i)), .val (.int (cs.getD i 0))]) d_jdk_52_method_21_32 rfl ic_1 rfl rfl ?_
      refine Go.iinc (pc' := 38) (Ls' := #[.val (.ref c), .val (.int ((Int32.ofNat i) + (1 : Int32))), .val (.ref t), .val (.int ((Int32.ofNat i) + (1 : Int32))), .val (.int z), .val (.int (Int32.ofNat i)), .val (.int (cs.getD i 0))]) d_jdk_52_method_21_35 rfl ic_1 rfl rfl ?_
      refine Go.iinc (pc' := 41) (Ls' := #[.val (.ref c), .val (.int ((Int32.ofNat i) + (1 : Int32))), .val (.ref t), .val (.int ((Int32.ofNat i) + (1 : Int32))), .val (.int z), .val (.int ((Int32.ofNat i) + (1 : Int32))), .val (.int (cs.getD i 0))]) d_jdk_52_method_21_38 rfl ic_1 rfl rfl ?_
      refine Go.goto (pc' := 3) d_jdk_52_method_21_41 (by decide) (by decide) ?_
      rw [ofNat_succ i]
      exact ih (i + 1) h2 _ (by omega) (One.val rfl) V_c V_t3 (own_take_all hi2 ha h1)
abbrev R_m_ucl : Room := { frames := 0, cells := 0, slots := 0, locals := 0 }
theorem pn_m_ucl : plainFor (⟨"java/lang/StringUTF16", "compress", "([CI[BII)I"⟩ : MethodName) = true := by first | (refine plainFor_of_name ?_; simp [plainName, overriddenIn]; done) | decide +kernel
abbrev Q_m_ucl (Z : State) (c : Addr) (t : Addr) (kc : ClassId) (kt : ClassId) (cs : List Int32) (zc : Int32) (z : Int32) (h0 : Heap) : Option Value → Heap → List Addr → Prop := fun res h' SN => ∃ (r : Int32) (vs : List Value), res = some (.int r) ∧ SN = [] ∧ Arv Z h' t kt .byte z vs (.int (0 : Int32)) ∧ ((r = z ∧ vs = cs.map lowV ∧ ∀ x ∈ cs, ¬ 255 < x) ∨ (¬ r < 0 ∧ r < z ∧ 255 < cs.getD r.toNatClampNeg 0))
theorem ef_m_ucl (mid : MethodId) (c : Addr) (t : Addr) (kc : ClassId) (kt : ClassId) (cs : List Int32) (zc : Int32) (z : Int32) : entryFrame mid #[(.ref c), (.int (0 : Int32)), (.ref t), (.int (0 : Int32)), (.int z)] 7 = mkF mid 0 #[.val (.ref c), .val (.int (0 : Int32)), .val (.ref t), .val (.int (0 : Int32)), .val (.int z), .unset, .unset] [] := by first | (simp [entryFrame, mkF, argsToLocals, Value.category]; done) | rfl
set_option maxRecDepth 65536 in
set_option maxHeartbeats 40000000 in
theorem m_ucl {l : Launch} {Z : State} {a0 : Array Value} {n0 : Nat} (hw : ∀ d ∈ tables_1, d.before a0 Z = true) (hs : Stat Z) (c : Addr) (t : Addr) (kc : ClassId) (kt : ClassId) (cs : List Int32) (zc : Int32) (z : Int32) (h0 : Heap) (V_c : Arv Z h0 c kc .char zc (cs.map Value.int) (.int (0 : Int32))) (V_t : Arv Z h0 t kt .byte z (List.replicate cs.length (.int (0 : Int32))) (.int (0 : Int32))) (hz : z.toNatClampNeg = cs.length) (hle : ¬ zc < z) (ne_c_t : c ≠ t) :
    Met l Z EL0 n0 NR0 KN0 N_0 jdk_52_method_21_code 7 (Option.some Jvm.ClassFile.FieldType.int) R_m_ucl [t] #[(.ref c), (.int (0 : Int32)), (.ref t), (.int (0 : Int32)), (.int z)] h0 (Q_m_ucl Z c t kc kt cs zc z h0) := by
  refine Met.of_go pn_m_ucl (fun mid => ef_m_ucl mid c t kc kt cs zc z ) ?_
  intro hO hWS
  refine Go.iconst (pc' := 1) d_jdk_52_method_21_0 rfl ic_0 ?_
  refine Go.istore (pc' := 3) (Ls' := #[.val (.ref c), .val (.int (0 : Int32)), .val (.ref t), .val (.int (0 : Int32)), .val (.int z), .val (.int (0 : Int32)), .unset]) d_jdk_52_method_21_1 rfl rfl ?_
  refine m_ucl_loop (kc := kc) hz (arv_nn V_t) hle ne_c_t (fun h' o V ha => ?_) (fun h' i vs hi hc V => ?_) cs.length 0 h0 _ (by omega) One.u V_c (by simpa using V_t) (fun x hx => absurd hx (by simp))
  · skip
    refine Go.iload (pc' := 46) d_jdk_52_method_21_44 rfl rfl ?_
    exact Go.retI d_jdk_52_method_21_46 rfl (by decide) (by decide) [] sn0 ⟨z, _, rfl, rfl, V, Or.inl ⟨rfl, rfl, ha⟩⟩
  · skip
    have zn := arv_nn V_t
    have q := (back32 zn).2
    refine Go.iload (pc' := 25) d_jdk_52_method_21_23 rfl rfl ?_
    exact Go.retI d_jdk_52_method_21_25 rfl (by decide) (by decide) [] sn0 ⟨_, _, rfl, rfl, V, Or.inr ⟨ofNat_nn (by omega), ofNat_lt zn (by omega), by rw [ofNat_clamp (by omega)]; exact hc⟩⟩
abbrev R_m_putc : Room := { frames := 0, cells := 0, slots := 0, locals := 0 }
theorem pn_m_putc : plainFor (⟨"java/lang/StringUTF16", "putChar", "([BII)V"⟩ : MethodName) = true := by first | (refine plainFor_of_name ?_; simp [plainName, overriddenIn]; done) | decide +kernel
abbrev Q_m_putc (Z : State) (b : Addr) (kb : ClassId) (zb : Int32) (bs : List Int32) (j : Int32) (d : Int32) (h0 : Heap) : Option Value → Heap → List Addr → Prop := fun res h' SN => res = none ∧ SN = [] ∧ Arv Z h' b kb .byte zb (((bs.set (2 * j.toNatClampNeg) (ub0 d)).set (2 * j.toNatClampNeg + 1) (ub1 d)).map Value.int) (.int (0 : Int32))
theorem ef_m_putc (mid : MethodId) (b : Addr) (kb : ClassId) (zb : Int32) (bs : List Int32) (j : Int32) (d : Int32) : entryFrame mid #[(.ref b), (.int j), (.int d)] 3 = mkF mid 0 #[.val (.ref b), .val (.int j), .val (.int d)] [] := by first | (simp [entryFrame, mkF, argsToLocals, Value.category]; done) | rfl
set_option maxRecDepth 65536 in
set_option maxHeartbeats 40000000 in
theorem m_putc {l : Launch} {Z : State} {a0 : Array Value} {n0 : Nat} (hw : ∀ d ∈ tables_1, d.before a0 Z = true) (hs : Stat Z) (b : Addr) (kb : ClassId) (zb : Int32) (bs : List Int32) (j : Int32) (d : Int32) (h0 : Heap) (V_b : Arv Z h0 b kb .byte zb (bs.map Value.int) (.int (0 : Int32))) (hj0 : ¬ j < 0) (hj : 2 * j.toNatClampNeg + 1 < bs.length) (hzb : zb.toNatClampNeg = bs.length) :
    Met l Z EL0 n0 NR0 KN0 N_1 jdk_52_method_4_code 3 (Option.none : Option Jvm.ClassFile.FieldType) R_m_putc [b] #[(.ref b), (.int j), (.int d)] h0 (Q_m_putc Z b kb zb bs j d h0) := by
  refine Met.of_go pn_m_putc (fun mid => ef_m_putc mid b kb zb bs j d ) ?_
  intro hO hWS
  obtain ⟨S_a, S_h, S_l⟩ := hs_u hs
  have zn := arv_nn V_b
  have zr := (back32 zn).2
  have sj := own_shl1 hj0 (by omega)
  have sj1 := own_succ (z := 0) sj.1 (by omega)
  refine Go.getS (pc' := 3) d_jdk_52_method_4_0 rfl (host := "") (Or.inl (w_183 hw)) Via.refl S_a ?_
  refine Go.ifY (pc' := 28) d_jdk_52_method_4_3 (by decide) (by decide) ((if0 _ _).trans (feq (by decide : ¬ ((1 : Int32) = (0 : Int32)))).2) ?_
  refine Go.iload_n (pc' := 29) d_jdk_52_method_4_28 rfl rfl ?_
  refine Go.iconst (pc' := 30) d_jdk_52_method_4_29 rfl ic_1 ?_
  refine Go.ishl (pc' := 31) d_jdk_52_method_4_30 rfl ?_
  refine Go.istore_n (pc' := 32) (Ls' := #[.val (.ref b), .val (.int (j <<< ((1 : Int32) &&& 31))), .val (.int d)]) d_jdk_52_method_4_31 rfl rfl ?_
  refine Go.aload_n (pc' := 33) d_jdk_52_method_4_32 rfl rfl rfl ?_
  refine Go.iload_n (pc' := 34) d_jdk_52_method_4_33 rfl rfl ?_
  refine Go.iinc (pc' := 37) (Ls' := #[.val (.ref b), .val (.int ((j <<< ((1 : Int32) &&& 31)) + (1 : Int32))), .val (.int d)]) d_jdk_52_method_4_34 rfl ic_1 rfl rfl ?_
  refine Go.iload_n (pc' := 38) d_jdk_52_method_4_37 rfl rfl ?_
  refine Go.getS (pc' := 41) d_jdk_52_method_4_38 rfl (host := "") (Or.inl (w_184 hw)) Via.refl S_h ?_
  refine Go.ishr (pc' := 42) d_jdk_52_method_4_41 rfl ?_
  refine Go.i2b (pc' := 43) d_jdk_52_method_4_42 rfl ?_
  refine Go.bastoreV (pc' := 44) (i := 2 * j.toNatClampNeg) d_jdk_52_method_4_43 rfl (List.mem_of_getElem? (i := 0) rfl) V_b ⟨sj.1, own_ltc sj.1 zn (by omega)⟩ (sj.2) (by simp; omega) ?_
  rw [nar_byte]
  intro h1 W2 V_b'
  rw [own_set_map] at V_b'
  replace V_b := V_b'
  change Go _ _ _ _ _ _ _ _ _ _ _ _ _ _ [b] h1 0 0 44 #[.val (.ref b), .val (.int ((j <<< ((1 : Int32) &&& 31)) + (1 : Int32))), .val (.int d)] []
  refine Go.aload_n (pc' := 45) d_jdk_52_method_4_44 rfl rfl rfl ?_
  refine Go.iload_n (pc' := 46) d_jdk_52_method_4_45 rfl rfl ?_
  refine Go.iload_n (pc' := 47) d_jdk_52_method_4_46 rfl rfl ?_
  refine Go.getS (pc' := 50) d_jdk_52_method_4_47 rfl (host := "") (Or.inl (w_185 hw)) Via.refl S_l ?_
  refine Go.ishr (pc' := 51) d_jdk_52_method_4_50 rfl ?_
  refine Go.i2b (pc' := 52) d_jdk_52_method_4_51 rfl ?_
  refine Go.bastoreV (pc' := 53) (i := 2 * j.toNatClampNeg + 1) d_jdk_52_method_4_52 rfl (List.mem_of_getElem? (i := 0) rfl) V_b ⟨sj1.1, own_ltc sj1.1 zn (by omega)⟩ (by rw [sj1.2, sj.2]) (by simp; omega) ?_
  rw [nar_byte]
  intro h3 W4 V_b'
  rw [own_set_map] at V_b'
  replace V_b := V_b'
  change Go _ _ _ _ _ _ _ _ _ _ _ _ _ _ [b] h3 0 0 53 #[.val (.ref b), .val (.int ((j <<< ((1 : Int32) &&& 31)) + (1 : Int32))), .val (.int d)] []
  exact Go.retV d_jdk_52_method_4_53 rfl (by decide) (by decide) [] sn0 ⟨rfl, rfl, V_b⟩
abbrev R_m_nbl : Room := { frames := 0, cells := 0, slots := 0, locals := 0 }
theorem pn_m_nbl : plainFor (⟨"java/lang/StringUTF16", "newBytesLength", "(I)I"⟩ : MethodName) = true := by first | (refine plainFor_of_name ?_; simp [plainName, overriddenIn]; done) | decide +kernel
abbrev Q_m_nbl (Z : State) (z : Int32) (h0 : Heap) : Option Value → Heap → List Addr → Prop := fun res h' SN => res = some (.int (z <<< ((1 : Int32) &&& 31))) ∧ SN = [] ∧ h0 = h'
theorem ef_m_nbl (mid : MethodId) (z : Int32) : entryFrame mid #[(.int z)] 1 = mkF mid 0 #[.val (.int z)] [] := by first | (simp [entryFrame, mkF, argsToLocals, Value.category]; done) | rfl
set_option maxRecDepth 65536 in
set_option maxHeartbeats 40000000 in
theorem m_nbl {l : Launch} {Z : State} {a0 : Array Value} {n0 : Nat} (hw : ∀ d ∈ tables_1, d.before a0 Z = true) (hs : Stat Z) (z : Int32) (h0 : Heap) (hz0 : ¬ z < 0) (hz1 : z < (1073741823 : Int32)) :
    Met l Z EL0 n0 NR0 KN0 N_2 jdk_52_method_3_code 1 (Option.some Jvm.ClassFile.FieldType.int) R_m_nbl [] #[(.int z)] h0 (Q_m_nbl Z z h0) := by
  refine Met.of_go pn_m_nbl (fun mid => ef_m_nbl mid z ) ?_
  intro hO hWS
  refine Go.iload_n (pc' := 1) d_jdk_52_method_3_0 rfl rfl ?_
  refine Go.ifY (pc' := 12) d_jdk_52_method_3_1 (by decide) (by decide) ((if0 _ _).trans (flt (hz0 : ¬ (z < (0 : Int32)))).2.1) ?_
  refine Go.iload_n (pc' := 13) d_jdk_52_method_3_12 rfl rfl ?_
  refine Go.ldcInt (pc' := 15) d_jdk_52_method_3_13 rfl (w_179 hw) ?_
  refine Go.icmpY (pc' := 55) d_jdk_52_method_3_15 (by decide) (by decide) (tlt (hz1 : z < (1073741823 : Int32))).1 ?_
  refine Go.iload_n (pc' := 56) d_jdk_52_method_3_55 rfl rfl ?_
  refine Go.iconst (pc' := 57) d_jdk_52_method_3_56 rfl ic_1 ?_
  refine Go.ishl (pc' := 58) d_jdk_52_method_3_57 rfl ?_
  exact Go.retI d_jdk_52_method_3_58 rfl (by decide) (by decide) [] sn0 ⟨rfl, rfl, rfl⟩
abbrev R_m_nbf : Room := { frames := 1, cells := 1, slots := 516, locals := 12 }
theorem pn_m_nbf : plainFor (⟨"java/lang/StringUTF16", "newBytesFor", "(I)[B"⟩ : MethodName) = true := by first | (refine plainFor_of_name ?_; simp [plainName, overriddenIn]; done) | decide +kernel
abbrev Q_m_nbf (Z : State) (z : Int32) (h0 : Heap) : Option Value → Heap → List Addr → Prop := fun res h' SN => ∃ (b : Addr) (kb : ClassId), res = some (.ref b) ∧ SN = [b] ∧ h0.size ≤ b ∧ Arv Z h' b kb .byte (z <<< ((1 : Int32) &&& 31)) ((List.replicate (2 * z.toNatClampNeg) (0 : Int32)).map Value.int) (.int (0 : Int32))
theorem ef_m_nbf (mid : MethodId) (z : Int32) : entryFrame mid #[(.int z)] 1 = mkF mid 0 #[.val (.int z)] [] := by first | (simp [entryFrame, mkF, argsToLocals, Value.category]; done) | rfl
set_option maxRecDepth 65536 in
set_option maxHeartbeats 40000000 in
theorem m_nbf {l : Launch} {Z : State} {a0 : Array Value} {n0 : Nat} (hw : ∀ d ∈ tables_1, d.before a0 Z = true) (hs : Stat Z) (z : Int32) (h0 : Heap) (hz0 : ¬ z < 0) (hbig : z.toNatClampNeg ≤ CAP) :
    Met l Z EL0 n0 NR0 KN0 N_3 jdk_52_method_2_code 1 (Option.some (Jvm.ClassFile.FieldType.array Jvm.ClassFile.FieldType.byte)) R_m_nbf [] #[(.int z)] h0 (Q_m_nbf Z z h0) := by
  refine Met.of_go pn_m_nbf (fun mid => ef_m_nbf mid z ) ?_
  intro hO hWS
  have sz := own_shl1 hz0 (Nat.lt_of_le_of_lt hbig (by decide))
  refine Go.iload_n (pc' := 1) d_jdk_52_method_2_0 rfl rfl ?_
  refine Go.callS (pc' := 4) (z := N_2) d_jdk_52_method_2_1 rfl (w_176 hw) (w_177 hw) (w_18 hw) (w_178 hw) (by decide) (argsL := [(.int z)]) (rest := []) (Pays.of_met (W := 0) (len := 3) (m_nbl hw hs z h0 (hz0) (own_ltc hz0 (by decide) (Nat.lt_of_le_of_lt hbig (by decide)))) (w_178 hw) (w_18 hw) (by decide) (by decide)) rfl rfl (lenOf pd_0 rfl) rfl (Nat.le_of_eq rfl) mem0 (by decide) (by decide) ?_
  rintro _ _ _ - - ⟨rfl, rfl, rfl⟩
  change Go _ _ _ _ _ _ _ _ _ _ _ _ _ _ [] h0 0 0 4 #[.val (.int z)] [(.int (z <<< ((1 : Int32) &&& 31)))]
  refine Go.newP (pc' := 6) (cap := 516) (ad := "[B") d_jdk_52_method_2_4 rfl (w_20 hw) (by decide) sz.1 (by rw [sz.2]; exact Nat.mul_le_mul_left 2 hbig) (by decide) (by decide) (by decide) ?_
  intro h5 b6 g7 ge_b6 q9 x8 V_b6 E_b6
  replace V_b6 : Arv Z h5 b6 q9 .byte (z <<< ((1 : Int32) &&& 31)) [] (.int (0 : Int32)) := V_b6
  change Go _ _ _ _ _ _ _ _ _ _ _ _ _ _ [b6] h5 1 516 6 #[.val (.int z)] [(.ref b6)]
  replace V_b6 : Arv Z h5 b6 q9 .byte (z <<< ((1 : Int32) &&& 31)) ((List.replicate (2 * z.toNatClampNeg) (0 : Int32)).map Value.int) (.int (0 : Int32)) := V_b6.pad (own_pad0 _)
  exact Go.retA d_jdk_52_method_2_6 rfl rfl rfl (by decide) (by decide) [b6] (snS ⟨(List.mem_of_getElem? (i := 0) rfl), ge_b6⟩ sn0) ⟨b6, _, rfl, rfl, ge_b6, V_b6⟩
abbrev R_m_ugc : Room := { frames := 0, cells := 0, slots := 0, locals := 0 }
theorem pn_m_ugc : plainFor (⟨"java/lang/StringUTF16", "getChar", "([BI)C"⟩ : MethodName) = true := by first | (refine plainFor_of_name ?_; simp [plainName, overriddenIn]; done) | decide +kernel
abbrev Q_m_ugc (Z : State) (b : Addr) (kb : ClassId) (zb : Int32) (bs : List Int32) (j : Int32) (h0 : Heap) : Option Value → Heap → List Addr → Prop := fun res h' SN => res = some (.int (udec (bs.getD (2 * j.toNatClampNeg) 0) (bs.getD (2 * j.toNatClampNeg + 1) 0))) ∧ SN = [] ∧ h0 = h'
theorem ef_m_ugc (mid : MethodId) (b : Addr) (kb : ClassId) (zb : Int32) (bs : List Int32) (j : Int32) : entryFrame mid #[(.ref b), (.int j)] 2 = mkF mid 0 #[.val (.ref b), .val (.int j)] [] := by first | (simp [entryFrame, mkF, argsToLocals, Value.category]; done) | rfl
set_option maxRecDepth 65536 in
set_option maxHeartbeats 40000000 in
theorem m_ugc {l : Launch} {Z : State} {a0 : Array Value} {n0 : Nat} (hw : ∀ d ∈ tables_1, d.before a0 Z = true) (hs : Stat Z) (b : Addr) (kb : ClassId) (zb : Int32) (bs : List Int32) (j : Int32) (h0 : Heap) (V_b : Arv Z h0 b kb .byte zb (bs.map Value.int) (.int (0 : Int32))) (hj0 : ¬ j < 0) (hj : 2 * j.toNatClampNeg + 1 < bs.length) (hzb : zb.toNatClampNeg = bs.length) :
    Met l Z EL0 n0 NR0 KN0 N_4 jdk_52_method_5_code 2 (Option.some Jvm.ClassFile.FieldType.char) R_m_ugc [] #[(.ref b), (.int j)] h0 (Q_m_ugc Z b kb zb bs j h0) := by
  refine Met.of_go pn_m_ugc (fun mid => ef_m_ugc mid b kb zb bs j ) ?_
  intro hO hWS
  obtain ⟨S_a, S_h, S_l⟩ := hs_u hs
  have zn := arv_nn V_b
  have zr := (back32 zn).2
  have sj := own_shl1 hj0 (by omega)
  have sj1 := own_succ (z := 0) sj.1 (by omega)
  refine Go.getS (pc' := 3) d_jdk_52_method_5_0 rfl (host := "") (Or.inl (w_183 hw)) Via.refl S_a ?_
  refine Go.ifY (pc' := 28) d_jdk_52_method_5_3 (by decide) (by decide) ((if0 _ _).trans (feq (by decide : ¬ ((1 : Int32) = (0 : Int32)))).2) ?_
  refine Go.iload_n (pc' := 29) d_jdk_52_method_5_28 rfl rfl ?_
  refine Go.iconst (pc' := 30) d_jdk_52_method_5_29 rfl ic_1 ?_
  refine Go.ishl (pc' := 31) d_jdk_52_method_5_30 rfl ?_
  refine Go.istore_n (pc' := 32) (Ls' := #[.val (.ref b), .val (.int (j <<< ((1 : Int32) &&& 31)))]) d_jdk_52_method_5_31 rfl rfl ?_
  refine Go.aload_n (pc' := 33) d_jdk_52_method_5_32 rfl rfl rfl ?_
  refine Go.iload_n (pc' := 34) d_jdk_52_method_5_33 rfl rfl ?_
  refine Go.iinc (pc' := 37) (Ls' := #[.val (.ref b), .val (.int ((j <<< ((1 : Int32) &&& 31)) + (1 : Int32)))]) d_jdk_52_method_5_34 rfl ic_1 rfl rfl ?_
  refine Go.baloadV (pc' := 38) (v := (.int (bs.getD (2 * j.toNatClampNeg) 0))) d_jdk_52_method_5_37 rfl V_b ⟨sj.1, own_ltc sj.1 zn (by omega)⟩ (by rw [sj.2]; exact getD_int bs _) ?_
  refine Go.sipush (pc' := 41) d_jdk_52_method_5_38 rfl ics_255 ?_
  refine Go.iand (pc' := 42) d_jdk_52_method_5_41 rfl ?_
  refine Go.getS (pc' := 45) d_jdk_52_method_5_42 rfl (host := "") (Or.inl (w_184 hw)) Via.refl S_h ?_
  refine Go.ishl (pc' := 46) d_jdk_52_method_5_45 rfl ?_
  refine Go.aload_n (pc' := 47) d_jdk_52_method_5_46 rfl rfl rfl ?_
  refine Go.iload_n (pc' := 48) d_jdk_52_method_5_47 rfl rfl ?_
  refine Go.baloadV (pc' := 49) (v := (.int (bs.getD (2 * j.toNatClampNeg + 1) 0))) d_jdk_52_method_5_48 rfl V_b ⟨sj1.1, own_ltc sj1.1 zn (by omega)⟩ (by rw [sj1.2, sj.2]; exact getD_int bs _) ?_
  refine Go.sipush (pc' := 52) d_jdk_52_method_5_49 rfl ics_255 ?_
  refine Go.iand (pc' := 53) d_jdk_52_method_5_52 rfl ?_
  refine Go.getS (pc' := 56) d_jdk_52_method_5_53 rfl (host := "") (Or.inl (w_185 hw)) Via.refl S_l ?_
  refine Go.ishl (pc' := 57) d_jdk_52_method_5_56 rfl ?_
  refine Go.ior (pc' := 58) d_jdk_52_method_5_57 rfl ?_
  refine Go.i2c (pc' := 59) d_jdk_52_method_5_58 rfl ?_
  exact Go.retS (ty := .char) d_jdk_52_method_5_59 rfl (by simp) (own_nar_i2c _) (by decide) (by decide) [] sn0 ⟨rfl, rfl, rfl⟩
abbrev RL_tob : Room := { frames := 2, cells := 1, slots := 516, locals := 40 }
set_option maxRecDepth 65536 in
set_option maxHeartbeats 40000000 in
theorem m_tob_loop {l : Launch} {Z : State} {a0 : Array Value} {n0 : Nat} (hw : ∀ d ∈ tables_1, d.before a0 Z = true) (hs : Stat Z) {h0 : Heap} {Q : Option Value → Heap → List Addr → Prop} {c b : Addr} {kc kb : ClassId} {cs : List Int32} {zc z : Int32} (hz : z.toNatClampNeg = cs.length) (zn : ¬ z < 0) (hle : ¬ zc < z) (hsm : z.toNatClampNeg < 1073741823) (ne_c_b : c ≠ b)
    (K : ∀ h' bs, Arv Z h' b kb .byte (z <<< ((1 : Int32) &&& 31)) (bs.map Value.int) (.int (0 : Int32)) → Enc bs cs cs.length → Go l Z EL0 n0 NR0 KN0 N_5 jdk_52_method_14_code 5 (Option.some (Jvm.ClassFile.FieldType.array Jvm.ClassFile.FieldType.byte)) RL_tob h0 [] Q [b] h' 1 516 32 #[.val (.ref c), .val (.int (Int32.ofNat cs.length)), .val (.int z), .val (.ref b), .val (.int (Int32.ofNat cs.length))] []) :
    ∀ (m i : Nat) (h : Heap) (bs : List Int32), i + m = cs.length → Arv Z h c kc .char zc (cs.map Value.int) (.int (0 : Int32)) → Arv Z h b kb .byte (z <<< ((1 : Int32) &&& 31)) (bs.map Value.int) (.int (0 : Int32)) → Enc bs cs i → Go l Z EL0 n0 NR0 KN0 N_5 jdk_52_method_14_code 5 (Option.some (Jvm.ClassFile.FieldType.array Jvm.ClassFile.FieldType.byte)) RL_tob h0 [] Q [b] h 1 516 8 #[.val (.ref c), .val (.int (Int32.ofNat i)), .val (.int z), .val (.ref b), .val (.int (Int32.ofNat i))] [] := by
  have q := (back32 zn).2
  have sz := own_shl1 zn (by omega)
  intro m
  induction m with
  | zero =>
    intro i h bs hi V_c V_b hE
    obtain rfl : i = cs.length := by omega
    refine Go.iload (pc' := 10) d_jdk_52_method_14_8 rfl rfl ?_
    refine Go.iload_n (pc' := 11) d_jdk_52_method_14_10 rfl rfl ?_
    refine Go.icmpY (pc' := 32) d_jdk_52_method_14_11 (by decide) (by decide) (flt (ofNat_ge zn (by omega) (Nat.le_of_eq hz) : ¬ ((Int32.ofNat cs.length) < z))).2.1 ?_
    exact K h bs V_b hE
  | succ m ih =>
    intro i h bs hi V_c V_b hE
    have hi2 : i < cs.length := by omega
    have ci := ofNat_clamp (i := i) (by omega)
    have nn := ofNat_nn (i := i) (by omega)
    have lt := ofNat_lt (i := i) zn (by omega)
    have ltc := own_ltle lt hle
    have hl := hE.1
    refine Go.iload (pc' := 10) d_jdk_52_method_14_8 rfl rfl ?_
    refine Go.iload_n (pc' := 11) d_jdk_52_method_14_10 rfl rfl ?_
    refine Go.icmpN (pc' := 14) d_jdk_52_method_14_11 rfl (tlt (lt : (Int32.ofNat i) < z)).2.1 ?_
    refine Go.aload_n (pc' := 15) d_jdk_52_method_14_14 rfl rfl rfl ?_
    refine Go.iload (pc' := 17) d_jdk_52_method_14_15 rfl rfl ?_
    refine Go.aload_n (pc' := 18) d_jdk_52_method_14_17 rfl rfl rfl ?_
    refine Go.iload_n (pc' := 19) d_jdk_52_method_14_18 rfl rfl ?_
    refine Go.caloadV (pc' := 20) (v := (.int (cs.getD i 0))) d_jdk_52_method_14_19 rfl V_c ⟨nn, ltc⟩ (by rw [ci]; exact getD_int cs i) ?_
    refine Go.callS (pc' := 23) (z := N_1) d_jdk_52_method_14_20 rfl (w_180 hw) (w_181 hw) (w_18 hw) (w_182 hw) (by decide) (argsL := [(.ref b), (.int (Int32.ofNat i)), (.int (cs.getD i 0))]) (rest := []) (Pays.of_met (W := 0) (len := 3) (m_putc hw hs b kb (z <<< ((1 : Int32) &&& 31)) bs (Int32.ofNat i) (cs.getD i 0) h V_b (nn) (by rw [ci]; omega) (by rw [sz.2]; omega)) (w_182 hw) (w_18 hw) (by decide) (by decide)) rfl rfl (lenOf pd_1 rfl) rfl (Nat.le_of_eq rfl) (memS (List.mem_of_getElem? (i := 0) rfl) mem0) (by decide) (by decide) ?_
    rintro _ h10 _ K11 le12 ⟨rfl, rfl, p13⟩
    replace V_c := V_c.keep K11 (ninS ne_c_b nin0)
    have V_b := p13
    change Go _ _ _ _ _ _ _ _ _ _ _ _ _ _ [b] h10 1 516 23 #[.val (.ref c), .val (.int (Int32.ofNat i)), .val (.int z), .val (.ref b), .val (.int (Int32.ofNat i))] []
    rw [ci] at V_b
    refine Go.iinc (pc' := 26) (Ls' := #[.val (.ref c), .val (.int ((Int32.ofNat i) + (1 : Int32))), .val (.int z), .val (.ref b), .val (.int (Int32.ofNat i))]) d_jdk_52_method_14_23 rfl ic_1 rfl rfl ?_
    refine Go.iinc (pc' := 29) (Ls' := #[.val (.ref c), .val (.int ((Int32.ofNat i) + (1 : Int32))), .val (.int z), .val (.ref b), .val (.int ((Int32.ofNat i) + (1 : Int32)))]) d_jdk_52_method_14_26 rfl ic_1 rfl rfl ?_
    refine Go.goto (pc' := 8) d_jdk_52_method_14_29 (by decide) (by decide) ?_
    rw [ofNat_succ i]
    exact ih (i + 1) _ _ (by omega) V_c V_b (hE.step hi2)
abbrev R_m_tob : Room := { frames := 2, cells := 1, slots := 516, locals := 40 }
theorem pn_m_tob : plainFor (⟨"java/lang/StringUTF16", "toBytes", "([CII)[B"⟩ : MethodName) = true := by first | (refine plainFor_of_name ?_; simp [plainName, overriddenIn]; done) | decide +kernel
abbrev Q_m_tob (Z : State) (c : Addr) (kc : ClassId) (cs : List Int32) (zc : Int32) (z : Int32) (h0 : Heap) : Option Value → Heap → List Addr → Prop := fun res h' SN => ∃ (b : Addr) (kb : ClassId) (bs : List Int32), res = some (.ref b) ∧ SN = [] ∧ h0.size ≤ b ∧ Arv Z h' b kb .byte (z <<< ((1 : Int32) &&& 31)) (bs.map Value.int) (.int (0 : Int32)) ∧ Enc bs cs cs.length
theorem ef_m_tob (mid : MethodId) (c : Addr) (kc : ClassId) (cs : List Int32) (zc : Int32) (z : Int32) : entryFrame mid #[(.ref c), (.int (0 : Int32)), (.int z)] 5 = mkF mid 0 #[.val (.ref c), .val (.int (0 : Int32)), .val (.int z), .unset, .unset] [] := by first | (simp [entryFrame, mkF, argsToLocals, Value.category]; done) | rfl
set_option maxRecDepth 65536 in
set_option maxHeartbeats 40000000 in
theorem m_tob {l : Launch} {Z : State} {a0 : Array Value} {n0 : Nat} (hw : ∀ d ∈ tables_1, d.before a0 Z = true) (hs : Stat Z) (c : Addr) (kc : ClassId) (cs : List Int32) (zc : Int32) (z : Int32) (h0 : Heap) (V_c : Arv Z h0 c kc .char zc (cs.map Value.int) (.int (0 : Int32))) (hz : z.toNatClampNeg = cs.length) (hz0 : ¬ z < 0) (hle : ¬ zc < z) (hbig : z.toNatClampNeg ≤ CAP) :
    Met l Z EL0 n0 NR0 KN0 N_5 jdk_52_method_14_code 5 (Option.some (Jvm.ClassFile.FieldType.array Jvm.ClassFile.FieldType.byte)) R_m_tob [] #[(.ref c), (.int (0 : Int32)), (.int z)] h0 (Q_m_tob Z c kc cs zc z h0) := by
  refine Met.of_go pn_m_tob (fun mid => ef_m_tob mid c kc cs zc z ) ?_
  intro hO hWS
  have zn := arv_nnz hz0
  refine Go.iload_n (pc' := 1) d_jdk_52_method_14_0 rfl rfl ?_
  refine Go.callS (pc' := 4) (z := N_3) d_jdk_52_method_14_1 rfl (w_173 hw) (w_174 hw) (w_18 hw) (w_175 hw) (by decide) (argsL := [(.int z)]) (rest := []) (Pays.of_met (W := 0) (len := 3) (m_nbf hw hs z h0 (hz0) (hbig)) (w_175 hw) (w_18 hw) (by decide) (by decide)) rfl rfl (lenOf pd_2 rfl) rfl (Nat.le_of_eq rfl) mem0 (by decide) (by decide) ?_
  rintro _ h16 _ K17 le18 ⟨b14, q15, rfl, rfl, p19, p20⟩
  have o_c_b14 : c ≠ b14 := Nat.ne_of_lt (Nat.lt_of_lt_of_le V_c.lt p19)
  have ge_b14 := Nat.le_trans le18 p19
  replace V_c := V_c.keep K17 nin0
  have V_b14 := p20
  change Go _ _ _ _ _ _ _ _ _ _ _ _ _ _ [b14] h16 1 516 4 #[.val (.ref c), .val (.int (0 : Int32)), .val (.int z), .unset, .unset] [(.ref b14)]
  refine Go.astore_n (pc' := 5) (Ls' := #[.val (.ref c), .val (.int (0 : Int32)), .val (.int z), .val (.ref b14), .unset]) d_jdk_52_method_14_4 rfl rfl rfl ?_
  refine Go.iconst (pc' := 6) d_jdk_52_method_14_5 rfl ic_0 ?_
  refine Go.istore (pc' := 8) (Ls' := #[.val (.ref c), .val (.int (0 : Int32)), .val (.int z), .val (.ref b14), .val (.int (0 : Int32))]) d_jdk_52_method_14_6 rfl rfl ?_
  refine m_tob_loop hw hs (kc := kc) hz hz0 hle (Nat.lt_of_le_of_lt hbig (by decide)) o_c_b14 (fun h' bs V hE => ?_) cs.length 0 _ _ (by omega) V_c V_b14 ⟨by rw [List.length_replicate, hz], fun j hj => absurd hj (by omega)⟩
  refine Go.aload_n (pc' := 33) d_jdk_52_method_14_32 rfl rfl rfl ?_
  exact Go.retA d_jdk_52_method_14_33 rfl rfl rfl (by decide) (by decide) [] sn0 ⟨b14, _, bs, rfl, rfl, ge_b14, V, hE⟩
abbrev R_m_ucmp : Room := { frames := 3, cells := 2, slots := 774, locals := 56 }
theorem pn_m_ucmp : plainFor (⟨"java/lang/StringUTF16", "compress", "([CII)[B"⟩ : MethodName) = true := by first | (refine plainFor_of_name ?_; simp [plainName, overriddenIn]; done) | decide +kernel
abbrev Q_m_ucmp (Z : State) (c : Addr) (kc : ClassId) (cs : List Int32) (zc : Int32) (z : Int32) (h0 : Heap) : Option Value → Heap → List Addr → Prop := fun res h' SN => ∃ (t : Addr) (kt : ClassId), res = some (.ref t) ∧ SN = [] ∧ h0.size ≤ t ∧ ((Arv Z h' t kt .byte z (cs.map lowV) (.int (0 : Int32)) ∧ ∀ x ∈ cs, ¬ 255 < x) ∨ (∃ bs : List Int32, Arv Z h' t kt .byte (z <<< ((1 : Int32) &&& 31)) (bs.map Value.int) (.int (0 : Int32)) ∧ Enc bs cs cs.length ∧ ∃ x ∈ cs, 255 < x))
theorem ef_m_ucmp (mid : MethodId) (c : Addr) (kc : ClassId) (cs : List Int32) (zc : Int32) (z : Int32) : entryFrame mid #[(.ref c), (.int (0 : Int32)), (.int z)] 6 = mkF mid 0 #[.val (.ref c), .val (.int (0 : Int32)), .val (.int z), .unset, .unset, .unset] [] := by first | (simp [entryFrame, mkF, argsToLocals, Value.category]; done) | rfl
set_option maxRecDepth 65536 in
set_option maxHeartbeats 40000000 in
theorem m_ucmp {l : Launch} {Z : State} {a0 : Array Value} {n0 : Nat} (hw : ∀ d ∈ tables_1, d.before a0 Z = true) (hs : Stat Z) (c : Addr) (kc : ClassId) (cs : List Int32) (zc : Int32) (z : Int32) (h0 : Heap) (V_c : Arv Z h0 c kc .char zc (cs.map Value.int) (.int (0 : Int32))) (hz : z.toNatClampNeg = cs.length) (hz0 : ¬ z < 0) (hle : ¬ zc < z) (hbig : z.toNatClampNeg ≤ CAP) (h16 : ∀ x ∈ cs, ¬ x < 0 ∧ ¬ 65535 < x) :
    Met l Z EL0 n0 NR0 KN0 N_6 jdk_52_method_16_code 6 (Option.some (Jvm.ClassFile.FieldType.array Jvm.ClassFile.FieldType.byte)) R_m_ucmp [] #[(.ref c), (.int (0 : Int32)), (.int z)] h0 (Q_m_ucmp Z c kc cs zc z h0) := by
  refine Met.of_go pn_m_ucmp (fun mid => ef_m_ucmp mid c kc cs zc z ) ?_
  intro hO hWS
  have hl1 : z.toNatClampNeg < 1073741824 := Nat.lt_of_le_of_lt hbig (by decide)
  refine Go.iload_n (pc' := 1) d_jdk_52_method_16_0 rfl rfl ?_
  refine Go.newP (pc' := 3) (cap := CAP) (ad := "[B") d_jdk_52_method_16_1 rfl (w_20 hw) (by decide) hz0 hbig (by decide) (by decide) (by decide) ?_
  intro h1 b1 g1 ge_b1 k1 x1 V_b1 E_b1
  have o_c_b1 : c ≠ b1 := Nat.ne_of_lt (Nat.lt_of_lt_of_le V_c.lt (Nat.le_of_eq g1))
  replace V_c := V_c.ext x1
  replace V_b1 : Arv Z h1 b1 k1 .byte z (List.replicate cs.length (.int (0 : Int32))) (.int (0 : Int32)) := V_b1.pad (fun i => pad_rep [] _ cs.length i)
  change Go _ _ _ _ _ _ _ _ _ _ _ _ _ _ [b1] h1 1 258 3 #[.val (.ref c), .val (.int (0 : Int32)), .val (.int z), .unset, .unset, .unset] [(.ref b1)]
  refine Go.astore_n (pc' := 4) (Ls' := #[.val (.ref c), .val (.int (0 : Int32)), .val (.int z), .val (.ref b1), .unset, .unset]) d_jdk_52_method_16_3 rfl rfl rfl ?_
  refine Go.aload_n (pc' := 5) d_jdk_52_method_16_4 rfl rfl rfl ?_
  refine Go.iload_n (pc' := 6) d_jdk_52_method_16_5 rfl rfl ?_
  refine Go.aload_n (pc' := 7) d_jdk_52_method_16_6 rfl rfl rfl ?_
  refine Go.iconst (pc' := 8) d_jdk_52_method_16_7 rfl ic_0 ?_
  refine Go.iload_n (pc' := 9) d_jdk_52_method_16_8 rfl rfl ?_
  refine Go.callS (pc' := 12) (z := N_0) d_jdk_52_method_16_9 rfl (w_21 hw) (w_22 hw) (w_18 hw) (w_23 hw) (by decide) (argsL := [(.ref c), (.int (0 : Int32)), (.ref b1), (.int (0 : Int32)), (.int z)]) (rest := []) (Pays.of_met (W := 0) (len := 3) (m_ucl hw hs c b1 kc k1 cs zc z h1 V_c V_b1 (hz) (hle) o_c_b1) (w_23 hw) (w_18 hw) (by decide) (by decide)) rfl rfl (lenOf pd_3 rfl) rfl (Nat.le_of_eq rfl) (memS (List.mem_of_getElem? (i := 0) rfl) mem0) (by decide) (by decide) ?_
  rintro _ h23 _ K24 le25 ⟨i21, v22, rfl, rfl, p26, p27⟩
  replace V_c := V_c.keep K24 (ninS o_c_b1 nin0)
  have V_b1 := p26
  change Go _ _ _ _ _ _ _ _ _ _ _ _ _ _ [b1] h23 1 258 12 #[.val (.ref c), .val (.int (0 : Int32)), .val (.int z), .val (.ref b1), .unset, .unset] [(.int i21)]
  refine Go.istore (pc' := 14) (Ls' := #[.val (.ref c), .val (.int (0 : Int32)), .val (.int z), .val (.ref b1), .val (.int i21), .unset]) d_jdk_52_method_16_12 rfl rfl ?_
  refine Go.iload (pc' := 16) d_jdk_52_method_16_14 rfl rfl ?_
  refine Go.iload_n (pc' := 17) d_jdk_52_method_16_16 rfl rfl ?_
  rcases p27 with ⟨e1, e2, ha⟩ | ⟨r0, r1, r2⟩
  · skip
    rw [e2] at V_b1
    refine Go.icmpY (pc' := 57) d_jdk_52_method_16_17 (by decide) (by decide) (teq (e1 : i21 = z)).1 ?_
    refine Go.aload_n (pc' := 58) d_jdk_52_method_16_57 rfl rfl rfl ?_
    exact Go.retA d_jdk_52_method_16_58 rfl rfl rfl (by decide) (by decide) [] sn0 ⟨b1, _, rfl, rfl, ge_b1, Or.inl ⟨V_b1, ha⟩⟩
  · skip
    have rl := own_idx r0 r1
    refine Go.icmpN (pc' := 20) d_jdk_52_method_16_17 rfl (feq (fun e => own_lt_ne r1 e : ¬ (i21 = z))).1 ?_
    refine Go.aload_n (pc' := 21) d_jdk_52_method_16_20 rfl rfl rfl ?_
    refine Go.iload_n (pc' := 22) d_jdk_52_method_16_21 rfl rfl ?_
    refine Go.iload_n (pc' := 23) d_jdk_52_method_16_22 rfl rfl ?_
    refine Go.callS (pc' := 26) (z := N_5) d_jdk_52_method_16_23 rfl (w_170 hw) (w_171 hw) (w_18 hw) (w_172 hw) (by decide) (argsL := [(.ref c), (.int (0 : Int32)), (.int z)]) (rest := []) (Pays.of_met (W := 0) (len := 3) (m_tob hw hs c kc cs zc z h23 V_c (hz) (hz0) (hle) (hbig)) (w_172 hw) (w_18 hw) (by decide) (by decide)) rfl rfl (lenOf pd_4 rfl) rfl (Nat.le_of_eq rfl) mem0 (by decide) (by decide) ?_
    rintro _ h31 _ K32 le33 ⟨b28, q29, v30, rfl, rfl, p34, p35, p36⟩
    have o_c_b28 : c ≠ b28 := Nat.ne_of_lt (Nat.lt_of_lt_of_le V_c.lt p34)
    have o_b1_b28 : b1 ≠ b28 := Nat.ne_of_lt (Nat.lt_of_lt_of_le V_b1.lt p34)
    have ge_b28 := Nat.le_trans le33 p34
    replace V_c := V_c.keep K32 nin0
    replace V_b1 := V_b1.keep K32 nin0
    have V_b28 := p35
    change Go _ _ _ _ _ _ _ _ _ _ _ _ _ _ [b1] h31 2 774 26 #[.val (.ref c), .val (.int (0 : Int32)), .val (.int z), .val (.ref b1), .val (.int i21), .unset] [(.ref b28)]
    refine Go.astore (pc' := 28) (Ls' := #[.val (.ref c), .val (.int (0 : Int32)), .val (.int z), .val (.ref b1), .val (.int i21), .val (.ref b28)]) d_jdk_52_method_16_26 rfl rfl rfl ?_
    refine Go.aload (pc' := 30) d_jdk_52_method_16_28 rfl rfl rfl ?_
    refine Go.iload (pc' := 32) d_jdk_52_method_16_30 rfl rfl ?_
    have hl := p36.1
    have sz := own_shl1 hz0 hl1
    refine Go.callS (pc' := 35) (z := N_4) d_jdk_52_method_16_32 rfl (w_186 hw) (w_187 hw) (w_18 hw) (w_188 hw) (by decide) (argsL := [(.ref b28), (.int i21)]) (rest := []) (Pays.of_met (W := 0) (len := 3) (m_ugc hw hs b28 q29 (z <<< ((1 : Int32) &&& 31)) v30 i21 h31 V_b28 (r0) (by omega) (by rw [sz.2]; omega)) (w_188 hw) (w_18 hw) (by decide) (by decide)) rfl rfl (lenOf pd_5 rfl) rfl (Nat.le_of_eq rfl) mem0 (by decide) (by decide) ?_
    rintro _ _ _ - - ⟨rfl, rfl, rfl⟩
    change Go _ _ _ _ _ _ _ _ _ _ _ _ _ _ [b1] h31 2 774 35 #[.val (.ref c), .val (.int (0 : Int32)), .val (.int z), .val (.ref b1), .val (.int i21), .val (.ref b28)] [(.int (udec (v30.getD (2 * i21.toNatClampNeg) 0) (v30.getD (2 * i21.toNatClampNeg + 1) 0)))]
    rw [own_enc_at p36 (by omega) h16]
    refine Go.sipush (pc' := 38) d_jdk_52_method_16_35 rfl ics_255 ?_
    refine Go.icmpY (pc' := 54) d_jdk_52_method_16_38 (by decide) (by decide) (tlt (r2 : (255 : Int32) < (cs.getD i21.toNatClampNeg 0))).2.2.1 ?_
    refine Go.aload (pc' := 56) d_jdk_52_method_16_54 rfl rfl rfl ?_
    exact Go.retA d_jdk_52_method_16_56 rfl rfl rfl (by decide) (by decide) [] sn0 ⟨b28, _, rfl, rfl, ge_b28, Or.inr ⟨v30, V_b28, p36, _, own_getD_in (by omega), r2⟩⟩
abbrev R_m_cfl : Room := { frames := 0, cells := 0, slots := 0, locals := 0 }
theorem pn_m_cfl : plainFor (⟨"java/lang/StringUTF16", "coderFromArrayLen", "([BI)B"⟩ : MethodName) = true := by first | (refine plainFor_of_name ?_; simp [plainName, overriddenIn]; done) | decide +kernel
abbrev Q_m_cfl (Z : State) (t : Addr) (kt : ClassId) (z : Int32) (vs : List Value) (h0 : Heap) : Option Value → Heap → List Addr → Prop := fun res h' SN => res = some (.int (0 : Int32)) ∧ SN = [] ∧ h0 = h'
theorem ef_m_cfl (mid : MethodId) (t : Addr) (kt : ClassId) (z : Int32) (vs : List Value) : entryFrame mid #[(.ref t), (.int z)] 2 = mkF mid 0 #[.val (.ref t), .val (.int z)] [] := by first | (simp [entryFrame, mkF, argsToLocals, Value.category]; done) | rfl
set_option maxRecDepth 65536 in
set_option maxHeartbeats 40000000 in
theorem m_cfl {l : Launch} {Z : State} {a0 : Array Value} {n0 : Nat} (hw : ∀ d ∈ tables_1, d.before a0 Z = true) (hs : Stat Z) (t : Addr) (kt : ClassId) (z : Int32) (vs : List Value) (h0 : Heap) (V_t : Arv Z h0 t kt .byte z vs (.int (0 : Int32))) :
    Met l Z EL0 n0 NR0 KN0 N_7 jdk_52_method_15_code 2 (Option.some Jvm.ClassFile.FieldType.byte) R_m_cfl [] #[(.ref t), (.int z)] h0 (Q_m_cfl Z t kt z vs h0) := by
  refine Met.of_go pn_m_cfl (fun mid => ef_m_cfl mid t kt z vs ) ?_
  intro hO hWS
  refine Go.iload_n (pc' := 1) d_jdk_52_method_15_0 rfl rfl ?_
  refine Go.aload_n (pc' := 2) d_jdk_52_method_15_1 rfl rfl rfl ?_
  refine Go.lenV (pc' := 3) d_jdk_52_method_15_2 rfl V_t ?_
  refine Go.isub (pc' := 4) d_jdk_52_method_15_3 rfl ?_
  refine Go.bipush (pc' := 6) d_jdk_52_method_15_4 rfl icb_31 ?_
  refine Go.iushr (pc' := 7) d_jdk_52_method_15_6 rfl ?_
  refine Go.i2b (pc' := 8) d_jdk_52_method_15_7 rfl ?_
  rw [own_coder0]
  exact Go.retS (ty := .byte) d_jdk_52_method_15_8 rfl (by simp) rfl (by decide) (by decide) [] sn0 ⟨rfl, rfl, rfl⟩
abbrev R_m_cfl1 : Room := { frames := 0, cells := 0, slots := 0, locals := 0 }
theorem pn_m_cfl1 : plainFor (⟨"java/lang/StringUTF16", "coderFromArrayLen", "([BI)B"⟩ : MethodName) = true := by first | (refine plainFor_of_name ?_; simp [plainName, overriddenIn]; done) | decide +kernel
abbrev Q_m_cfl1 (Z : State) (t : Addr) (kt : ClassId) (z : Int32) (bs : List Int32) (h0 : Heap) : Option Value → Heap → List Addr → Prop := fun res h' SN => res = some (.int (1 : Int32)) ∧ SN = [] ∧ h0 = h'
theorem ef_m_cfl1 (mid : MethodId) (t : Addr) (kt : ClassId) (z : Int32) (bs : List Int32) : entryFrame mid #[(.ref t), (.int z)] 2 = mkF mid 0 #[.val (.ref t), .val (.int z)] [] := by first | (simp [entryFrame, mkF, argsToLocals, Value.category]; done) | rfl
set_option maxRecDepth 65536 in
set_option maxHeartbeats 40000000 in
theorem m_cfl1 {l : Launch} {Z : State} {a0 : Array Value} {n0 : Nat} (hw : ∀ d ∈ tables_1, d.before a0 Z = true) (hs : Stat Z) (t : Addr) (kt : ClassId) (z : Int32) (bs : List Int32) (h0 : Heap) (V_t : Arv Z h0 t kt .byte (z <<< ((1 : Int32) &&& 31)) (bs.map Value.int) (.int (0 : Int32))) (hz0 : ¬ z < 0) (hzn : ¬ z = 0) (hl1 : z.toNatClampNeg < 1073741824) :
    Met l Z EL0 n0 NR0 KN0 N_7 jdk_52_method_15_code 2 (Option.some Jvm.ClassFile.FieldType.byte) R_m_cfl1 [] #[(.ref t), (.int z)] h0 (Q_m_cfl1 Z t kt z bs h0) := by
  refine Met.of_go pn_m_cfl1 (fun mid => ef_m_cfl1 mid t kt z bs ) ?_
  intro hO hWS
  refine Go.iload_n (pc' := 1) d_jdk_52_method_15_0 rfl rfl ?_
  refine Go.aload_n (pc' := 2) d_jdk_52_method_15_1 rfl rfl rfl ?_
  refine Go.lenV (pc' := 3) d_jdk_52_method_15_2 rfl V_t ?_
  refine Go.isub (pc' := 4) d_jdk_52_method_15_3 rfl ?_
  refine Go.bipush (pc' := 6) d_jdk_52_method_15_4 rfl icb_31 ?_
  refine Go.iushr (pc' := 7) d_jdk_52_method_15_6 rfl ?_
  refine Go.i2b (pc' := 8) d_jdk_52_method_15_7 rfl ?_
  rw [own_coder1 hz0 hzn hl1]
  exact Go.retS (ty := .byte) d_jdk_52_method_15_8 rfl (by simp) rfl (by decide) (by decide) [] sn0 ⟨rfl, rfl, rfl⟩
abbrev R_m_ustr4 : Room := { frames := 4, cells := 2, slots := 774, locals := 73 }
theorem pn_m_ustr4 : plainFor (⟨"java/lang/String", "<init>", "([CIILjava/lang/Void;)V"⟩ : MethodName) = true := by first | (refine plainFor_of_name ?_; simp [plainName, overriddenIn]; done) | decide +kernel
abbrev Q_m_ustr4 (Z : State) (a : Addr) (c : Addr) (kc : ClassId) (cs : List Int32) (zc : Int32) (z : Int32) (h0 : Heap) : Option Value → Heap → List Addr → Prop := fun res h' SN => ∃ (t : Addr) (kt : ClassId), res = none ∧ SN = [] ∧ Exa Z h' a "java/lang/String" ∧ h0.size ≤ t ∧ (LatS Z h' a t kt z cs ∨ U16S Z h' a t kt z cs)
theorem ef_m_ustr4 (mid : MethodId) (a : Addr) (c : Addr) (kc : ClassId) (cs : List Int32) (zc : Int32) (z : Int32) : entryFrame mid #[(.ref a), (.ref c), (.int (0 : Int32)), (.int z), .null] 6 = mkF mid 0 #[.val (.ref a), .val (.ref c), .val (.int (0 : Int32)), .val (.int z), .val .null, .unset] [] := by first | (simp [entryFrame, mkF, argsToLocals, Value.category]; done) | rfl
set_option maxRecDepth 65536 in
set_option maxHeartbeats 40000000 in
theorem m_ustr4 {l : Launch} {Z : State} {a0 : Array Value} {n0 : Nat} (hw : ∀ d ∈ tables_1, d.before a0 Z = true) (hs : Stat Z) (a : Addr) (c : Addr) (kc : ClassId) (cs : List Int32) (zc : Int32) (z : Int32) (h0 : Heap) (E_a : Exa Z h0 a "java/lang/String") (F_a_coder : Fld Z h0 a "java/lang/String" "coder" "B" (.int (0 : Int32))) (F_a_value : Fld Z h0 a "java/lang/String" "value" "[B" .null) (V_c : Arv Z h0 c kc .char zc (cs.map Value.int) (.int (0 : Int32))) (hz : z.toNatClampNeg = cs.length) (hz0 : ¬ z < 0) (hle : ¬ zc < z) (hbig : z.toNatClampNeg ≤ CAP) (h16 : ∀ x ∈ cs, ¬ x < 0 ∧ ¬ 65535 < x) (hzn : ¬ z = 0) (ne_c_a : c ≠ a) :
    Met l Z EL0 n0 NR0 KN0 N_8 jdk_42_method_149_code 6 (Option.none : Option Jvm.ClassFile.FieldType) R_m_ustr4 [a] #[(.ref a), (.ref c), (.int (0 : Int32)), (.int z), .null] h0 (Q_m_ustr4 Z a c kc cs zc z h0) := by
  refine Met.of_go pn_m_ustr4 (fun mid => ef_m_ustr4 mid a c kc cs zc z ) ?_
  intro hO hWS
  obtain ⟨zc0, S_c, hzc⟩ := hs_c hs
  have hl1 : z.toNatClampNeg < 1073741824 := Nat.lt_of_le_of_lt hbig (by decide)
  refine Go.aload_n (pc' := 1) d_jdk_42_method_149_0 rfl rfl rfl ?_
  refine Go.initO (pc' := 4) (W := 0) d_jdk_42_method_149_1 rfl (w_12 hw) (w_13 hw) (w_14 hw) rfl (by decide) (Nat.le_of_eq rfl) (by decide) ?_
  refine Go.iload_n (pc' := 5) d_jdk_42_method_149_4 rfl rfl ?_
  refine Go.ifY (pc' := 27) d_jdk_42_method_149_5 (by decide) (by decide) ((if0 _ _).trans (feq (hzn : ¬ (z = (0 : Int32)))).2) ?_
  refine Go.getS (pc' := 30) d_jdk_42_method_149_27 rfl (host := "") (Or.inl (w_15 hw)) Via.refl S_c ?_
  refine Go.ifN (pc' := 33) d_jdk_42_method_149_30 rfl ((if0 _ _).trans (feq (hzc : ¬ (zc0 = (0 : Int32)))).1) ?_
  refine Go.aload_n (pc' := 34) d_jdk_42_method_149_33 rfl rfl rfl ?_
  refine Go.iload_n (pc' := 35) d_jdk_42_method_149_34 rfl rfl ?_
  refine Go.iload_n (pc' := 36) d_jdk_42_method_149_35 rfl rfl ?_
  refine Go.callS (pc' := 39) (z := N_6) d_jdk_42_method_149_36 rfl (w_16 hw) (w_17 hw) (w_18 hw) (w_19 hw) (by decide) (argsL := [(.ref c), (.int (0 : Int32)), (.int z)]) (rest := []) (Pays.of_met (W := 0) (len := 3) (m_ucmp hw hs c kc cs zc z h0 V_c (hz) (hz0) (hle) (hbig) (h16)) (w_19 hw) (w_18 hw) (by decide) (by decide)) rfl rfl (lenOf pd_4 rfl) rfl (Nat.le_of_eq rfl) mem0 (by decide) (by decide) ?_
  rintro _ h39 _ K40 le41 ⟨b37, q38, rfl, rfl, p42, p43⟩
  have o_a_b37 : a ≠ b37 := Nat.ne_of_lt (Nat.lt_of_lt_of_le E_a.lt p42)
  have o_c_b37 : c ≠ b37 := Nat.ne_of_lt (Nat.lt_of_lt_of_le V_c.lt p42)
  have ge_b37 := Nat.le_trans le41 p42
  replace E_a := E_a.keep K40
  replace F_a_coder := F_a_coder.keep K40 nin0
  replace F_a_value := F_a_value.keep K40 nin0
  replace V_c := V_c.keep K40 nin0
  change Go _ _ _ _ _ _ _ _ _ _ _ _ _ _ [a] h39 2 774 39 #[.val (.ref a), .val (.ref c), .val (.int (0 : Int32)), .val (.int z), .val .null, .unset] [(.ref b37)]
  rcases p43 with ⟨V_t, ha⟩ | ⟨bs, V_t, hE, hX⟩
  · skip
    refine Go.astore (pc' := 41) (Ls' := #[.val (.ref a), .val (.ref c), .val (.int (0 : Int32)), .val (.int z), .val .null, .val (.ref b37)]) d_jdk_42_method_149_39 rfl rfl rfl ?_
    refine Go.aload_n (pc' := 42) d_jdk_42_method_149_41 rfl rfl rfl ?_
    refine Go.aload (pc' := 44) d_jdk_42_method_149_42 rfl rfl rfl ?_
    refine Go.iload_n (pc' := 45) d_jdk_42_method_149_44 rfl rfl ?_
    refine Go.callS (pc' := 48) (z := N_7) d_jdk_42_method_149_45 rfl (w_24 hw) (w_25 hw) (w_18 hw) (w_26 hw) (by decide) (argsL := [(.ref b37), (.int z)]) (rest := [(.ref a)]) (Pays.of_met (W := 1) (len := 3) (m_cfl hw hs b37 q38 z (cs.map lowV) h39 V_t) (w_26 hw) (w_18 hw) (by decide) (by decide)) rfl rfl (lenOf pd_6 rfl) rfl (Nat.le_of_eq rfl) mem0 (by decide) (by decide) ?_
    rintro _ _ _ - - ⟨rfl, rfl, rfl⟩
    change Go _ _ _ _ _ _ _ _ _ _ _ _ _ _ [a] h39 2 774 48 #[.val (.ref a), .val (.ref c), .val (.int (0 : Int32)), .val (.int z), .val .null, .val (.ref b37)] [(.int (0 : Int32)), (.ref a)]
    refine Go.putFN (pc' := 51) (v' := (.int (0 : Int32))) d_jdk_42_method_149_48 rfl (List.mem_of_getElem? (i := 0) rfl) (w_27 hw) Via.refl F_a_coder E_a (Or.inr ⟨(w_28 hw), rfl, rfl⟩) (w_3 hw) (ty := .byte) (by decide) rfl rfl ?_
    intro h44 W45
    replace F_a_coder := F_a_coder.same W45
    replace E_a := E_a.wr W45
    replace F_a_value := F_a_value.other W45 (Or.inr (slot_ne (Or.inr (w_30 hw)) (Or.inr (w_28 hw)) (by decide) (t := (.array .byte)) (t' := .byte) (by decide) (by decide)))
    replace V_c := V_c.other W45 ne_c_a
    replace V_t := V_t.other W45 (Ne.symm o_a_b37)
    change Go _ _ _ _ _ _ _ _ _ _ _ _ _ _ [a] h44 2 774 51 #[.val (.ref a), .val (.ref c), .val (.int (0 : Int32)), .val (.int z), .val .null, .val (.ref b37)] []
    refine Go.aload_n (pc' := 52) d_jdk_42_method_149_51 rfl rfl rfl ?_
    refine Go.aload (pc' := 54) d_jdk_42_method_149_52 rfl rfl rfl ?_
    refine Go.putF (pc' := 57) d_jdk_42_method_149_54 rfl (List.mem_of_getElem? (i := 0) rfl) (host := "") (Or.inl (w_29 hw)) Via.refl F_a_value E_a (Or.inr ⟨(w_30 hw), rfl, rfl⟩) (w_3 hw) (ty := (.array .byte)) (by decide) rfl rfl ?_
    intro h46 W47
    replace F_a_value := F_a_value.same W47
    replace E_a := E_a.wr W47
    replace V_c := V_c.other W47 ne_c_a
    replace V_t := V_t.other W47 (Ne.symm o_a_b37)
    replace F_a_coder := F_a_coder.other W47 (Or.inr (slot_ne (Or.inr (w_28 hw)) (Or.inr (w_30 hw)) (by decide) (t := .byte) (t' := (.array .byte)) (by decide) (by decide)))
    change Go _ _ _ _ _ _ _ _ _ _ _ _ _ _ [a] h46 2 774 57 #[.val (.ref a), .val (.ref c), .val (.int (0 : Int32)), .val (.int z), .val .null, .val (.ref b37)] []
    exact Go.retV d_jdk_42_method_149_57 rfl (by decide) (by decide) [] sn0 ⟨b37, _, rfl, rfl, E_a, ge_b37, Or.inl ⟨F_a_coder, F_a_value, V_t, ha⟩⟩
  · skip
    refine Go.astore (pc' := 41) (Ls' := #[.val (.ref a), .val (.ref c), .val (.int (0 : Int32)), .val (.int z), .val .null, .val (.ref b37)]) d_jdk_42_method_149_39 rfl rfl rfl ?_
    refine Go.aload_n (pc' := 42) d_jdk_42_method_149_41 rfl rfl rfl ?_
    refine Go.aload (pc' := 44) d_jdk_42_method_149_42 rfl rfl rfl ?_
    refine Go.iload_n (pc' := 45) d_jdk_42_method_149_44 rfl rfl ?_
    refine Go.callS (pc' := 48) (z := N_7) d_jdk_42_method_149_45 rfl (w_24 hw) (w_25 hw) (w_18 hw) (w_26 hw) (by decide) (argsL := [(.ref b37), (.int z)]) (rest := [(.ref a)]) (Pays.of_met (W := 1) (len := 3) (m_cfl1 hw hs b37 q38 z bs h39 V_t (hz0) (hzn) (hl1)) (w_26 hw) (w_18 hw) (by decide) (by decide)) rfl rfl (lenOf pd_6 rfl) rfl (Nat.le_of_eq rfl) mem0 (by decide) (by decide) ?_
    rintro _ _ _ - - ⟨rfl, rfl, rfl⟩
    change Go _ _ _ _ _ _ _ _ _ _ _ _ _ _ [a] h39 2 774 48 #[.val (.ref a), .val (.ref c), .val (.int (0 : Int32)), .val (.int z), .val .null, .val (.ref b37)] [(.int (1 : Int32)), (.ref a)]
    refine Go.putFN (pc' := 51) (v' := (.int (1 : Int32))) d_jdk_42_method_149_48 rfl (List.mem_of_getElem? (i := 0) rfl) (w_27 hw) Via.refl F_a_coder E_a (Or.inr ⟨(w_28 hw), rfl, rfl⟩) (w_3 hw) (ty := .byte) (by decide) rfl rfl ?_
    intro h48 W49
    replace F_a_coder := F_a_coder.same W49
    replace E_a := E_a.wr W49
    replace F_a_value := F_a_value.other W49 (Or.inr (slot_ne (Or.inr (w_30 hw)) (Or.inr (w_28 hw)) (by decide) (t := (.array .byte)) (t' := .byte) (by decide) (by decide)))
    replace V_c := V_c.other W49 ne_c_a
    replace V_t := V_t.other W49 (Ne.symm o_a_b37)
    change Go _ _ _ _ _ _ _ _ _ _ _ _ _ _ [a] h48 2 774 51 #[.val (.ref a), .val (.ref c), .val (.int (0 : Int32)), .val (.int z), .val .null, .val (.ref b37)] []
    refine Go.aload_n (pc' := 52) d_jdk_42_method_149_51 rfl rfl rfl ?_
    refine Go.aload (pc' := 54) d_jdk_42_method_149_52 rfl rfl rfl ?_
    refine Go.putF (pc' := 57) d_jdk_42_method_149_54 rfl (List.mem_of_getElem? (i := 0) rfl) (host := "") (Or.inl (w_29 hw)) Via.refl F_a_value E_a (Or.inr ⟨(w_30 hw), rfl, rfl⟩) (w_3 hw) (ty := (.array .byte)) (by decide) rfl rfl ?_
    intro h50 W51
    replace F_a_value := F_a_value.same W51
    replace E_a := E_a.wr W51
    replace V_c := V_c.other W51 ne_c_a
    replace V_t := V_t.other W51 (Ne.symm o_a_b37)
    replace F_a_coder := F_a_coder.other W51 (Or.inr (slot_ne (Or.inr (w_28 hw)) (Or.inr (w_30 hw)) (by decide) (t := .byte) (t' := (.array .byte)) (by decide) (by decide)))
    change Go _ _ _ _ _ _ _ _ _ _ _ _ _ _ [a] h50 2 774 57 #[.val (.ref a), .val (.ref c), .val (.int (0 : Int32)), .val (.int z), .val .null, .val (.ref b37)] []
    exact Go.retV d_jdk_42_method_149_57 rfl (by decide) (by decide) [] sn0 ⟨b37, _, rfl, rfl, E_a, ge_b37, Or.inr ⟨F_a_coder, F_a_value, bs, V_t, hE, hX⟩⟩
abbrev R_m_ustr : Room := { frames := 5, cells := 2, slots := 774, locals := 90 }
theorem pn_m_ustr : plainFor (⟨"java/lang/String", "<init>", "([C)V"⟩ : MethodName) = true := by first | (refine plainFor_of_name ?_; simp [plainName, overriddenIn]; done) | decide +kernel
abbrev Q_m_ustr (Z : State) (a : Addr) (c : Addr) (kc : ClassId) (cs : List Int32) (z : Int32) (h0 : Heap) : Option Value → Heap → List Addr → Prop := fun res h' SN => ∃ (t : Addr) (kt : ClassId), res = none ∧ SN = [] ∧ Exa Z h' a "java/lang/String" ∧ h0.size ≤ t ∧ (LatS Z h' a t kt z cs ∨ U16S Z h' a t kt z cs)
theorem ef_m_ustr (mid : MethodId) (a : Addr) (c : Addr) (kc : ClassId) (cs : List Int32) (z : Int32) : entryFrame mid #[(.ref a), (.ref c)] 2 = mkF mid 0 #[.val (.ref a), .val (.ref c)] [] := by first | (simp [entryFrame, mkF, argsToLocals, Value.category]; done) | rfl
set_option maxRecDepth 65536 in
set_option maxHeartbeats 40000000 in
theorem m_ustr {l : Launch} {Z : State} {a0 : Array Value} {n0 : Nat} (hw : ∀ d ∈ tables_1, d.before a0 Z = true) (hs : Stat Z) (a : Addr) (c : Addr) (kc : ClassId) (cs : List Int32) (z : Int32) (h0 : Heap) (E_a : Exa Z h0 a "java/lang/String") (F_a_coder : Fld Z h0 a "java/lang/String" "coder" "B" (.int (0 : Int32))) (F_a_value : Fld Z h0 a "java/lang/String" "value" "[B" .null) (V_c : Arv Z h0 c kc .char z (cs.map Value.int) (.int (0 : Int32))) (hz : z.toNatClampNeg = cs.length) (hz0 : ¬ z < 0) (hbig : z.toNatClampNeg ≤ CAP) (h16 : ∀ x ∈ cs, ¬ x < 0 ∧ ¬ 65535 < x) (hzn : ¬ z = 0) (ne_c_a : c ≠ a) :
    Met l Z EL0 n0 NR0 KN0 N_9 jdk_42_method_3_code 2 (Option.none : Option Jvm.ClassFile.FieldType) R_m_ustr [a] #[(.ref a), (.ref c)] h0 (Q_m_ustr Z a c kc cs z h0) := by
  refine Met.of_go pn_m_ustr (fun mid => ef_m_ustr mid a c kc cs z ) ?_
  intro hO hWS
  have hle : ¬ z < z := own_lt_irr z
  refine Go.aload_n (pc' := 1) d_jdk_42_method_3_0 rfl rfl rfl ?_
  refine Go.aload_n (pc' := 2) d_jdk_42_method_3_1 rfl rfl rfl ?_
  refine Go.iconst (pc' := 3) d_jdk_42_method_3_2 rfl ic_0 ?_
  refine Go.aload_n (pc' := 4) d_jdk_42_method_3_3 rfl rfl rfl ?_
  refine Go.lenV (pc' := 5) d_jdk_42_method_3_4 rfl V_c ?_
  refine Go.aconst_null (pc' := 6) d_jdk_42_method_3_5 rfl ?_
  refine Go.callI (pc' := 9) (z := N_8) (a := a) d_jdk_42_method_3_6 rfl rfl (w_8 hw) (w_9 hw) (w_11 hw) (by decide) (argsL := [(.ref c), (.int (0 : Int32)), (.int z), .null]) (rest := []) (Pays.of_met (W := 0) (len := 3) (m_ustr4 hw hs a c kc cs z z h0 E_a F_a_coder F_a_value V_c (hz) (hz0) (hle) (hbig) (h16) (hzn) ne_c_a) (w_11 hw) (w_4 hw) (by decide) (by decide)) rfl rfl (lenOf pd_7 rfl) rfl (Nat.le_of_eq rfl) (memS (List.mem_of_getElem? (i := 0) rfl) mem0) (by decide) (by decide) ?_
  rintro _ h54 _ K55 le56 ⟨b52, q53, rfl, rfl, p57, p58, p59⟩
  have o_a_b52 : a ≠ b52 := Nat.ne_of_lt (Nat.lt_of_lt_of_le E_a.lt p58)
  have o_c_b52 : c ≠ b52 := Nat.ne_of_lt (Nat.lt_of_lt_of_le V_c.lt p58)
  have ge_b52 := Nat.le_trans le56 p58
  replace E_a := E_a.keep K55
  replace V_c := V_c.keep K55 (ninS ne_c_a nin0)
  change Go _ _ _ _ _ _ _ _ _ _ _ _ _ _ [a] h54 2 774 9 #[.val (.ref a), .val (.ref c)] []
  exact Go.retV d_jdk_42_method_3_9 rfl (by decide) (by decide) [] sn0 ⟨b52, _, rfl, rfl, E_a, ge_b52, p59⟩
abbrev R_m_fis : Room := { frames := 0, cells := 0, slots := 0, locals := 0 }
theorem pn_m_fis : plainFor (⟨"jdk/internal/util/Preconditions", "checkFromIndexSize", "(IIILjava/util/function/BiFunction;)I"⟩ : MethodName) = true := by first | (refine plainFor_of_name ?_; simp [plainName, overriddenIn]; done) | decide +kernel
abbrev Q_m_fis (Z : State) (z : Int32) (zc : Int32) (f : Value) (h0 : Heap) : Option Value → Heap → List Addr → Prop := fun res h' SN => res = some (.int (0 : Int32)) ∧ SN = [] ∧ h0 = h'
theorem ef_m_fis (mid : MethodId) (z : Int32) (zc : Int32) (f : Value) (hv_f : f.isRef = true) : entryFrame mid #[(.int (0 : Int32)), (.int z), (.int zc), f] 4 = mkF mid 0 #[.val (.int (0 : Int32)), .val (.int z), .val (.int zc), .val f] [] := by rcases ref_cases hv_f with rfl | ⟨_, rfl⟩ <;> first | (simp [entryFrame, mkF, argsToLocals, Value.category]; done) | rfl
set_option maxRecDepth 65536 in
set_option maxHeartbeats 40000000 in
theorem m_fis {l : Launch} {Z : State} {a0 : Array Value} {n0 : Nat} (hw : ∀ d ∈ tables_1, d.before a0 Z = true) (hs : Stat Z) (z : Int32) (zc : Int32) (f : Value) (h0 : Heap) (hv_f : f.isRef = true) (hz0 : ¬ z < 0) (hc0 : ¬ zc < 0) (hle : ¬ zc < z) :
    Met l Z EL0 n0 NR0 KN0 N_10 jdk_41_method_13_code 4 (Option.some Jvm.ClassFile.FieldType.int) R_m_fis [] #[(.int (0 : Int32)), (.int z), (.int zc), f] h0 (Q_m_fis Z z zc f h0) := by
  refine Met.of_go pn_m_fis (fun mid => ef_m_fis mid z zc f hv_f) ?_
  intro hO hWS
  refine Go.iload_n (pc' := 1) d_jdk_41_method_13_0 rfl rfl ?_
  refine Go.iload_n (pc' := 2) d_jdk_41_method_13_1 rfl rfl ?_
  refine Go.ior (pc' := 3) d_jdk_41_method_13_2 rfl ?_
  refine Go.iload_n (pc' := 4) d_jdk_41_method_13_3 rfl rfl ?_
  refine Go.ior (pc' := 5) d_jdk_41_method_13_4 rfl ?_
  refine Go.ifN (pc' := 8) d_jdk_41_method_13_5 rfl ((if0 _ _).trans (flt (own_or3 hz0 hc0 : ¬ (((zc ||| (0 : Int32)) ||| z) < (0 : Int32)))).1) ?_
  refine Go.iload_n (pc' := 9) d_jdk_41_method_13_8 rfl rfl ?_
  refine Go.iload_n (pc' := 10) d_jdk_41_method_13_9 rfl rfl ?_
  refine Go.iload_n (pc' := 11) d_jdk_41_method_13_10 rfl rfl ?_
  refine Go.isub (pc' := 12) d_jdk_41_method_13_11 rfl ?_
  rw [own_sub0]
  refine Go.icmpY (pc' := 23) d_jdk_41_method_13_12 (by decide) (by decide) (flt (hle : ¬ (zc < z))).2.2.2 ?_
  refine Go.iload_n (pc' := 24) d_jdk_41_method_13_23 rfl rfl ?_
  exact Go.retI d_jdk_41_method_13_24 rfl (by decide) (by decide) [] sn0 ⟨rfl, rfl, rfl⟩
abbrev R_m_boc : Room := { frames := 1, cells := 0, slots := 0, locals := 15 }
theorem pn_m_boc : plainFor (⟨"java/lang/String", "checkBoundsOffCount", "(III)I"⟩ : MethodName) = true := by first | (refine plainFor_of_name ?_; simp [plainName, overriddenIn]; done) | decide +kernel
abbrev Q_m_boc (Z : State) (z : Int32) (zc : Int32) (h0 : Heap) : Option Value → Heap → List Addr → Prop := fun res h' SN => res = some (.int (0 : Int32)) ∧ SN = [] ∧ h0 = h'
theorem ef_m_boc (mid : MethodId) (z : Int32) (zc : Int32) : entryFrame mid #[(.int (0 : Int32)), (.int z), (.int zc)] 3 = mkF mid 0 #[.val (.int (0 : Int32)), .val (.int z), .val (.int zc)] [] := by first | (simp [entryFrame, mkF, argsToLocals, Value.category]; done) | rfl
set_option maxRecDepth 65536 in
set_option maxHeartbeats 40000000 in
theorem m_boc {l : Launch} {Z : State} {a0 : Array Value} {n0 : Nat} (hw : ∀ d ∈ tables_1, d.before a0 Z = true) (hs : Stat Z) (z : Int32) (zc : Int32) (h0 : Heap) (hz0 : ¬ z < 0) (hc0 : ¬ zc < 0) (hle : ¬ zc < z) :
    Met l Z EL0 n0 NR0 KN0 N_11 jdk_42_method_157_code 3 (Option.some Jvm.ClassFile.FieldType.int) R_m_boc [] #[(.int (0 : Int32)), (.int z), (.int zc)] h0 (Q_m_boc Z z zc h0) := by
  refine Met.of_go pn_m_boc (fun mid => ef_m_boc mid z zc ) ?_
  intro hO hWS
  obtain ⟨fm, S_f, hv_fm⟩ := hs_f hs
  refine Go.iload_n (pc' := 1) d_jdk_42_method_157_0 rfl rfl ?_
  refine Go.iload_n (pc' := 2) d_jdk_42_method_157_1 rfl rfl ?_
  refine Go.iload_n (pc' := 3) d_jdk_42_method_157_2 rfl rfl ?_
  refine Go.getS (pc' := 6) d_jdk_42_method_157_3 rfl (host := "") (Or.inl (w_60 hw)) Via.refl S_f ?_
  refine Go.callS (pc' := 9) (z := N_10) d_jdk_42_method_157_6 rfl (w_62 hw) (w_63 hw) (w_61 hw) (w_64 hw) (by decide) (argsL := [(.int (0 : Int32)), (.int z), (.int zc), fm]) (rest := []) (Pays.of_met (W := 0) (len := 3) (m_fis hw hs z zc fm h0 hv_fm (hz0) (hc0) (hle)) (w_64 hw) (w_61 hw) (by decide) (by decide)) rfl rfl (lenOf pd_8 rfl) rfl (Nat.le_of_eq rfl) mem0 (by decide) (by decide) ?_
  rintro _ _ _ - - ⟨rfl, rfl, rfl⟩
  change Go _ _ _ _ _ _ _ _ _ _ _ _ _ _ [] h0 0 0 9 #[.val (.int (0 : Int32)), .val (.int z), .val (.int zc)] [(.int (0 : Int32))]
  exact Go.retI d_jdk_42_method_157_9 rfl (by decide) (by decide) [] sn0 ⟨rfl, rfl, rfl⟩
abbrev R_m_rch : Room := { frames := 2, cells := 0, slots := 0, locals := 29 }
theorem pn_m_rch : plainFor (⟨"java/lang/String", "rangeCheck", "([CII)Ljava/lang/Void;"⟩ : MethodName) = true := by first | (refine plainFor_of_name ?_; simp [plainName, overriddenIn]; done) | decide +kernel
abbrev Q_m_rch (Z : State) (c : Addr) (kc : ClassId) (cs : List Int32) (zc : Int32) (z : Int32) (h0 : Heap) : Option Value → Heap → List Addr → Prop := fun res h' SN => res = some .null ∧ SN = [] ∧ h0 = h'
theorem ef_m_rch (mid : MethodId) (c : Addr) (kc : ClassId) (cs : List Int32) (zc : Int32) (z : Int32) : entryFrame mid #[(.ref c), (.int (0 : Int32)), (.int z)] 3 = mkF mid 0 #[.val (.ref c), .val (.int (0 : Int32)), .val (.int z)] [] := by first | (simp [entryFrame, mkF, argsToLocals, Value.category]; done) | rfl
set_option maxRecDepth 65536 in
set_option maxHeartbeats 40000000 in
theorem m_rch {l : Launch} {Z : State} {a0 : Array Value} {n0 : Nat} (hw : ∀ d ∈ tables_1, d.before a0 Z = true) (hs : Stat Z) (c : Addr) (kc : ClassId) (cs : List Int32) (zc : Int32) (z : Int32) (h0 : Heap) (V_c : Arv Z h0 c kc .char zc (cs.map Value.int) (.int (0 : Int32))) (hz0 : ¬ z < 0) (hle : ¬ zc < z) :
    Met l Z EL0 n0 NR0 KN0 N_12 jdk_42_method_5_code 3 (Option.some (Jvm.ClassFile.FieldType.object "java/lang/Void")) R_m_rch [] #[(.ref c), (.int (0 : Int32)), (.int z)] h0 (Q_m_rch Z c kc cs zc z h0) := by
  refine Met.of_go pn_m_rch (fun mid => ef_m_rch mid c kc cs zc z ) ?_
  intro hO hWS
  have hc0 := arv_nn V_c
  refine Go.iload_n (pc' := 1) d_jdk_42_method_5_0 rfl rfl ?_
  refine Go.iload_n (pc' := 2) d_jdk_42_method_5_1 rfl rfl ?_
  refine Go.aload_n (pc' := 3) d_jdk_42_method_5_2 rfl rfl rfl ?_
  refine Go.lenV (pc' := 4) d_jdk_42_method_5_3 rfl V_c ?_
  refine Go.callS (pc' := 7) (z := N_11) d_jdk_42_method_5_4 rfl (w_57 hw) (w_58 hw) (w_4 hw) (w_59 hw) (by decide) (argsL := [(.int (0 : Int32)), (.int z), (.int zc)]) (rest := []) (Pays.of_met (W := 0) (len := 3) (m_boc hw hs z zc h0 (hz0) (hc0) (hle)) (w_59 hw) (w_4 hw) (by decide) (by decide)) rfl rfl (lenOf pd_9 rfl) rfl (Nat.le_of_eq rfl) mem0 (by decide) (by decide) ?_
  rintro _ _ _ - - ⟨rfl, rfl, rfl⟩
  change Go _ _ _ _ _ _ _ _ _ _ _ _ _ _ [] h0 0 0 7 #[.val (.ref c), .val (.int (0 : Int32)), .val (.int z)] [(.int (0 : Int32))]
  refine Go.pop (pc' := 8) d_jdk_42_method_5_7 rfl rfl ?_
  refine Go.aconst_null (pc' := 9) d_jdk_42_method_5_8 rfl ?_
  exact Go.retA d_jdk_42_method_5_9 rfl rfl rfl (by decide) (by decide) [] sn0 ⟨rfl, rfl, rfl⟩
abbrev R_m_ustr3 : Room := { frames := 5, cells := 2, slots := 774, locals := 90 }
theorem pn_m_ustr3 : plainFor (⟨"java/lang/String", "<init>", "([CII)V"⟩ : MethodName) = true := by first | (refine plainFor_of_name ?_; simp [plainName, overriddenIn]; done) | decide +kernel
abbrev Q_m_ustr3 (Z : State) (a : Addr) (c : Addr) (kc : ClassId) (cs : List Int32) (zc : Int32) (z : Int32) (h0 : Heap) : Option Value → Heap → List Addr → Prop := fun res h' SN => ∃ (t : Addr) (kt : ClassId), res = none ∧ SN = [] ∧ Exa Z h' a "java/lang/String" ∧ h0.size ≤ t ∧ (LatS Z h' a t kt z cs ∨ U16S Z h' a t kt z cs)
theorem ef_m_ustr3 (mid : MethodId) (a : Addr) (c : Addr) (kc : ClassId) (cs : List Int32) (zc : Int32) (z : Int32) : entryFrame mid #[(.ref a), (.ref c), (.int (0 : Int32)), (.int z)] 4 = mkF mid 0 #[.val (.ref a), .val (.ref c), .val (.int (0 : Int32)), .val (.int z)] [] := by first | (simp [entryFrame, mkF, argsToLocals, Value.category]; done) | rfl
set_option maxRecDepth 65536 in
set_option maxHeartbeats 40000000 in
theorem m_ustr3 {l : Launch} {Z : State} {a0 : Array Value} {n0 : Nat} (hw : ∀ d ∈ tables_1, d.before a0 Z = true) (hs : Stat Z) (a : Addr) (c : Addr) (kc : ClassId) (cs : List Int32) (zc : Int32) (z : Int32) (h0 : Heap) (E_a : Exa Z h0 a "java/lang/String") (F_a_coder : Fld Z h0 a "java/lang/String" "coder" "B" (.int (0 : Int32))) (F_a_value : Fld Z h0 a "java/lang/String" "value" "[B" .null) (V_c : Arv Z h0 c kc .char zc (cs.map Value.int) (.int (0 : Int32))) (hz : z.toNatClampNeg = cs.length) (hz0 : ¬ z < 0) (hle : ¬ zc < z) (hbig : z.toNatClampNeg ≤ CAP) (h16 : ∀ x ∈ cs, ¬ x < 0 ∧ ¬ 65535 < x) (hzn : ¬ z = 0) (ne_c_a : c ≠ a) :
    Met l Z EL0 n0 NR0 KN0 N_13 jdk_42_method_4_code 4 (Option.none : Option Jvm.ClassFile.FieldType) R_m_ustr3 [a] #[(.ref a), (.ref c), (.int (0 : Int32)), (.int z)] h0 (Q_m_ustr3 Z a c kc cs zc z h0) := by
  refine Met.of_go pn_m_ustr3 (fun mid => ef_m_ustr3 mid a c kc cs zc z ) ?_
  intro hO hWS
  refine Go.aload_n (pc' := 1) d_jdk_42_method_4_0 rfl rfl rfl ?_
  refine Go.aload_n (pc' := 2) d_jdk_42_method_4_1 rfl rfl rfl ?_
  refine Go.iload_n (pc' := 3) d_jdk_42_method_4_2 rfl rfl ?_
  refine Go.iload_n (pc' := 4) d_jdk_42_method_4_3 rfl rfl ?_
  refine Go.aload_n (pc' := 5) d_jdk_42_method_4_4 rfl rfl rfl ?_
  refine Go.iload_n (pc' := 6) d_jdk_42_method_4_5 rfl rfl ?_
  refine Go.iload_n (pc' := 7) d_jdk_42_method_4_6 rfl rfl ?_
  refine Go.callS (pc' := 10) (z := N_12) d_jdk_42_method_4_7 rfl (w_54 hw) (w_55 hw) (w_4 hw) (w_56 hw) (by decide) (argsL := [(.ref c), (.int (0 : Int32)), (.int z)]) (rest := [(.int z), (.int (0 : Int32)), (.ref c), (.ref a)]) (Pays.of_met (W := 4) (len := 3) (m_rch hw hs c kc cs zc z h0 V_c (hz0) (hle)) (w_56 hw) (w_4 hw) (by decide) (by decide)) rfl rfl (lenOf pd_10 rfl) rfl (Nat.le_of_eq rfl) mem0 (by decide) (by decide) ?_
  rintro _ _ _ - - ⟨rfl, rfl, rfl⟩
  change Go _ _ _ _ _ _ _ _ _ _ _ _ _ _ [a] h0 0 0 10 #[.val (.ref a), .val (.ref c), .val (.int (0 : Int32)), .val (.int z)] [.null, (.int z), (.int (0 : Int32)), (.ref c), (.ref a)]
  refine Go.callI (pc' := 13) (z := N_8) (a := a) d_jdk_42_method_4_10 rfl rfl (w_8 hw) (w_9 hw) (w_11 hw) (by decide) (argsL := [(.ref c), (.int (0 : Int32)), (.int z), .null]) (rest := []) (Pays.of_met (W := 0) (len := 3) (m_ustr4 hw hs a c kc cs zc z h0 E_a F_a_coder F_a_value V_c (hz) (hz0) (hle) (hbig) (h16) (hzn) ne_c_a) (w_11 hw) (w_4 hw) (by decide) (by decide)) rfl rfl (lenOf pd_7 rfl) rfl (Nat.le_of_eq rfl) (memS (List.mem_of_getElem? (i := 0) rfl) mem0) (by decide) (by decide) ?_
  rintro _ h62 _ K63 le64 ⟨b60, q61, rfl, rfl, p65, p66, p67⟩
  have o_a_b60 : a ≠ b60 := Nat.ne_of_lt (Nat.lt_of_lt_of_le E_a.lt p66)
  have o_c_b60 : c ≠ b60 := Nat.ne_of_lt (Nat.lt_of_lt_of_le V_c.lt p66)
  have ge_b60 := Nat.le_trans le64 p66
  replace E_a := E_a.keep K63
  replace V_c := V_c.keep K63 (ninS ne_c_a nin0)
  change Go _ _ _ _ _ _ _ _ _ _ _ _ _ _ [a] h62 2 774 13 #[.val (.ref a), .val (.ref c), .val (.int (0 : Int32)), .val (.int z)] []
  exact Go.retV d_jdk_42_method_4_13 rfl (by decide) (by decide) [] sn0 ⟨b60, _, rfl, rfl, E_a, ge_b60, p67⟩
abbrev R_m_coder : Room := { frames := 0, cells := 0, slots := 0, locals := 0 }
theorem pn_m_coder : plainFor (⟨"java/lang/String", "coder", "()B"⟩ : MethodName) = true := by first | (refine plainFor_of_name ?_; simp [plainName, overriddenIn]; done) | decide +kernel
abbrev Q_m_coder (Z : State) (a : Addr) (h0 : Heap) : Option Value → Heap → List Addr → Prop := fun res h' SN => res = some (.int (0 : Int32)) ∧ SN = [] ∧ h0 = h'
theorem ef_m_coder (mid : MethodId) (a : Addr) : entryFrame mid #[(.ref a)] 1 = mkF mid 0 #[.val (.ref a)] [] := by first | (simp [entryFrame, mkF, argsToLocals, Value.category]; done) | rfl
set_option maxRecDepth 65536 in
set_option maxHeartbeats 40000000 in
theorem m_coder {l : Launch} {Z : State} {a0 : Array Value} {n0 : Nat} (hw : ∀ d ∈ tables_1, d.before a0 Z = true) (hs : Stat Z) (a : Addr) (h0 : Heap) (F_a_coder : Fld Z h0 a "java/lang/String" "coder" "B" (.int (0 : Int32))) :
    Met l Z EL0 n0 NR0 KN0 N_14 jdk_42_method_152_code 1 (Option.some Jvm.ClassFile.FieldType.byte) R_m_coder [] #[(.ref a)] h0 (Q_m_coder Z a h0) := by
  refine Met.of_go pn_m_coder (fun mid => ef_m_coder mid a ) ?_
  intro hO hWS
  obtain ⟨zc, S_c, hzc⟩ := hs_c hs
  refine Go.getS (pc' := 3) d_jdk_42_method_152_0 rfl (host := "") (Or.inl (w_15 hw)) Via.refl S_c ?_
  refine Go.ifN (pc' := 6) d_jdk_42_method_152_3 rfl ((if0 _ _).trans (feq (hzc : ¬ (zc = (0 : Int32)))).1) ?_
  refine Go.aload_n (pc' := 7) d_jdk_42_method_152_6 rfl rfl rfl ?_
  refine Go.getF (pc' := 10) d_jdk_42_method_152_7 rfl (host := "") (Or.inl (w_27 hw)) Via.refl F_a_coder ?_
  refine Go.goto (pc' := 14) d_jdk_42_method_152_10 (by decide) (by decide) ?_
  exact Go.retS (ty := .byte) d_jdk_42_method_152_14 rfl (by simp) rfl (by decide) (by decide) [] sn0 ⟨rfl, rfl, rfl⟩
abbrev R_m_isL : Room := { frames := 0, cells := 0, slots := 0, locals := 0 }
theorem pn_m_isL : plainFor (⟨"java/lang/String", "isLatin1", "()Z"⟩ : MethodName) = true := by first | (refine plainFor_of_name ?_; simp [plainName, overriddenIn]; done) | decide +kernel
abbrev Q_m_isL (Z : State) (a : Addr) (h0 : Heap) : Option Value → Heap → List Addr → Prop := fun res h' SN => res = some (.int (1 : Int32)) ∧ SN = [] ∧ h0 = h'
theorem ef_m_isL (mid : MethodId) (a : Addr) : entryFrame mid #[(.ref a)] 1 = mkF mid 0 #[.val (.ref a)] [] := by first | (simp [entryFrame, mkF, argsToLocals, Value.category]; done) | rfl
set_option maxRecDepth 65536 in
set_option maxHeartbeats 40000000 in
theorem m_isL {l : Launch} {Z : State} {a0 : Array Value} {n0 : Nat} (hw : ∀ d ∈ tables_1, d.before a0 Z = true) (hs : Stat Z) (a : Addr) (h0 : Heap) (F_a_coder : Fld Z h0 a "java/lang/String" "coder" "B" (.int (0 : Int32))) :
    Met l Z EL0 n0 NR0 KN0 N_15 jdk_42_method_154_code 1 (Option.some Jvm.ClassFile.FieldType.boolean) R_m_isL [] #[(.ref a)] h0 (Q_m_isL Z a h0) := by
  refine Met.of_go pn_m_isL (fun mid => ef_m_isL mid a ) ?_
  intro hO hWS
  obtain ⟨zc, S_c, hzc⟩ := hs_c hs
  refine Go.getS (pc' := 3) d_jdk_42_method_154_0 rfl (host := "") (Or.inl (w_15 hw)) Via.refl S_c ?_
  refine Go.ifN (pc' := 6) d_jdk_42_method_154_3 rfl ((if0 _ _).trans (feq (hzc : ¬ (zc = (0 : Int32)))).1) ?_
  refine Go.aload_n (pc' := 7) d_jdk_42_method_154_6 rfl rfl rfl ?_
  refine Go.getF (pc' := 10) d_jdk_42_method_154_7 rfl (host := "") (Or.inl (w_27 hw)) Via.refl F_a_coder ?_
  refine Go.ifN (pc' := 13) d_jdk_42_method_154_10 rfl ((if0 _ _).trans (teq (rfl : (0 : Int32) = (0 : Int32))).2) ?_
  refine Go.iconst (pc' := 14) d_jdk_42_method_154_13 rfl ic_1 ?_
  refine Go.goto (pc' := 18) d_jdk_42_method_154_14 (by decide) (by decide) ?_
  exact Go.retS (ty := .boolean) d_jdk_42_method_154_18 rfl (by simp) rfl (by decide) (by decide) [] sn0 ⟨rfl, rfl, rfl⟩
abbrev R_m_length : Room := { frames := 1, cells := 0, slots := 0, locals := 13 }
theorem pn_m_length : plainFor (⟨"java/lang/String", "length", "()I"⟩ : MethodName) = true := by first | (refine plainFor_of_name ?_; simp [plainName, overriddenIn]; done) | decide +kernel
abbrev Q_m_length (Z : State) (a : Addr) (t : Addr) (kt : ClassId) (z : Int32) (vs : List Value) (h0 : Heap) : Option Value → Heap → List Addr → Prop := fun res h' SN => res = some (.int z) ∧ SN = [] ∧ h0 = h'
theorem ef_m_length (mid : MethodId) (a : Addr) (t : Addr) (kt : ClassId) (z : Int32) (vs : List Value) : entryFrame mid #[(.ref a)] 1 = mkF mid 0 #[.val (.ref a)] [] := by first | (simp [entryFrame, mkF, argsToLocals, Value.category]; done) | rfl
set_option maxRecDepth 65536 in
set_option maxHeartbeats 40000000 in
theorem m_length {l : Launch} {Z : State} {a0 : Array Value} {n0 : Nat} (hw : ∀ d ∈ tables_1, d.before a0 Z = true) (hs : Stat Z) (a : Addr) (t : Addr) (kt : ClassId) (z : Int32) (vs : List Value) (h0 : Heap) (E_a : Exa Z h0 a "java/lang/String") (F_a_coder : Fld Z h0 a "java/lang/String" "coder" "B" (.int (0 : Int32))) (F_a_value : Fld Z h0 a "java/lang/String" "value" "[B" (.ref t)) (V_t : Arv Z h0 t kt .byte z vs (.int (0 : Int32))) :
    Met l Z EL0 n0 NR0 KN0 N_16 jdk_42_method_54_code 1 (Option.some Jvm.ClassFile.FieldType.int) R_m_length [] #[(.ref a)] h0 (Q_m_length Z a t kt z vs h0) := by
  refine Met.of_go pn_m_length (fun mid => ef_m_length mid a t kt z vs ) ?_
  intro hO hWS
  refine Go.aload_n (pc' := 1) d_jdk_42_method_54_0 rfl rfl rfl ?_
  refine Go.getF (pc' := 4) d_jdk_42_method_54_1 rfl (host := "") (Or.inl (w_29 hw)) Via.refl F_a_value ?_
  refine Go.lenV (pc' := 5) d_jdk_42_method_54_4 rfl V_t ?_
  refine Go.aload_n (pc' := 6) d_jdk_42_method_54_5 rfl rfl rfl ?_
  refine Go.callV (pc' := 9) (u := N_14) (z := N_14) (a := a) d_jdk_42_method_54_6 rfl (w_88 hw) (w_89 hw) (nf (w_91 hw) rfl) (w_91 hw) (w_90 hw) (by decide) E_a (argsL := []) (rest := [(.int z)]) (Pays.of_met (W := 1) (len := 3) (m_coder hw hs a h0 F_a_coder) (w_92 hw) (w_4 hw) (by decide) (by decide)) rfl rfl (lenOf pd_11 rfl) rfl (Nat.le_of_eq rfl) mem0 (by decide) (by decide) ?_
  rintro _ _ _ - - ⟨rfl, rfl, rfl⟩
  change Go _ _ _ _ _ _ _ _ _ _ _ _ _ _ [] h0 0 0 9 #[.val (.ref a)] [(.int (0 : Int32)), (.int z)]
  refine Go.ishr (pc' := 10) d_jdk_42_method_54_9 rfl ?_
  rw [shr0]
  exact Go.retI d_jdk_42_method_54_10 rfl (by decide) (by decide) [] sn0 ⟨rfl, rfl, rfl⟩
abbrev R_m_pre : Room := { frames := 0, cells := 0, slots := 0, locals := 0 }
theorem pn_m_pre : plainFor (⟨"jdk/internal/util/Preconditions", "checkIndex", "(IILjava/util/function/BiFunction;)I"⟩ : MethodName) = true := by first | (refine plainFor_of_name ?_; simp [plainName, overriddenIn]; done) | decide +kernel
abbrev Q_m_pre (Z : State) (j : Int32) (z : Int32) (f : Value) (h0 : Heap) : Option Value → Heap → List Addr → Prop := fun res h' SN => res = some (.int j) ∧ SN = [] ∧ h0 = h'
theorem ef_m_pre (mid : MethodId) (j : Int32) (z : Int32) (f : Value) (hv_f : f.isRef = true) : entryFrame mid #[(.int j), (.int z), f] 3 = mkF mid 0 #[.val (.int j), .val (.int z), .val f] [] := by rcases ref_cases hv_f with rfl | ⟨_, rfl⟩ <;> first | (simp [entryFrame, mkF, argsToLocals, Value.category]; done) | rfl
set_option maxRecDepth 65536 in
set_option maxHeartbeats 40000000 in
theorem m_pre {l : Launch} {Z : State} {a0 : Array Value} {n0 : Nat} (hw : ∀ d ∈ tables_1, d.before a0 Z = true) (hs : Stat Z) (j : Int32) (z : Int32) (f : Value) (h0 : Heap) (hv_f : f.isRef = true) (hj : ¬ j < 0 ∧ j < z) :
    Met l Z EL0 n0 NR0 KN0 N_17 jdk_41_method_11_code 3 (Option.some Jvm.ClassFile.FieldType.int) R_m_pre [] #[(.int j), (.int z), f] h0 (Q_m_pre Z j z f h0) := by
  refine Met.of_go pn_m_pre (fun mid => ef_m_pre mid j z f hv_f) ?_
  intro hO hWS
  refine Go.iload_n (pc' := 1) d_jdk_41_method_11_0 rfl rfl ?_
  refine Go.ifN (pc' := 4) d_jdk_41_method_11_1 rfl ((if0 _ _).trans (flt (hj.1 : ¬ (j < (0 : Int32)))).1) ?_
  refine Go.iload_n (pc' := 5) d_jdk_41_method_11_4 rfl rfl ?_
  refine Go.iload_n (pc' := 6) d_jdk_41_method_11_5 rfl rfl ?_
  refine Go.icmpY (pc' := 16) d_jdk_41_method_11_6 (by decide) (by decide) (tlt (hj.2 : j < z)).1 ?_
  refine Go.iload_n (pc' := 17) d_jdk_41_method_11_16 rfl rfl ?_
  exact Go.retI d_jdk_41_method_11_17 rfl (by decide) (by decide) [] sn0 ⟨rfl, rfl, rfl⟩
abbrev R_m_chk : Room := { frames := 1, cells := 0, slots := 0, locals := 14 }
theorem pn_m_chk : plainFor (⟨"java/lang/String", "checkIndex", "(II)V"⟩ : MethodName) = true := by first | (refine plainFor_of_name ?_; simp [plainName, overriddenIn]; done) | decide +kernel
abbrev Q_m_chk (Z : State) (j : Int32) (z : Int32) (h0 : Heap) : Option Value → Heap → List Addr → Prop := fun res h' SN => res = none ∧ SN = [] ∧ h0 = h'
theorem ef_m_chk (mid : MethodId) (j : Int32) (z : Int32) : entryFrame mid #[(.int j), (.int z)] 2 = mkF mid 0 #[.val (.int j), .val (.int z)] [] := by first | (simp [entryFrame, mkF, argsToLocals, Value.category]; done) | rfl
set_option maxRecDepth 65536 in
set_option maxHeartbeats 40000000 in
theorem m_chk {l : Launch} {Z : State} {a0 : Array Value} {n0 : Nat} (hw : ∀ d ∈ tables_1, d.before a0 Z = true) (hs : Stat Z) (j : Int32) (z : Int32) (h0 : Heap) (hj : ¬ j < 0 ∧ j < z) :
    Met l Z EL0 n0 NR0 KN0 N_18 jdk_42_method_155_code 2 (Option.none : Option Jvm.ClassFile.FieldType) R_m_chk [] #[(.int j), (.int z)] h0 (Q_m_chk Z j z h0) := by
  refine Met.of_go pn_m_chk (fun mid => ef_m_chk mid j z ) ?_
  intro hO hWS
  obtain ⟨fm, S_f, hv_fm⟩ := hs_f hs
  refine Go.iload_n (pc' := 1) d_jdk_42_method_155_0 rfl rfl ?_
  refine Go.iload_n (pc' := 2) d_jdk_42_method_155_1 rfl rfl ?_
  refine Go.getS (pc' := 5) d_jdk_42_method_155_2 rfl (host := "") (Or.inl (w_60 hw)) Via.refl S_f ?_
  refine Go.callS (pc' := 8) (z := N_17) d_jdk_42_method_155_5 rfl (w_167 hw) (w_168 hw) (w_61 hw) (w_169 hw) (by decide) (argsL := [(.int j), (.int z), fm]) (rest := []) (Pays.of_met (W := 0) (len := 3) (m_pre hw hs j z fm h0 hv_fm (hj)) (w_169 hw) (w_61 hw) (by decide) (by decide)) rfl rfl (lenOf pd_12 rfl) rfl (Nat.le_of_eq rfl) mem0 (by decide) (by decide) ?_
  rintro _ _ _ - - ⟨rfl, rfl, rfl⟩
  change Go _ _ _ _ _ _ _ _ _ _ _ _ _ _ [] h0 0 0 8 #[.val (.int j), .val (.int z)] [(.int j)]
  refine Go.pop (pc' := 9) d_jdk_42_method_155_8 rfl rfl ?_
  exact Go.retV d_jdk_42_method_155_9 rfl (by decide) (by decide) [] sn0 ⟨rfl, rfl, rfl⟩
abbrev R_m_l1c : Room := { frames := 2, cells := 0, slots := 0, locals := 27 }
theorem pn_m_l1c : plainFor (⟨"java/lang/StringLatin1", "charAt", "([BI)C"⟩ : MethodName) = true := by first | (refine plainFor_of_name ?_; simp [plainName, overriddenIn]; done) | decide +kernel
abbrev Q_m_l1c (Z : State) (t : Addr) (kt : ClassId) (z : Int32) (vs : List Value) (j : Int32) (u : Int32) (h0 : Heap) : Option Value → Heap → List Addr → Prop := fun res h' SN => res = some (.int (u &&& (255 : Int32)).toUInt32.toUInt16.toUInt32.toInt32) ∧ SN = [] ∧ h0 = h'
theorem ef_m_l1c (mid : MethodId) (t : Addr) (kt : ClassId) (z : Int32) (vs : List Value) (j : Int32) (u : Int32) : entryFrame mid #[(.ref t), (.int j)] 2 = mkF mid 0 #[.val (.ref t), .val (.int j)] [] := by first | (simp [entryFrame, mkF, argsToLocals, Value.category]; done) | rfl
set_option maxRecDepth 65536 in
set_option maxHeartbeats 40000000 in
theorem m_l1c {l : Launch} {Z : State} {a0 : Array Value} {n0 : Nat} (hw : ∀ d ∈ tables_1, d.before a0 Z = true) (hs : Stat Z) (t : Addr) (kt : ClassId) (z : Int32) (vs : List Value) (j : Int32) (u : Int32) (h0 : Heap) (V_t : Arv Z h0 t kt .byte z vs (.int (0 : Int32))) (hj : ¬ j < 0 ∧ j < z) (hu : vs.getD j.toNatClampNeg (.int (0 : Int32)) = .int u) :
    Met l Z EL0 n0 NR0 KN0 N_19 jdk_43_method_2_code 2 (Option.some Jvm.ClassFile.FieldType.char) R_m_l1c [] #[(.ref t), (.int j)] h0 (Q_m_l1c Z t kt z vs j u h0) := by
  refine Met.of_go pn_m_l1c (fun mid => ef_m_l1c mid t kt z vs j u ) ?_
  intro hO hWS
  refine Go.iload_n (pc' := 1) d_jdk_43_method_2_0 rfl rfl ?_
  refine Go.aload_n (pc' := 2) d_jdk_43_method_2_1 rfl rfl rfl ?_
  refine Go.lenV (pc' := 3) d_jdk_43_method_2_2 rfl V_t ?_
  refine Go.callS (pc' := 6) (z := N_18) d_jdk_43_method_2_3 rfl (w_164 hw) (w_165 hw) (w_4 hw) (w_166 hw) (by decide) (argsL := [(.int j), (.int z)]) (rest := []) (Pays.of_met (W := 0) (len := 3) (m_chk hw hs j z h0 (hj)) (w_166 hw) (w_4 hw) (by decide) (by decide)) rfl rfl (lenOf pd_13 rfl) rfl (Nat.le_of_eq rfl) mem0 (by decide) (by decide) ?_
  rintro _ _ _ - - ⟨rfl, rfl, rfl⟩
  change Go _ _ _ _ _ _ _ _ _ _ _ _ _ _ [] h0 0 0 6 #[.val (.ref t), .val (.int j)] []
  refine Go.aload_n (pc' := 7) d_jdk_43_method_2_6 rfl rfl rfl ?_
  refine Go.iload_n (pc' := 8) d_jdk_43_method_2_7 rfl rfl ?_
  refine Go.baloadV (pc' := 9) (v := (.int u)) d_jdk_43_method_2_8 rfl V_t hj hu ?_
  refine Go.sipush (pc' := 12) d_jdk_43_method_2_9 rfl ics_255 ?_
  refine Go.iand (pc' := 13) d_jdk_43_method_2_12 rfl ?_
  refine Go.i2c (pc' := 14) d_jdk_43_method_2_13 rfl ?_
  exact Go.retS (ty := .char) d_jdk_43_method_2_14 rfl (by simp) (own_narc u) (by decide) (by decide) [] sn0 ⟨rfl, rfl, rfl⟩
abbrev R_m_charAt : Room := { frames := 3, cells := 0, slots := 0, locals := 40 }
theorem pn_m_charAt : plainFor (⟨"java/lang/String", "charAt", "(I)C"⟩ : MethodName) = true := by first | (refine plainFor_of_name ?_; simp [plainName, overriddenIn]; done) | decide +kernel
abbrev Q_m_charAt (Z : State) (a : Addr) (t : Addr) (kt : ClassId) (z : Int32) (vs : List Value) (j : Int32) (u : Int32) (h0 : Heap) : Option Value → Heap → List Addr → Prop := fun res h' SN => res = some (.int (u &&& (255 : Int32)).toUInt32.toUInt16.toUInt32.toInt32) ∧ SN = [] ∧ h0 = h'
theorem ef_m_charAt (mid : MethodId) (a : Addr) (t : Addr) (kt : ClassId) (z : Int32) (vs : List Value) (j : Int32) (u : Int32) : entryFrame mid #[(.ref a), (.int j)] 2 = mkF mid 0 #[.val (.ref a), .val (.int j)] [] := by first | (simp [entryFrame, mkF, argsToLocals, Value.category]; done) | rfl
set_option maxRecDepth 65536 in
set_option maxHeartbeats 40000000 in
theorem m_charAt {l : Launch} {Z : State} {a0 : Array Value} {n0 : Nat} (hw : ∀ d ∈ tables_1, d.before a0 Z = true) (hs : Stat Z) (a : Addr) (t : Addr) (kt : ClassId) (z : Int32) (vs : List Value) (j : Int32) (u : Int32) (h0 : Heap) (E_a : Exa Z h0 a "java/lang/String") (F_a_coder : Fld Z h0 a "java/lang/String" "coder" "B" (.int (0 : Int32))) (F_a_value : Fld Z h0 a "java/lang/String" "value" "[B" (.ref t)) (V_t : Arv Z h0 t kt .byte z vs (.int (0 : Int32))) (hj : ¬ j < 0 ∧ j < z) (hu : vs.getD j.toNatClampNeg (.int (0 : Int32)) = .int u) :
    Met l Z EL0 n0 NR0 KN0 N_20 jdk_42_method_56_code 2 (Option.some Jvm.ClassFile.FieldType.char) R_m_charAt [] #[(.ref a), (.int j)] h0 (Q_m_charAt Z a t kt z vs j u h0) := by
  refine Met.of_go pn_m_charAt (fun mid => ef_m_charAt mid a t kt z vs j u ) ?_
  intro hO hWS
  refine Go.aload_n (pc' := 1) d_jdk_42_method_56_0 rfl rfl rfl ?_
  refine Go.callV (pc' := 4) (u := N_15) (z := N_15) (a := a) d_jdk_42_method_56_1 rfl (w_120 hw) (w_121 hw) (nf (w_123 hw) rfl) (w_123 hw) (w_122 hw) (by decide) E_a (argsL := []) (rest := []) (Pays.of_met (W := 0) (len := 3) (m_isL hw hs a h0 F_a_coder) (w_124 hw) (w_4 hw) (by decide) (by decide)) rfl rfl (lenOf pd_14 rfl) rfl (Nat.le_of_eq rfl) mem0 (by decide) (by decide) ?_
  rintro _ _ _ - - ⟨rfl, rfl, rfl⟩
  change Go _ _ _ _ _ _ _ _ _ _ _ _ _ _ [] h0 0 0 4 #[.val (.ref a), .val (.int j)] [(.int (1 : Int32))]
  refine Go.ifN (pc' := 7) d_jdk_42_method_56_4 rfl ((if0 _ _).trans (feq (by decide : ¬ ((1 : Int32) = (0 : Int32)))).1) ?_
  refine Go.aload_n (pc' := 8) d_jdk_42_method_56_7 rfl rfl rfl ?_
  refine Go.getF (pc' := 11) d_jdk_42_method_56_8 rfl (host := "") (Or.inl (w_29 hw)) Via.refl F_a_value ?_
  refine Go.iload_n (pc' := 12) d_jdk_42_method_56_11 rfl rfl ?_
  refine Go.callS (pc' := 15) (z := N_19) d_jdk_42_method_56_12 rfl (w_161 hw) (w_162 hw) (w_76 hw) (w_163 hw) (by decide) (argsL := [(.ref t), (.int j)]) (rest := []) (Pays.of_met (W := 0) (len := 3) (m_l1c hw hs t kt z vs j u h0 V_t (hj) (hu)) (w_163 hw) (w_76 hw) (by decide) (by decide)) rfl rfl (lenOf pd_5 rfl) rfl (Nat.le_of_eq rfl) mem0 (by decide) (by decide) ?_
  rintro _ _ _ - - ⟨rfl, rfl, rfl⟩
  change Go _ _ _ _ _ _ _ _ _ _ _ _ _ _ [] h0 0 0 15 #[.val (.ref a), .val (.int j)] [(.int (u &&& (255 : Int32)).toUInt32.toUInt16.toUInt32.toInt32)]
  exact Go.retS (ty := .char) d_jdk_42_method_56_15 rfl (by simp) (own_narc u) (by decide) (by decide) [] sn0 ⟨rfl, rfl, rfl⟩
abbrev R_m_coder1 : Room := { frames := 0, cells := 0, slots := 0, locals := 0 }
theorem pn_m_coder1 : plainFor (⟨"java/lang/String", "coder", "()B"⟩ : MethodName) = true := by first | (refine plainFor_of_name ?_; simp [plainName, overriddenIn]; done) | decide +kernel
abbrev Q_m_coder1 (Z : State) (a : Addr) (h0 : Heap) : Option Value → Heap → List Addr → Prop := fun res h' SN => res = some (.int (1 : Int32)) ∧ SN = [] ∧ h0 = h'
theorem ef_m_coder1 (mid : MethodId) (a : Addr) : entryFrame mid #[(.ref a)] 1 = mkF mid 0 #[.val (.ref a)] [] := by first | (simp [entryFrame, mkF, argsToLocals, Value.category]; done) | rfl
set_option maxRecDepth 65536 in
set_option maxHeartbeats 40000000 in
theorem m_coder1 {l : Launch} {Z : State} {a0 : Array Value} {n0 : Nat} (hw : ∀ d ∈ tables_1, d.before a0 Z = true) (hs : Stat Z) (a : Addr) (h0 : Heap) (F_a_coder : Fld Z h0 a "java/lang/String" "coder" "B" (.int (1 : Int32))) :
    Met l Z EL0 n0 NR0 KN0 N_14 jdk_42_method_152_code 1 (Option.some Jvm.ClassFile.FieldType.byte) R_m_coder1 [] #[(.ref a)] h0 (Q_m_coder1 Z a h0) := by
  refine Met.of_go pn_m_coder1 (fun mid => ef_m_coder1 mid a ) ?_
  intro hO hWS
  obtain ⟨zc, S_c, hzc⟩ := hs_c hs
  refine Go.getS (pc' := 3) d_jdk_42_method_152_0 rfl (host := "") (Or.inl (w_15 hw)) Via.refl S_c ?_
  refine Go.ifN (pc' := 6) d_jdk_42_method_152_3 rfl ((if0 _ _).trans (feq (hzc : ¬ (zc = (0 : Int32)))).1) ?_
  refine Go.aload_n (pc' := 7) d_jdk_42_method_152_6 rfl rfl rfl ?_
  refine Go.getF (pc' := 10) d_jdk_42_method_152_7 rfl (host := "") (Or.inl (w_27 hw)) Via.refl F_a_coder ?_
  refine Go.goto (pc' := 14) d_jdk_42_method_152_10 (by decide) (by decide) ?_
  exact Go.retS (ty := .byte) d_jdk_42_method_152_14 rfl (by simp) rfl (by decide) (by decide) [] sn0 ⟨rfl, rfl, rfl⟩
abbrev R_m_isL1 : Room := { frames := 0, cells := 0, slots := 0, locals := 0 }
theorem pn_m_isL1 : plainFor (⟨"java/lang/String", "isLatin1", "()Z"⟩ : MethodName) = true := by first | (refine plainFor_of_name ?_; simp [plainName, overriddenIn]; done) | decide +kernel
abbrev Q_m_isL1 (Z : State) (a : Addr) (h0 : Heap) : Option Value → Heap → List Addr → Prop := fun res h' SN => res = some (.int (0 : Int32)) ∧ SN = [] ∧ h0 = h'
theorem ef_m_isL1 (mid : MethodId) (a : Addr) : entryFrame mid #[(.ref a)] 1 = mkF mid 0 #[.val (.ref a)] [] := by first | (simp [entryFrame, mkF, argsToLocals, Value.category]; done) | rfl
set_option maxRecDepth 65536 in
set_option maxHeartbeats 40000000 in
theorem m_isL1 {l : Launch} {Z : State} {a0 : Array Value} {n0 : Nat} (hw : ∀ d ∈ tables_1, d.before a0 Z = true) (hs : Stat Z) (a : Addr) (h0 : Heap) (F_a_coder : Fld Z h0 a "java/lang/String" "coder" "B" (.int (1 : Int32))) :
    Met l Z EL0 n0 NR0 KN0 N_15 jdk_42_method_154_code 1 (Option.some Jvm.ClassFile.FieldType.boolean) R_m_isL1 [] #[(.ref a)] h0 (Q_m_isL1 Z a h0) := by
  refine Met.of_go pn_m_isL1 (fun mid => ef_m_isL1 mid a ) ?_
  intro hO hWS
  obtain ⟨zc, S_c, hzc⟩ := hs_c hs
  refine Go.getS (pc' := 3) d_jdk_42_method_154_0 rfl (host := "") (Or.inl (w_15 hw)) Via.refl S_c ?_
  refine Go.ifN (pc' := 6) d_jdk_42_method_154_3 rfl ((if0 _ _).trans (feq (hzc : ¬ (zc = (0 : Int32)))).1) ?_
  refine Go.aload_n (pc' := 7) d_jdk_42_method_154_6 rfl rfl rfl ?_
  refine Go.getF (pc' := 10) d_jdk_42_method_154_7 rfl (host := "") (Or.inl (w_27 hw)) Via.refl F_a_coder ?_
  refine Go.ifY (pc' := 17) d_jdk_42_method_154_10 (by decide) (by decide) ((if0 _ _).trans (feq (by decide : ¬ ((1 : Int32) = (0 : Int32)))).2) ?_
  refine Go.iconst (pc' := 18) d_jdk_42_method_154_17 rfl ic_0 ?_
  exact Go.retS (ty := .boolean) d_jdk_42_method_154_18 rfl (by simp) rfl (by decide) (by decide) [] sn0 ⟨rfl, rfl, rfl⟩
abbrev R_m_ulen : Room := { frames := 1, cells := 0, slots := 0, locals := 13 }
theorem pn_m_ulen : plainFor (⟨"java/lang/String", "length", "()I"⟩ : MethodName) = true := by first | (refine plainFor_of_name ?_; simp [plainName, overriddenIn]; done) | decide +kernel
abbrev Q_m_ulen (Z : State) (a : Addr) (t : Addr) (kt : ClassId) (z : Int32) (bs : List Int32) (h0 : Heap) : Option Value → Heap → List Addr → Prop := fun res h' SN => res = some (.int z) ∧ SN = [] ∧ h0 = h'
theorem ef_m_ulen (mid : MethodId) (a : Addr) (t : Addr) (kt : ClassId) (z : Int32) (bs : List Int32) : entryFrame mid #[(.ref a)] 1 = mkF mid 0 #[.val (.ref a)] [] := by first | (simp [entryFrame, mkF, argsToLocals, Value.category]; done) | rfl
set_option maxRecDepth 65536 in
set_option maxHeartbeats 40000000 in
theorem m_ulen {l : Launch} {Z : State} {a0 : Array Value} {n0 : Nat} (hw : ∀ d ∈ tables_1, d.before a0 Z = true) (hs : Stat Z) (a : Addr) (t : Addr) (kt : ClassId) (z : Int32) (bs : List Int32) (h0 : Heap) (E_a : Exa Z h0 a "java/lang/String") (F_a_coder : Fld Z h0 a "java/lang/String" "coder" "B" (.int (1 : Int32))) (F_a_value : Fld Z h0 a "java/lang/String" "value" "[B" (.ref t)) (V_t : Arv Z h0 t kt .byte (z <<< ((1 : Int32) &&& 31)) (bs.map Value.int) (.int (0 : Int32))) (hz0 : ¬ z < 0) (hl1 : z.toNatClampNeg < 1073741824) :
    Met l Z EL0 n0 NR0 KN0 N_16 jdk_42_method_54_code 1 (Option.some Jvm.ClassFile.FieldType.int) R_m_ulen [] #[(.ref a)] h0 (Q_m_ulen Z a t kt z bs h0) := by
  refine Met.of_go pn_m_ulen (fun mid => ef_m_ulen mid a t kt z bs ) ?_
  intro hO hWS
  refine Go.aload_n (pc' := 1) d_jdk_42_method_54_0 rfl rfl rfl ?_
  refine Go.getF (pc' := 4) d_jdk_42_method_54_1 rfl (host := "") (Or.inl (w_29 hw)) Via.refl F_a_value ?_
  refine Go.lenV (pc' := 5) d_jdk_42_method_54_4 rfl V_t ?_
  refine Go.aload_n (pc' := 6) d_jdk_42_method_54_5 rfl rfl rfl ?_
  refine Go.callV (pc' := 9) (u := N_14) (z := N_14) (a := a) d_jdk_42_method_54_6 rfl (w_88 hw) (w_89 hw) (nf (w_91 hw) rfl) (w_91 hw) (w_90 hw) (by decide) E_a (argsL := []) (rest := [(.int (z <<< ((1 : Int32) &&& 31)))]) (Pays.of_met (W := 1) (len := 3) (m_coder1 hw hs a h0 F_a_coder) (w_92 hw) (w_4 hw) (by decide) (by decide)) rfl rfl (lenOf pd_11 rfl) rfl (Nat.le_of_eq rfl) mem0 (by decide) (by decide) ?_
  rintro _ _ _ - - ⟨rfl, rfl, rfl⟩
  change Go _ _ _ _ _ _ _ _ _ _ _ _ _ _ [] h0 0 0 9 #[.val (.ref a)] [(.int (1 : Int32)), (.int (z <<< ((1 : Int32) &&& 31)))]
  refine Go.ishr (pc' := 10) d_jdk_42_method_54_9 rfl ?_
  rw [own_shr1 hz0 hl1]
  exact Go.retI d_jdk_42_method_54_10 rfl (by decide) (by decide) [] sn0 ⟨rfl, rfl, rfl⟩
abbrev R_m_u16l : Room := { frames := 0, cells := 0, slots := 0, locals := 0 }
theorem pn_m_u16l : plainFor (⟨"java/lang/StringUTF16", "length", "([B)I"⟩ : MethodName) = true := by first | (refine plainFor_of_name ?_; simp [plainName, overriddenIn]; done) | decide +kernel
abbrev Q_m_u16l (Z : State) (t : Addr) (kt : ClassId) (z : Int32) (bs : List Int32) (h0 : Heap) : Option Value → Heap → List Addr → Prop := fun res h' SN => res = some (.int z) ∧ SN = [] ∧ h0 = h'
theorem ef_m_u16l (mid : MethodId) (t : Addr) (kt : ClassId) (z : Int32) (bs : List Int32) : entryFrame mid #[(.ref t)] 1 = mkF mid 0 #[.val (.ref t)] [] := by first | (simp [entryFrame, mkF, argsToLocals, Value.category]; done) | rfl
set_option maxRecDepth 65536 in
set_option maxHeartbeats 40000000 in
theorem m_u16l {l : Launch} {Z : State} {a0 : Array Value} {n0 : Nat} (hw : ∀ d ∈ tables_1, d.before a0 Z = true) (hs : Stat Z) (t : Addr) (kt : ClassId) (z : Int32) (bs : List Int32) (h0 : Heap) (V_t : Arv Z h0 t kt .byte (z <<< ((1 : Int32) &&& 31)) (bs.map Value.int) (.int (0 : Int32))) (hz0 : ¬ z < 0) (hl1 : z.toNatClampNeg < 1073741824) :
    Met l Z EL0 n0 NR0 KN0 N_21 jdk_52_method_6_code 1 (Option.some Jvm.ClassFile.FieldType.int) R_m_u16l [] #[(.ref t)] h0 (Q_m_u16l Z t kt z bs h0) := by
  refine Met.of_go pn_m_u16l (fun mid => ef_m_u16l mid t kt z bs ) ?_
  intro hO hWS
  refine Go.aload_n (pc' := 1) d_jdk_52_method_6_0 rfl rfl rfl ?_
  refine Go.lenV (pc' := 2) d_jdk_52_method_6_1 rfl V_t ?_
  refine Go.iconst (pc' := 3) d_jdk_52_method_6_2 rfl ic_1 ?_
  refine Go.ishr (pc' := 4) d_jdk_52_method_6_3 rfl ?_
  rw [own_shr1 hz0 hl1]
  exact Go.retI d_jdk_52_method_6_4 rfl (by decide) (by decide) [] sn0 ⟨rfl, rfl, rfl⟩
abbrev R_m_u16ci : Room := { frames := 2, cells := 0, slots := 0, locals := 27 }
theorem pn_m_u16ci : plainFor (⟨"java/lang/StringUTF16", "checkIndex", "(I[B)V"⟩ : MethodName) = true := by first | (refine plainFor_of_name ?_; simp [plainName, overriddenIn]; done) | decide +kernel
abbrev Q_m_u16ci (Z : State) (t : Addr) (kt : ClassId) (z : Int32) (bs : List Int32) (j : Int32) (h0 : Heap) : Option Value → Heap → List Addr → Prop := fun res h' SN => res = none ∧ SN = [] ∧ h0 = h'
theorem ef_m_u16ci (mid : MethodId) (t : Addr) (kt : ClassId) (z : Int32) (bs : List Int32) (j : Int32) : entryFrame mid #[(.int j), (.ref t)] 2 = mkF mid 0 #[.val (.int j), .val (.ref t)] [] := by first | (simp [entryFrame, mkF, argsToLocals, Value.category]; done) | rfl
set_option maxRecDepth 65536 in
set_option maxHeartbeats 40000000 in
theorem m_u16ci {l : Launch} {Z : State} {a0 : Array Value} {n0 : Nat} (hw : ∀ d ∈ tables_1, d.before a0 Z = true) (hs : Stat Z) (t : Addr) (kt : ClassId) (z : Int32) (bs : List Int32) (j : Int32) (h0 : Heap) (V_t : Arv Z h0 t kt .byte (z <<< ((1 : Int32) &&& 31)) (bs.map Value.int) (.int (0 : Int32))) (hz0 : ¬ z < 0) (hl1 : z.toNatClampNeg < 1073741824) (hj : ¬ j < 0 ∧ j < z) :
    Met l Z EL0 n0 NR0 KN0 N_22 jdk_52_method_91_code 2 (Option.none : Option Jvm.ClassFile.FieldType) R_m_u16ci [] #[(.int j), (.ref t)] h0 (Q_m_u16ci Z t kt z bs j h0) := by
  refine Met.of_go pn_m_u16ci (fun mid => ef_m_u16ci mid t kt z bs j ) ?_
  intro hO hWS
  refine Go.iload_n (pc' := 1) d_jdk_52_method_91_0 rfl rfl ?_
  refine Go.aload_n (pc' := 2) d_jdk_52_method_91_1 rfl rfl rfl ?_
  refine Go.callS (pc' := 5) (z := N_21) d_jdk_52_method_91_2 rfl (w_195 hw) (w_196 hw) (w_18 hw) (w_197 hw) (by decide) (argsL := [(.ref t)]) (rest := [(.int j)]) (Pays.of_met (W := 1) (len := 3) (m_u16l hw hs t kt z bs h0 V_t (hz0) (hl1)) (w_197 hw) (w_18 hw) (by decide) (by decide)) rfl rfl (lenOf pd_15 rfl) rfl (Nat.le_of_eq rfl) mem0 (by decide) (by decide) ?_
  rintro _ _ _ - - ⟨rfl, rfl, rfl⟩
  change Go _ _ _ _ _ _ _ _ _ _ _ _ _ _ [] h0 0 0 5 #[.val (.int j), .val (.ref t)] [(.int z), (.int j)]
  refine Go.callS (pc' := 8) (z := N_18) d_jdk_52_method_91_5 rfl (w_198 hw) (w_165 hw) (w_4 hw) (w_166 hw) (by decide) (argsL := [(.int j), (.int z)]) (rest := []) (Pays.of_met (W := 0) (len := 3) (m_chk hw hs j z h0 (hj)) (w_166 hw) (w_4 hw) (by decide) (by decide)) rfl rfl (lenOf pd_13 rfl) rfl (Nat.le_of_eq rfl) mem0 (by decide) (by decide) ?_
  rintro _ _ _ - - ⟨rfl, rfl, rfl⟩
  change Go _ _ _ _ _ _ _ _ _ _ _ _ _ _ [] h0 0 0 8 #[.val (.int j), .val (.ref t)] []
  exact Go.retV d_jdk_52_method_91_8 rfl (by decide) (by decide) [] sn0 ⟨rfl, rfl, rfl⟩
abbrev R_m_u16ca : Room := { frames := 3, cells := 0, slots := 0, locals := 40 }
theorem pn_m_u16ca : plainFor (⟨"java/lang/StringUTF16", "charAt", "([BI)C"⟩ : MethodName) = true := by first | (refine plainFor_of_name ?_; simp [plainName, overriddenIn]; done) | decide +kernel
abbrev Q_m_u16ca (Z : State) (t : Addr) (kt : ClassId) (z : Int32) (bs : List Int32) (j : Int32) (cs : List Int32) (h0 : Heap) : Option Value → Heap → List Addr → Prop := fun res h' SN => res = some (.int (cs.getD j.toNatClampNeg 0)) ∧ SN = [] ∧ h0 = h'
theorem ef_m_u16ca (mid : MethodId) (t : Addr) (kt : ClassId) (z : Int32) (bs : List Int32) (j : Int32) (cs : List Int32) : entryFrame mid #[(.ref t), (.int j)] 2 = mkF mid 0 #[.val (.ref t), .val (.int j)] [] := by first | (simp [entryFrame, mkF, argsToLocals, Value.category]; done) | rfl
set_option maxRecDepth 65536 in
set_option maxHeartbeats 40000000 in
theorem m_u16ca {l : Launch} {Z : State} {a0 : Array Value} {n0 : Nat} (hw : ∀ d ∈ tables_1, d.before a0 Z = true) (hs : Stat Z) (t : Addr) (kt : ClassId) (z : Int32) (bs : List Int32) (j : Int32) (cs : List Int32) (h0 : Heap) (V_t : Arv Z h0 t kt .byte (z <<< ((1 : Int32) &&& 31)) (bs.map Value.int) (.int (0 : Int32))) (hz0 : ¬ z < 0) (hl1 : z.toNatClampNeg < 1073741824) (hj : ¬ j < 0 ∧ j < z) (hz : z.toNatClampNeg = cs.length) (hE : Enc bs cs cs.length) (h16 : ∀ x ∈ cs, ¬ x < 0 ∧ ¬ 65535 < x) :
    Met l Z EL0 n0 NR0 KN0 N_23 jdk_52_method_83_code 2 (Option.some Jvm.ClassFile.FieldType.char) R_m_u16ca [] #[(.ref t), (.int j)] h0 (Q_m_u16ca Z t kt z bs j cs h0) := by
  refine Met.of_go pn_m_u16ca (fun mid => ef_m_u16ca mid t kt z bs j cs ) ?_
  intro hO hWS
  have jl := own_idx hj.1 hj.2
  have hl := hE.1
  have sz := own_shl1 hz0 hl1
  refine Go.iload_n (pc' := 1) d_jdk_52_method_83_0 rfl rfl ?_
  refine Go.aload_n (pc' := 2) d_jdk_52_method_83_1 rfl rfl rfl ?_
  refine Go.callS (pc' := 5) (z := N_22) d_jdk_52_method_83_2 rfl (w_192 hw) (w_193 hw) (w_18 hw) (w_194 hw) (by decide) (argsL := [(.int j), (.ref t)]) (rest := []) (Pays.of_met (W := 0) (len := 3) (m_u16ci hw hs t kt z bs j h0 V_t (hz0) (hl1) (hj)) (w_194 hw) (w_18 hw) (by decide) (by decide)) rfl rfl (lenOf pd_16 rfl) rfl (Nat.le_of_eq rfl) mem0 (by decide) (by decide) ?_
  rintro _ _ _ - - ⟨rfl, rfl, rfl⟩
  change Go _ _ _ _ _ _ _ _ _ _ _ _ _ _ [] h0 0 0 5 #[.val (.ref t), .val (.int j)] []
  refine Go.aload_n (pc' := 6) d_jdk_52_method_83_5 rfl rfl rfl ?_
  refine Go.iload_n (pc' := 7) d_jdk_52_method_83_6 rfl rfl ?_
  refine Go.callS (pc' := 10) (z := N_4) d_jdk_52_method_83_7 rfl (w_186 hw) (w_187 hw) (w_18 hw) (w_188 hw) (by decide) (argsL := [(.ref t), (.int j)]) (rest := []) (Pays.of_met (W := 0) (len := 3) (m_ugc hw hs t kt (z <<< ((1 : Int32) &&& 31)) bs j h0 V_t (hj.1) (by omega) (by rw [sz.2]; omega)) (w_188 hw) (w_18 hw) (by decide) (by decide)) rfl rfl (lenOf pd_5 rfl) rfl (Nat.le_of_eq rfl) mem0 (by decide) (by decide) ?_
  rintro _ _ _ - - ⟨rfl, rfl, rfl⟩
  change Go _ _ _ _ _ _ _ _ _ _ _ _ _ _ [] h0 0 0 10 #[.val (.ref t), .val (.int j)] [(.int (udec (bs.getD (2 * j.toNatClampNeg) 0) (bs.getD (2 * j.toNatClampNeg + 1) 0)))]
  rw [own_enc_at hE (by omega) h16]
  exact Go.retS (ty := .char) d_jdk_52_method_83_10 rfl (by simp) (own_nar16 h16 (by omega)) (by decide) (by decide) [] sn0 ⟨rfl, rfl, rfl⟩
abbrev R_m_ucA : Room := { frames := 4, cells := 0, slots := 0, locals := 53 }
theorem pn_m_ucA : plainFor (⟨"java/lang/String", "charAt", "(I)C"⟩ : MethodName) = true := by first | (refine plainFor_of_name ?_; simp [plainName, overriddenIn]; done) | decide +kernel
abbrev Q_m_ucA (Z : State) (a : Addr) (t : Addr) (kt : ClassId) (z : Int32) (bs : List Int32) (j : Int32) (cs : List Int32) (h0 : Heap) : Option Value → Heap → List Addr → Prop := fun res h' SN => res = some (.int (cs.getD j.toNatClampNeg 0)) ∧ SN = [] ∧ h0 = h'
theorem ef_m_ucA (mid : MethodId) (a : Addr) (t : Addr) (kt : ClassId) (z : Int32) (bs : List Int32) (j : Int32) (cs : List Int32) : entryFrame mid #[(.ref a), (.int j)] 2 = mkF mid 0 #[.val (.ref a), .val (.int j)] [] := by first | (simp [entryFrame, mkF, argsToLocals, Value.category]; done) | rfl
set_option maxRecDepth 65536 in
set_option maxHeartbeats 40000000 in
theorem m_ucA {l : Launch} {Z : State} {a0 : Array Value} {n0 : Nat} (hw : ∀ d ∈ tables_1, d.before a0 Z = true) (hs : Stat Z) (a : Addr) (t : Addr) (kt : ClassId) (z : Int32) (bs : List Int32) (j : Int32) (cs : List Int32) (h0 : Heap) (E_a : Exa Z h0 a "java/lang/String") (F_a_coder : Fld Z h0 a "java/lang/String" "coder" "B" (.int (1 : Int32))) (F_a_value : Fld Z h0 a "java/lang/String" "value" "[B" (.ref t)) (V_t : Arv Z h0 t kt .byte (z <<< ((1 : Int32) &&& 31)) (bs.map Value.int) (.int (0 : Int32))) (hz0 : ¬ z < 0) (hl1 : z.toNatClampNeg < 1073741824) (hj : ¬ j < 0 ∧ j < z) (hz : z.toNatClampNeg = cs.length) (hE : Enc bs cs cs.length) (h16 : ∀ x ∈ cs, ¬ x < 0 ∧ ¬ 65535 < x) :
    Met l Z EL0 n0 NR0 KN0 N_20 jdk_42_method_56_code 2 (Option.some Jvm.ClassFile.FieldType.char) R_m_ucA [] #[(.ref a), (.int j)] h0 (Q_m_ucA Z a t kt z bs j cs h0) := by
  refine Met.of_go pn_m_ucA (fun mid => ef_m_ucA mid a t kt z bs j cs ) ?_
  intro hO hWS
  have jl := own_idx hj.1 hj.2
  refine Go.aload_n (pc' := 1) d_jdk_42_method_56_0 rfl rfl rfl ?_
  refine Go.callV (pc' := 4) (u := N_15) (z := N_15) (a := a) d_jdk_42_method_56_1 rfl (w_120 hw) (w_121 hw) (nf (w_123 hw) rfl) (w_123 hw) (w_122 hw) (by decide) E_a (argsL := []) (rest := []) (Pays.of_met (W := 0) (len := 3) (m_isL1 hw hs a h0 F_a_coder) (w_124 hw) (w_4 hw) (by decide) (by decide)) rfl rfl (lenOf pd_14 rfl) rfl (Nat.le_of_eq rfl) mem0 (by decide) (by decide) ?_
  rintro _ _ _ - - ⟨rfl, rfl, rfl⟩
  change Go _ _ _ _ _ _ _ _ _ _ _ _ _ _ [] h0 0 0 4 #[.val (.ref a), .val (.int j)] [(.int (0 : Int32))]
  refine Go.ifY (pc' := 16) d_jdk_42_method_56_4 (by decide) (by decide) ((if0 _ _).trans (teq (rfl : (0 : Int32) = (0 : Int32))).1) ?_
  refine Go.aload_n (pc' := 17) d_jdk_42_method_56_16 rfl rfl rfl ?_
  refine Go.getF (pc' := 20) d_jdk_42_method_56_17 rfl (host := "") (Or.inl (w_29 hw)) Via.refl F_a_value ?_
  refine Go.iload_n (pc' := 21) d_jdk_42_method_56_20 rfl rfl ?_
  refine Go.callS (pc' := 24) (z := N_23) d_jdk_42_method_56_21 rfl (w_189 hw) (w_190 hw) (w_18 hw) (w_191 hw) (by decide) (argsL := [(.ref t), (.int j)]) (rest := []) (Pays.of_met (W := 0) (len := 3) (m_u16ca hw hs t kt z bs j cs h0 V_t (hz0) (hl1) (hj) (hz) (hE) (h16)) (w_191 hw) (w_18 hw) (by decide) (by decide)) rfl rfl (lenOf pd_5 rfl) rfl (Nat.le_of_eq rfl) mem0 (by decide) (by decide) ?_
  rintro _ _ _ - - ⟨rfl, rfl, rfl⟩
  change Go _ _ _ _ _ _ _ _ _ _ _ _ _ _ [] h0 0 0 24 #[.val (.ref a), .val (.int j)] [(.int (cs.getD j.toNatClampNeg 0))]
  exact Go.retS (ty := .char) d_jdk_42_method_56_24 rfl (by simp) (own_nar16 h16 (by omega)) (by decide) (by decide) [] sn0 ⟨rfl, rfl, rfl⟩
abbrev RL_infl : Room := { frames := 0, cells := 0, slots := 0, locals := 0 }
set_option maxRecDepth 65536 in
set_option maxHeartbeats 40000000 in
theorem m_infl_loop {l : Launch} {Z : State} {a0 : Array Value} {n0 : Nat} (hw : ∀ d ∈ tables_1, d.before a0 Z = true) (hs : Stat Z) {h0 : Heap} {Q : Option Value → Heap → List Addr → Prop} {t c : Addr} {kt kc : ClassId} {bs cs : List Int32} {z zc n : Int32} (hz : z.toNatClampNeg = cs.length) (zn : ¬ z < 0) (cn : ¬ zc < 0) (hn0 : ¬ n < 0) (hnz : n.toNatClampNeg ≤ cs.length) (hnc : n.toNatClampNeg ≤ zc.toNatClampNeg) (h255 : ∀ x ∈ cs, ¬ x < 0 ∧ ¬ 255 < x) (h16 : ∀ x ∈ cs, ¬ x < 0 ∧ ¬ 65535 < x) (ne_t_c : t ≠ c)
    (K : ∀ h', Arv Z h' c kc .char zc ((cs.take n.toNatClampNeg ++ List.replicate (zc.toNatClampNeg - n.toNatClampNeg) (0 : Int32)).map Value.int) (.int (0 : Int32)) → Go l Z EL0 n0 NR0 KN0 N_24 jdk_43_method_49_code 6 (Option.none : Option Jvm.ClassFile.FieldType) RL_infl h0 [c] Q [c] h' 0 0 33 #[.val (.ref t), .val (.int (Int32.ofNat n.toNatClampNeg)), .val (.ref c), .val (.int (Int32.ofNat n.toNatClampNeg)), .val (.int n), .val (.int (Int32.ofNat n.toNatClampNeg))] []) :
    ∀ (m i : Nat) (h : Heap), i + m = n.toNatClampNeg → Arv Z h t kt .byte z (cs.map lowV) (.int (0 : Int32)) → Arv Z h c kc .char zc ((cs.take i ++ List.replicate (zc.toNatClampNeg - i) (0 : Int32)).map Value.int) (.int (0 : Int32)) → Go l Z EL0 n0 NR0 KN0 N_24 jdk_43_method_49_code 6 (Option.none : Option Jvm.ClassFile.FieldType) RL_infl h0 [c] Q [c] h 0 0 3 #[.val (.ref t), .val (.int (Int32.ofNat i)), .val (.ref c), .val (.int (Int32.ofNat i)), .val (.int n), .val (.int (Int32.ofNat i))] [] := by
  have q := (back32 hn0).2
  have q2 := (back32 zn).2
  intro m
  induction m with
  | zero =>
    intro i h hi V_t V_c
    obtain rfl : i = n.toNatClampNeg := by omega
    refine Go.iload (pc' := 5) d_jdk_43_method_49_3 rfl rfl ?_
    refine Go.iload (pc' := 7) d_jdk_43_method_49_5 rfl rfl ?_
    refine Go.icmpY (pc' := 33) d_jdk_43_method_49_7 (by decide) (by decide) (flt (ofNat_ge hn0 (by omega) (Nat.le_refl _) : ¬ ((Int32.ofNat n.toNatClampNeg) < n))).2.1 ?_
    exact K h V_c
  | succ m ih =>
    intro i h hi V_t V_c
    have hi2 : i < cs.length := by omega
    have ci := ofNat_clamp (i := i) (by omega)
    have nn := ofNat_nn (i := i) (by omega)
    have lt := ofNat_lt (i := i) hn0 (by omega)
    have ltz := ofNat_lt (i := i) zn (by omega)
    have ltc := ofNat_lt (i := i) cn (by omega)
    have b1 := getD_mem h16 hi2
    refine Go.iload (pc' := 5) d_jdk_43_method_49_3 rfl rfl ?_
    refine Go.iload (pc' := 7) d_jdk_43_method_49_5 rfl rfl ?_
    refine Go.icmpN (pc' := 10) d_jdk_43_method_49_7 rfl (tlt (lt : (Int32.ofNat i) < n)).2.1 ?_
    refine Go.aload_n (pc' := 11) d_jdk_43_method_49_10 rfl rfl rfl ?_
    refine Go.iload_n (pc' := 12) d_jdk_43_method_49_11 rfl rfl ?_
    refine Go.iinc (pc' := 15) (Ls' := #[.val (.ref t), .val (.int (Int32.ofNat i)), .val (.ref c), .val (.int ((Int32.ofNat i) + (1 : Int32))), .val (.int n), .val (.int (Int32.ofNat i))]) d_jdk_43_method_49_12 rfl ic_1 rfl rfl ?_
    refine Go.aload_n (pc' := 16) d_jdk_43_method_49_15 rfl rfl rfl ?_
    refine Go.iload_n (pc' := 17) d_jdk_43_method_49_16 rfl rfl ?_
    refine Go.iinc (pc' := 20) (Ls' := #[.val (.ref t), .val (.int ((Int32.ofNat i) + (1 : Int32))), .val (.ref c), .val (.int ((Int32.ofNat i) + (1 : Int32))), .val (.int n), .val (.int (Int32.ofNat i))]) d_jdk_43_method_49_17 rfl ic_1 rfl rfl ?_
    refine Go.baloadV (pc' := 21) (v := (.int (cs.getD i 0).toInt8.toInt32)) d_jdk_43_method_49_20 rfl V_t ⟨nn, ltz⟩ (by rw [ci]; exact getD_low cs i hi2) ?_
    refine Go.sipush (pc' := 24) d_jdk_43_method_49_21 rfl ics_255 ?_
    refine Go.iand (pc' := 25) d_jdk_43_method_49_24 rfl ?_
    refine Go.i2c (pc' := 26) d_jdk_43_method_49_25 rfl ?_
    have b2 := getD_mem h255 hi2
    rw [own_lowback b2.1 b2.2]
    refine Go.castoreV (pc' := 27) (i := i) d_jdk_43_method_49_26 rfl (List.mem_of_getElem? (i := 0) rfl) V_c ⟨nn, ltc⟩ ci (by simp; omega) ?_
    rw [nar_char b1.1 b1.2]
    intro h2 W2 V_c'
    rw [own_set_map, own_fill hi2 (by omega)] at V_c'
    replace V_t := V_t.other W2 ne_t_c
    change Go _ _ _ _ _ _ _ _ _ _ _ _ _ _ [c] h2 0 0 27 #[.val (.ref t), .val (.int ((Int32.ofNat i) + (1 : Int32))), .val (.ref c), .val (.int ((Int32.ofNat i) + (1 : Int32))), .val (.int n), .val (.int (Int32.ofNat i))] []
    refine Go.iinc (pc' := 30) (Ls' := #[.val (.ref t), .val (.int ((Int32.ofNat i) + (1 : Int32))), .val (.ref c), .val (.int ((Int32.ofNat i) + (1 : Int32))), .val (.int n), .val (.int ((Int32.ofNat i) + (1 : Int32)))]) d_jdk_43_method_49_27 rfl ic_1 rfl rfl ?_
    refine Go.goto (pc' := 3) d_jdk_43_method_49_30 (by decide) (by decide) ?_
    rw [ofNat_succ i]
    exact ih (i + 1) h2 (by omega) V_t V_c'
abbrev R_m_infl : Room := { frames := 0, cells := 0, slots := 0, locals := 0 }
theorem pn_m_infl : plainFor (⟨"java/lang/StringLatin1", "inflate", "([BI[CII)V"⟩ : MethodName) = true := by first | (refine plainFor_of_name ?_; simp [plainName, overriddenIn]; done) | decide +kernel
abbrev Q_m_infl (Z : State) (t : Addr) (c : Addr) (kt : ClassId) (kc : ClassId) (cs : List Int32) (z : Int32) (zc : Int32) (n : Int32) (h0 : Heap) : Option Value → Heap → List Addr → Prop := fun res h' SN => res = none ∧ SN = [] ∧ Arv Z h' c kc .char zc ((cs.take n.toNatClampNeg).map Value.int) (.int (0 : Int32))
theorem ef_m_infl (mid : MethodId) (t : Addr) (c : Addr) (kt : ClassId) (kc : ClassId) (cs : List Int32) (z : Int32) (zc : Int32) (n : Int32) : entryFrame mid #[(.ref t), (.int (0 : Int32)), (.ref c), (.int (0 : Int32)), (.int n)] 6 = mkF mid 0 #[.val (.ref t), .val (.int (0 : Int32)), .val (.ref c), .val (.int (0 : Int32)), .val (.int n), .unset] [] := by first | (simp [entryFrame, mkF, argsToLocals, Value.category]; done) | rfl
set_option maxRecDepth 65536 in
set_option maxHeartbeats 40000000 in
theorem m_infl {l : Launch} {Z : State} {a0 : Array Value} {n0 : Nat} (hw : ∀ d ∈ tables_1, d.before a0 Z = true) (hs : Stat Z) (t : Addr) (c : Addr) (kt : ClassId) (kc : ClassId) (cs : List Int32) (z : Int32) (zc : Int32) (n : Int32) (h0 : Heap) (V_t : Arv Z h0 t kt .byte z (cs.map lowV) (.int (0 : Int32))) (V_c : Arv Z h0 c kc .char zc (([] : List Int32).map Value.int) (.int (0 : Int32))) (hz : z.toNatClampNeg = cs.length) (hn0 : ¬ n < 0) (hnz : n.toNatClampNeg ≤ cs.length) (hnc : n.toNatClampNeg ≤ zc.toNatClampNeg) (h255 : ∀ x ∈ cs, ¬ x < 0 ∧ ¬ 255 < x) (ne_t_c : t ≠ c) :
    Met l Z EL0 n0 NR0 KN0 N_24 jdk_43_method_49_code 6 (Option.none : Option Jvm.ClassFile.FieldType) R_m_infl [c] #[(.ref t), (.int (0 : Int32)), (.ref c), (.int (0 : Int32)), (.int n)] h0 (Q_m_infl Z t c kt kc cs z zc n h0) := by
  refine Met.of_go pn_m_infl (fun mid => ef_m_infl mid t c kt kc cs z zc n ) ?_
  intro hO hWS
  have cn := arv_nn V_c
  refine Go.iconst (pc' := 1) d_jdk_43_method_49_0 rfl ic_0 ?_
  refine Go.istore (pc' := 3) (Ls' := #[.val (.ref t), .val (.int (0 : Int32)), .val (.ref c), .val (.int (0 : Int32)), .val (.int n), .val (.int (0 : Int32))]) d_jdk_43_method_49_1 rfl rfl ?_
  refine m_infl_loop hw hs (bs := []) hz (arv_nn V_t) cn hn0 hnz hnc h255 (fun x hx => ⟨(h255 x hx).1, le255 (h255 x hx).2⟩) ne_t_c (fun h' V => ?_) n.toNatClampNeg 0 h0 (by omega) V_t (V_c.pad (fun i => by rw [List.take_zero, List.nil_append]; exact own_pad0 _ i))
  exact Go.retV d_jdk_43_method_49_33 rfl (by decide) (by decide) [] sn0 ⟨rfl, rfl, V.pad (fun i => own_padr _ _ i)⟩
abbrev R_m_l1gc : Room := { frames := 1, cells := 0, slots := 0, locals := 17 }
theorem pn_m_l1gc : plainFor (⟨"java/lang/StringLatin1", "getChars", "([BII[CI)V"⟩ : MethodName) = true := by first | (refine plainFor_of_name ?_; simp [plainName, overriddenIn]; done) | decide +kernel
abbrev Q_m_l1gc (Z : State) (t : Addr) (c : Addr) (kt : ClassId) (kc : ClassId) (cs : List Int32) (z : Int32) (zc : Int32) (n : Int32) (h0 : Heap) : Option Value → Heap → List Addr → Prop := fun res h' SN => res = none ∧ SN = [] ∧ Arv Z h' c kc .char zc ((cs.take n.toNatClampNeg).map Value.int) (.int (0 : Int32))
theorem ef_m_l1gc (mid : MethodId) (t : Addr) (c : Addr) (kt : ClassId) (kc : ClassId) (cs : List Int32) (z : Int32) (zc : Int32) (n : Int32) : entryFrame mid #[(.ref t), (.int (0 : Int32)), (.int n), (.ref c), (.int (0 : Int32))] 5 = mkF mid 0 #[.val (.ref t), .val (.int (0 : Int32)), .val (.int n), .val (.ref c), .val (.int (0 : Int32))] [] := by first | (simp [entryFrame, mkF, argsToLocals, Value.category]; done) | rfl
set_option maxRecDepth 65536 in
set_option maxHeartbeats 40000000 in
theorem m_l1gc {l : Launch} {Z : State} {a0 : Array Value} {n0 : Nat} (hw : ∀ d ∈ tables_1, d.before a0 Z = true) (hs : Stat Z) (t : Addr) (c : Addr) (kt : ClassId) (kc : ClassId) (cs : List Int32) (z : Int32) (zc : Int32) (n : Int32) (h0 : Heap) (V_t : Arv Z h0 t kt .byte z (cs.map lowV) (.int (0 : Int32))) (V_c : Arv Z h0 c kc .char zc (([] : List Int32).map Value.int) (.int (0 : Int32))) (hz : z.toNatClampNeg = cs.length) (hn0 : ¬ n < 0) (hnz : n.toNatClampNeg ≤ cs.length) (hnc : n.toNatClampNeg ≤ zc.toNatClampNeg) (h255 : ∀ x ∈ cs, ¬ x < 0 ∧ ¬ 255 < x) (ne_t_c : t ≠ c) :
    Met l Z EL0 n0 NR0 KN0 N_25 jdk_43_method_11_code 5 (Option.none : Option Jvm.ClassFile.FieldType) R_m_l1gc [c] #[(.ref t), (.int (0 : Int32)), (.int n), (.ref c), (.int (0 : Int32))] h0 (Q_m_l1gc Z t c kt kc cs z zc n h0) := by
  refine Met.of_go pn_m_l1gc (fun mid => ef_m_l1gc mid t c kt kc cs z zc n ) ?_
  intro hO hWS
  refine Go.aload_n (pc' := 1) d_jdk_43_method_11_0 rfl rfl rfl ?_
  refine Go.iload_n (pc' := 2) d_jdk_43_method_11_1 rfl rfl ?_
  refine Go.aload_n (pc' := 3) d_jdk_43_method_11_2 rfl rfl rfl ?_
  refine Go.iload (pc' := 5) d_jdk_43_method_11_3 rfl rfl ?_
  refine Go.iload_n (pc' := 6) d_jdk_43_method_11_5 rfl rfl ?_
  refine Go.iload_n (pc' := 7) d_jdk_43_method_11_6 rfl rfl ?_
  refine Go.isub (pc' := 8) d_jdk_43_method_11_7 rfl ?_
  rw [own_sub0]
  refine Go.callS (pc' := 11) (z := N_24) d_jdk_43_method_11_8 rfl (w_128 hw) (w_129 hw) (w_76 hw) (w_130 hw) (by decide) (argsL := [(.ref t), (.int (0 : Int32)), (.ref c), (.int (0 : Int32)), (.int n)]) (rest := []) (Pays.of_met (W := 0) (len := 3) (m_infl hw hs t c kt kc cs z zc n h0 V_t V_c (hz) (hn0) (hnz) (hnc) (h255) ne_t_c) (w_130 hw) (w_76 hw) (by decide) (by decide)) rfl rfl (lenOf pd_17 rfl) rfl (Nat.le_of_eq rfl) (memS (List.mem_of_getElem? (i := 0) rfl) mem0) (by decide) (by decide) ?_
  rintro _ h68 _ K69 le70 ⟨rfl, rfl, p71⟩
  replace V_t := V_t.keep K69 (ninS ne_t_c nin0)
  have V_c := p71
  change Go _ _ _ _ _ _ _ _ _ _ _ _ _ _ [c] h68 0 0 11 #[.val (.ref t), .val (.int (0 : Int32)), .val (.int n), .val (.ref c), .val (.int (0 : Int32))] []
  exact Go.retV d_jdk_43_method_11_11 rfl (by decide) (by decide) [] sn0 ⟨rfl, rfl, V_c⟩
abbrev R_m_u16boc : Room := { frames := 2, cells := 0, slots := 0, locals := 29 }
theorem pn_m_u16boc : plainFor (⟨"java/lang/StringUTF16", "checkBoundsOffCount", "(II[B)V"⟩ : MethodName) = true := by first | (refine plainFor_of_name ?_; simp [plainName, overriddenIn]; done) | decide +kernel
abbrev Q_m_u16boc (Z : State) (t : Addr) (kt : ClassId) (z : Int32) (bs : List Int32) (n : Int32) (h0 : Heap) : Option Value → Heap → List Addr → Prop := fun res h' SN => res = none ∧ SN = [] ∧ h0 = h'
theorem ef_m_u16boc (mid : MethodId) (t : Addr) (kt : ClassId) (z : Int32) (bs : List Int32) (n : Int32) : entryFrame mid #[(.int (0 : Int32)), (.int n), (.ref t)] 3 = mkF mid 0 #[.val (.int (0 : Int32)), .val (.int n), .val (.ref t)] [] := by first | (simp [entryFrame, mkF, argsToLocals, Value.category]; done) | rfl
set_option maxRecDepth 65536 in
set_option maxHeartbeats 40000000 in
theorem m_u16boc {l : Launch} {Z : State} {a0 : Array Value} {n0 : Nat} (hw : ∀ d ∈ tables_1, d.before a0 Z = true) (hs : Stat Z) (t : Addr) (kt : ClassId) (z : Int32) (bs : List Int32) (n : Int32) (h0 : Heap) (V_t : Arv Z h0 t kt .byte (z <<< ((1 : Int32) &&& 31)) (bs.map Value.int) (.int (0 : Int32))) (hz0 : ¬ z < 0) (hl1 : z.toNatClampNeg < 1073741824) (hn0 : ¬ n < 0) (hle : ¬ z < n) :
    Met l Z EL0 n0 NR0 KN0 N_26 jdk_52_method_94_code 3 (Option.none : Option Jvm.ClassFile.FieldType) R_m_u16boc [] #[(.int (0 : Int32)), (.int n), (.ref t)] h0 (Q_m_u16boc Z t kt z bs n h0) := by
  refine Met.of_go pn_m_u16boc (fun mid => ef_m_u16boc mid t kt z bs n ) ?_
  intro hO hWS
  have hc0 := arv_nn V_t
  refine Go.iload_n (pc' := 1) d_jdk_52_method_94_0 rfl rfl ?_
  refine Go.iload_n (pc' := 2) d_jdk_52_method_94_1 rfl rfl ?_
  refine Go.aload_n (pc' := 3) d_jdk_52_method_94_2 rfl rfl rfl ?_
  refine Go.callS (pc' := 6) (z := N_21) d_jdk_52_method_94_3 rfl (w_195 hw) (w_196 hw) (w_18 hw) (w_197 hw) (by decide) (argsL := [(.ref t)]) (rest := [(.int n), (.int (0 : Int32))]) (Pays.of_met (W := 2) (len := 3) (m_u16l hw hs t kt z bs h0 V_t (hz0) (hl1)) (w_197 hw) (w_18 hw) (by decide) (by decide)) rfl rfl (lenOf pd_15 rfl) rfl (Nat.le_of_eq rfl) mem0 (by decide) (by decide) ?_
  rintro _ _ _ - - ⟨rfl, rfl, rfl⟩
  change Go _ _ _ _ _ _ _ _ _ _ _ _ _ _ [] h0 0 0 6 #[.val (.int (0 : Int32)), .val (.int n), .val (.ref t)] [(.int z), (.int n), (.int (0 : Int32))]
  refine Go.callS (pc' := 9) (z := N_11) d_jdk_52_method_94_6 rfl (w_205 hw) (w_58 hw) (w_4 hw) (w_59 hw) (by decide) (argsL := [(.int (0 : Int32)), (.int n), (.int z)]) (rest := []) (Pays.of_met (W := 0) (len := 3) (m_boc hw hs n z h0 (hn0) (hz0) (hle)) (w_59 hw) (w_4 hw) (by decide) (by decide)) rfl rfl (lenOf pd_9 rfl) rfl (Nat.le_of_eq rfl) mem0 (by decide) (by decide) ?_
  rintro _ _ _ - - ⟨rfl, rfl, rfl⟩
  change Go _ _ _ _ _ _ _ _ _ _ _ _ _ _ [] h0 0 0 9 #[.val (.int (0 : Int32)), .val (.int n), .val (.ref t)] [(.int (0 : Int32))]
  refine Go.pop (pc' := 10) d_jdk_52_method_94_9 rfl rfl ?_
  exact Go.retV d_jdk_52_method_94_10 rfl (by decide) (by decide) [] sn0 ⟨rfl, rfl, rfl⟩
abbrev RL_u16gc : Room := { frames := 4, cells := 0, slots := 0, locals := 100 }
set_option maxRecDepth 65536 in
set_option maxHeartbeats 40000000 in
theorem m_u16gc_loop {l : Launch} {Z : State} {a0 : Array Value} {n0 : Nat} (hw : ∀ d ∈ tables_1, d.before a0 Z = true) (hs : Stat Z) {h0 : Heap} {Q : Option Value → Heap → List Addr → Prop} {t c : Addr} {kt kc : ClassId} {bs cs : List Int32} {z zc n : Int32} (hz : z.toNatClampNeg = cs.length) (zn : ¬ z < 0) (cn : ¬ zc < 0) (hn0 : ¬ n < 0) (hnz : n.toNatClampNeg ≤ cs.length) (hnc : n.toNatClampNeg ≤ zc.toNatClampNeg) (hl1 : z.toNatClampNeg < 1073741824) (hE : Enc bs cs cs.length) (h16 : ∀ x ∈ cs, ¬ x < 0 ∧ ¬ 65535 < x) (ne_t_c : t ≠ c)
    (K : ∀ h', Arv Z h' c kc .char zc ((cs.take n.toNatClampNeg ++ List.replicate (zc.toNatClampNeg - n.toNatClampNeg) (0 : Int32)).map Value.int) (.int (0 : Int32)) → Go l Z EL0 n0 NR0 KN0 N_27 jdk_52_method_26_code 6 (Option.none : Option Jvm.ClassFile.FieldType) RL_u16gc h0 [c] Q [c] h' 0 0 41 #[.val (.ref t), .val (.int (0 : Int32)), .val (.int n), .val (.ref c), .val (.int (Int32.ofNat n.toNatClampNeg)), .val (.int (Int32.ofNat n.toNatClampNeg))] []) :
    ∀ (m i : Nat) (h : Heap), i + m = n.toNatClampNeg → Arv Z h t kt .byte (z <<< ((1 : Int32) &&& 31)) (bs.map Value.int) (.int (0 : Int32)) → Arv Z h c kc .char zc ((cs.take i ++ List.replicate (zc.toNatClampNeg - i) (0 : Int32)).map Value.int) (.int (0 : Int32)) → Go l Z EL0 n0 NR0 KN0 N_27 jdk_52_method_26_code 6 (Option.none : Option Jvm.ClassFile.FieldType) RL_u16gc h0 [c] Q [c] h 0 0 16 #[.val (.ref t), .val (.int (0 : Int32)), .val (.int n), .val (.ref c), .val (.int (Int32.ofNat i)), .val (.int (Int32.ofNat i))] [] := by
  have q := (back32 hn0).2
  have q2 := (back32 zn).2
  intro m
  induction m with
  | zero =>
    intro i h hi V_t V_c
    obtain rfl : i = n.toNatClampNeg := by omega
    refine Go.iload (pc' := 18) d_jdk_52_method_26_16 rfl rfl ?_
    refine Go.iload_n (pc' := 19) d_jdk_52_method_26_18 rfl rfl ?_
    refine Go.icmpY (pc' := 41) d_jdk_52_method_26_19 (by decide) (by decide) (flt (ofNat_ge hn0 (by omega) (Nat.le_refl _) : ¬ ((Int32.ofNat n.toNatClampNeg) < n))).2.1 ?_
    exact K h V_c
  | succ m ih =>
    intro i h hi V_t V_c
    have hi2 : i < cs.length := by omega
    have ci := ofNat_clamp (i := i) (by omega)
    have nn := ofNat_nn (i := i) (by omega)
    have lt := ofNat_lt (i := i) hn0 (by omega)
    have ltz := ofNat_lt (i := i) zn (by omega)
    have ltc := ofNat_lt (i := i) cn (by omega)
    have b1 := getD_mem h16 hi2
    refine Go.iload (pc' := 18) d_jdk_52_method_26_16 rfl rfl ?_
    refine Go.iload_n (pc' := 19) d_jdk_52_method_26_18 rfl rfl ?_
    refine Go.icmpN (pc' := 22) d_jdk_52_method_26_19 rfl (tlt (lt : (Int32.ofNat i) < n)).2.1 ?_
    refine Go.aload_n (pc' := 23) d_jdk_52_method_26_22 rfl rfl rfl ?_
    refine Go.iload (pc' := 25) d_jdk_52_method_26_23 rfl rfl ?_
    refine Go.iinc (pc' := 28) (Ls' := #[.val (.ref t), .val (.int (0 : Int32)), .val (.int n), .val (.ref c), .val (.int ((Int32.ofNat i) + (1 : Int32))), .val (.int (Int32.ofNat i))]) d_jdk_52_method_26_25 rfl ic_1 rfl rfl ?_
    refine Go.aload_n (pc' := 29) d_jdk_52_method_26_28 rfl rfl rfl ?_
    refine Go.iload (pc' := 31) d_jdk_52_method_26_29 rfl rfl ?_
    have hl := hE.1
    have sz := own_shl1 zn hl1
    refine Go.callS (pc' := 34) (z := N_4) d_jdk_52_method_26_31 rfl (w_186 hw) (w_187 hw) (w_18 hw) (w_188 hw) (by decide) (argsL := [(.ref t), (.int (Int32.ofNat i))]) (rest := [(.int (Int32.ofNat i)), (.ref c)]) (Pays.of_met (W := 2) (len := 3) (m_ugc hw hs t kt (z <<< ((1 : Int32) &&& 31)) bs (Int32.ofNat i) h V_t (nn) (by rw [ci]; omega) (by rw [sz.2]; omega)) (w_188 hw) (w_18 hw) (by decide) (by decide)) rfl rfl (lenOf pd_5 rfl) rfl (Nat.le_of_eq rfl) mem0 (by decide) (by decide) ?_
    rintro _ _ _ - - ⟨rfl, rfl, rfl⟩
    change Go _ _ _ _ _ _ _ _ _ _ _ _ _ _ [c] h 0 0 34 #[.val (.ref t), .val (.int (0 : Int32)), .val (.int n), .val (.ref c), .val (.int ((Int32.ofNat i) + (1 : Int32))), .val (.int (Int32.ofNat i))] [(.int (udec (bs.getD (2 * (Int32.ofNat i).toNatClampNeg) 0) (bs.getD (2 * (Int32.ofNat i).toNatClampNeg + 1) 0))), (.int (Int32.ofNat i)), (.ref c)]
    rw [ci, own_enc_at hE hi2 h16]
    refine Go.castoreV (pc' := 35) (i := i) d_jdk_52_method_26_34 rfl (List.mem_of_getElem? (i := 0) rfl) V_c ⟨nn, ltc⟩ ci (by simp; omega) ?_
    rw [nar_char b1.1 b1.2]
    intro h2 W2 V_c'
    rw [own_set_map, own_fill hi2 (by omega)] at V_c'
    replace V_t := V_t.other W2 ne_t_c
    change Go _ _ _ _ _ _ _ _ _ _ _ _ _ _ [c] h2 0 0 35 #[.val (.ref t), .val (.int (0 : Int32)), .val (.int n), .val (.ref c), .val (.int ((Int32.ofNat i) + (1 : Int32))), .val (.int (Int32.ofNat i))] []
    refine Go.iinc (pc' := 38) (Ls' := #[.val (.ref t), .val (.int (0 : Int32)), .val (.int n), .val (.ref c), .val (.int ((Int32.ofNat i) + (1 : Int32))), .val (.int ((Int32.ofNat i) + (1 : Int32)))]) d_jdk_52_method_26_35 rfl ic_1 rfl rfl ?_
    refine Go.goto (pc' := 16) d_jdk_52_method_26_38 (by decide) (by decide) ?_
    rw [ofNat_succ i]
    exact ih (i + 1) h2 (by omega) V_t V_c'
abbrev R_m_u16gc : Room := { frames := 4, cells := 0, slots := 0, locals := 100 }
theorem pn_m_u16gc : plainFor (⟨"java/lang/StringUTF16", "getChars", "([BII[CI)V"⟩ : MethodName) = true := by first | (refine plainFor_of_name ?_; simp [plainName, overriddenIn]; done) | decide +kernel
abbrev Q_m_u16gc (Z : State) (t : Addr) (c : Addr) (kt : ClassId) (kc : ClassId) (bs : List Int32) (cs : List Int32) (z : Int32) (zc : Int32) (n : Int32) (h0 : Heap) : Option Value → Heap → List Addr → Prop := fun res h' SN => res = none ∧ SN = [] ∧ Arv Z h' c kc .char zc ((cs.take n.toNatClampNeg).map Value.int) (.int (0 : Int32))
theorem ef_m_u16gc (mid : MethodId) (t : Addr) (c : Addr) (kt : ClassId) (kc : ClassId) (bs : List Int32) (cs : List Int32) (z : Int32) (zc : Int32) (n : Int32) : entryFrame mid #[(.ref t), (.int (0 : Int32)), (.int n), (.ref c), (.int (0 : Int32))] 6 = mkF mid 0 #[.val (.ref t), .val (.int (0 : Int32)), .val (.int n), .val (.ref c), .val (.int (0 : Int32)), .unset] [] := by first | (simp [entryFrame, mkF, argsToLocals, Value.category]; done) | rfl
set_option maxRecDepth 65536 in
set_option maxHeartbeats 40000000 in
theorem m_u16gc {l : Launch} {Z : State} {a0 : Array Value} {n0 : Nat} (hw : ∀ d ∈ tables_1, d.before a0 Z = true) (hs : Stat Z) (t : Addr) (c : Addr) (kt : ClassId) (kc : ClassId) (bs : List Int32) (cs : List Int32) (z : Int32) (zc : Int32) (n : Int32) (h0 : Heap) (V_t : Arv Z h0 t kt .byte (z <<< ((1 : Int32) &&& 31)) (bs.map Value.int) (.int (0 : Int32))) (V_c : Arv Z h0 c kc .char zc (([] : List Int32).map Value.int) (.int (0 : Int32))) (hz : z.toNatClampNeg = cs.length) (hn0 : ¬ n < 0) (hnz : n.toNatClampNeg ≤ cs.length) (hnc : n.toNatClampNeg ≤ zc.toNatClampNeg) (hz0 : ¬ z < 0) (hl1 : z.toNatClampNeg < 1073741824) (hE : Enc bs cs cs.length) (h16 : ∀ x ∈ cs, ¬ x < 0 ∧ ¬ 65535 < x) (ne_t_c : t ≠ c) :
    Met l Z EL0 n0 NR0 KN0 N_27 jdk_52_method_26_code 6 (Option.none : Option Jvm.ClassFile.FieldType) R_m_u16gc [c] #[(.ref t), (.int (0 : Int32)), (.int n), (.ref c), (.int (0 : Int32))] h0 (Q_m_u16gc Z t c kt kc bs cs z zc n h0) := by
  refine Met.of_go pn_m_u16gc (fun mid => ef_m_u16gc mid t c kt kc bs cs z zc n ) ?_
  intro hO hWS
  have cn := arv_nn V_c
  refine Go.iload_n (pc' := 1) d_jdk_52_method_26_0 rfl rfl ?_
  refine Go.iload_n (pc' := 2) d_jdk_52_method_26_1 rfl rfl ?_
  by_cases h1 : (0 : Int32) < n
  · skip
    refine Go.icmpN (pc' := 5) d_jdk_52_method_26_2 rfl (tlt (h1 : (0 : Int32) < n)).2.1 ?_
    refine Go.iload_n (pc' := 6) d_jdk_52_method_26_5 rfl rfl ?_
    refine Go.iload_n (pc' := 7) d_jdk_52_method_26_6 rfl rfl ?_
    refine Go.iload_n (pc' := 8) d_jdk_52_method_26_7 rfl rfl ?_
    refine Go.isub (pc' := 9) d_jdk_52_method_26_8 rfl ?_
    refine Go.aload_n (pc' := 10) d_jdk_52_method_26_9 rfl rfl rfl ?_
    rw [own_sub0]
    refine Go.callS (pc' := 13) (z := N_26) d_jdk_52_method_26_10 rfl (w_202 hw) (w_203 hw) (w_18 hw) (w_204 hw) (by decide) (argsL := [(.int (0 : Int32)), (.int n), (.ref t)]) (rest := []) (Pays.of_met (W := 0) (len := 3) (m_u16boc hw hs t kt z bs n h0 V_t (hz0) (hl1) (hn0) (own_gec hz0 hn0 (by omega))) (w_204 hw) (w_18 hw) (by decide) (by decide)) rfl rfl (lenOf pd_18 rfl) rfl (Nat.le_of_eq rfl) mem0 (by decide) (by decide) ?_
    rintro _ _ _ - - ⟨rfl, rfl, rfl⟩
    change Go _ _ _ _ _ _ _ _ _ _ _ _ _ _ [c] h0 0 0 13 #[.val (.ref t), .val (.int (0 : Int32)), .val (.int n), .val (.ref c), .val (.int (0 : Int32)), .unset] []
    refine Go.iload_n (pc' := 14) d_jdk_52_method_26_13 rfl rfl ?_
    refine Go.istore (pc' := 16) (Ls' := #[.val (.ref t), .val (.int (0 : Int32)), .val (.int n), .val (.ref c), .val (.int (0 : Int32)), .val (.int (0 : Int32))]) d_jdk_52_method_26_14 rfl rfl ?_
    refine m_u16gc_loop hw hs hz hz0 cn hn0 hnz hnc hl1 hE h16 ne_t_c (fun h' V => ?_) n.toNatClampNeg 0 h0 (by omega) V_t (V_c.pad (fun i => by rw [List.take_zero, List.nil_append]; exact own_pad0 _ i))
    exact Go.retV d_jdk_52_method_26_41 rfl (by decide) (by decide) [] sn0 ⟨rfl, rfl, V.pad (fun i => own_padr _ _ i)⟩
  · skip
    refine Go.icmpY (pc' := 13) d_jdk_52_method_26_2 (by decide) (by decide) (flt (h1 : ¬ ((0 : Int32) < n))).2.1 ?_
    refine Go.iload_n (pc' := 14) d_jdk_52_method_26_13 rfl rfl ?_
    refine Go.istore (pc' := 16) (Ls' := #[.val (.ref t), .val (.int (0 : Int32)), .val (.int n), .val (.ref c), .val (.int (0 : Int32)), .val (.int (0 : Int32))]) d_jdk_52_method_26_14 rfl rfl ?_
    refine m_u16gc_loop hw hs hz hz0 cn hn0 hnz hnc hl1 hE h16 ne_t_c (fun h' V => ?_) n.toNatClampNeg 0 h0 (by omega) V_t (V_c.pad (fun i => by rw [List.take_zero, List.nil_append]; exact own_pad0 _ i))
    exact Go.retV d_jdk_52_method_26_41 rfl (by decide) (by decide) [] sn0 ⟨rfl, rfl, V.pad (fun i => own_padr _ _ i)⟩
abbrev R_m_fti : Room := { frames := 0, cells := 0, slots := 0, locals := 0 }
theorem pn_m_fti : plainFor (⟨"jdk/internal/util/Preconditions", "checkFromToIndex", "(IIILjava/util/function/BiFunction;)I"⟩ : MethodName) = true := by first | (refine plainFor_of_name ?_; simp [plainName, overriddenIn]; done) | decide +kernel
abbrev Q_m_fti (Z : State) (n : Int32) (z : Int32) (f : Value) (h0 : Heap) : Option Value → Heap → List Addr → Prop := fun res h' SN => res = some (.int (0 : Int32)) ∧ SN = [] ∧ h0 = h'
theorem ef_m_fti (mid : MethodId) (n : Int32) (z : Int32) (f : Value) (hv_f : f.isRef = true) : entryFrame mid #[(.int (0 : Int32)), (.int n), (.int z), f] 4 = mkF mid 0 #[.val (.int (0 : Int32)), .val (.int n), .val (.int z), .val f] [] := by rcases ref_cases hv_f with rfl | ⟨_, rfl⟩ <;> first | (simp [entryFrame, mkF, argsToLocals, Value.category]; done) | rfl
set_option maxRecDepth 65536 in
set_option maxHeartbeats 40000000 in
theorem m_fti {l : Launch} {Z : State} {a0 : Array Value} {n0 : Nat} (hw : ∀ d ∈ tables_1, d.before a0 Z = true) (hs : Stat Z) (n : Int32) (z : Int32) (f : Value) (h0 : Heap) (hv_f : f.isRef = true) (hn0 : ¬ n < 0) (hle : ¬ z < n) :
    Met l Z EL0 n0 NR0 KN0 N_28 jdk_41_method_12_code 4 (Option.some Jvm.ClassFile.FieldType.int) R_m_fti [] #[(.int (0 : Int32)), (.int n), (.int z), f] h0 (Q_m_fti Z n z f h0) := by
  refine Met.of_go pn_m_fti (fun mid => ef_m_fti mid n z f hv_f) ?_
  intro hO hWS
  refine Go.iload_n (pc' := 1) d_jdk_41_method_12_0 rfl rfl ?_
  refine Go.ifN (pc' := 4) d_jdk_41_method_12_1 rfl ((if0 _ _).trans (flt (by decide : ¬ ((0 : Int32) < (0 : Int32)))).1) ?_
  refine Go.iload_n (pc' := 5) d_jdk_41_method_12_4 rfl rfl ?_
  refine Go.iload_n (pc' := 6) d_jdk_41_method_12_5 rfl rfl ?_
  refine Go.icmpN (pc' := 9) d_jdk_41_method_12_6 rfl (flt (hn0 : ¬ (n < (0 : Int32)))).2.2.1 ?_
  refine Go.iload_n (pc' := 10) d_jdk_41_method_12_9 rfl rfl ?_
  refine Go.iload_n (pc' := 11) d_jdk_41_method_12_10 rfl rfl ?_
  refine Go.icmpY (pc' := 22) d_jdk_41_method_12_11 (by decide) (by decide) (flt (hle : ¬ (z < n))).2.2.2 ?_
  refine Go.iload_n (pc' := 23) d_jdk_41_method_12_22 rfl rfl ?_
  exact Go.retI d_jdk_41_method_12_23 rfl (by decide) (by decide) [] sn0 ⟨rfl, rfl, rfl⟩
abbrev R_m_cbe : Room := { frames := 1, cells := 0, slots := 0, locals := 15 }
theorem pn_m_cbe : plainFor (⟨"java/lang/String", "checkBoundsBeginEnd", "(III)V"⟩ : MethodName) = true := by first | (refine plainFor_of_name ?_; simp [plainName, overriddenIn]; done) | decide +kernel
abbrev Q_m_cbe (Z : State) (n : Int32) (z : Int32) (h0 : Heap) : Option Value → Heap → List Addr → Prop := fun res h' SN => res = none ∧ SN = [] ∧ h0 = h'
theorem ef_m_cbe (mid : MethodId) (n : Int32) (z : Int32) : entryFrame mid #[(.int (0 : Int32)), (.int n), (.int z)] 3 = mkF mid 0 #[.val (.int (0 : Int32)), .val (.int n), .val (.int z)] [] := by first | (simp [entryFrame, mkF, argsToLocals, Value.category]; done) | rfl
set_option maxRecDepth 65536 in
set_option maxHeartbeats 40000000 in
theorem m_cbe {l : Launch} {Z : State} {a0 : Array Value} {n0 : Nat} (hw : ∀ d ∈ tables_1, d.before a0 Z = true) (hs : Stat Z) (n : Int32) (z : Int32) (h0 : Heap) (hn0 : ¬ n < 0) (hle : ¬ z < n) :
    Met l Z EL0 n0 NR0 KN0 N_29 jdk_42_method_158_code 3 (Option.none : Option Jvm.ClassFile.FieldType) R_m_cbe [] #[(.int (0 : Int32)), (.int n), (.int z)] h0 (Q_m_cbe Z n z h0) := by
  refine Met.of_go pn_m_cbe (fun mid => ef_m_cbe mid n z ) ?_
  intro hO hWS
  obtain ⟨fm, S_f, hv_fm⟩ := hs_f hs
  refine Go.iload_n (pc' := 1) d_jdk_42_method_158_0 rfl rfl ?_
  refine Go.iload_n (pc' := 2) d_jdk_42_method_158_1 rfl rfl ?_
  refine Go.iload_n (pc' := 3) d_jdk_42_method_158_2 rfl rfl ?_
  refine Go.getS (pc' := 6) d_jdk_42_method_158_3 rfl (host := "") (Or.inl (w_60 hw)) Via.refl S_f ?_
  refine Go.callS (pc' := 9) (z := N_28) d_jdk_42_method_158_6 rfl (w_117 hw) (w_118 hw) (w_61 hw) (w_119 hw) (by decide) (argsL := [(.int (0 : Int32)), (.int n), (.int z), fm]) (rest := []) (Pays.of_met (W := 0) (len := 3) (m_fti hw hs n z fm h0 hv_fm (hn0) (hle)) (w_119 hw) (w_61 hw) (by decide) (by decide)) rfl rfl (lenOf pd_8 rfl) rfl (Nat.le_of_eq rfl) mem0 (by decide) (by decide) ?_
  rintro _ _ _ - - ⟨rfl, rfl, rfl⟩
  change Go _ _ _ _ _ _ _ _ _ _ _ _ _ _ [] h0 0 0 9 #[.val (.int (0 : Int32)), .val (.int n), .val (.int z)] [(.int (0 : Int32))]
  refine Go.pop (pc' := 10) d_jdk_42_method_158_9 rfl rfl ?_
  exact Go.retV d_jdk_42_method_158_10 rfl (by decide) (by decide) [] sn0 ⟨rfl, rfl, rfl⟩
abbrev R_m_sgc0 : Room := { frames := 2, cells := 0, slots := 0, locals := 33 }
theorem pn_m_sgc0 : plainFor (⟨"java/lang/String", "getChars", "(II[CI)V"⟩ : MethodName) = true := by first | (refine plainFor_of_name ?_; simp [plainName, overriddenIn]; done) | decide +kernel
abbrev Q_m_sgc0 (Z : State) (a : Addr) (t : Addr) (c : Addr) (kt : ClassId) (kc : ClassId) (cs : List Int32) (z : Int32) (zc : Int32) (n : Int32) (h0 : Heap) : Option Value → Heap → List Addr → Prop := fun res h' SN => res = none ∧ SN = [] ∧ Arv Z h' c kc .char zc ((cs.take n.toNatClampNeg).map Value.int) (.int (0 : Int32))
theorem ef_m_sgc0 (mid : MethodId) (a : Addr) (t : Addr) (c : Addr) (kt : ClassId) (kc : ClassId) (cs : List Int32) (z : Int32) (zc : Int32) (n : Int32) : entryFrame mid #[(.ref a), (.int (0 : Int32)), (.int n), (.ref c), (.int (0 : Int32))] 5 = mkF mid 0 #[.val (.ref a), .val (.int (0 : Int32)), .val (.int n), .val (.ref c), .val (.int (0 : Int32))] [] := by first | (simp [entryFrame, mkF, argsToLocals, Value.category]; done) | rfl
set_option maxRecDepth 65536 in
set_option maxHeartbeats 40000000 in
theorem m_sgc0 {l : Launch} {Z : State} {a0 : Array Value} {n0 : Nat} (hw : ∀ d ∈ tables_1, d.before a0 Z = true) (hs : Stat Z) (a : Addr) (t : Addr) (c : Addr) (kt : ClassId) (kc : ClassId) (cs : List Int32) (z : Int32) (zc : Int32) (n : Int32) (h0 : Heap) (E_a : Exa Z h0 a "java/lang/String") (F_a_coder : Fld Z h0 a "java/lang/String" "coder" "B" (.int (0 : Int32))) (F_a_value : Fld Z h0 a "java/lang/String" "value" "[B" (.ref t)) (V_t : Arv Z h0 t kt .byte z (cs.map lowV) (.int (0 : Int32))) (V_c : Arv Z h0 c kc .char zc (([] : List Int32).map Value.int) (.int (0 : Int32))) (hz : z.toNatClampNeg = cs.length) (hn0 : ¬ n < 0) (hnz : n.toNatClampNeg ≤ cs.length) (hnc : n.toNatClampNeg ≤ zc.toNatClampNeg) (hz0 : ¬ z < 0) (hl1 : z.toNatClampNeg < 1073741824) (h255 : ∀ x ∈ cs, ¬ x < 0 ∧ ¬ 255 < x) (ne_t_c : t ≠ c) :
    Met l Z EL0 n0 NR0 KN0 N_30 jdk_42_method_61_code 5 (Option.none : Option Jvm.ClassFile.FieldType) R_m_sgc0 [c] #[(.ref a), (.int (0 : Int32)), (.int n), (.ref c), (.int (0 : Int32))] h0 (Q_m_sgc0 Z a t c kt kc cs z zc n h0) := by
  refine Met.of_go pn_m_sgc0 (fun mid => ef_m_sgc0 mid a t c kt kc cs z zc n ) ?_
  intro hO hWS
  have cn := arv_nn V_c
  refine Go.iload_n (pc' := 1) d_jdk_42_method_61_0 rfl rfl ?_
  refine Go.iload_n (pc' := 2) d_jdk_42_method_61_1 rfl rfl ?_
  refine Go.aload_n (pc' := 3) d_jdk_42_method_61_2 rfl rfl rfl ?_
  refine Go.callV (pc' := 6) (u := N_16) (z := N_16) (a := a) d_jdk_42_method_61_3 rfl (w_113 hw) (w_84 hw) (nf (w_86 hw) rfl) (w_86 hw) (w_85 hw) (by decide) E_a (argsL := []) (rest := [(.int n), (.int (0 : Int32))]) (Pays.of_met (W := 2) (len := 3) (m_length hw hs a t kt z (cs.map lowV) h0 E_a F_a_coder F_a_value V_t) (w_87 hw) (w_4 hw) (by decide) (by decide)) rfl rfl (lenOf pd_19 rfl) rfl (Nat.le_of_eq rfl) mem0 (by decide) (by decide) ?_
  rintro _ _ _ - - ⟨rfl, rfl, rfl⟩
  change Go _ _ _ _ _ _ _ _ _ _ _ _ _ _ [c] h0 0 0 6 #[.val (.ref a), .val (.int (0 : Int32)), .val (.int n), .val (.ref c), .val (.int (0 : Int32))] [(.int z), (.int n), (.int (0 : Int32))]
  refine Go.callS (pc' := 9) (z := N_29) d_jdk_42_method_61_6 rfl (w_114 hw) (w_115 hw) (w_4 hw) (w_116 hw) (by decide) (argsL := [(.int (0 : Int32)), (.int n), (.int z)]) (rest := []) (Pays.of_met (W := 0) (len := 3) (m_cbe hw hs n z h0 (hn0) (own_gec hz0 hn0 (by omega))) (w_116 hw) (w_4 hw) (by decide) (by decide)) rfl rfl (lenOf pd_20 rfl) rfl (Nat.le_of_eq rfl) mem0 (by decide) (by decide) ?_
  rintro _ _ _ - - ⟨rfl, rfl, rfl⟩
  change Go _ _ _ _ _ _ _ _ _ _ _ _ _ _ [c] h0 0 0 9 #[.val (.ref a), .val (.int (0 : Int32)), .val (.int n), .val (.ref c), .val (.int (0 : Int32))] []
  refine Go.iload (pc' := 11) d_jdk_42_method_61_9 rfl rfl ?_
  refine Go.iload_n (pc' := 12) d_jdk_42_method_61_11 rfl rfl ?_
  refine Go.iload_n (pc' := 13) d_jdk_42_method_61_12 rfl rfl ?_
  refine Go.isub (pc' := 14) d_jdk_42_method_61_13 rfl ?_
  refine Go.aload_n (pc' := 15) d_jdk_42_method_61_14 rfl rfl rfl ?_
  rw [own_sub0]
  refine Go.lenV (pc' := 16) d_jdk_42_method_61_15 rfl V_c ?_
  refine Go.callS (pc' := 19) (z := N_11) d_jdk_42_method_61_16 rfl (w_57 hw) (w_58 hw) (w_4 hw) (w_59 hw) (by decide) (argsL := [(.int (0 : Int32)), (.int n), (.int zc)]) (rest := []) (Pays.of_met (W := 0) (len := 3) (m_boc hw hs n zc h0 (hn0) (cn) (own_gec cn hn0 (by omega))) (w_59 hw) (w_4 hw) (by decide) (by decide)) rfl rfl (lenOf pd_9 rfl) rfl (Nat.le_of_eq rfl) mem0 (by decide) (by decide) ?_
  rintro _ _ _ - - ⟨rfl, rfl, rfl⟩
  change Go _ _ _ _ _ _ _ _ _ _ _ _ _ _ [c] h0 0 0 19 #[.val (.ref a), .val (.int (0 : Int32)), .val (.int n), .val (.ref c), .val (.int (0 : Int32))] [(.int (0 : Int32))]
  refine Go.pop (pc' := 20) d_jdk_42_method_61_19 rfl rfl ?_
  refine Go.aload_n (pc' := 21) d_jdk_42_method_61_20 rfl rfl rfl ?_
  refine Go.callV (pc' := 24) (u := N_15) (z := N_15) (a := a) d_jdk_42_method_61_21 rfl (w_120 hw) (w_121 hw) (nf (w_123 hw) rfl) (w_123 hw) (w_122 hw) (by decide) E_a (argsL := []) (rest := []) (Pays.of_met (W := 0) (len := 3) (m_isL hw hs a h0 F_a_coder) (w_124 hw) (w_4 hw) (by decide) (by decide)) rfl rfl (lenOf pd_14 rfl) rfl (Nat.le_of_eq rfl) mem0 (by decide) (by decide) ?_
  rintro _ _ _ - - ⟨rfl, rfl, rfl⟩
  change Go _ _ _ _ _ _ _ _ _ _ _ _ _ _ [c] h0 0 0 24 #[.val (.ref a), .val (.int (0 : Int32)), .val (.int n), .val (.ref c), .val (.int (0 : Int32))] [(.int (1 : Int32))]
  refine Go.ifN (pc' := 27) d_jdk_42_method_61_24 rfl ((if0 _ _).trans (feq (by decide : ¬ ((1 : Int32) = (0 : Int32)))).1) ?_
  refine Go.aload_n (pc' := 28) d_jdk_42_method_61_27 rfl rfl rfl ?_
  refine Go.getF (pc' := 31) d_jdk_42_method_61_28 rfl (host := "") (Or.inl (w_29 hw)) Via.refl F_a_value ?_
  refine Go.iload_n (pc' := 32) d_jdk_42_method_61_31 rfl rfl ?_
  refine Go.iload_n (pc' := 33) d_jdk_42_method_61_32 rfl rfl ?_
  refine Go.aload_n (pc' := 34) d_jdk_42_method_61_33 rfl rfl rfl ?_
  refine Go.iload (pc' := 36) d_jdk_42_method_61_34 rfl rfl ?_
  refine Go.callS (pc' := 39) (z := N_25) d_jdk_42_method_61_36 rfl (w_125 hw) (w_126 hw) (w_76 hw) (w_127 hw) (by decide) (argsL := [(.ref t), (.int (0 : Int32)), (.int n), (.ref c), (.int (0 : Int32))]) (rest := []) (Pays.of_met (W := 0) (len := 3) (m_l1gc hw hs t c kt kc cs z zc n h0 V_t V_c (hz) (hn0) (hnz) (hnc) (h255) ne_t_c) (w_127 hw) (w_76 hw) (by decide) (by decide)) rfl rfl (lenOf pd_21 rfl) rfl (Nat.le_of_eq rfl) (memS (List.mem_of_getElem? (i := 0) rfl) mem0) (by decide) (by decide) ?_
  rintro _ h72 _ K73 le74 ⟨rfl, rfl, p75⟩
  replace E_a := E_a.keep K73
  replace V_t := V_t.keep K73 (ninS ne_t_c nin0)
  have V_c := p75
  change Go _ _ _ _ _ _ _ _ _ _ _ _ _ _ [c] h72 0 0 39 #[.val (.ref a), .val (.int (0 : Int32)), .val (.int n), .val (.ref c), .val (.int (0 : Int32))] []
  refine Go.goto (pc' := 54) d_jdk_42_method_61_39 (by decide) (by decide) ?_
  exact Go.retV d_jdk_42_method_61_54 rfl (by decide) (by decide) [] sn0 ⟨rfl, rfl, V_c⟩
abbrev R_m_sgc1 : Room := { frames := 5, cells := 0, slots := 0, locals := 117 }
theorem pn_m_sgc1 : plainFor (⟨"java/lang/String", "getChars", "(II[CI)V"⟩ : MethodName) = true := by first | (refine plainFor_of_name ?_; simp [plainName, overriddenIn]; done) | decide +kernel
abbrev Q_m_sgc1 (Z : State) (a : Addr) (t : Addr) (c : Addr) (kt : ClassId) (kc : ClassId) (bs : List Int32) (cs : List Int32) (z : Int32) (zc : Int32) (n : Int32) (h0 : Heap) : Option Value → Heap → List Addr → Prop := fun res h' SN => res = none ∧ SN = [] ∧ Arv Z h' c kc .char zc ((cs.take n.toNatClampNeg).map Value.int) (.int (0 : Int32))
theorem ef_m_sgc1 (mid : MethodId) (a : Addr) (t : Addr) (c : Addr) (kt : ClassId) (kc : ClassId) (bs : List Int32) (cs : List Int32) (z : Int32) (zc : Int32) (n : Int32) : entryFrame mid #[(.ref a), (.int (0 : Int32)), (.int n), (.ref c), (.int (0 : Int32))] 5 = mkF mid 0 #[.val (.ref a), .val (.int (0 : Int32)), .val (.int n), .val (.ref c), .val (.int (0 : Int32))] [] := by first | (simp [entryFrame, mkF, argsToLocals, Value.category]; done) | rfl
set_option maxRecDepth 65536 in
set_option maxHeartbeats 40000000 in
theorem m_sgc1 {l : Launch} {Z : State} {a0 : Array Value} {n0 : Nat} (hw : ∀ d ∈ tables_1, d.before a0 Z = true) (hs : Stat Z) (a : Addr) (t : Addr) (c : Addr) (kt : ClassId) (kc : ClassId) (bs : List Int32) (cs : List Int32) (z : Int32) (zc : Int32) (n : Int32) (h0 : Heap) (E_a : Exa Z h0 a "java/lang/String") (F_a_coder : Fld Z h0 a "java/lang/String" "coder" "B" (.int (1 : Int32))) (F_a_value : Fld Z h0 a "java/lang/String" "value" "[B" (.ref t)) (V_t : Arv Z h0 t kt .byte (z <<< ((1 : Int32) &&& 31)) (bs.map Value.int) (.int (0 : Int32))) (V_c : Arv Z h0 c kc .char zc (([] : List Int32).map Value.int) (.int (0 : Int32))) (hz : z.toNatClampNeg = cs.length) (hn0 : ¬ n < 0) (hnz : n.toNatClampNeg ≤ cs.length) (hnc : n.toNatClampNeg ≤ zc.toNatClampNeg) (hz0 : ¬ z < 0) (hl1 : z.toNatClampNeg < 1073741824) (hE : Enc bs cs cs.length) (h16 : ∀ x ∈ cs, ¬ x < 0 ∧ ¬ 65535 < x) (ne_t_c : t ≠ c) :
    Met l Z EL0 n0 NR0 KN0 N_30 jdk_42_method_61_code 5 (Option.none : Option Jvm.ClassFile.FieldType) R_m_sgc1 [c] #[(.ref a), (.int (0 : Int32)), (.int n), (.ref c), (.int (0 : Int32))] h0 (Q_m_sgc1 Z a t c kt kc bs cs z zc n h0) := by
  refine Met.of_go pn_m_sgc1 (fun mid => ef_m_sgc1 mid a t c kt kc bs cs z zc n ) ?_
  intro hO hWS
  have cn := arv_nn V_c
  refine Go.iload_n (pc' := 1) d_jdk_42_method_61_0 rfl rfl ?_
  refine Go.iload_n (pc' := 2) d_jdk_42_method_61_1 rfl rfl ?_
  refine Go.aload_n (pc' := 3) d_jdk_42_method_61_2 rfl rfl rfl ?_
  refine Go.callV (pc' := 6) (u := N_16) (z := N_16) (a := a) d_jdk_42_method_61_3 rfl (w_113 hw) (w_84 hw) (nf (w_86 hw) rfl) (w_86 hw) (w_85 hw) (by decide) E_a (argsL := []) (rest := [(.int n), (.int (0 : Int32))]) (Pays.of_met (W := 2) (len := 3) (m_ulen hw hs a t kt z bs h0 E_a F_a_coder F_a_value V_t (hz0) (hl1)) (w_87 hw) (w_4 hw) (by decide) (by decide)) rfl rfl (lenOf pd_19 rfl) rfl (Nat.le_of_eq rfl) mem0 (by decide) (by decide) ?_
  rintro _ _ _ - - ⟨rfl, rfl, rfl⟩
  change Go _ _ _ _ _ _ _ _ _ _ _ _ _ _ [c] h0 0 0 6 #[.val (.ref a), .val (.int (0 : Int32)), .val (.int n), .val (.ref c), .val (.int (0 : Int32))] [(.int z), (.int n), (.int (0 : Int32))]
  refine Go.callS (pc' := 9) (z := N_29) d_jdk_42_method_61_6 rfl (w_114 hw) (w_115 hw) (w_4 hw) (w_116 hw) (by decide) (argsL := [(.int (0 : Int32)), (.int n), (.int z)]) (rest := []) (Pays.of_met (W := 0) (len := 3) (m_cbe hw hs n z h0 (hn0) (own_gec hz0 hn0 (by omega))) (w_116 hw) (w_4 hw) (by decide) (by decide)) rfl rfl (lenOf pd_20 rfl) rfl (Nat.le_of_eq rfl) mem0 (by decide) (by decide) ?_
  rintro _ _ _ - - ⟨rfl, rfl, rfl⟩
  change Go _ _ _ _ _ _ _ _ _ _ _ _ _ _ [c] h0 0 0 9 #[.val (.ref a), .val (.int (0 : Int32)), .val (.int n), .val (.ref c), .val (.int (0 : Int32))] []
  refine Go.iload (pc' := 11) d_jdk_42_method_61_9 rfl rfl ?_
  refine Go.iload_n (pc' := 12) d_jdk_42_method_61_11 rfl rfl ?_
  refine Go.iload_n (pc' := 13) d_jdk_42_method_61_12 rfl rfl ?_
  refine Go.isub (pc' := 14) d_jdk_42_method_61_13 rfl ?_
  refine Go.aload_n (pc' := 15) d_jdk_42_method_61_14 rfl rfl rfl ?_
  rw [own_sub0]
  refine Go.lenV (pc' := 16) d_jdk_42_method_61_15 rfl V_c ?_
  refine Go.callS (pc' := 19) (z := N_11) d_jdk_42_method_61_16 rfl (w_57 hw) (w_58 hw) (w_4 hw) (w_59 hw) (by decide) (argsL := [(.int (0 : Int32)), (.int n), (.int zc)]) (rest := []) (Pays.of_met (W := 0) (len := 3) (m_boc hw hs n zc h0 (hn0) (cn) (own_gec cn hn0 (by omega))) (w_59 hw) (w_4 hw) (by decide) (by decide)) rfl rfl (lenOf pd_9 rfl) rfl (Nat.le_of_eq rfl) mem0 (by decide) (by decide) ?_
  rintro _ _ _ - - ⟨rfl, rfl, rfl⟩
  change Go _ _ _ _ _ _ _ _ _ _ _ _ _ _ [c] h0 0 0 19 #[.val (.ref a), .val (.int (0 : Int32)), .val (.int n), .val (.ref c), .val (.int (0 : Int32))] [(.int (0 : Int32))]
  refine Go.pop (pc' := 20) d_jdk_42_method_61_19 rfl rfl ?_
  refine Go.aload_n (pc' := 21) d_jdk_42_method_61_20 rfl rfl rfl ?_
  refine Go.callV (pc' := 24) (u := N_15) (z := N_15) (a := a) d_jdk_42_method_61_21 rfl (w_120 hw) (w_121 hw) (nf (w_123 hw) rfl) (w_123 hw) (w_122 hw) (by decide) E_a (argsL := []) (rest := []) (Pays.of_met (W := 0) (len := 3) (m_isL1 hw hs a h0 F_a_coder) (w_124 hw) (w_4 hw) (by decide) (by decide)) rfl rfl (lenOf pd_14 rfl) rfl (Nat.le_of_eq rfl) mem0 (by decide) (by decide) ?_
  rintro _ _ _ - - ⟨rfl, rfl, rfl⟩
  change Go _ _ _ _ _ _ _ _ _ _ _ _ _ _ [c] h0 0 0 24 #[.val (.ref a), .val (.int (0 : Int32)), .val (.int n), .val (.ref c), .val (.int (0 : Int32))] [(.int (0 : Int32))]
  refine Go.ifY (pc' := 42) d_jdk_42_method_61_24 (by decide) (by decide) ((if0 _ _).trans (teq (rfl : (0 : Int32) = (0 : Int32))).1) ?_
  refine Go.aload_n (pc' := 43) d_jdk_42_method_61_42 rfl rfl rfl ?_
  refine Go.getF (pc' := 46) d_jdk_42_method_61_43 rfl (host := "") (Or.inl (w_29 hw)) Via.refl F_a_value ?_
  refine Go.iload_n (pc' := 47) d_jdk_42_method_61_46 rfl rfl ?_
  refine Go.iload_n (pc' := 48) d_jdk_42_method_61_47 rfl rfl ?_
  refine Go.aload_n (pc' := 49) d_jdk_42_method_61_48 rfl rfl rfl ?_
  refine Go.iload (pc' := 51) d_jdk_42_method_61_49 rfl rfl ?_
  refine Go.callS (pc' := 54) (z := N_27) d_jdk_42_method_61_51 rfl (w_199 hw) (w_200 hw) (w_18 hw) (w_201 hw) (by decide) (argsL := [(.ref t), (.int (0 : Int32)), (.int n), (.ref c), (.int (0 : Int32))]) (rest := []) (Pays.of_met (W := 0) (len := 3) (m_u16gc hw hs t c kt kc bs cs z zc n h0 V_t V_c (hz) (hn0) (hnz) (hnc) (hz0) (hl1) (hE) (h16) ne_t_c) (w_201 hw) (w_18 hw) (by decide) (by decide)) rfl rfl (lenOf pd_21 rfl) rfl (Nat.le_of_eq rfl) (memS (List.mem_of_getElem? (i := 0) rfl) mem0) (by decide) (by decide) ?_
  rintro _ h76 _ K77 le78 ⟨rfl, rfl, p79⟩
  replace E_a := E_a.keep K77
  replace V_t := V_t.keep K77 (ninS ne_t_c nin0)
  have V_c := p79
  change Go _ _ _ _ _ _ _ _ _ _ _ _ _ _ [c] h76 0 0 54 #[.val (.ref a), .val (.int (0 : Int32)), .val (.int n), .val (.ref c), .val (.int (0 : Int32))] []
  exact Go.retV d_jdk_42_method_61_54 rfl (by decide) (by decide) [] sn0 ⟨rfl, rfl, V_c⟩
abbrev R_m_jo1 : Room := { frames := 1, cells := 0, slots := 0, locals := 12 }
theorem pn_m_jo1 : plainFor (⟨"com/example/beleg/beleg/JsonOutput", "<init>", "([C)V"⟩ : MethodName) = true := by first | (refine plainFor_of_name ?_; simp [plainName, overriddenIn]; done) | decide +kernel
abbrev Q_m_jo1 (Z : State) (o : Addr) (c : Addr) (h0 : Heap) : Option Value → Heap → List Addr → Prop := fun res h' SN => res = none ∧ SN = [] ∧ Exa Z h' o "com/example/beleg/beleg/JsonOutput" ∧ Fld Z h' o "com/example/beleg/beleg/JsonOutput" "chars" "[C" (.ref c) ∧ Fld Z h' o "com/example/beleg/beleg/JsonOutput" "length" "I" (.int (0 : Int32))
theorem ef_m_jo1 (mid : MethodId) (o : Addr) (c : Addr) : entryFrame mid #[(.ref o), (.ref c)] 2 = mkF mid 0 #[.val (.ref o), .val (.ref c)] [] := by first | (simp [entryFrame, mkF, argsToLocals, Value.category]; done) | rfl
set_option maxRecDepth 65536 in
set_option maxHeartbeats 40000000 in
theorem m_jo1 {l : Launch} {Z : State} {a0 : Array Value} {n0 : Nat} (hw : ∀ d ∈ tables_1, d.before a0 Z = true) (hs : Stat Z) (o : Addr) (c : Addr) (h0 : Heap) (E_o : Exa Z h0 o "com/example/beleg/beleg/JsonOutput") (F_o_chars : Fld Z h0 o "com/example/beleg/beleg/JsonOutput" "chars" "[C" .null) (F_o_length : Fld Z h0 o "com/example/beleg/beleg/JsonOutput" "length" "I" (.int (0 : Int32))) :
    Met l Z EL0 n0 NR0 KN0 N_31 prog_11_method_2_code 2 (Option.none : Option Jvm.ClassFile.FieldType) R_m_jo1 [o] #[(.ref o), (.ref c)] h0 (Q_m_jo1 Z o c h0) := by
  refine Met.of_go pn_m_jo1 (fun mid => ef_m_jo1 mid o c ) ?_
  intro hO hWS
  refine Go.aload_n (pc' := 1) d_prog_11_method_2_0 rfl rfl rfl ?_
  refine Go.initO (pc' := 4) (W := 0) d_prog_11_method_2_1 rfl (w_40 hw) (w_13 hw) (w_14 hw) rfl (by decide) (Nat.le_of_eq rfl) (by decide) ?_
  refine Go.aload_n (pc' := 5) d_prog_11_method_2_4 rfl rfl rfl ?_
  refine Go.aload_n (pc' := 6) d_prog_11_method_2_5 rfl rfl rfl ?_
  refine Go.putF (pc' := 9) d_prog_11_method_2_6 rfl (List.mem_of_getElem? (i := 0) rfl) (host := "") (Or.inl (w_41 hw)) Via.refl F_o_chars E_o (Or.inl (w_42 hw)) (w_32 hw) (ty := (.array .char)) (by decide) rfl rfl ?_
  intro h80 W81
  replace F_o_chars := F_o_chars.same W81
  replace E_o := E_o.wr W81
  replace F_o_length := F_o_length.other W81 (Or.inr (slot_ne (Or.inl (w_50 hw)) (Or.inl (w_42 hw)) (by decide) (t := .int) (t' := (.array .char)) (by decide) (by decide)))
  change Go _ _ _ _ _ _ _ _ _ _ _ _ _ _ [o] h80 0 0 9 #[.val (.ref o), .val (.ref c)] []
  exact Go.retV d_prog_11_method_2_9 rfl (by decide) (by decide) [] sn0 ⟨rfl, rfl, E_o, F_o_chars, F_o_length⟩
abbrev R_m_jo : Room := { frames := 2, cells := 1, slots := 256, locals := 25 }
theorem pn_m_jo : plainFor (⟨"com/example/beleg/beleg/JsonOutput", "<init>", "()V"⟩ : MethodName) = true := by first | (refine plainFor_of_name ?_; simp [plainName, overriddenIn]; done) | decide +kernel
abbrev Q_m_jo (Z : State) (o : Addr) (h0 : Heap) : Option Value → Heap → List Addr → Prop := fun res h' SN => ∃ (ch : Addr) (kc : ClassId), res = none ∧ SN = [ch] ∧ Exa Z h' o "com/example/beleg/beleg/JsonOutput" ∧ Fld Z h' o "com/example/beleg/beleg/JsonOutput" "chars" "[C" (.ref ch) ∧ Fld Z h' o "com/example/beleg/beleg/JsonOutput" "length" "I" (.int (0 : Int32)) ∧ h0.size ≤ ch ∧ Arv Z h' ch kc .char (256 : Int32) (([] : List Int32).map Value.int) (.int (0 : Int32))
theorem ef_m_jo (mid : MethodId) (o : Addr) : entryFrame mid #[(.ref o)] 1 = mkF mid 0 #[.val (.ref o)] [] := by first | (simp [entryFrame, mkF, argsToLocals, Value.category]; done) | rfl
set_option maxRecDepth 65536 in
set_option maxHeartbeats 40000000 in
theorem m_jo {l : Launch} {Z : State} {a0 : Array Value} {n0 : Nat} (hw : ∀ d ∈ tables_1, d.before a0 Z = true) (hs : Stat Z) (o : Addr) (h0 : Heap) (E_o : Exa Z h0 o "com/example/beleg/beleg/JsonOutput") (F_o_chars : Fld Z h0 o "com/example/beleg/beleg/JsonOutput" "chars" "[C" .null) (F_o_length : Fld Z h0 o "com/example/beleg/beleg/JsonOutput" "length" "I" (.int (0 : Int32))) :
    Met l Z EL0 n0 NR0 KN0 N_32 prog_11_method_1_code 1 (Option.none : Option Jvm.ClassFile.FieldType) R_m_jo [o] #[(.ref o)] h0 (Q_m_jo Z o h0) := by
  refine Met.of_go pn_m_jo (fun mid => ef_m_jo mid o ) ?_
  intro hO hWS
  refine Go.aload_n (pc' := 1) d_prog_11_method_1_0 rfl rfl rfl ?_
  refine Go.sipush (pc' := 4) d_prog_11_method_1_1 rfl ics_256 ?_
  refine Go.newP (pc' := 6) (cap := 256) (ad := "[C") d_prog_11_method_1_4 rfl (w_1 hw) (by decide) (by decide) (by decide) (by decide) (by decide) (by decide) ?_
  intro h82 b83 g84 ge_b83 q86 x85 V_b83 E_b83
  have o_o_b83 : o ≠ b83 := Nat.ne_of_lt (Nat.lt_of_lt_of_le E_o.lt (Nat.le_of_eq g84))
  replace E_o := E_o.ext x85
  replace F_o_chars := F_o_chars.ext x85
  replace F_o_length := F_o_length.ext x85
  replace V_b83 : Arv Z h82 b83 q86 .char (256 : Int32) [] (.int (0 : Int32)) := V_b83
  change Go _ _ _ _ _ _ _ _ _ _ _ _ _ _ [b83, o] h82 1 256 6 #[.val (.ref o)] [(.ref b83), (.ref o)]
  replace V_b83 : Arv Z h82 b83 q86 .char (256 : Int32) (([] : List Int32).map Value.int) (.int (0 : Int32)) := V_b83
  refine Go.callI (pc' := 9) (z := N_31) (a := o) d_prog_11_method_1_6 rfl rfl (w_37 hw) (w_38 hw) (w_39 hw) (by decide) (argsL := [(.ref b83)]) (rest := []) (Pays.of_met (W := 0) (len := 3) (m_jo1 hw hs o b83 h82 E_o F_o_chars F_o_length) (w_39 hw) (w_33 hw) (by decide) (by decide)) rfl rfl (lenOf pd_22 rfl) rfl (Nat.le_of_eq rfl) (memS (List.mem_of_getElem? (i := 1) rfl) mem0) (by decide) (by decide) ?_
  rintro _ h87 _ K88 le89 ⟨rfl, rfl, p90, p91, p92⟩
  replace E_o := E_o.keep K88
  replace V_b83 := V_b83.keep K88 (ninS (Ne.symm o_o_b83) nin0)
  replace E_b83 := E_b83.keep K88
  have F_o_chars := p91
  have F_o_length := p92
  change Go _ _ _ _ _ _ _ _ _ _ _ _ _ _ [b83, o] h87 1 256 9 #[.val (.ref o)] []
  exact Go.retV d_prog_11_method_1_9 rfl (by decide) (by decide) [b83] (snS ⟨(List.mem_of_getElem? (i := 0) rfl), ge_b83⟩ sn0) ⟨b83, _, rfl, rfl, E_o, F_o_chars, F_o_length, ge_b83, V_b83⟩
abbrev R_m_er0 : Room := { frames := 0, cells := 0, slots := 0, locals := 0 }
theorem pn_m_er0 : plainFor (⟨"com/example/beleg/beleg/JsonOutput", "ensureRoom", "(I)V"⟩ : MethodName) = true := by first | (refine plainFor_of_name ?_; simp [plainName, overriddenIn]; done) | decide +kernel
abbrev Q_m_er0 (Z : State) (o : Addr) (ch : Addr) (kc : ClassId) (zc : Int32) (len : Int32) (cs : List Int32) (q : Int32) (h0 : Heap) : Option Value → Heap → List Addr → Prop := fun res h' SN => res = none ∧ SN = [] ∧ h0 = h'
theorem ef_m_er0 (mid : MethodId) (o : Addr) (ch : Addr) (kc : ClassId) (zc : Int32) (len : Int32) (cs : List Int32) (q : Int32) : entryFrame mid #[(.ref o), (.int q)] 4 = mkF mid 0 #[.val (.ref o), .val (.int q), .unset, .unset] [] := by first | (simp [entryFrame, mkF, argsToLocals, Value.category]; done) | rfl
set_option maxRecDepth 65536 in
set_option maxHeartbeats 40000000 in
theorem m_er0 {l : Launch} {Z : State} {a0 : Array Value} {n0 : Nat} (hw : ∀ d ∈ tables_1, d.before a0 Z = true) (hs : Stat Z) (o : Addr) (ch : Addr) (kc : ClassId) (zc : Int32) (len : Int32) (cs : List Int32) (q : Int32) (h0 : Heap) (F_o_chars : Fld Z h0 o "com/example/beleg/beleg/JsonOutput" "chars" "[C" (.ref ch)) (F_o_length : Fld Z h0 o "com/example/beleg/beleg/JsonOutput" "length" "I" (.int len)) (V_ch : Arv Z h0 ch kc .char zc (cs.map Value.int) (.int (0 : Int32))) (hr : ¬ (zc - len) < q) :
    Met l Z EL0 n0 NR0 KN0 N_33 prog_11_method_14_code 4 (Option.none : Option Jvm.ClassFile.FieldType) R_m_er0 [] #[(.ref o), (.int q)] h0 (Q_m_er0 Z o ch kc zc len cs q h0) := by
  refine Met.of_go pn_m_er0 (fun mid => ef_m_er0 mid o ch kc zc len cs q ) ?_
  intro hO hWS
  refine Go.iload_n (pc' := 1) d_prog_11_method_14_0 rfl rfl ?_
  refine Go.aload_n (pc' := 2) d_prog_11_method_14_1 rfl rfl rfl ?_
  refine Go.getF (pc' := 5) d_prog_11_method_14_2 rfl (host := "") (Or.inl (w_41 hw)) Via.refl F_o_chars ?_
  refine Go.lenV (pc' := 6) d_prog_11_method_14_5 rfl V_ch ?_
  refine Go.aload_n (pc' := 7) d_prog_11_method_14_6 rfl rfl rfl ?_
  refine Go.getF (pc' := 10) d_prog_11_method_14_7 rfl (host := "") (Or.inl (w_49 hw)) Via.refl F_o_length ?_
  refine Go.isub (pc' := 11) d_prog_11_method_14_10 rfl ?_
  refine Go.icmpY (pc' := 77) d_prog_11_method_14_11 (by decide) (by decide) (flt (hr : ¬ ((zc - len) < q))).2.2.2 ?_
  exact Go.retV d_prog_11_method_14_77 rfl (by decide) (by decide) [] sn0 ⟨rfl, rfl, rfl⟩
abbrev R_m_min : Room := { frames := 0, cells := 0, slots := 0, locals := 0 }
theorem pn_m_min : plainFor (⟨"java/lang/Math", "min", "(II)I"⟩ : MethodName) = true := by first | (refine plainFor_of_name ?_; simp [plainName, overriddenIn]; done) | decide +kernel
abbrev Q_m_min (Z : State) (x : Int32) (z : Int32) (h0 : Heap) : Option Value → Heap → List Addr → Prop := fun res h' SN => res = some (.int (if z < x then z else x)) ∧ SN = [] ∧ h0 = h'
theorem ef_m_min (mid : MethodId) (x : Int32) (z : Int32) : entryFrame mid #[(.int x), (.int z)] 2 = mkF mid 0 #[.val (.int x), .val (.int z)] [] := by first | (simp [entryFrame, mkF, argsToLocals, Value.category]; done) | rfl
set_option maxRecDepth 65536 in
set_option maxHeartbeats 40000000 in
theorem m_min {l : Launch} {Z : State} {a0 : Array Value} {n0 : Nat} (hw : ∀ d ∈ tables_1, d.before a0 Z = true) (hs : Stat Z) (x : Int32) (z : Int32) (h0 : Heap) :
    Met l Z EL0 n0 NR0 KN0 N_34 jdk_29_method_69_code 2 (Option.some Jvm.ClassFile.FieldType.int) R_m_min [] #[(.int x), (.int z)] h0 (Q_m_min Z x z h0) := by
  refine Met.of_go pn_m_min (fun mid => ef_m_min mid x z ) ?_
  intro hO hWS
  refine Go.iload_n (pc' := 1) d_jdk_29_method_69_0 rfl rfl ?_
  refine Go.iload_n (pc' := 2) d_jdk_29_method_69_1 rfl rfl ?_
  by_cases h1 : z < x
  · skip
    refine Go.icmpY (pc' := 9) d_jdk_29_method_69_2 (by decide) (by decide) (tlt (h1 : z < x)).2.2.1 ?_
    refine Go.iload_n (pc' := 10) d_jdk_29_method_69_9 rfl rfl ?_
    exact Go.retI d_jdk_29_method_69_10 rfl (by decide) (by decide) [] sn0 ⟨by rw [if_pos h1], rfl, rfl⟩
  · skip
    refine Go.icmpN (pc' := 5) d_jdk_29_method_69_2 rfl (flt (h1 : ¬ (z < x))).2.2.1 ?_
    refine Go.iload_n (pc' := 6) d_jdk_29_method_69_5 rfl rfl ?_
    refine Go.goto (pc' := 10) d_jdk_29_method_69_6 (by decide) (by decide) ?_
    exact Go.retI d_jdk_29_method_69_10 rfl (by decide) (by decide) [] sn0 ⟨by rw [if_neg h1], rfl, rfl⟩
abbrev R_m_cpc : Room := { frames := 1, cells := 1, slots := 512, locals := 24 }
theorem pn_m_cpc : plainFor (⟨"java/util/Arrays", "copyOf", "([CI)[C"⟩ : MethodName) = true := by first | (refine plainFor_of_name ?_; simp [plainName, overriddenIn]; done) | decide +kernel
abbrev Q_m_cpc (Z : State) (ch : Addr) (kc : ClassId) (cs : List Int32) (h0 : Heap) : Option Value → Heap → List Addr → Prop := fun res h' SN => ∃ (nb : Addr) (kb : ClassId), res = some (.ref nb) ∧ SN = [nb] ∧ h0.size ≤ nb ∧ Arv Z h' nb kb .char (512 : Int32) (cs.map Value.int) (.int (0 : Int32))
theorem ef_m_cpc (mid : MethodId) (ch : Addr) (kc : ClassId) (cs : List Int32) : entryFrame mid #[(.ref ch), (.int (512 : Int32))] 3 = mkF mid 0 #[.val (.ref ch), .val (.int (512 : Int32)), .unset] [] := by first | (simp [entryFrame, mkF, argsToLocals, Value.category]; done) | rfl
set_option maxRecDepth 65536 in
set_option maxHeartbeats 40000000 in
theorem m_cpc {l : Launch} {Z : State} {a0 : Array Value} {n0 : Nat} (hw : ∀ d ∈ tables_1, d.before a0 Z = true) (hs : Stat Z) (ch : Addr) (kc : ClassId) (cs : List Int32) (h0 : Heap) (V_ch : Arv Z h0 ch kc .char (256 : Int32) (cs.map Value.int) (.int (0 : Int32))) (hl : cs.length = 256) :
    Met l Z EL0 n0 NR0 KN0 N_35 jdk_65_method_125_code 3 (Option.some (Jvm.ClassFile.FieldType.array Jvm.ClassFile.FieldType.char)) R_m_cpc [] #[(.ref ch), (.int (512 : Int32))] h0 (Q_m_cpc Z ch kc cs h0) := by
  refine Met.of_go pn_m_cpc (fun mid => ef_m_cpc mid ch kc cs ) ?_
  intro hO hWS
  refine Go.iload_n (pc' := 1) d_jdk_65_method_125_0 rfl rfl ?_
  refine Go.aload_n (pc' := 2) d_jdk_65_method_125_1 rfl rfl rfl ?_
  refine Go.lenV (pc' := 3) d_jdk_65_method_125_2 rfl V_ch ?_
  refine Go.icmpY (pc' := 14) d_jdk_65_method_125_3 (by decide) (by decide) (feq (by decide : ¬ ((512 : Int32) = (256 : Int32)))).2 ?_
  refine Go.iload_n (pc' := 15) d_jdk_65_method_125_14 rfl rfl ?_
  refine Go.newP (pc' := 17) (cap := 512) (ad := "[C") d_jdk_65_method_125_15 rfl (w_1 hw) (by decide) (by decide) (by decide) (by decide) (by decide) (by decide) ?_
  intro h93 b94 g95 ge_b94 q97 x96 V_b94 E_b94
  have o_ch_b94 : ch ≠ b94 := Nat.ne_of_lt (Nat.lt_of_lt_of_le V_ch.lt (Nat.le_of_eq g95))
  replace V_ch := V_ch.ext x96
  replace V_b94 : Arv Z h93 b94 q97 .char (512 : Int32) [] (.int (0 : Int32)) := V_b94
  change Go _ _ _ _ _ _ _ _ _ _ _ _ _ _ [b94] h93 1 512 17 #[.val (.ref ch), .val (.int (512 : Int32)), .unset] [(.ref b94)]
  replace V_b94 : Arv Z h93 b94 q97 .char (512 : Int32) (List.replicate 512 (.int (0 : Int32))) (.int (0 : Int32)) := V_b94.pad (pad_rep [] _ 512)
  refine Go.astore_n (pc' := 18) (Ls' := #[.val (.ref ch), .val (.int (512 : Int32)), .val (.ref b94)]) d_jdk_65_method_125_17 rfl rfl rfl ?_
  refine Go.aload_n (pc' := 19) d_jdk_65_method_125_18 rfl rfl rfl ?_
  refine Go.iconst (pc' := 20) d_jdk_65_method_125_19 rfl ic_0 ?_
  refine Go.aload_n (pc' := 21) d_jdk_65_method_125_20 rfl rfl rfl ?_
  refine Go.iconst (pc' := 22) d_jdk_65_method_125_21 rfl ic_0 ?_
  refine Go.aload_n (pc' := 23) d_jdk_65_method_125_22 rfl rfl rfl ?_
  refine Go.lenV (pc' := 24) d_jdk_65_method_125_23 rfl V_ch ?_
  refine Go.iload_n (pc' := 25) d_jdk_65_method_125_24 rfl rfl ?_
  refine Go.callS (pc' := 28) (z := N_34) d_jdk_65_method_125_25 rfl (w_149 hw) (w_150 hw) (w_140 hw) (w_151 hw) (by decide) (argsL := [(.int (256 : Int32)), (.int (512 : Int32))]) (rest := [(.int (0 : Int32)), (.ref b94), (.int (0 : Int32)), (.ref ch)]) (Pays.of_met (W := 4) (len := 3) (m_min hw hs (256 : Int32) (512 : Int32) h93) (w_151 hw) (w_140 hw) (by decide) (by decide)) rfl rfl (lenOf pd_23 rfl) rfl (Nat.le_of_eq rfl) mem0 (by decide) (by decide) ?_
  rintro _ _ _ - - ⟨rfl, rfl, rfl⟩
  change Go _ _ _ _ _ _ _ _ _ _ _ _ _ _ [b94] h93 1 512 28 #[.val (.ref ch), .val (.int (512 : Int32)), .val (.ref b94)] [(.int (if (512 : Int32) < (256 : Int32) then (512 : Int32) else (256 : Int32))), (.int (0 : Int32)), (.ref b94), (.int (0 : Int32)), (.ref ch)]
  rw [show (if (512 : Int32) < (256 : Int32) then (512 : Int32) else (256 : Int32)) = (256 : Int32) from by decide]
  refine Go.cpA (pc' := 31) (W := 0) (us := (cs.map Value.int)) d_jdk_65_method_125_28 rfl (List.mem_of_getElem? (i := 0) rfl) (w_152 hw) (w_155 hw) (w_153 hw) (w_154 hw) V_ch V_b94 (Or.inl ⟨rfl, rfl⟩) (by decide) (by decide) (by decide) (by decide) (by decide) (own_range_all cs 256 hl) (by first | decide | exact Nat.le_of_ble_eq_true rfl) rfl (by decide) (Nat.le_of_eq rfl) (by decide) ?_
  intro h98 K99 V_b94'
  replace V_ch := V_ch.keep K99 (ninS o_ch_b94 nin0)
  replace E_b94 := E_b94.keep K99
  replace V_b94 : Arv Z h98 b94 q97 .char (512 : Int32) ((cs.map Value.int) ++ List.replicate 256 (.int (0 : Int32))) (.int (0 : Int32)) := V_b94'
  change Go _ _ _ _ _ _ _ _ _ _ _ _ _ _ [b94] h98 1 512 31 #[.val (.ref ch), .val (.int (512 : Int32)), .val (.ref b94)] []
  refine Go.aload_n (pc' := 32) d_jdk_65_method_125_31 rfl rfl rfl ?_
  exact Go.retA d_jdk_65_method_125_32 rfl rfl rfl (by decide) (by decide) [b94] (snS ⟨(List.mem_of_getElem? (i := 0) rfl), ge_b94⟩ sn0) ⟨b94, _, rfl, rfl, ge_b94, V_b94.pad (fun i => (pad_rep _ _ 256 i).symm)⟩
abbrev R_m_lmax : Room := { frames := 0, cells := 0, slots := 0, locals := 0 }
theorem pn_m_lmax : plainFor (⟨"java/lang/Math", "max", "(JJ)J"⟩ : MethodName) = true := by first | (refine plainFor_of_name ?_; simp [plainName, overriddenIn]; done) | decide +kernel
abbrev Q_m_lmax (Z : State)  (h0 : Heap) : Option Value → Heap → List Addr → Prop := fun res h' SN => res = some (.long (512 : Int64)) ∧ SN = [] ∧ h0 = h'
theorem ef_m_lmax (mid : MethodId)  : entryFrame mid #[(.long (257 : Int64)), (.long (512 : Int64))] 4 = mkF mid 0 #[.val (.long (257 : Int64)), .second, .val (.long (512 : Int64)), .second] [] := by first | (simp [entryFrame, mkF, argsToLocals, Value.category]; done) | rfl
set_option maxRecDepth 65536 in
set_option maxHeartbeats 40000000 in
theorem m_lmax {l : Launch} {Z : State} {a0 : Array Value} {n0 : Nat} (hw : ∀ d ∈ tables_1, d.before a0 Z = true) (hs : Stat Z) (h0 : Heap) :
    Met l Z EL0 n0 NR0 KN0 N_36 jdk_29_method_66_code 4 (Option.some Jvm.ClassFile.FieldType.long) R_m_lmax [] #[(.long (257 : Int64)), (.long (512 : Int64))] h0 (Q_m_lmax Z  h0) := by
  refine Met.of_go pn_m_lmax (fun mid => ef_m_lmax mid  ) ?_
  intro hO hWS
  refine Go.lload_n (pc' := 1) d_jdk_29_method_66_0 rfl rfl ?_
  refine Go.lload_n (pc' := 2) d_jdk_29_method_66_1 rfl rfl ?_
  refine Go.lcmp (pc' := 3) d_jdk_29_method_66_2 rfl ?_
  rw [show (lcmpW (257 : Int64) (512 : Int64)) = (-1 : Int32) from by decide]
  refine Go.ifY (pc' := 10) d_jdk_29_method_66_3 (by decide) (by decide) ((if0 _ _).trans (tlt (by decide : (-1 : Int32) < (0 : Int32))).1) ?_
  refine Go.lload_n (pc' := 11) d_jdk_29_method_66_10 rfl rfl ?_
  exact Go.retW d_jdk_29_method_66_11 rfl rfl (Or.inr (Or.inl ⟨rfl, rfl, _, rfl⟩)) (by decide) (by decide) [] sn0 ⟨rfl, rfl, rfl⟩
abbrev R_m_lmin : Room := { frames := 0, cells := 0, slots := 0, locals := 0 }
theorem pn_m_lmin : plainFor (⟨"java/lang/Math", "min", "(JJ)J"⟩ : MethodName) = true := by first | (refine plainFor_of_name ?_; simp [plainName, overriddenIn]; done) | decide +kernel
abbrev Q_m_lmin (Z : State)  (h0 : Heap) : Option Value → Heap → List Addr → Prop := fun res h' SN => res = some (.long (512 : Int64)) ∧ SN = [] ∧ h0 = h'
theorem ef_m_lmin (mid : MethodId)  : entryFrame mid #[(.long (2147483639 : Int64)), (.long (512 : Int64))] 4 = mkF mid 0 #[.val (.long (2147483639 : Int64)), .second, .val (.long (512 : Int64)), .second] [] := by first | (simp [entryFrame, mkF, argsToLocals, Value.category]; done) | rfl
set_option maxRecDepth 65536 in
set_option maxHeartbeats 40000000 in
theorem m_lmin {l : Launch} {Z : State} {a0 : Array Value} {n0 : Nat} (hw : ∀ d ∈ tables_1, d.before a0 Z = true) (hs : Stat Z) (h0 : Heap) :
    Met l Z EL0 n0 NR0 KN0 N_37 jdk_29_method_70_code 4 (Option.some Jvm.ClassFile.FieldType.long) R_m_lmin [] #[(.long (2147483639 : Int64)), (.long (512 : Int64))] h0 (Q_m_lmin Z  h0) := by
  refine Met.of_go pn_m_lmin (fun mid => ef_m_lmin mid  ) ?_
  intro hO hWS
  refine Go.lload_n (pc' := 1) d_jdk_29_method_70_0 rfl rfl ?_
  refine Go.lload_n (pc' := 2) d_jdk_29_method_70_1 rfl rfl ?_
  refine Go.lcmp (pc' := 3) d_jdk_29_method_70_2 rfl ?_
  rw [show (lcmpW (2147483639 : Int64) (512 : Int64)) = (1 : Int32) from by decide]
  refine Go.ifY (pc' := 10) d_jdk_29_method_70_3 (by decide) (by decide) ((if0 _ _).trans (tlt (by decide : (0 : Int32) < (1 : Int32))).2.2.1) ?_
  refine Go.lload_n (pc' := 11) d_jdk_29_method_70_10 rfl rfl ?_
  exact Go.retW d_jdk_29_method_70_11 rfl rfl (Or.inr (Or.inl ⟨rfl, rfl, _, rfl⟩)) (by decide) (by decide) [] sn0 ⟨rfl, rfl, rfl⟩
abbrev R_m_er1 : Room := { frames := 2, cells := 1, slots := 512, locals := 39 }
theorem pn_m_er1 : plainFor (⟨"com/example/beleg/beleg/JsonOutput", "ensureRoom", "(I)V"⟩ : MethodName) = true := by first | (refine plainFor_of_name ?_; simp [plainName, overriddenIn]; done) | decide +kernel
abbrev Q_m_er1 (Z : State) (o : Addr) (ch : Addr) (kc : ClassId) (cs : List Int32) (h0 : Heap) : Option Value → Heap → List Addr → Prop := fun res h' SN => ∃ (nb : Addr) (kb : ClassId), res = none ∧ SN = [nb] ∧ Exa Z h' o "com/example/beleg/beleg/JsonOutput" ∧ Fld Z h' o "com/example/beleg/beleg/JsonOutput" "chars" "[C" (.ref nb) ∧ Fld Z h' o "com/example/beleg/beleg/JsonOutput" "length" "I" (.int (256 : Int32)) ∧ h0.size ≤ nb ∧ Arv Z h' nb kb .char (512 : Int32) (cs.map Value.int) (.int (0 : Int32))
theorem ef_m_er1 (mid : MethodId) (o : Addr) (ch : Addr) (kc : ClassId) (cs : List Int32) : entryFrame mid #[(.ref o), (.int (1 : Int32))] 4 = mkF mid 0 #[.val (.ref o), .val (.int (1 : Int32)), .unset, .unset] [] := by first | (simp [entryFrame, mkF, argsToLocals, Value.category]; done) | rfl
set_option maxRecDepth 65536 in
set_option maxHeartbeats 40000000 in
theorem m_er1 {l : Launch} {Z : State} {a0 : Array Value} {n0 : Nat} (hw : ∀ d ∈ tables_1, d.before a0 Z = true) (hs : Stat Z) (o : Addr) (ch : Addr) (kc : ClassId) (cs : List Int32) (h0 : Heap) (E_o : Exa Z h0 o "com/example/beleg/beleg/JsonOutput") (F_o_chars : Fld Z h0 o "com/example/beleg/beleg/JsonOutput" "chars" "[C" (.ref ch)) (F_o_length : Fld Z h0 o "com/example/beleg/beleg/JsonOutput" "length" "I" (.int (256 : Int32))) (V_ch : Arv Z h0 ch kc .char (256 : Int32) (cs.map Value.int) (.int (0 : Int32))) (hl : cs.length = 256) (ne_ch_o : ch ≠ o) :
    Met l Z EL0 n0 NR0 KN0 N_33 prog_11_method_14_code 4 (Option.none : Option Jvm.ClassFile.FieldType) R_m_er1 [o] #[(.ref o), (.int (1 : Int32))] h0 (Q_m_er1 Z o ch kc cs h0) := by
  refine Met.of_go pn_m_er1 (fun mid => ef_m_er1 mid o ch kc cs ) ?_
  intro hO hWS
  refine Go.iload_n (pc' := 1) d_prog_11_method_14_0 rfl rfl ?_
  refine Go.aload_n (pc' := 2) d_prog_11_method_14_1 rfl rfl rfl ?_
  refine Go.getF (pc' := 5) d_prog_11_method_14_2 rfl (host := "") (Or.inl (w_41 hw)) Via.refl F_o_chars ?_
  refine Go.lenV (pc' := 6) d_prog_11_method_14_5 rfl V_ch ?_
  refine Go.aload_n (pc' := 7) d_prog_11_method_14_6 rfl rfl rfl ?_
  refine Go.getF (pc' := 10) d_prog_11_method_14_7 rfl (host := "") (Or.inl (w_49 hw)) Via.refl F_o_length ?_
  refine Go.isub (pc' := 11) d_prog_11_method_14_10 rfl ?_
  rw [show ((256 : Int32) - (256 : Int32)) = (0 : Int32) from by decide]
  refine Go.icmpN (pc' := 14) d_prog_11_method_14_11 rfl (tlt (by decide : (0 : Int32) < (1 : Int32))).2.2.2 ?_
  refine Go.aload_n (pc' := 15) d_prog_11_method_14_14 rfl rfl rfl ?_
  refine Go.getF (pc' := 18) d_prog_11_method_14_15 rfl (host := "") (Or.inl (w_49 hw)) Via.refl F_o_length ?_
  refine Go.i2l (pc' := 19) d_prog_11_method_14_18 rfl ?_
  refine Go.iload_n (pc' := 20) d_prog_11_method_14_19 rfl rfl ?_
  refine Go.i2l (pc' := 21) d_prog_11_method_14_20 rfl ?_
  refine Go.ladd (pc' := 22) d_prog_11_method_14_21 rfl ?_
  rw [show ((256 : Int32).toInt64 + (1 : Int32).toInt64) = (257 : Int64) from by decide]
  refine Go.lstore_n (pc' := 23) (Ls' := #[.val (.ref o), .val (.int (1 : Int32)), .val (.long (257 : Int64)), .second]) d_prog_11_method_14_22 rfl rfl ?_
  refine Go.lload_n (pc' := 24) d_prog_11_method_14_23 rfl rfl ?_
  refine Go.ldc2Long (pc' := 27) d_prog_11_method_14_24 rfl (w_136 hw) ?_
  refine Go.lcmp (pc' := 28) d_prog_11_method_14_27 rfl ?_
  rw [show (lcmpW (257 : Int64) (2147483639 : Int64)) = (-1 : Int32) from by decide]
  refine Go.ifY (pc' := 45) d_prog_11_method_14_28 (by decide) (by decide) ((if0 _ _).trans (flt (by decide : ¬ ((0 : Int32) < (-1 : Int32)))).2.2.2) ?_
  refine Go.aload_n (pc' := 46) d_prog_11_method_14_45 rfl rfl rfl ?_
  refine Go.aload_n (pc' := 47) d_prog_11_method_14_46 rfl rfl rfl ?_
  refine Go.getF (pc' := 50) d_prog_11_method_14_47 rfl (host := "") (Or.inl (w_41 hw)) Via.refl F_o_chars ?_
  refine Go.ldc2Long (pc' := 53) d_prog_11_method_14_50 rfl (w_136 hw) ?_
  refine Go.lload_n (pc' := 54) d_prog_11_method_14_53 rfl rfl ?_
  refine Go.ldc2Long (pc' := 57) d_prog_11_method_14_54 rfl (w_137 hw) ?_
  refine Go.aload_n (pc' := 58) d_prog_11_method_14_57 rfl rfl rfl ?_
  refine Go.getF (pc' := 61) d_prog_11_method_14_58 rfl (host := "") (Or.inl (w_41 hw)) Via.refl F_o_chars ?_
  refine Go.lenV (pc' := 62) d_prog_11_method_14_61 rfl V_ch ?_
  refine Go.i2l (pc' := 63) d_prog_11_method_14_62 rfl ?_
  refine Go.lmul (pc' := 64) d_prog_11_method_14_63 rfl ?_
  rw [show ((2 : Int64) * (256 : Int32).toInt64) = (512 : Int64) from by decide]
  refine Go.callS (pc' := 67) (z := N_36) d_prog_11_method_14_64 rfl (w_138 hw) (w_139 hw) (w_140 hw) (w_141 hw) (by decide) (argsL := [(.long (257 : Int64)), (.long (512 : Int64))]) (rest := [(.long (2147483639 : Int64)), (.ref ch), (.ref o)]) (Pays.of_met (W := 4) (len := 3) (m_lmax hw hs  h0) (w_141 hw) (w_140 hw) (by decide) (by decide)) rfl rfl (lenOf pd_24 rfl) rfl (Nat.le_of_eq rfl) mem0 (by decide) (by decide) ?_
  rintro _ _ _ - - ⟨rfl, rfl, rfl⟩
  change Go _ _ _ _ _ _ _ _ _ _ _ _ _ _ [o] h0 0 0 67 #[.val (.ref o), .val (.int (1 : Int32)), .val (.long (257 : Int64)), .second] [(.long (512 : Int64)), (.long (2147483639 : Int64)), (.ref ch), (.ref o)]
  refine Go.callS (pc' := 70) (z := N_37) d_prog_11_method_14_67 rfl (w_142 hw) (w_143 hw) (w_140 hw) (w_144 hw) (by decide) (argsL := [(.long (2147483639 : Int64)), (.long (512 : Int64))]) (rest := [(.ref ch), (.ref o)]) (Pays.of_met (W := 2) (len := 3) (m_lmin hw hs  h0) (w_144 hw) (w_140 hw) (by decide) (by decide)) rfl rfl (lenOf pd_24 rfl) rfl (Nat.le_of_eq rfl) mem0 (by decide) (by decide) ?_
  rintro _ _ _ - - ⟨rfl, rfl, rfl⟩
  change Go _ _ _ _ _ _ _ _ _ _ _ _ _ _ [o] h0 0 0 70 #[.val (.ref o), .val (.int (1 : Int32)), .val (.long (257 : Int64)), .second] [(.long (512 : Int64)), (.ref ch), (.ref o)]
  refine Go.l2i (pc' := 71) d_prog_11_method_14_70 rfl ?_
  rw [show (512 : Int64).toInt32 = (512 : Int32) from by decide]
  refine Go.callS (pc' := 74) (z := N_35) d_prog_11_method_14_71 rfl (w_145 hw) (w_146 hw) (w_147 hw) (w_148 hw) (by decide) (argsL := [(.ref ch), (.int (512 : Int32))]) (rest := [(.ref o)]) (Pays.of_met (W := 1) (len := 3) (m_cpc hw hs ch kc cs h0 V_ch (hl)) (w_148 hw) (w_147 hw) (by decide) (by decide)) rfl rfl (lenOf pd_25 rfl) rfl (Nat.le_of_eq rfl) mem0 (by decide) (by decide) ?_
  rintro _ h102 _ K103 le104 ⟨b100, q101, rfl, rfl, p105, p106⟩
  have o_o_b100 : o ≠ b100 := Nat.ne_of_lt (Nat.lt_of_lt_of_le E_o.lt p105)
  have o_ch_b100 : ch ≠ b100 := Nat.ne_of_lt (Nat.lt_of_lt_of_le V_ch.lt p105)
  have ge_b100 := Nat.le_trans le104 p105
  replace E_o := E_o.keep K103
  replace F_o_chars := F_o_chars.keep K103 nin0
  replace F_o_length := F_o_length.keep K103 nin0
  replace V_ch := V_ch.keep K103 nin0
  have V_b100 := p106
  change Go _ _ _ _ _ _ _ _ _ _ _ _ _ _ [b100, o] h102 1 512 74 #[.val (.ref o), .val (.int (1 : Int32)), .val (.long (257 : Int64)), .second] [(.ref b100), (.ref o)]
  refine Go.putF (pc' := 77) d_prog_11_method_14_74 rfl (List.mem_of_getElem? (i := 1) rfl) (host := "") (Or.inl (w_41 hw)) Via.refl F_o_chars E_o (Or.inl (w_42 hw)) (w_32 hw) (ty := (.array .char)) (by decide) rfl rfl ?_
  intro h107 W108
  replace F_o_chars := F_o_chars.same W108
  replace E_o := E_o.wr W108
  replace F_o_length := F_o_length.other W108 (Or.inr (slot_ne (Or.inl (w_50 hw)) (Or.inl (w_42 hw)) (by decide) (t := .int) (t' := (.array .char)) (by decide) (by decide)))
  replace V_ch := V_ch.other W108 ne_ch_o
  replace V_b100 := V_b100.other W108 (Ne.symm o_o_b100)
  change Go _ _ _ _ _ _ _ _ _ _ _ _ _ _ [b100, o] h107 1 512 77 #[.val (.ref o), .val (.int (1 : Int32)), .val (.long (257 : Int64)), .second] []
  exact Go.retV d_prog_11_method_14_77 rfl (by decide) (by decide) [b100] (snS ⟨(List.mem_of_getElem? (i := 0) rfl), ge_b100⟩ sn0) ⟨b100, _, rfl, rfl, E_o, F_o_chars, F_o_length, ge_b100, V_b100⟩
abbrev R_m_apc : Room := { frames := 1, cells := 0, slots := 0, locals := 15 }
theorem pn_m_apc : plainFor (⟨"com/example/beleg/beleg/JsonOutput", "append", "(C)Lcom/example/beleg/beleg/JsonOutput;"⟩ : MethodName) = true := by first | (refine plainFor_of_name ?_; simp [plainName, overriddenIn]; done) | decide +kernel
abbrev Q_m_apc (Z : State) (o : Addr) (ch : Addr) (kc : ClassId) (cs : List Int32) (d : Int32) (zc : Int32) (len : Int32) (h0 : Heap) : Option Value → Heap → List Addr → Prop := fun res h' SN => res = some (.ref o) ∧ SN = [] ∧ Exa Z h' o "com/example/beleg/beleg/JsonOutput" ∧ Fld Z h' o "com/example/beleg/beleg/JsonOutput" "chars" "[C" (.ref ch) ∧ Fld Z h' o "com/example/beleg/beleg/JsonOutput" "length" "I" (.int (len + (1 : Int32))) ∧ Arv Z h' ch kc .char zc ((cs ++ [d]).map Value.int) (.int (0 : Int32))
theorem ef_m_apc (mid : MethodId) (o : Addr) (ch : Addr) (kc : ClassId) (cs : List Int32) (d : Int32) (zc : Int32) (len : Int32) : entryFrame mid #[(.ref o), (.int d)] 2 = mkF mid 0 #[.val (.ref o), .val (.int d)] [] := by first | (simp [entryFrame, mkF, argsToLocals, Value.category]; done) | rfl
set_option maxRecDepth 65536 in
set_option maxHeartbeats 40000000 in
theorem m_apc {l : Launch} {Z : State} {a0 : Array Value} {n0 : Nat} (hw : ∀ d ∈ tables_1, d.before a0 Z = true) (hs : Stat Z) (o : Addr) (ch : Addr) (kc : ClassId) (cs : List Int32) (d : Int32) (zc : Int32) (len : Int32) (h0 : Heap) (E_o : Exa Z h0 o "com/example/beleg/beleg/JsonOutput") (F_o_chars : Fld Z h0 o "com/example/beleg/beleg/JsonOutput" "chars" "[C" (.ref ch)) (F_o_length : Fld Z h0 o "com/example/beleg/beleg/JsonOutput" "length" "I" (.int len)) (V_ch : Arv Z h0 ch kc .char zc (cs.map Value.int) (.int (0 : Int32))) (hl : len.toNatClampNeg = cs.length) (hl0 : ¬ len < 0) (hlt : len < zc) (hd : ¬ d < 0 ∧ ¬ 65535 < d) (ne_ch_o : ch ≠ o) :
    Met l Z EL0 n0 NR0 KN0 N_38 prog_11_method_5_code 2 (Option.some (Jvm.ClassFile.FieldType.object "com/example/beleg/beleg/JsonOutput")) R_m_apc [o, ch] #[(.ref o), (.int d)] h0 (Q_m_apc Z o ch kc cs d zc len h0) := by
  refine Met.of_go pn_m_apc (fun mid => ef_m_apc mid o ch kc cs d zc len ) ?_
  intro hO hWS
  have cn := arv_nn V_ch
  refine Go.aload_n (pc' := 1) d_prog_11_method_5_0 rfl rfl rfl ?_
  refine Go.iconst (pc' := 2) d_prog_11_method_5_1 rfl ic_1 ?_
  refine Go.callP (pc' := 5) (z := N_33) (a := o) d_prog_11_method_5_2 rfl (w_104 hw) (w_105 hw) (own_selP (z := N_33) (u := ({ cls := "com/example/beleg/beleg/JsonOutput", name := "toString", desc := "()Ljava/lang/String;" } : Jvm.MethodName)) (w_46 hw) rfl (by decide) (w_105 hw) (w_106 hw)) (w_106 hw) (w_107 hw) (by decide) E_o (argsL := [(.int (1 : Int32))]) (rest := []) (Pays.of_met (W := 0) (len := 3) (m_er0 hw hs o ch kc zc len cs (1 : Int32) h0 F_o_chars F_o_length V_ch (own_room1 hl0 cn hlt)) (w_107 hw) (w_33 hw) (by decide) (by decide)) rfl rfl (lenOf pd_26 rfl) rfl (Nat.le_of_eq rfl) mem0 (by decide) (by decide) ?_
  rintro _ _ _ - - ⟨rfl, rfl, rfl⟩
  change Go _ _ _ _ _ _ _ _ _ _ _ _ _ _ [o, ch] h0 0 0 5 #[.val (.ref o), .val (.int d)] []
  replace V_ch : Arv Z h0 ch kc .char zc ((cs ++ List.replicate (zc.toNatClampNeg - len.toNatClampNeg) (0 : Int32)).map Value.int) (.int (0 : Int32)) := V_ch.pad (fun i => (own_padr _ _ i).symm)
  have hid := own_idx hl0 hlt
  refine Go.aload_n (pc' := 6) d_prog_11_method_5_5 rfl rfl rfl ?_
  refine Go.getF (pc' := 9) d_prog_11_method_5_6 rfl (host := "") (Or.inl (w_41 hw)) Via.refl F_o_chars ?_
  refine Go.aload_n (pc' := 10) d_prog_11_method_5_9 rfl rfl rfl ?_
  refine Go.dup (pc' := 11) d_prog_11_method_5_10 rfl rfl ?_
  refine Go.getF (pc' := 14) d_prog_11_method_5_11 rfl (host := "") (Or.inl (w_49 hw)) Via.refl F_o_length ?_
  refine Go.dup_x1 (pc' := 15) d_prog_11_method_5_14 rfl rfl rfl ?_
  refine Go.iconst (pc' := 16) d_prog_11_method_5_15 rfl ic_1 ?_
  refine Go.iadd (pc' := 17) d_prog_11_method_5_16 rfl ?_
  refine Go.putF (pc' := 20) d_prog_11_method_5_17 rfl (List.mem_of_getElem? (i := 0) rfl) (host := "") (Or.inl (w_49 hw)) Via.refl F_o_length E_o (Or.inl (w_50 hw)) (w_32 hw) (ty := .int) (by decide) rfl rfl ?_
  intro h109 W110
  replace F_o_length := F_o_length.same W110
  replace E_o := E_o.wr W110
  replace F_o_chars := F_o_chars.other W110 (Or.inr (slot_ne (Or.inl (w_42 hw)) (Or.inl (w_50 hw)) (by decide) (t := (.array .char)) (t' := .int) (by decide) (by decide)))
  replace V_ch := V_ch.other W110 ne_ch_o
  change Go _ _ _ _ _ _ _ _ _ _ _ _ _ _ [o, ch] h109 0 0 20 #[.val (.ref o), .val (.int d)] [(.int len), (.ref ch)]
  refine Go.iload_n (pc' := 21) d_prog_11_method_5_20 rfl rfl ?_
  refine Go.castoreV (pc' := 22) (i := cs.length) d_prog_11_method_5_21 rfl (List.mem_of_getElem? (i := 1) rfl) V_ch ⟨hl0, hlt⟩ (hl) (by simp; omega) ?_
  rw [nar_char hd.1 hd.2]
  intro h111 W112 V_ch'
  replace E_o := E_o.wr W112
  replace F_o_chars := F_o_chars.other W112 (Or.inl (Ne.symm ne_ch_o))
  replace F_o_length := F_o_length.other W112 (Or.inl (Ne.symm ne_ch_o))
  change Go _ _ _ _ _ _ _ _ _ _ _ _ _ _ [o, ch] h111 0 0 22 #[.val (.ref o), .val (.int d)] []
  refine Go.aload_n (pc' := 23) d_prog_11_method_5_22 rfl rfl rfl ?_
  rw [own_set_map, own_push (m := (zc.toNatClampNeg - len.toNatClampNeg)) (by have := own_idx hl0 hlt; omega)] at V_ch'
  exact Go.retA d_prog_11_method_5_23 rfl rfl rfl (by decide) (by decide) [] sn0 ⟨rfl, rfl, E_o, F_o_chars, F_o_length, V_ch'.pad (fun i => own_padr _ _ i)⟩
abbrev R_m_apg : Room := { frames := 3, cells := 1, slots := 512, locals := 54 }
theorem pn_m_apg : plainFor (⟨"com/example/beleg/beleg/JsonOutput", "append", "(C)Lcom/example/beleg/beleg/JsonOutput;"⟩ : MethodName) = true := by first | (refine plainFor_of_name ?_; simp [plainName, overriddenIn]; done) | decide +kernel
abbrev Q_m_apg (Z : State) (o : Addr) (ch : Addr) (kc : ClassId) (cs : List Int32) (d : Int32) (h0 : Heap) : Option Value → Heap → List Addr → Prop := fun res h' SN => ∃ (nb : Addr) (kb : ClassId), res = some (.ref o) ∧ SN = [nb] ∧ Exa Z h' o "com/example/beleg/beleg/JsonOutput" ∧ Fld Z h' o "com/example/beleg/beleg/JsonOutput" "chars" "[C" (.ref nb) ∧ Fld Z h' o "com/example/beleg/beleg/JsonOutput" "length" "I" (.int (257 : Int32)) ∧ h0.size ≤ nb ∧ Arv Z h' nb kb .char (512 : Int32) ((cs ++ [d]).map Value.int) (.int (0 : Int32))
theorem ef_m_apg (mid : MethodId) (o : Addr) (ch : Addr) (kc : ClassId) (cs : List Int32) (d : Int32) : entryFrame mid #[(.ref o), (.int d)] 2 = mkF mid 0 #[.val (.ref o), .val (.int d)] [] := by first | (simp [entryFrame, mkF, argsToLocals, Value.category]; done) | rfl
set_option maxRecDepth 65536 in
set_option maxHeartbeats 40000000 in
theorem m_apg {l : Launch} {Z : State} {a0 : Array Value} {n0 : Nat} (hw : ∀ d ∈ tables_1, d.before a0 Z = true) (hs : Stat Z) (o : Addr) (ch : Addr) (kc : ClassId) (cs : List Int32) (d : Int32) (h0 : Heap) (E_o : Exa Z h0 o "com/example/beleg/beleg/JsonOutput") (F_o_chars : Fld Z h0 o "com/example/beleg/beleg/JsonOutput" "chars" "[C" (.ref ch)) (F_o_length : Fld Z h0 o "com/example/beleg/beleg/JsonOutput" "length" "I" (.int (256 : Int32))) (V_ch : Arv Z h0 ch kc .char (256 : Int32) (cs.map Value.int) (.int (0 : Int32))) (hl : cs.length = 256) (hd : ¬ d < 0 ∧ ¬ 65535 < d) (ne_ch_o : ch ≠ o) :
    Met l Z EL0 n0 NR0 KN0 N_38 prog_11_method_5_code 2 (Option.some (Jvm.ClassFile.FieldType.object "com/example/beleg/beleg/JsonOutput")) R_m_apg [o] #[(.ref o), (.int d)] h0 (Q_m_apg Z o ch kc cs d h0) := by
  refine Met.of_go pn_m_apg (fun mid => ef_m_apg mid o ch kc cs d ) ?_
  intro hO hWS
  have cn := arv_nn V_ch
  refine Go.aload_n (pc' := 1) d_prog_11_method_5_0 rfl rfl rfl ?_
  refine Go.iconst (pc' := 2) d_prog_11_method_5_1 rfl ic_1 ?_
  refine Go.callP (pc' := 5) (z := N_33) (a := o) d_prog_11_method_5_2 rfl (w_104 hw) (w_105 hw) (own_selP (z := N_33) (u := ({ cls := "com/example/beleg/beleg/JsonOutput", name := "toString", desc := "()Ljava/lang/String;" } : Jvm.MethodName)) (w_46 hw) rfl (by decide) (w_105 hw) (w_106 hw)) (w_106 hw) (w_107 hw) (by decide) E_o (argsL := [(.int (1 : Int32))]) (rest := []) (Pays.of_met (W := 0) (len := 3) (m_er1 hw hs o ch kc cs h0 E_o F_o_chars F_o_length V_ch (hl) ne_ch_o) (w_107 hw) (w_33 hw) (by decide) (by decide)) rfl rfl (lenOf pd_26 rfl) rfl (Nat.le_of_eq rfl) (memS (List.mem_of_getElem? (i := 0) rfl) mem0) (by decide) (by decide) ?_
  rintro _ h115 _ K116 le117 ⟨b113, q114, rfl, rfl, p118, p119, p120, p121, p122⟩
  have o_o_b113 : o ≠ b113 := Nat.ne_of_lt (Nat.lt_of_lt_of_le E_o.lt p121)
  have o_ch_b113 : ch ≠ b113 := Nat.ne_of_lt (Nat.lt_of_lt_of_le V_ch.lt p121)
  have ge_b113 := Nat.le_trans le117 p121
  replace E_o := E_o.keep K116
  replace V_ch := V_ch.keep K116 (ninS ne_ch_o nin0)
  have F_o_chars := p119
  have F_o_length := p120
  have V_b113 := p122
  change Go _ _ _ _ _ _ _ _ _ _ _ _ _ _ [b113, o] h115 1 512 5 #[.val (.ref o), .val (.int d)] []
  replace V_b113 : Arv Z h115 b113 q114 .char (512 : Int32) ((cs ++ List.replicate ((512 : Int32).toNatClampNeg - (256 : Int32).toNatClampNeg) (0 : Int32)).map Value.int) (.int (0 : Int32)) := V_b113.pad (fun i => (own_padr _ _ i).symm)
  refine Go.aload_n (pc' := 6) d_prog_11_method_5_5 rfl rfl rfl ?_
  refine Go.getF (pc' := 9) d_prog_11_method_5_6 rfl (host := "") (Or.inl (w_41 hw)) Via.refl F_o_chars ?_
  refine Go.aload_n (pc' := 10) d_prog_11_method_5_9 rfl rfl rfl ?_
  refine Go.dup (pc' := 11) d_prog_11_method_5_10 rfl rfl ?_
  refine Go.getF (pc' := 14) d_prog_11_method_5_11 rfl (host := "") (Or.inl (w_49 hw)) Via.refl F_o_length ?_
  refine Go.dup_x1 (pc' := 15) d_prog_11_method_5_14 rfl rfl rfl ?_
  refine Go.iconst (pc' := 16) d_prog_11_method_5_15 rfl ic_1 ?_
  refine Go.iadd (pc' := 17) d_prog_11_method_5_16 rfl ?_
  rw [show ((256 : Int32) + (1 : Int32)) = (257 : Int32) from by decide]
  refine Go.putF (pc' := 20) d_prog_11_method_5_17 rfl (List.mem_of_getElem? (i := 1) rfl) (host := "") (Or.inl (w_49 hw)) Via.refl F_o_length E_o (Or.inl (w_50 hw)) (w_32 hw) (ty := .int) (by decide) rfl rfl ?_
  intro h123 W124
  replace F_o_length := F_o_length.same W124
  replace E_o := E_o.wr W124
  replace V_ch := V_ch.other W124 ne_ch_o
  replace F_o_chars := F_o_chars.other W124 (Or.inr (slot_ne (Or.inl (w_42 hw)) (Or.inl (w_50 hw)) (by decide) (t := (.array .char)) (t' := .int) (by decide) (by decide)))
  replace V_b113 := V_b113.other W124 (Ne.symm o_o_b113)
  change Go _ _ _ _ _ _ _ _ _ _ _ _ _ _ [b113, o] h123 1 512 20 #[.val (.ref o), .val (.int d)] [(.int (256 : Int32)), (.ref b113)]
  refine Go.iload_n (pc' := 21) d_prog_11_method_5_20 rfl rfl ?_
  refine Go.castoreV (pc' := 22) (i := cs.length) d_prog_11_method_5_21 rfl (List.mem_of_getElem? (i := 0) rfl) V_b113 ⟨(by decide), (by decide)⟩ (by rw [hl]; decide) (by simp) ?_
  rw [nar_char hd.1 hd.2]
  intro h125 W126 V_b113'
  replace E_o := E_o.wr W126
  replace V_ch := V_ch.other W126 o_ch_b113
  replace F_o_chars := F_o_chars.other W126 (Or.inl o_o_b113)
  replace F_o_length := F_o_length.other W126 (Or.inl o_o_b113)
  change Go _ _ _ _ _ _ _ _ _ _ _ _ _ _ [b113, o] h125 1 512 22 #[.val (.ref o), .val (.int d)] []
  refine Go.aload_n (pc' := 23) d_prog_11_method_5_22 rfl rfl rfl ?_
  rw [own_set_map, own_push (m := ((512 : Int32).toNatClampNeg - (256 : Int32).toNatClampNeg)) (by decide)] at V_b113'
  exact Go.retA d_prog_11_method_5_23 rfl rfl rfl (by decide) (by decide) [b113] (snS ⟨(List.mem_of_getElem? (i := 0) rfl), ge_b113⟩ sn0) ⟨b113, _, rfl, rfl, E_o, F_o_chars, F_o_length, ge_b113, V_b113'.pad (fun i => own_padr _ _ i)⟩
abbrev R_m_aps0 : Room := { frames := 3, cells := 0, slots := 0, locals := 49 }
theorem pn_m_aps0 : plainFor (⟨"com/example/beleg/beleg/JsonOutput", "append", "(Ljava/lang/String;II)Lcom/example/beleg/beleg/JsonOutput;"⟩ : MethodName) = true := by first | (refine plainFor_of_name ?_; simp [plainName, overriddenIn]; done) | decide +kernel
abbrev Q_m_aps0 (Z : State) (o : Addr) (ch : Addr) (kc : ClassId) (a : Addr) (t : Addr) (kt : ClassId) (cs : List Int32) (z : Int32) (n : Int32) (h0 : Heap) : Option Value → Heap → List Addr → Prop := fun res h' SN => res = some (.ref o) ∧ SN = [] ∧ Exa Z h' o "com/example/beleg/beleg/JsonOutput" ∧ Fld Z h' o "com/example/beleg/beleg/JsonOutput" "chars" "[C" (.ref ch) ∧ Fld Z h' o "com/example/beleg/beleg/JsonOutput" "length" "I" (.int n) ∧ Arv Z h' ch kc .char (256 : Int32) ((cs.take n.toNatClampNeg).map Value.int) (.int (0 : Int32))
theorem ef_m_aps0 (mid : MethodId) (o : Addr) (ch : Addr) (kc : ClassId) (a : Addr) (t : Addr) (kt : ClassId) (cs : List Int32) (z : Int32) (n : Int32) : entryFrame mid #[(.ref o), (.ref a), (.int (0 : Int32)), (.int n)] 4 = mkF mid 0 #[.val (.ref o), .val (.ref a), .val (.int (0 : Int32)), .val (.int n)] [] := by first | (simp [entryFrame, mkF, argsToLocals, Value.category]; done) | rfl
set_option maxRecDepth 65536 in
set_option maxHeartbeats 40000000 in
theorem m_aps0 {l : Launch} {Z : State} {a0 : Array Value} {n0 : Nat} (hw : ∀ d ∈ tables_1, d.before a0 Z = true) (hs : Stat Z) (o : Addr) (ch : Addr) (kc : ClassId) (a : Addr) (t : Addr) (kt : ClassId) (cs : List Int32) (z : Int32) (n : Int32) (h0 : Heap) (E_o : Exa Z h0 o "com/example/beleg/beleg/JsonOutput") (F_o_chars : Fld Z h0 o "com/example/beleg/beleg/JsonOutput" "chars" "[C" (.ref ch)) (F_o_length : Fld Z h0 o "com/example/beleg/beleg/JsonOutput" "length" "I" (.int (0 : Int32))) (V_ch : Arv Z h0 ch kc .char (256 : Int32) (([] : List Int32).map Value.int) (.int (0 : Int32))) (E_a : Exa Z h0 a "java/lang/String") (F_a_coder : Fld Z h0 a "java/lang/String" "coder" "B" (.int (0 : Int32))) (F_a_value : Fld Z h0 a "java/lang/String" "value" "[B" (.ref t)) (V_t : Arv Z h0 t kt .byte z (cs.map lowV) (.int (0 : Int32))) (hz : z.toNatClampNeg = cs.length) (hn0 : ¬ n < 0) (hnz : n.toNatClampNeg ≤ cs.length) (hn2 : n.toNatClampNeg ≤ 256) (hz0 : ¬ z < 0) (hl1 : z.toNatClampNeg < 1073741824) (h255 : ∀ x ∈ cs, ¬ x < 0 ∧ ¬ 255 < x) (ne_t_ch : t ≠ ch) (ne_ch_o : ch ≠ o) :
    Met l Z EL0 n0 NR0 KN0 N_39 prog_11_method_7_code 4 (Option.some (Jvm.ClassFile.FieldType.object "com/example/beleg/beleg/JsonOutput")) R_m_aps0 [o, ch] #[(.ref o), (.ref a), (.int (0 : Int32)), (.int n)] h0 (Q_m_aps0 Z o ch kc a t kt cs z n h0) := by
  refine Met.of_go pn_m_aps0 (fun mid => ef_m_aps0 mid o ch kc a t kt cs z n ) ?_
  intro hO hWS
  refine Go.aload_n (pc' := 1) d_prog_11_method_7_0 rfl rfl rfl ?_
  refine Go.iload_n (pc' := 2) d_prog_11_method_7_1 rfl rfl ?_
  refine Go.iload_n (pc' := 3) d_prog_11_method_7_2 rfl rfl ?_
  refine Go.isub (pc' := 4) d_prog_11_method_7_3 rfl ?_
  rw [own_sub0]
  refine Go.callP (pc' := 7) (z := N_33) (a := o) d_prog_11_method_7_4 rfl (w_104 hw) (w_105 hw) (own_selP (z := N_33) (u := ({ cls := "com/example/beleg/beleg/JsonOutput", name := "toString", desc := "()Ljava/lang/String;" } : Jvm.MethodName)) (w_46 hw) rfl (by decide) (w_105 hw) (w_106 hw)) (w_106 hw) (w_107 hw) (by decide) E_o (argsL := [(.int n)]) (rest := []) (Pays.of_met (W := 0) (len := 3) (m_er0 hw hs o ch kc (256 : Int32) (0 : Int32) ([] : List Int32) n h0 F_o_chars F_o_length V_ch (own_gec (by decide) hn0 (by have e : ((256 : Int32) - (0 : Int32)).toNatClampNeg = 256 := (by decide); omega))) (w_107 hw) (w_33 hw) (by decide) (by decide)) rfl rfl (lenOf pd_26 rfl) rfl (Nat.le_of_eq rfl) mem0 (by decide) (by decide) ?_
  rintro _ _ _ - - ⟨rfl, rfl, rfl⟩
  change Go _ _ _ _ _ _ _ _ _ _ _ _ _ _ [o, ch] h0 0 0 7 #[.val (.ref o), .val (.ref a), .val (.int (0 : Int32)), .val (.int n)] []
  refine Go.aload_n (pc' := 8) d_prog_11_method_7_7 rfl rfl rfl ?_
  refine Go.iload_n (pc' := 9) d_prog_11_method_7_8 rfl rfl ?_
  refine Go.iload_n (pc' := 10) d_prog_11_method_7_9 rfl rfl ?_
  refine Go.aload_n (pc' := 11) d_prog_11_method_7_10 rfl rfl rfl ?_
  refine Go.getF (pc' := 14) d_prog_11_method_7_11 rfl (host := "") (Or.inl (w_41 hw)) Via.refl F_o_chars ?_
  refine Go.aload_n (pc' := 15) d_prog_11_method_7_14 rfl rfl rfl ?_
  refine Go.getF (pc' := 18) d_prog_11_method_7_15 rfl (host := "") (Or.inl (w_49 hw)) Via.refl F_o_length ?_
  refine Go.callV (pc' := 21) (u := N_30) (z := N_30) (a := a) d_prog_11_method_7_18 rfl (w_108 hw) (w_109 hw) (nf (w_111 hw) rfl) (w_111 hw) (w_110 hw) (by decide) E_a (argsL := [(.int (0 : Int32)), (.int n), (.ref ch), (.int (0 : Int32))]) (rest := []) (Pays.of_met (W := 0) (len := 3) (m_sgc0 hw hs a t ch kt kc cs z (256 : Int32) n h0 E_a F_a_coder F_a_value V_t V_ch (hz) (hn0) (hnz) (hn2) (hz0) (hl1) (h255) ne_t_ch) (w_112 hw) (w_4 hw) (by decide) (by decide)) rfl rfl (lenOf pd_27 rfl) rfl (Nat.le_of_eq rfl) (memS (List.mem_of_getElem? (i := 1) rfl) mem0) (by decide) (by decide) ?_
  rintro _ h127 _ K128 le129 ⟨rfl, rfl, p130⟩
  replace E_o := E_o.keep K128
  replace F_o_chars := F_o_chars.keep K128 (ninS (Ne.symm ne_ch_o) nin0)
  replace F_o_length := F_o_length.keep K128 (ninS (Ne.symm ne_ch_o) nin0)
  replace E_a := E_a.keep K128
  replace V_t := V_t.keep K128 (ninS ne_t_ch nin0)
  have V_ch := p130
  change Go _ _ _ _ _ _ _ _ _ _ _ _ _ _ [o, ch] h127 0 0 21 #[.val (.ref o), .val (.ref a), .val (.int (0 : Int32)), .val (.int n)] []
  refine Go.aload_n (pc' := 22) d_prog_11_method_7_21 rfl rfl rfl ?_
  refine Go.dup (pc' := 23) d_prog_11_method_7_22 rfl rfl ?_
  refine Go.getF (pc' := 26) d_prog_11_method_7_23 rfl (host := "") (Or.inl (w_49 hw)) Via.refl F_o_length ?_
  refine Go.iload_n (pc' := 27) d_prog_11_method_7_26 rfl rfl ?_
  refine Go.iload_n (pc' := 28) d_prog_11_method_7_27 rfl rfl ?_
  refine Go.isub (pc' := 29) d_prog_11_method_7_28 rfl ?_
  refine Go.iadd (pc' := 30) d_prog_11_method_7_29 rfl ?_
  rw [own_0add]
  refine Go.putF (pc' := 33) d_prog_11_method_7_30 rfl (List.mem_of_getElem? (i := 0) rfl) (host := "") (Or.inl (w_49 hw)) Via.refl F_o_length E_o (Or.inl (w_50 hw)) (w_32 hw) (ty := .int) (by decide) rfl rfl ?_
  intro h131 W132
  replace F_o_length := F_o_length.same W132
  replace E_o := E_o.wr W132
  replace F_o_chars := F_o_chars.other W132 (Or.inr (slot_ne (Or.inl (w_42 hw)) (Or.inl (w_50 hw)) (by decide) (t := (.array .char)) (t' := .int) (by decide) (by decide)))
  replace E_a := E_a.wr W132
  replace V_ch := V_ch.other W132 ne_ch_o
  change Go _ _ _ _ _ _ _ _ _ _ _ _ _ _ [o, ch] h131 0 0 33 #[.val (.ref o), .val (.ref a), .val (.int (0 : Int32)), .val (.int n)] []
  refine Go.aload_n (pc' := 34) d_prog_11_method_7_33 rfl rfl rfl ?_
  exact Go.retA d_prog_11_method_7_34 rfl rfl rfl (by decide) (by decide) [] sn0 ⟨rfl, rfl, E_o, F_o_chars, F_o_length, V_ch⟩
abbrev R_m_aps1 : Room := { frames := 6, cells := 0, slots := 0, locals := 133 }
theorem pn_m_aps1 : plainFor (⟨"com/example/beleg/beleg/JsonOutput", "append", "(Ljava/lang/String;II)Lcom/example/beleg/beleg/JsonOutput;"⟩ : MethodName) = true := by first | (refine plainFor_of_name ?_; simp [plainName, overriddenIn]; done) | decide +kernel
abbrev Q_m_aps1 (Z : State) (o : Addr) (ch : Addr) (kc : ClassId) (a : Addr) (t : Addr) (kt : ClassId) (bs : List Int32) (cs : List Int32) (z : Int32) (n : Int32) (h0 : Heap) : Option Value → Heap → List Addr → Prop := fun res h' SN => res = some (.ref o) ∧ SN = [] ∧ Exa Z h' o "com/example/beleg/beleg/JsonOutput" ∧ Fld Z h' o "com/example/beleg/beleg/JsonOutput" "chars" "[C" (.ref ch) ∧ Fld Z h' o "com/example/beleg/beleg/JsonOutput" "length" "I" (.int n) ∧ Arv Z h' ch kc .char (256 : Int32) ((cs.take n.toNatClampNeg).map Value.int) (.int (0 : Int32))
theorem ef_m_aps1 (mid : MethodId) (o : Addr) (ch : Addr) (kc : ClassId) (a : Addr) (t : Addr) (kt : ClassId) (bs : List Int32) (cs : List Int32) (z : Int32) (n : Int32) : entryFrame mid #[(.ref o), (.ref a), (.int (0 : Int32)), (.int n)] 4 = mkF mid 0 #[.val (.ref o), .val (.ref a), .val (.int (0 : Int32)), .val (.int n)] [] := by first | (simp [entryFrame, mkF, argsToLocals, Value.category]; done) | rfl
set_option maxRecDepth 65536 in
set_option maxHeartbeats 40000000 in
theorem m_aps1 {l : Launch} {Z : State} {a0 : Array Value} {n0 : Nat} (hw : ∀ d ∈ tables_1, d.before a0 Z = true) (hs : Stat Z) (o : Addr) (ch : Addr) (kc : ClassId) (a : Addr) (t : Addr) (kt : ClassId) (bs : List Int32) (cs : List Int32) (z : Int32) (n : Int32) (h0 : Heap) (E_o : Exa Z h0 o "com/example/beleg/beleg/JsonOutput") (F_o_chars : Fld Z h0 o "com/example/beleg/beleg/JsonOutput" "chars" "[C" (.ref ch)) (F_o_length : Fld Z h0 o "com/example/beleg/beleg/JsonOutput" "length" "I" (.int (0 : Int32))) (V_ch : Arv Z h0 ch kc .char (256 : Int32) (([] : List Int32).map Value.int) (.int (0 : Int32))) (E_a : Exa Z h0 a "java/lang/String") (F_a_coder : Fld Z h0 a "java/lang/String" "coder" "B" (.int (1 : Int32))) (F_a_value : Fld Z h0 a "java/lang/String" "value" "[B" (.ref t)) (V_t : Arv Z h0 t kt .byte (z <<< ((1 : Int32) &&& 31)) (bs.map Value.int) (.int (0 : Int32))) (hz : z.toNatClampNeg = cs.length) (hn0 : ¬ n < 0) (hnz : n.toNatClampNeg ≤ cs.length) (hn2 : n.toNatClampNeg ≤ 256) (hz0 : ¬ z < 0) (hl1 : z.toNatClampNeg < 1073741824) (hE : Enc bs cs cs.length) (h16 : ∀ x ∈ cs, ¬ x < 0 ∧ ¬ 65535 < x) (ne_t_ch : t ≠ ch) (ne_ch_o : ch ≠ o) :
    Met l Z EL0 n0 NR0 KN0 N_39 prog_11_method_7_code 4 (Option.some (Jvm.ClassFile.FieldType.object "com/example/beleg/beleg/JsonOutput")) R_m_aps1 [o, ch] #[(.ref o), (.ref a), (.int (0 : Int32)), (.int n)] h0 (Q_m_aps1 Z o ch kc a t kt bs cs z n h0) := by
  refine Met.of_go pn_m_aps1 (fun mid => ef_m_aps1 mid o ch kc a t kt bs cs z n ) ?_
  intro hO hWS
  refine Go.aload_n (pc' := 1) d_prog_11_method_7_0 rfl rfl rfl ?_
  refine Go.iload_n (pc' := 2) d_prog_11_method_7_1 rfl rfl ?_
  refine Go.iload_n (pc' := 3) d_prog_11_method_7_2 rfl rfl ?_
  refine Go.isub (pc' := 4) d_prog_11_method_7_3 rfl ?_
  rw [own_sub0]
  refine Go.callP (pc' := 7) (z := N_33) (a := o) d_prog_11_method_7_4 rfl (w_104 hw) (w_105 hw) (own_selP (z := N_33) (u := ({ cls := "com/example/beleg/beleg/JsonOutput", name := "toString", desc := "()Ljava/lang/String;" } : Jvm.MethodName)) (w_46 hw) rfl (by decide) (w_105 hw) (w_106 hw)) (w_106 hw) (w_107 hw) (by decide) E_o (argsL := [(.int n)]) (rest := []) (Pays.of_met (W := 0) (len := 3) (m_er0 hw hs o ch kc (256 : Int32) (0 : Int32) ([] : List Int32) n h0 F_o_chars F_o_length V_ch (own_gec (by decide) hn0 (by have e : ((256 : Int32) - (0 : Int32)).toNatClampNeg = 256 := (by decide); omega))) (w_107 hw) (w_33 hw) (by decide) (by decide)) rfl rfl (lenOf pd_26 rfl) rfl (Nat.le_of_eq rfl) mem0 (by decide) (by decide) ?_
  rintro _ _ _ - - ⟨rfl, rfl, rfl⟩
  change Go _ _ _ _ _ _ _ _ _ _ _ _ _ _ [o, ch] h0 0 0 7 #[.val (.ref o), .val (.ref a), .val (.int (0 : Int32)), .val (.int n)] []
  refine Go.aload_n (pc' := 8) d_prog_11_method_7_7 rfl rfl rfl ?_
  refine Go.iload_n (pc' := 9) d_prog_11_method_7_8 rfl rfl ?_
  refine Go.iload_n (pc' := 10) d_prog_11_method_7_9 rfl rfl ?_
  refine Go.aload_n (pc' := 11) d_prog_11_method_7_10 rfl rfl rfl ?_
  refine Go.getF (pc' := 14) d_prog_11_method_7_11 rfl (host := "") (Or.inl (w_41 hw)) Via.refl F_o_chars ?_
  refine Go.aload_n (pc' := 15) d_prog_11_method_7_14 rfl rfl rfl ?_
  refine Go.getF (pc' := 18) d_prog_11_method_7_15 rfl (host := "") (Or.inl (w_49 hw)) Via.refl F_o_length ?_
  refine Go.callV (pc' := 21) (u := N_30) (z := N_30) (a := a) d_prog_11_method_7_18 rfl (w_108 hw) (w_109 hw) (nf (w_111 hw) rfl) (w_111 hw) (w_110 hw) (by decide) E_a (argsL := [(.int (0 : Int32)), (.int n), (.ref ch), (.int (0 : Int32))]) (rest := []) (Pays.of_met (W := 0) (len := 3) (m_sgc1 hw hs a t ch kt kc bs cs z (256 : Int32) n h0 E_a F_a_coder F_a_value V_t V_ch (hz) (hn0) (hnz) (hn2) (hz0) (hl1) (hE) (h16) ne_t_ch) (w_112 hw) (w_4 hw) (by decide) (by decide)) rfl rfl (lenOf pd_27 rfl) rfl (Nat.le_of_eq rfl) (memS (List.mem_of_getElem? (i := 1) rfl) mem0) (by decide) (by decide) ?_
  rintro _ h133 _ K134 le135 ⟨rfl, rfl, p136⟩
  replace E_o := E_o.keep K134
  replace F_o_chars := F_o_chars.keep K134 (ninS (Ne.symm ne_ch_o) nin0)
  replace F_o_length := F_o_length.keep K134 (ninS (Ne.symm ne_ch_o) nin0)
  replace E_a := E_a.keep K134
  replace V_t := V_t.keep K134 (ninS ne_t_ch nin0)
  have V_ch := p136
  change Go _ _ _ _ _ _ _ _ _ _ _ _ _ _ [o, ch] h133 0 0 21 #[.val (.ref o), .val (.ref a), .val (.int (0 : Int32)), .val (.int n)] []
  refine Go.aload_n (pc' := 22) d_prog_11_method_7_21 rfl rfl rfl ?_
  refine Go.dup (pc' := 23) d_prog_11_method_7_22 rfl rfl ?_
  refine Go.getF (pc' := 26) d_prog_11_method_7_23 rfl (host := "") (Or.inl (w_49 hw)) Via.refl F_o_length ?_
  refine Go.iload_n (pc' := 27) d_prog_11_method_7_26 rfl rfl ?_
  refine Go.iload_n (pc' := 28) d_prog_11_method_7_27 rfl rfl ?_
  refine Go.isub (pc' := 29) d_prog_11_method_7_28 rfl ?_
  refine Go.iadd (pc' := 30) d_prog_11_method_7_29 rfl ?_
  rw [own_0add]
  refine Go.putF (pc' := 33) d_prog_11_method_7_30 rfl (List.mem_of_getElem? (i := 0) rfl) (host := "") (Or.inl (w_49 hw)) Via.refl F_o_length E_o (Or.inl (w_50 hw)) (w_32 hw) (ty := .int) (by decide) rfl rfl ?_
  intro h137 W138
  replace F_o_length := F_o_length.same W138
  replace E_o := E_o.wr W138
  replace F_o_chars := F_o_chars.other W138 (Or.inr (slot_ne (Or.inl (w_42 hw)) (Or.inl (w_50 hw)) (by decide) (t := (.array .char)) (t' := .int) (by decide) (by decide)))
  replace E_a := E_a.wr W138
  replace V_ch := V_ch.other W138 ne_ch_o
  change Go _ _ _ _ _ _ _ _ _ _ _ _ _ _ [o, ch] h137 0 0 33 #[.val (.ref o), .val (.ref a), .val (.int (0 : Int32)), .val (.int n)] []
  refine Go.aload_n (pc' := 34) d_prog_11_method_7_33 rfl rfl rfl ?_
  exact Go.retA d_prog_11_method_7_34 rfl rfl rfl (by decide) (by decide) [] sn0 ⟨rfl, rfl, E_o, F_o_chars, F_o_length, V_ch⟩
abbrev R_m_jlen : Room := { frames := 0, cells := 0, slots := 0, locals := 0 }
theorem pn_m_jlen : plainFor (⟨"com/example/beleg/beleg/JsonOutput", "length", "()I"⟩ : MethodName) = true := by first | (refine plainFor_of_name ?_; simp [plainName, overriddenIn]; done) | decide +kernel
abbrev Q_m_jlen (Z : State) (o : Addr) (len : Int32) (h0 : Heap) : Option Value → Heap → List Addr → Prop := fun res h' SN => res = some (.int len) ∧ SN = [] ∧ h0 = h'
theorem ef_m_jlen (mid : MethodId) (o : Addr) (len : Int32) : entryFrame mid #[(.ref o)] 1 = mkF mid 0 #[.val (.ref o)] [] := by first | (simp [entryFrame, mkF, argsToLocals, Value.category]; done) | rfl
set_option maxRecDepth 65536 in
set_option maxHeartbeats 40000000 in
theorem m_jlen {l : Launch} {Z : State} {a0 : Array Value} {n0 : Nat} (hw : ∀ d ∈ tables_1, d.before a0 Z = true) (hs : Stat Z) (o : Addr) (len : Int32) (h0 : Heap) (F_o_length : Fld Z h0 o "com/example/beleg/beleg/JsonOutput" "length" "I" (.int len)) :
    Met l Z EL0 n0 NR0 KN0 N_40 prog_11_method_9_code 1 (Option.some Jvm.ClassFile.FieldType.int) R_m_jlen [] #[(.ref o)] h0 (Q_m_jlen Z o len h0) := by
  refine Met.of_go pn_m_jlen (fun mid => ef_m_jlen mid o len ) ?_
  intro hO hWS
  refine Go.aload_n (pc' := 1) d_prog_11_method_9_0 rfl rfl rfl ?_
  refine Go.getF (pc' := 4) d_prog_11_method_9_1 rfl (host := "") (Or.inl (w_49 hw)) Via.refl F_o_length ?_
  exact Go.retI d_prog_11_method_9_4 rfl (by decide) (by decide) [] sn0 ⟨rfl, rfl, rfl⟩
abbrev R_m_jstr : Room := { frames := 6, cells := 3, slots := 778, locals := 106 }
theorem pn_m_jstr : plainFor (⟨"com/example/beleg/beleg/JsonOutput", "toString", "()Ljava/lang/String;"⟩ : MethodName) = true := by first | (refine plainFor_of_name ?_; simp [plainName, overriddenIn]; done) | decide +kernel
abbrev Q_m_jstr (Z : State) (o : Addr) (c : Addr) (kc : ClassId) (cs : List Int32) (zc : Int32) (z : Int32) (h0 : Heap) : Option Value → Heap → List Addr → Prop := fun res h' SN => ∃ (a : Addr) (t : Addr) (kt : ClassId), res = some (.ref a) ∧ SN = [] ∧ Exa Z h' a "java/lang/String" ∧ h0.size ≤ a ∧ h0.size ≤ t ∧ (LatS Z h' a t kt z cs ∨ U16S Z h' a t kt z cs)
theorem ef_m_jstr (mid : MethodId) (o : Addr) (c : Addr) (kc : ClassId) (cs : List Int32) (zc : Int32) (z : Int32) : entryFrame mid #[(.ref o)] 1 = mkF mid 0 #[.val (.ref o)] [] := by first | (simp [entryFrame, mkF, argsToLocals, Value.category]; done) | rfl
set_option maxRecDepth 65536 in
set_option maxHeartbeats 40000000 in
theorem m_jstr {l : Launch} {Z : State} {a0 : Array Value} {n0 : Nat} (hw : ∀ d ∈ tables_1, d.before a0 Z = true) (hs : Stat Z) (o : Addr) (c : Addr) (kc : ClassId) (cs : List Int32) (zc : Int32) (z : Int32) (h0 : Heap) (E_o : Exa Z h0 o "com/example/beleg/beleg/JsonOutput") (F_o_chars : Fld Z h0 o "com/example/beleg/beleg/JsonOutput" "chars" "[C" (.ref c)) (F_o_length : Fld Z h0 o "com/example/beleg/beleg/JsonOutput" "length" "I" (.int z)) (V_c : Arv Z h0 c kc .char zc (cs.map Value.int) (.int (0 : Int32))) (hz : z.toNatClampNeg = cs.length) (hz0 : ¬ z < 0) (hle : ¬ zc < z) (hbig : z.toNatClampNeg ≤ CAP) (h16 : ∀ x ∈ cs, ¬ x < 0 ∧ ¬ 65535 < x) (hzn : ¬ z = 0) :
    Met l Z EL0 n0 NR0 KN0 N_41 prog_11_method_13_code 1 (Option.some (Jvm.ClassFile.FieldType.object "java/lang/String")) R_m_jstr [] #[(.ref o)] h0 (Q_m_jstr Z o c kc cs zc z h0) := by
  refine Met.of_go pn_m_jstr (fun mid => ef_m_jstr mid o c kc cs zc z ) ?_
  intro hO hWS
  refine Go.newO (pc' := 3) d_prog_11_method_13_0 rfl (w_48 hw) (w_3 hw) (w_4 hw) (by decide) (by decide) ?_
  intro h139 b140 g141 ge_b140 x142 E_b140 D_b140 U_b140
  have o_o_b140 : o ≠ b140 := Nat.ne_of_lt (Nat.lt_of_lt_of_le E_o.lt (Nat.le_of_eq g141))
  have o_c_b140 : c ≠ b140 := Nat.ne_of_lt (Nat.lt_of_lt_of_le V_c.lt (Nat.le_of_eq g141))
  replace E_o := E_o.ext x142
  replace F_o_chars := F_o_chars.ext x142
  replace F_o_length := F_o_length.ext x142
  replace V_c := V_c.ext x142
  have F_b140_coder : Fld Z h139 b140 "java/lang/String" "coder" "B" (.int (0 : Int32)) := D_b140 (Or.inr (w_28 hw)) (ty := .byte) (by decide)
  have F_b140_value : Fld Z h139 b140 "java/lang/String" "value" "[B" .null := D_b140 (Or.inr (w_30 hw)) (ty := (.array .byte)) (by decide)
  change Go _ _ _ _ _ _ _ _ _ _ _ _ _ _ [b140] h139 1 4 3 #[.val (.ref o)] [(.ref b140)]
  refine Go.dup (pc' := 4) d_prog_11_method_13_3 rfl rfl ?_
  refine Go.aload_n (pc' := 5) d_prog_11_method_13_4 rfl rfl rfl ?_
  refine Go.getF (pc' := 8) d_prog_11_method_13_5 rfl (host := "") (Or.inl (w_41 hw)) Via.refl F_o_chars ?_
  refine Go.iconst (pc' := 9) d_prog_11_method_13_8 rfl ic_0 ?_
  refine Go.aload_n (pc' := 10) d_prog_11_method_13_9 rfl rfl rfl ?_
  refine Go.getF (pc' := 13) d_prog_11_method_13_10 rfl (host := "") (Or.inl (w_49 hw)) Via.refl F_o_length ?_
  refine Go.callI (pc' := 16) (z := N_13) (a := b140) d_prog_11_method_13_13 rfl rfl (w_51 hw) (w_52 hw) (w_53 hw) (by decide) (argsL := [(.ref c), (.int (0 : Int32)), (.int z)]) (rest := [(.ref b140)]) (Pays.of_met (W := 1) (len := 3) (m_ustr3 hw hs b140 c kc cs zc z h139 E_b140 F_b140_coder F_b140_value V_c (hz) (hz0) (hle) (hbig) (h16) (hzn) o_c_b140) (w_53 hw) (w_4 hw) (by decide) (by decide)) rfl rfl (lenOf pd_28 rfl) rfl (Nat.le_of_eq rfl) (memS (List.mem_of_getElem? (i := 0) rfl) mem0) (by decide) (by decide) ?_
  rintro _ h145 _ K146 le147 ⟨b143, q144, rfl, rfl, p148, p149, p150⟩
  have o_o_b143 : o ≠ b143 := Nat.ne_of_lt (Nat.lt_of_lt_of_le E_o.lt p149)
  have o_c_b143 : c ≠ b143 := Nat.ne_of_lt (Nat.lt_of_lt_of_le V_c.lt p149)
  have o_b140_b143 : b140 ≠ b143 := Nat.ne_of_lt (Nat.lt_of_lt_of_le E_b140.lt p149)
  have ge_b143 := Nat.le_trans le147 p149
  replace E_o := E_o.keep K146
  replace F_o_chars := F_o_chars.keep K146 (ninS o_o_b140 nin0)
  replace F_o_length := F_o_length.keep K146 (ninS o_o_b140 nin0)
  replace V_c := V_c.keep K146 (ninS o_c_b140 nin0)
  replace E_b140 := E_b140.keep K146
  change Go _ _ _ _ _ _ _ _ _ _ _ _ _ _ [b140] h145 3 778 16 #[.val (.ref o)] [(.ref b140)]
  exact Go.retA d_prog_11_method_13_16 rfl rfl rfl (by decide) (by decide) [] sn0 ⟨b140, b143, _, rfl, rfl, E_b140, ge_b140, ge_b143, p150⟩
abbrev RL_l1e : Room := { frames := 0, cells := 0, slots := 0, locals := 0 }
set_option maxRecDepth 65536 in
set_option maxHeartbeats 40000000 in
theorem m_l1e_loop {l : Launch} {Z : State} {n0 : Nat} {h0 : Heap} {Q : Option Value → Heap → List Addr → Prop} {t s : Addr} {kt ks : ClassId} {us ws : List Int32} {z : Int32} (hz : z.toNatClampNeg = us.length) (hl : us.length = ws.length) (V_t : Arv Z h0 t kt .byte z (us.map Value.int) (.int (0 : Int32))) (V_s : Arv Z h0 s ks .byte z (ws.map Value.int) (.int (0 : Int32))) (hQ : Q (some (.int (own_eqb us ws))) h0 []) :
    ∀ (m i : Nat), i + m = us.length → us.take i = ws.take i → Go l Z EL0 n0 NR0 KN0 N_42 jdk_43_method_13_code 3 (Option.some Jvm.ClassFile.FieldType.boolean) RL_l1e h0 [] Q [] h0 0 0 9 #[.val (.ref t), .val (.ref s), .val (.int (Int32.ofNat i))] [] := by
  intro m
  induction m with
  | zero =>
    intro i hi ht
    obtain rfl : i = us.length := by omega
    have zn := arv_nn V_t
    have q := (back32 zn).2
    have e : us = ws := by rw [List.take_length, hl, List.take_length] at ht; exact ht
    rw [own_eqb_pos e] at hQ
    refine Go.iload_n (pc' := 10) d_jdk_43_method_13_9 rfl rfl ?_
    refine Go.aload_n (pc' := 11) d_jdk_43_method_13_10 rfl rfl rfl ?_
    refine Go.lenV (pc' := 12) d_jdk_43_method_13_11 rfl V_t ?_
    refine Go.icmpY (pc' := 32) d_jdk_43_method_13_12 (by decide) (by decide) (flt (ofNat_ge zn (by omega) (Nat.le_of_eq hz) : ¬ ((Int32.ofNat us.length) < z))).2.1 ?_
    refine Go.iconst (pc' := 33) d_jdk_43_method_13_32 rfl ic_1 ?_
    exact Go.retS (ty := .boolean) d_jdk_43_method_13_33 rfl (by simp) rfl (by decide) (by decide) [] sn0 hQ
  | succ m ih =>
    intro i hi ht
    have zn := arv_nn V_t
    have q := (back32 zn).2
    have hi2 : i < us.length := by omega
    have ci := ofNat_clamp (i := i) (by omega)
    have nn := ofNat_nn (i := i) (by omega)
    have lt := ofNat_lt (i := i) zn (by omega)
    refine Go.iload_n (pc' := 10) d_jdk_43_method_13_9 rfl rfl ?_
    refine Go.aload_n (pc' := 11) d_jdk_43_method_13_10 rfl rfl rfl ?_
    refine Go.lenV (pc' := 12) d_jdk_43_method_13_11 rfl V_t ?_
    refine Go.icmpN (pc' := 15) d_jdk_43_method_13_12 rfl (tlt (lt : (Int32.ofNat i) < z)).2.1 ?_
    refine Go.aload_n (pc' := 16) d_jdk_43_method_13_15 rfl rfl rfl ?_
    refine Go.iload_n (pc' := 17) d_jdk_43_method_13_16 rfl rfl ?_
    refine Go.baloadV (pc' := 18) (v := (.int (us.getD i 0))) d_jdk_43_method_13_17 rfl V_t ⟨nn, lt⟩ (by rw [ci]; exact getD_int us i) ?_
    refine Go.aload_n (pc' := 19) d_jdk_43_method_13_18 rfl rfl rfl ?_
    refine Go.iload_n (pc' := 20) d_jdk_43_method_13_19 rfl rfl ?_
    refine Go.baloadV (pc' := 21) (v := (.int (ws.getD i 0))) d_jdk_43_method_13_20 rfl V_s ⟨nn, lt⟩ (by rw [ci]; exact getD_int ws i) ?_
    by_cases h1 : (us.getD i 0) = (ws.getD i 0)
    · skip
      refine Go.icmpY (pc' := 26) d_jdk_43_method_13_21 (by decide) (by decide) (teq (h1 : (us.getD i 0) = (ws.getD i 0))).1 ?_
      refine Go.iinc (pc' := 29) (Ls' := #[.val (.ref t), .val (.ref s), .val (.int ((Int32.ofNat i) + (1 : Int32)))]) d_jdk_43_method_13_26 rfl ic_1 rfl rfl ?_
      refine Go.goto (pc' := 9) d_jdk_43_method_13_29 (by decide) (by decide) ?_
      rw [ofNat_succ i]
      exact ih (i + 1) (by omega) (own_take_succ hi2 (by omega) ht h1)
    · skip
      refine Go.icmpN (pc' := 24) d_jdk_43_method_13_21 rfl (feq (h1 : ¬ ((us.getD i 0) = (ws.getD i 0)))).1 ?_
      refine Go.iconst (pc' := 25) d_jdk_43_method_13_24 rfl ic_0 ?_
      rw [own_eqb_neg (fun e => h1 (by rw [e]))] at hQ
      exact Go.retS (ty := .boolean) d_jdk_43_method_13_25 rfl (by simp) rfl (by decide) (by decide) [] sn0 hQ
abbrev R_m_l1e : Room := { frames := 0, cells := 0, slots := 0, locals := 0 }
theorem pn_m_l1e : plainFor (⟨"java/lang/StringLatin1", "equals", "([B[B)Z"⟩ : MethodName) = true := by first | (refine plainFor_of_name ?_; simp [plainName, overriddenIn]; done) | decide +kernel
abbrev Q_m_l1e (Z : State) (t : Addr) (s : Addr) (kt : ClassId) (ks : ClassId) (us : List Int32) (ws : List Int32) (z : Int32) (z2 : Int32) (h0 : Heap) : Option Value → Heap → List Addr → Prop := fun res h' SN => res = some (.int (own_eqb us ws)) ∧ SN = [] ∧ h0 = h'
theorem ef_m_l1e (mid : MethodId) (t : Addr) (s : Addr) (kt : ClassId) (ks : ClassId) (us : List Int32) (ws : List Int32) (z : Int32) (z2 : Int32) : entryFrame mid #[(.ref t), (.ref s)] 3 = mkF mid 0 #[.val (.ref t), .val (.ref s), .unset] [] := by first | (simp [entryFrame, mkF, argsToLocals, Value.category]; done) | rfl
set_option maxRecDepth 65536 in
set_option maxHeartbeats 40000000 in
theorem m_l1e {l : Launch} {Z : State} {a0 : Array Value} {n0 : Nat} (hw : ∀ d ∈ tables_1, d.before a0 Z = true) (hs : Stat Z) (t : Addr) (s : Addr) (kt : ClassId) (ks : ClassId) (us : List Int32) (ws : List Int32) (z : Int32) (z2 : Int32) (h0 : Heap) (V_t : Arv Z h0 t kt .byte z (us.map Value.int) (.int (0 : Int32))) (V_s : Arv Z h0 s ks .byte z2 (ws.map Value.int) (.int (0 : Int32))) (hz : z.toNatClampNeg = us.length) (hw2 : z2.toNatClampNeg = ws.length) :
    Met l Z EL0 n0 NR0 KN0 N_42 jdk_43_method_13_code 3 (Option.some Jvm.ClassFile.FieldType.boolean) R_m_l1e [] #[(.ref t), (.ref s)] h0 (Q_m_l1e Z t s kt ks us ws z z2 h0) := by
  refine Met.of_go pn_m_l1e (fun mid => ef_m_l1e mid t s kt ks us ws z z2 ) ?_
  intro hO hWS
  refine Go.aload_n (pc' := 1) d_jdk_43_method_13_0 rfl rfl rfl ?_
  refine Go.lenV (pc' := 2) d_jdk_43_method_13_1 rfl V_t ?_
  refine Go.aload_n (pc' := 3) d_jdk_43_method_13_2 rfl rfl rfl ?_
  refine Go.lenV (pc' := 4) d_jdk_43_method_13_3 rfl V_s ?_
  by_cases h1 : z = z2
  · skip
    refine Go.icmpN (pc' := 7) d_jdk_43_method_13_4 rfl (teq (h1 : z = z2)).2 ?_
    subst h1
    refine Go.iconst (pc' := 8) d_jdk_43_method_13_7 rfl ic_0 ?_
    refine Go.istore_n (pc' := 9) (Ls' := #[.val (.ref t), .val (.ref s), .val (.int (0 : Int32))]) d_jdk_43_method_13_8 rfl rfl ?_
    exact m_l1e_loop hz (by rw [← hz, ← hw2]) V_t V_s ⟨rfl, rfl, rfl⟩ us.length 0 (by omega) rfl
  · skip
    refine Go.icmpY (pc' := 34) d_jdk_43_method_13_4 (by decide) (by decide) (feq (h1 : ¬ (z = z2))).2 ?_
    refine Go.iconst (pc' := 35) d_jdk_43_method_13_34 rfl ic_0 ?_
    exact Go.retS (ty := .boolean) d_jdk_43_method_13_35 rfl (by simp) rfl (by decide) (by decide) [] sn0 ⟨by rw [own_eqb_neg (fun e => h1 (own_clamp_inj (arv_nn V_t) (arv_nn V_s) (by rw [hz, hw2, e])))], rfl, rfl⟩
abbrev R_m_seq0 : Room := { frames := 1, cells := 0, slots := 0, locals := 14 }
theorem pn_m_seq0 : plainFor (⟨"java/lang/String", "equals", "(Ljava/lang/Object;)Z"⟩ : MethodName) = true := by first | (refine plainFor_of_name ?_; simp [plainName, overriddenIn]; done) | decide +kernel
abbrev Q_m_seq0 (Z : State) (a : Addr) (b : Addr) (t : Addr) (s : Addr) (kt : ClassId) (ks : ClassId) (us : List Int32) (ws : List Int32) (z : Int32) (z2 : Int32) (h0 : Heap) : Option Value → Heap → List Addr → Prop := fun res h' SN => res = some (.int (own_eqb us ws)) ∧ SN = [] ∧ h0 = h'
theorem ef_m_seq0 (mid : MethodId) (a : Addr) (b : Addr) (t : Addr) (s : Addr) (kt : ClassId) (ks : ClassId) (us : List Int32) (ws : List Int32) (z : Int32) (z2 : Int32) : entryFrame mid #[(.ref a), (.ref b)] 3 = mkF mid 0 #[.val (.ref a), .val (.ref b), .unset] [] := by first | (simp [entryFrame, mkF, argsToLocals, Value.category]; done) | rfl
set_option maxRecDepth 65536 in
set_option maxHeartbeats 40000000 in
theorem m_seq0 {l : Launch} {Z : State} {a0 : Array Value} {n0 : Nat} (hw : ∀ d ∈ tables_1, d.before a0 Z = true) (hs : Stat Z) (a : Addr) (b : Addr) (t : Addr) (s : Addr) (kt : ClassId) (ks : ClassId) (us : List Int32) (ws : List Int32) (z : Int32) (z2 : Int32) (h0 : Heap) (E_a : Exa Z h0 a "java/lang/String") (F_a_coder : Fld Z h0 a "java/lang/String" "coder" "B" (.int (0 : Int32))) (F_a_value : Fld Z h0 a "java/lang/String" "value" "[B" (.ref t)) (V_t : Arv Z h0 t kt .byte z (us.map Value.int) (.int (0 : Int32))) (E_b : Exa Z h0 b "java/lang/String") (F_b_coder : Fld Z h0 b "java/lang/String" "coder" "B" (.int (0 : Int32))) (F_b_value : Fld Z h0 b "java/lang/String" "value" "[B" (.ref s)) (V_s : Arv Z h0 s ks .byte z2 (ws.map Value.int) (.int (0 : Int32))) (hz : z.toNatClampNeg = us.length) (hw2 : z2.toNatClampNeg = ws.length) :
    Met l Z EL0 n0 NR0 KN0 N_43 jdk_42_method_66_code 3 (Option.some Jvm.ClassFile.FieldType.boolean) R_m_seq0 [] #[(.ref a), (.ref b)] h0 (Q_m_seq0 Z a b t s kt ks us ws z z2 h0) := by
  refine Met.of_go pn_m_seq0 (fun mid => ef_m_seq0 mid a b t s kt ks us ws z z2 ) ?_
  intro hO hWS
  obtain ⟨zc, S_c, hzc⟩ := hs_c hs
  refine Go.aload_n (pc' := 1) d_jdk_42_method_66_0 rfl rfl rfl ?_
  refine Go.aload_n (pc' := 2) d_jdk_42_method_66_1 rfl rfl rfl ?_
  by_cases hab : a = b
  · skip
    refine Go.acmp (pc' := 5) (same := true) d_jdk_42_method_66_2 rfl rfl (decide_eq_true (by rw [hab])) (by decide) (by decide) ?_
    refine Go.iconst (pc' := 6) d_jdk_42_method_66_5 rfl ic_1 ?_
    subst hab
    obtain rfl := own_fld_uniq F_a_value F_b_value
    exact Go.retS (ty := .boolean) d_jdk_42_method_66_6 rfl (by simp) rfl (by decide) (by decide) [] sn0 ⟨by rw [own_eqb_pos (own_arv_uniq V_t V_s hz hw2)], rfl, rfl⟩
  · skip
    refine Go.acmp (pc' := 7) (same := false) d_jdk_42_method_66_2 rfl rfl (decide_eq_false (fun e => hab (Value.ref.inj e))) (by decide) (by decide) ?_
    refine Go.aload_n (pc' := 8) d_jdk_42_method_66_7 rfl rfl rfl ?_
    refine Go.instY (pc' := 11) d_jdk_42_method_66_8 rfl (w_73 hw) (Ins.self E_b) ?_
    refine Go.ifN (pc' := 14) d_jdk_42_method_66_11 rfl ((if0 _ _).trans (feq (by decide : ¬ ((1 : Int32) = (0 : Int32)))).1) ?_
    refine Go.aload_n (pc' := 15) d_jdk_42_method_66_14 rfl rfl rfl ?_
    refine Go.castY (pc' := 18) d_jdk_42_method_66_15 rfl (w_73 hw) (Ins.self E_b) ?_
    refine Go.astore_n (pc' := 19) (Ls' := #[.val (.ref a), .val (.ref b), .val (.ref b)]) d_jdk_42_method_66_18 rfl rfl rfl ?_
    refine Go.getS (pc' := 22) d_jdk_42_method_66_19 rfl (host := "") (Or.inl (w_15 hw)) Via.refl S_c ?_
    refine Go.ifN (pc' := 25) d_jdk_42_method_66_22 rfl ((if0 _ _).trans (feq (hzc : ¬ (zc = (0 : Int32)))).1) ?_
    refine Go.aload_n (pc' := 26) d_jdk_42_method_66_25 rfl rfl rfl ?_
    refine Go.getF (pc' := 29) d_jdk_42_method_66_26 rfl (host := "") (Or.inl (w_27 hw)) Via.refl F_a_coder ?_
    refine Go.aload_n (pc' := 30) d_jdk_42_method_66_29 rfl rfl rfl ?_
    refine Go.getF (pc' := 33) d_jdk_42_method_66_30 rfl (host := "") (Or.inl (w_27 hw)) Via.refl F_b_coder ?_
    refine Go.icmpN (pc' := 36) d_jdk_42_method_66_33 rfl (teq (rfl : (0 : Int32) = (0 : Int32))).2 ?_
    refine Go.aload_n (pc' := 37) d_jdk_42_method_66_36 rfl rfl rfl ?_
    refine Go.getF (pc' := 40) d_jdk_42_method_66_37 rfl (host := "") (Or.inl (w_29 hw)) Via.refl F_a_value ?_
    refine Go.aload_n (pc' := 41) d_jdk_42_method_66_40 rfl rfl rfl ?_
    refine Go.getF (pc' := 44) d_jdk_42_method_66_41 rfl (host := "") (Or.inl (w_29 hw)) Via.refl F_b_value ?_
    refine Go.callS (pc' := 47) (z := N_42) d_jdk_42_method_66_44 rfl (w_74 hw) (w_75 hw) (w_76 hw) (w_77 hw) (by decide) (argsL := [(.ref t), (.ref s)]) (rest := []) (Pays.of_met (W := 0) (len := 3) (m_l1e hw hs t s kt ks us ws z z2 h0 V_t V_s (hz) (hw2)) (w_77 hw) (w_76 hw) (by decide) (by decide)) rfl rfl (lenOf pd_29 rfl) rfl (Nat.le_of_eq rfl) mem0 (by decide) (by decide) ?_
    rintro _ _ _ - - ⟨rfl, rfl, rfl⟩
    change Go _ _ _ _ _ _ _ _ _ _ _ _ _ _ [] h0 0 0 47 #[.val (.ref a), .val (.ref b), .val (.ref b)] [(.int (own_eqb us ws))]
    by_cases h1 : (own_eqb us ws) = (0 : Int32)
    · skip
      refine Go.ifY (pc' := 54) d_jdk_42_method_66_47 (by decide) (by decide) ((if0 _ _).trans (teq (h1 : (own_eqb us ws) = (0 : Int32))).1) ?_
      refine Go.iconst (pc' := 55) d_jdk_42_method_66_54 rfl ic_0 ?_
      exact Go.retS (ty := .boolean) d_jdk_42_method_66_55 rfl (by simp) rfl (by decide) (by decide) [] sn0 ⟨by rw [h1], rfl, rfl⟩
    · skip
      refine Go.ifN (pc' := 50) d_jdk_42_method_66_47 rfl ((if0 _ _).trans (feq (h1 : ¬ ((own_eqb us ws) = (0 : Int32)))).1) ?_
      refine Go.iconst (pc' := 51) d_jdk_42_method_66_50 rfl ic_1 ?_
      refine Go.goto (pc' := 55) d_jdk_42_method_66_51 (by decide) (by decide) ?_
      exact Go.retS (ty := .boolean) d_jdk_42_method_66_55 rfl (by simp) rfl (by decide) (by decide) [] sn0 ⟨by rw [own_eqb_pos (own_eqb1 h1)], rfl, rfl⟩
abbrev R_m_seq1 : Room := { frames := 1, cells := 0, slots := 0, locals := 14 }
theorem pn_m_seq1 : plainFor (⟨"java/lang/String", "equals", "(Ljava/lang/Object;)Z"⟩ : MethodName) = true := by first | (refine plainFor_of_name ?_; simp [plainName, overriddenIn]; done) | decide +kernel
abbrev Q_m_seq1 (Z : State) (a : Addr) (b : Addr) (t : Addr) (s : Addr) (kt : ClassId) (ks : ClassId) (us : List Int32) (ws : List Int32) (z : Int32) (z2 : Int32) (h0 : Heap) : Option Value → Heap → List Addr → Prop := fun res h' SN => res = some (.int (own_eqb us ws)) ∧ SN = [] ∧ h0 = h'
theorem ef_m_seq1 (mid : MethodId) (a : Addr) (b : Addr) (t : Addr) (s : Addr) (kt : ClassId) (ks : ClassId) (us : List Int32) (ws : List Int32) (z : Int32) (z2 : Int32) : entryFrame mid #[(.ref a), (.ref b)] 3 = mkF mid 0 #[.val (.ref a), .val (.ref b), .unset] [] := by first | (simp [entryFrame, mkF, argsToLocals, Value.category]; done) | rfl
set_option maxRecDepth 65536 in
set_option maxHeartbeats 40000000 in
theorem m_seq1 {l : Launch} {Z : State} {a0 : Array Value} {n0 : Nat} (hw : ∀ d ∈ tables_1, d.before a0 Z = true) (hs : Stat Z) (a : Addr) (b : Addr) (t : Addr) (s : Addr) (kt : ClassId) (ks : ClassId) (us : List Int32) (ws : List Int32) (z : Int32) (z2 : Int32) (h0 : Heap) (E_a : Exa Z h0 a "java/lang/String") (F_a_coder : Fld Z h0 a "java/lang/String" "coder" "B" (.int (1 : Int32))) (F_a_value : Fld Z h0 a "java/lang/String" "value" "[B" (.ref t)) (V_t : Arv Z h0 t kt .byte z (us.map Value.int) (.int (0 : Int32))) (E_b : Exa Z h0 b "java/lang/String") (F_b_coder : Fld Z h0 b "java/lang/String" "coder" "B" (.int (1 : Int32))) (F_b_value : Fld Z h0 b "java/lang/String" "value" "[B" (.ref s)) (V_s : Arv Z h0 s ks .byte z2 (ws.map Value.int) (.int (0 : Int32))) (hz : z.toNatClampNeg = us.length) (hw2 : z2.toNatClampNeg = ws.length) :
    Met l Z EL0 n0 NR0 KN0 N_43 jdk_42_method_66_code 3 (Option.some Jvm.ClassFile.FieldType.boolean) R_m_seq1 [] #[(.ref a), (.ref b)] h0 (Q_m_seq1 Z a b t s kt ks us ws z z2 h0) := by
  refine Met.of_go pn_m_seq1 (fun mid => ef_m_seq1 mid a b t s kt ks us ws z z2 ) ?_
  intro hO hWS
  obtain ⟨zc, S_c, hzc⟩ := hs_c hs
  refine Go.aload_n (pc' := 1) d_jdk_42_method_66_0 rfl rfl rfl ?_
  refine Go.aload_n (pc' := 2) d_jdk_42_method_66_1 rfl rfl rfl ?_
  by_cases hab : a = b
  · skip
    refine Go.acmp (pc' := 5) (same := true) d_jdk_42_method_66_2 rfl rfl (decide_eq_true (by rw [hab])) (by decide) (by decide) ?_
    refine Go.iconst (pc' := 6) d_jdk_42_method_66_5 rfl ic_1 ?_
    subst hab
    obtain rfl := own_fld_uniq F_a_value F_b_value
    exact Go.retS (ty := .boolean) d_jdk_42_method_66_6 rfl (by simp) rfl (by decide) (by decide) [] sn0 ⟨by rw [own_eqb_pos (own_arv_uniq V_t V_s hz hw2)], rfl, rfl⟩
  · skip
    refine Go.acmp (pc' := 7) (same := false) d_jdk_42_method_66_2 rfl rfl (decide_eq_false (fun e => hab (Value.ref.inj e))) (by decide) (by decide) ?_
    refine Go.aload_n (pc' := 8) d_jdk_42_method_66_7 rfl rfl rfl ?_
    refine Go.instY (pc' := 11) d_jdk_42_method_66_8 rfl (w_73 hw) (Ins.self E_b) ?_
    refine Go.ifN (pc' := 14) d_jdk_42_method_66_11 rfl ((if0 _ _).trans (feq (by decide : ¬ ((1 : Int32) = (0 : Int32)))).1) ?_
    refine Go.aload_n (pc' := 15) d_jdk_42_method_66_14 rfl rfl rfl ?_
    refine Go.castY (pc' := 18) d_jdk_42_method_66_15 rfl (w_73 hw) (Ins.self E_b) ?_
    refine Go.astore_n (pc' := 19) (Ls' := #[.val (.ref a), .val (.ref b), .val (.ref b)]) d_jdk_42_method_66_18 rfl rfl rfl ?_
    refine Go.getS (pc' := 22) d_jdk_42_method_66_19 rfl (host := "") (Or.inl (w_15 hw)) Via.refl S_c ?_
    refine Go.ifN (pc' := 25) d_jdk_42_method_66_22 rfl ((if0 _ _).trans (feq (hzc : ¬ (zc = (0 : Int32)))).1) ?_
    refine Go.aload_n (pc' := 26) d_jdk_42_method_66_25 rfl rfl rfl ?_
    refine Go.getF (pc' := 29) d_jdk_42_method_66_26 rfl (host := "") (Or.inl (w_27 hw)) Via.refl F_a_coder ?_
    refine Go.aload_n (pc' := 30) d_jdk_42_method_66_29 rfl rfl rfl ?_
    refine Go.getF (pc' := 33) d_jdk_42_method_66_30 rfl (host := "") (Or.inl (w_27 hw)) Via.refl F_b_coder ?_
    refine Go.icmpN (pc' := 36) d_jdk_42_method_66_33 rfl (teq (rfl : (1 : Int32) = (1 : Int32))).2 ?_
    refine Go.aload_n (pc' := 37) d_jdk_42_method_66_36 rfl rfl rfl ?_
    refine Go.getF (pc' := 40) d_jdk_42_method_66_37 rfl (host := "") (Or.inl (w_29 hw)) Via.refl F_a_value ?_
    refine Go.aload_n (pc' := 41) d_jdk_42_method_66_40 rfl rfl rfl ?_
    refine Go.getF (pc' := 44) d_jdk_42_method_66_41 rfl (host := "") (Or.inl (w_29 hw)) Via.refl F_b_value ?_
    refine Go.callS (pc' := 47) (z := N_42) d_jdk_42_method_66_44 rfl (w_74 hw) (w_75 hw) (w_76 hw) (w_77 hw) (by decide) (argsL := [(.ref t), (.ref s)]) (rest := []) (Pays.of_met (W := 0) (len := 3) (m_l1e hw hs t s kt ks us ws z z2 h0 V_t V_s (hz) (hw2)) (w_77 hw) (w_76 hw) (by decide) (by decide)) rfl rfl (lenOf pd_29 rfl) rfl (Nat.le_of_eq rfl) mem0 (by decide) (by decide) ?_
    rintro _ _ _ - - ⟨rfl, rfl, rfl⟩
    change Go _ _ _ _ _ _ _ _ _ _ _ _ _ _ [] h0 0 0 47 #[.val (.ref a), .val (.ref b), .val (.ref b)] [(.int (own_eqb us ws))]
    by_cases h1 : (own_eqb us ws) = (0 : Int32)
    · skip
      refine Go.ifY (pc' := 54) d_jdk_42_method_66_47 (by decide) (by decide) ((if0 _ _).trans (teq (h1 : (own_eqb us ws) = (0 : Int32))).1) ?_
      refine Go.iconst (pc' := 55) d_jdk_42_method_66_54 rfl ic_0 ?_
      exact Go.retS (ty := .boolean) d_jdk_42_method_66_55 rfl (by simp) rfl (by decide) (by decide) [] sn0 ⟨by rw [h1], rfl, rfl⟩
    · skip
      refine Go.ifN (pc' := 50) d_jdk_42_method_66_47 rfl ((if0 _ _).trans (feq (h1 : ¬ ((own_eqb us ws) = (0 : Int32)))).1) ?_
      refine Go.iconst (pc' := 51) d_jdk_42_method_66_50 rfl ic_1 ?_
      refine Go.goto (pc' := 55) d_jdk_42_method_66_51 (by decide) (by decide) ?_
      exact Go.retS (ty := .boolean) d_jdk_42_method_66_55 rfl (by simp) rfl (by decide) (by decide) [] sn0 ⟨by rw [own_eqb_pos (own_eqb1 h1)], rfl, rfl⟩
abbrev R_m_str4e : Room := { frames := 1, cells := 4, slots := 8, locals := 12 }
theorem pn_m_str4e : plainFor (⟨"java/lang/String", "<init>", "([CIILjava/lang/Void;)V"⟩ : MethodName) = true := by first | (refine plainFor_of_name ?_; simp [plainName, overriddenIn]; done) | decide +kernel
abbrev Q_m_str4e (Z : State) (a : Addr) (c : Addr) (h0 : Heap) : Option Value → Heap → List Addr → Prop := fun res h' SN => ∃ (t : Addr) (kt : ClassId), res = none ∧ SN = [] ∧ Exa Z h' a "java/lang/String" ∧ Fld Z h' a "java/lang/String" "coder" "B" (.int (0 : Int32)) ∧ Fld Z h' a "java/lang/String" "value" "[B" (.ref t) ∧ Arv Z h' t kt .byte (0 : Int32) [] (.int (0 : Int32))
theorem ef_m_str4e (mid : MethodId) (a : Addr) (c : Addr) : entryFrame mid #[(.ref a), (.ref c), (.int (0 : Int32)), (.int (0 : Int32)), .null] 6 = mkF mid 0 #[.val (.ref a), .val (.ref c), .val (.int (0 : Int32)), .val (.int (0 : Int32)), .val .null, .unset] [] := by first | (simp [entryFrame, mkF, argsToLocals, Value.category]; done) | rfl
set_option maxRecDepth 65536 in
set_option maxHeartbeats 40000000 in
theorem m_str4e {l : Launch} {Z : State} {a0 : Array Value} {n0 : Nat} (hw : ∀ d ∈ tables_1, d.before a0 Z = true) (hs : Stat Z) (a : Addr) (c : Addr) (h0 : Heap) (E_a : Exa Z h0 a "java/lang/String") (F_a_coder : Fld Z h0 a "java/lang/String" "coder" "B" (.int (0 : Int32))) (F_a_value : Fld Z h0 a "java/lang/String" "value" "[B" .null) :
    Met l Z EL0 n0 NR0 KN0 N_8 jdk_42_method_149_code 6 (Option.none : Option Jvm.ClassFile.FieldType) R_m_str4e [a] #[(.ref a), (.ref c), (.int (0 : Int32)), (.int (0 : Int32)), .null] h0 (Q_m_str4e Z a c h0) := by
  refine Met.of_go pn_m_str4e (fun mid => ef_m_str4e mid a c ) ?_
  intro hO hWS
  refine Go.aload_n (pc' := 1) d_jdk_42_method_149_0 rfl rfl rfl ?_
  refine Go.initO (pc' := 4) (W := 0) d_jdk_42_method_149_1 rfl (w_12 hw) (w_13 hw) (w_14 hw) rfl (by decide) (Nat.le_of_eq rfl) (by decide) ?_
  refine Go.iload_n (pc' := 5) d_jdk_42_method_149_4 rfl rfl ?_
  refine Go.ifN (pc' := 8) d_jdk_42_method_149_5 rfl ((if0 _ _).trans (teq (rfl : (0 : Int32) = (0 : Int32))).2) ?_
  refine Go.aload_n (pc' := 9) d_jdk_42_method_149_8 rfl rfl rfl ?_
  refine Go.ldcS (pc' := 11) (nn := 0) (z := 0) (vs := []) rfl d_jdk_42_method_149_9 rfl (w_65 hw) (sA hw) (by decide) lit_0 (by decide) (by decide) (by decide) (by decide) (by decide) (by decide) ?_
  intro h151 s152 t153 q154 x155 E_s152 F_s152_coder F_s152_value V_t153 ne156
  replace E_a := E_a.ext x155
  replace F_a_coder := F_a_coder.ext x155
  replace F_a_value := F_a_value.ext x155
  have o_a_s152 := (ne156 a (List.mem_of_getElem? (i := 0) rfl)).1
  have o_a_t153 := (ne156 a (List.mem_of_getElem? (i := 0) rfl)).2
  change Go _ _ _ _ _ _ _ _ _ _ _ _ _ _ [a] h151 2 4 11 #[.val (.ref a), .val (.ref c), .val (.int (0 : Int32)), .val (.int (0 : Int32)), .val .null, .unset] [(.ref s152), (.ref a)]
  refine Go.getF (pc' := 14) d_jdk_42_method_149_11 rfl (host := "") (Or.inl (w_29 hw)) Via.refl F_s152_value ?_
  refine Go.putF (pc' := 17) d_jdk_42_method_149_14 rfl (List.mem_of_getElem? (i := 0) rfl) (host := "") (Or.inl (w_29 hw)) Via.refl F_a_value E_a (Or.inr ⟨(w_30 hw), rfl, rfl⟩) (w_3 hw) (ty := (.array .byte)) (by decide) rfl rfl ?_
  intro h157 W158
  replace F_a_value := F_a_value.same W158
  replace E_a := E_a.wr W158
  replace F_a_coder := F_a_coder.other W158 (Or.inr (slot_ne (Or.inr (w_28 hw)) (Or.inr (w_30 hw)) (by decide) (t := .byte) (t' := (.array .byte)) (by decide) (by decide)))
  replace E_s152 := E_s152.wr W158
  replace F_s152_coder := F_s152_coder.other W158 (Or.inl (Ne.symm o_a_s152))
  replace F_s152_value := F_s152_value.other W158 (Or.inl (Ne.symm o_a_s152))
  replace V_t153 := V_t153.other W158 (Ne.symm o_a_t153)
  change Go _ _ _ _ _ _ _ _ _ _ _ _ _ _ [a] h157 2 4 17 #[.val (.ref a), .val (.ref c), .val (.int (0 : Int32)), .val (.int (0 : Int32)), .val .null, .unset] []
  refine Go.aload_n (pc' := 18) d_jdk_42_method_149_17 rfl rfl rfl ?_
  refine Go.ldcS (pc' := 20) (nn := 0) (z := 0) (vs := []) rfl d_jdk_42_method_149_18 rfl (w_65 hw) (sA hw) (by decide) lit_0 (by decide) (by decide) (by decide) (by decide) (by decide) (by decide) ?_
  intro h159 s160 t161 q162 x163 E_s160 F_s160_coder F_s160_value V_t161 ne164
  replace E_a := E_a.ext x163
  replace F_a_coder := F_a_coder.ext x163
  replace E_s152 := E_s152.ext x163
  replace F_s152_coder := F_s152_coder.ext x163
  replace F_s152_value := F_s152_value.ext x163
  replace V_t153 := V_t153.ext x163
  replace F_a_value := F_a_value.ext x163
  have o_a_s160 := (ne164 a (List.mem_of_getElem? (i := 0) rfl)).1
  have o_a_t161 := (ne164 a (List.mem_of_getElem? (i := 0) rfl)).2
  change Go _ _ _ _ _ _ _ _ _ _ _ _ _ _ [a] h159 4 8 20 #[.val (.ref a), .val (.ref c), .val (.int (0 : Int32)), .val (.int (0 : Int32)), .val .null, .unset] [(.ref s160), (.ref a)]
  refine Go.getF (pc' := 23) d_jdk_42_method_149_20 rfl (host := "") (Or.inl (w_27 hw)) Via.refl F_s160_coder ?_
  refine Go.putFN (pc' := 26) (v' := (.int (0 : Int32))) d_jdk_42_method_149_23 rfl (List.mem_of_getElem? (i := 0) rfl) (w_27 hw) Via.refl F_a_coder E_a (Or.inr ⟨(w_28 hw), rfl, rfl⟩) (w_3 hw) (ty := .byte) (by decide) rfl rfl ?_
  intro h165 W166
  replace F_a_coder := F_a_coder.same W166
  replace E_a := E_a.wr W166
  replace E_s152 := E_s152.wr W166
  replace F_s152_coder := F_s152_coder.other W166 (Or.inl (Ne.symm o_a_s152))
  replace F_s152_value := F_s152_value.other W166 (Or.inl (Ne.symm o_a_s152))
  replace V_t153 := V_t153.other W166 (Ne.symm o_a_t153)
  replace F_a_value := F_a_value.other W166 (Or.inr (slot_ne (Or.inr (w_30 hw)) (Or.inr (w_28 hw)) (by decide) (t := (.array .byte)) (t' := .byte) (by decide) (by decide)))
  replace E_s160 := E_s160.wr W166
  replace F_s160_coder := F_s160_coder.other W166 (Or.inl (Ne.symm o_a_s160))
  replace F_s160_value := F_s160_value.other W166 (Or.inl (Ne.symm o_a_s160))
  replace V_t161 := V_t161.other W166 (Ne.symm o_a_t161)
  change Go _ _ _ _ _ _ _ _ _ _ _ _ _ _ [a] h165 4 8 26 #[.val (.ref a), .val (.ref c), .val (.int (0 : Int32)), .val (.int (0 : Int32)), .val .null, .unset] []
  exact Go.retV d_jdk_42_method_149_26 rfl (by decide) (by decide) [] sn0 ⟨t153, q154, rfl, rfl, E_a, F_a_coder, F_a_value, V_t153⟩
abbrev R_m_ustr3e : Room := { frames := 3, cells := 4, slots := 8, locals := 47 }
theorem pn_m_ustr3e : plainFor (⟨"java/lang/String", "<init>", "([CII)V"⟩ : MethodName) = true := by first | (refine plainFor_of_name ?_; simp [plainName, overriddenIn]; done) | decide +kernel
abbrev Q_m_ustr3e (Z : State) (a : Addr) (c : Addr) (kc : ClassId) (cs : List Int32) (zc : Int32) (h0 : Heap) : Option Value → Heap → List Addr → Prop := fun res h' SN => ∃ (t : Addr) (kt : ClassId), res = none ∧ SN = [] ∧ Exa Z h' a "java/lang/String" ∧ Fld Z h' a "java/lang/String" "coder" "B" (.int (0 : Int32)) ∧ Fld Z h' a "java/lang/String" "value" "[B" (.ref t) ∧ Arv Z h' t kt .byte (0 : Int32) [] (.int (0 : Int32))
theorem ef_m_ustr3e (mid : MethodId) (a : Addr) (c : Addr) (kc : ClassId) (cs : List Int32) (zc : Int32) : entryFrame mid #[(.ref a), (.ref c), (.int (0 : Int32)), (.int (0 : Int32))] 4 = mkF mid 0 #[.val (.ref a), .val (.ref c), .val (.int (0 : Int32)), .val (.int (0 : Int32))] [] := by first | (simp [entryFrame, mkF, argsToLocals, Value.category]; done) | rfl
set_option maxRecDepth 65536 in
set_option maxHeartbeats 40000000 in
theorem m_ustr3e {l : Launch} {Z : State} {a0 : Array Value} {n0 : Nat} (hw : ∀ d ∈ tables_1, d.before a0 Z = true) (hs : Stat Z) (a : Addr) (c : Addr) (kc : ClassId) (cs : List Int32) (zc : Int32) (h0 : Heap) (E_a : Exa Z h0 a "java/lang/String") (F_a_coder : Fld Z h0 a "java/lang/String" "coder" "B" (.int (0 : Int32))) (F_a_value : Fld Z h0 a "java/lang/String" "value" "[B" .null) (V_c : Arv Z h0 c kc .char zc (cs.map Value.int) (.int (0 : Int32))) (hle : ¬ zc < (0 : Int32)) (ne_c_a : c ≠ a) :
    Met l Z EL0 n0 NR0 KN0 N_13 jdk_42_method_4_code 4 (Option.none : Option Jvm.ClassFile.FieldType) R_m_ustr3e [a] #[(.ref a), (.ref c), (.int (0 : Int32)), (.int (0 : Int32))] h0 (Q_m_ustr3e Z a c kc cs zc h0) := by
  refine Met.of_go pn_m_ustr3e (fun mid => ef_m_ustr3e mid a c kc cs zc ) ?_
  intro hO hWS
  refine Go.aload_n (pc' := 1) d_jdk_42_method_4_0 rfl rfl rfl ?_
  refine Go.aload_n (pc' := 2) d_jdk_42_method_4_1 rfl rfl rfl ?_
  refine Go.iload_n (pc' := 3) d_jdk_42_method_4_2 rfl rfl ?_
  refine Go.iload_n (pc' := 4) d_jdk_42_method_4_3 rfl rfl ?_
  refine Go.aload_n (pc' := 5) d_jdk_42_method_4_4 rfl rfl rfl ?_
  refine Go.iload_n (pc' := 6) d_jdk_42_method_4_5 rfl rfl ?_
  refine Go.iload_n (pc' := 7) d_jdk_42_method_4_6 rfl rfl ?_
  refine Go.callS (pc' := 10) (z := N_12) d_jdk_42_method_4_7 rfl (w_54 hw) (w_55 hw) (w_4 hw) (w_56 hw) (by decide) (argsL := [(.ref c), (.int (0 : Int32)), (.int (0 : Int32))]) (rest := [(.int (0 : Int32)), (.int (0 : Int32)), (.ref c), (.ref a)]) (Pays.of_met (W := 4) (len := 3) (m_rch hw hs c kc cs zc (0 : Int32) h0 V_c (by decide) (hle)) (w_56 hw) (w_4 hw) (by decide) (by decide)) rfl rfl (lenOf pd_10 rfl) rfl (Nat.le_of_eq rfl) mem0 (by decide) (by decide) ?_
  rintro _ _ _ - - ⟨rfl, rfl, rfl⟩
  change Go _ _ _ _ _ _ _ _ _ _ _ _ _ _ [a] h0 0 0 10 #[.val (.ref a), .val (.ref c), .val (.int (0 : Int32)), .val (.int (0 : Int32))] [.null, (.int (0 : Int32)), (.int (0 : Int32)), (.ref c), (.ref a)]
  refine Go.callI (pc' := 13) (z := N_8) (a := a) d_jdk_42_method_4_10 rfl rfl (w_8 hw) (w_9 hw) (w_11 hw) (by decide) (argsL := [(.ref c), (.int (0 : Int32)), (.int (0 : Int32)), .null]) (rest := []) (Pays.of_met (W := 0) (len := 3) (m_str4e hw hs a c h0 E_a F_a_coder F_a_value) (w_11 hw) (w_4 hw) (by decide) (by decide)) rfl rfl (lenOf pd_7 rfl) rfl (Nat.le_of_eq rfl) (memS (List.mem_of_getElem? (i := 0) rfl) mem0) (by decide) (by decide) ?_
  rintro _ h169 _ K170 le171 ⟨b167, q168, rfl, rfl, p172, p173, p174, p175⟩
  replace E_a := E_a.keep K170
  replace V_c := V_c.keep K170 (ninS ne_c_a nin0)
  have F_a_coder := p173
  have F_a_value := p174
  have V_b167 := p175
  change Go _ _ _ _ _ _ _ _ _ _ _ _ _ _ [a] h169 4 8 13 #[.val (.ref a), .val (.ref c), .val (.int (0 : Int32)), .val (.int (0 : Int32))] []
  exact Go.retV d_jdk_42_method_4_13 rfl (by decide) (by decide) [] sn0 ⟨b167, q168, rfl, rfl, E_a, F_a_coder, F_a_value, V_b167⟩
abbrev R_m_jstr0 : Room := { frames := 4, cells := 5, slots := 12, locals := 63 }
theorem pn_m_jstr0 : plainFor (⟨"com/example/beleg/beleg/JsonOutput", "toString", "()Ljava/lang/String;"⟩ : MethodName) = true := by first | (refine plainFor_of_name ?_; simp [plainName, overriddenIn]; done) | decide +kernel
abbrev Q_m_jstr0 (Z : State) (o : Addr) (c : Addr) (kc : ClassId) (cs : List Int32) (zc : Int32) (h0 : Heap) : Option Value → Heap → List Addr → Prop := fun res h' SN => ∃ (a : Addr) (t : Addr) (kt : ClassId), res = some (.ref a) ∧ SN = [] ∧ Exa Z h' a "java/lang/String" ∧ Fld Z h' a "java/lang/String" "coder" "B" (.int (0 : Int32)) ∧ Fld Z h' a "java/lang/String" "value" "[B" (.ref t) ∧ Arv Z h' t kt .byte (0 : Int32) [] (.int (0 : Int32))
theorem ef_m_jstr0 (mid : MethodId) (o : Addr) (c : Addr) (kc : ClassId) (cs : List Int32) (zc : Int32) : entryFrame mid #[(.ref o)] 1 = mkF mid 0 #[.val (.ref o)] [] := by first | (simp [entryFrame, mkF, argsToLocals, Value.category]; done) | rfl
set_option maxRecDepth 65536 in
set_option maxHeartbeats 40000000 in
theorem m_jstr0 {l : Launch} {Z : State} {a0 : Array Value} {n0 : Nat} (hw : ∀ d ∈ tables_1, d.before a0 Z = true) (hs : Stat Z) (o : Addr) (c : Addr) (kc : ClassId) (cs : List Int32) (zc : Int32) (h0 : Heap) (E_o : Exa Z h0 o "com/example/beleg/beleg/JsonOutput") (F_o_chars : Fld Z h0 o "com/example/beleg/beleg/JsonOutput" "chars" "[C" (.ref c)) (F_o_length : Fld Z h0 o "com/example/beleg/beleg/JsonOutput" "length" "I" (.int (0 : Int32))) (V_c : Arv Z h0 c kc .char zc (cs.map Value.int) (.int (0 : Int32))) (hle : ¬ zc < (0 : Int32)) :
    Met l Z EL0 n0 NR0 KN0 N_41 prog_11_method_13_code 1 (Option.some (Jvm.ClassFile.FieldType.object "java/lang/String")) R_m_jstr0 [] #[(.ref o)] h0 (Q_m_jstr0 Z o c kc cs zc h0) := by
  refine Met.of_go pn_m_jstr0 (fun mid => ef_m_jstr0 mid o c kc cs zc ) ?_
  intro hO hWS
  refine Go.newO (pc' := 3) d_prog_11_method_13_0 rfl (w_48 hw) (w_3 hw) (w_4 hw) (by decide) (by decide) ?_
  intro h176 b177 g178 ge_b177 x179 E_b177 D_b177 U_b177
  have o_o_b177 : o ≠ b177 := Nat.ne_of_lt (Nat.lt_of_lt_of_le E_o.lt (Nat.le_of_eq g178))
  have o_c_b177 : c ≠ b177 := Nat.ne_of_lt (Nat.lt_of_lt_of_le V_c.lt (Nat.le_of_eq g178))
  replace E_o := E_o.ext x179
  replace F_o_chars := F_o_chars.ext x179
  replace F_o_length := F_o_length.ext x179
  replace V_c := V_c.ext x179
  have F_b177_coder : Fld Z h176 b177 "java/lang/String" "coder" "B" (.int (0 : Int32)) := D_b177 (Or.inr (w_28 hw)) (ty := .byte) (by decide)
  have F_b177_value : Fld Z h176 b177 "java/lang/String" "value" "[B" .null := D_b177 (Or.inr (w_30 hw)) (ty := (.array .byte)) (by decide)
  change Go _ _ _ _ _ _ _ _ _ _ _ _ _ _ [b177] h176 1 4 3 #[.val (.ref o)] [(.ref b177)]
  refine Go.dup (pc' := 4) d_prog_11_method_13_3 rfl rfl ?_
  refine Go.aload_n (pc' := 5) d_prog_11_method_13_4 rfl rfl rfl ?_
  refine Go.getF (pc' := 8) d_prog_11_method_13_5 rfl (host := "") (Or.inl (w_41 hw)) Via.refl F_o_chars ?_
  refine Go.iconst (pc' := 9) d_prog_11_method_13_8 rfl ic_0 ?_
  refine Go.aload_n (pc' := 10) d_prog_11_method_13_9 rfl rfl rfl ?_
  refine Go.getF (pc' := 13) d_prog_11_method_13_10 rfl (host := "") (Or.inl (w_49 hw)) Via.refl F_o_length ?_
  refine Go.callI (pc' := 16) (z := N_13) (a := b177) d_prog_11_method_13_13 rfl rfl (w_51 hw) (w_52 hw) (w_53 hw) (by decide) (argsL := [(.ref c), (.int (0 : Int32)), (.int (0 : Int32))]) (rest := [(.ref b177)]) (Pays.of_met (W := 1) (len := 3) (m_ustr3e hw hs b177 c kc cs zc h176 E_b177 F_b177_coder F_b177_value V_c (hle) o_c_b177) (w_53 hw) (w_4 hw) (by decide) (by decide)) rfl rfl (lenOf pd_28 rfl) rfl (Nat.le_of_eq rfl) (memS (List.mem_of_getElem? (i := 0) rfl) mem0) (by decide) (by decide) ?_
  rintro _ h182 _ K183 le184 ⟨b180, q181, rfl, rfl, p185, p186, p187, p188⟩
  replace E_o := E_o.keep K183
  replace F_o_chars := F_o_chars.keep K183 (ninS o_o_b177 nin0)
  replace F_o_length := F_o_length.keep K183 (ninS o_o_b177 nin0)
  replace V_c := V_c.keep K183 (ninS o_c_b177 nin0)
  replace E_b177 := E_b177.keep K183
  have F_b177_coder := p186
  have F_b177_value := p187
  have V_b180 := p188
  change Go _ _ _ _ _ _ _ _ _ _ _ _ _ _ [b177] h182 5 12 16 #[.val (.ref o)] [(.ref b177)]
  exact Go.retA d_prog_11_method_13_16 rfl rfl rfl (by decide) (by decide) [] sn0 ⟨b177, b180, q181, rfl, rfl, E_b177, F_b177_coder, F_b177_value, V_b180⟩
abbrev R_m_apS0 : Room := { frames := 4, cells := 0, slots := 0, locals := 64 }
theorem pn_m_apS0 : plainFor (⟨"com/example/beleg/beleg/JsonOutput", "append", "(Ljava/lang/String;)Lcom/example/beleg/beleg/JsonOutput;"⟩ : MethodName) = true := by first | (refine plainFor_of_name ?_; simp [plainName, overriddenIn]; done) | decide +kernel
abbrev Q_m_apS0 (Z : State) (o : Addr) (ch : Addr) (kc : ClassId) (a : Addr) (t : Addr) (kt : ClassId) (cs : List Int32) (h0 : Heap) : Option Value → Heap → List Addr → Prop := fun res h' SN => res = some (.ref o) ∧ SN = [] ∧ Exa Z h' o "com/example/beleg/beleg/JsonOutput" ∧ Fld Z h' o "com/example/beleg/beleg/JsonOutput" "chars" "[C" (.ref ch) ∧ Fld Z h' o "com/example/beleg/beleg/JsonOutput" "length" "I" (.int (255 : Int32)) ∧ Arv Z h' ch kc .char (256 : Int32) (cs.map Value.int) (.int (0 : Int32))
theorem ef_m_apS0 (mid : MethodId) (o : Addr) (ch : Addr) (kc : ClassId) (a : Addr) (t : Addr) (kt : ClassId) (cs : List Int32) : entryFrame mid #[(.ref o), (.ref a)] 2 = mkF mid 0 #[.val (.ref o), .val (.ref a)] [] := by first | (simp [entryFrame, mkF, argsToLocals, Value.category]; done) | rfl
set_option maxRecDepth 65536 in
set_option maxHeartbeats 40000000 in
theorem m_apS0 {l : Launch} {Z : State} {a0 : Array Value} {n0 : Nat} (hw : ∀ d ∈ tables_1, d.before a0 Z = true) (hs : Stat Z) (o : Addr) (ch : Addr) (kc : ClassId) (a : Addr) (t : Addr) (kt : ClassId) (cs : List Int32) (h0 : Heap) (E_o : Exa Z h0 o "com/example/beleg/beleg/JsonOutput") (F_o_chars : Fld Z h0 o "com/example/beleg/beleg/JsonOutput" "chars" "[C" (.ref ch)) (F_o_length : Fld Z h0 o "com/example/beleg/beleg/JsonOutput" "length" "I" (.int (0 : Int32))) (V_ch : Arv Z h0 ch kc .char (256 : Int32) (([] : List Int32).map Value.int) (.int (0 : Int32))) (E_a : Exa Z h0 a "java/lang/String") (F_a_coder : Fld Z h0 a "java/lang/String" "coder" "B" (.int (0 : Int32))) (F_a_value : Fld Z h0 a "java/lang/String" "value" "[B" (.ref t)) (V_t : Arv Z h0 t kt .byte (255 : Int32) (cs.map lowV) (.int (0 : Int32))) (hl : cs.length = 255) (h255 : ∀ x ∈ cs, ¬ x < 0 ∧ ¬ 255 < x) (ne_t_ch : t ≠ ch) (ne_ch_o : ch ≠ o) :
    Met l Z EL0 n0 NR0 KN0 N_44 prog_11_method_6_code 2 (Option.some (Jvm.ClassFile.FieldType.object "com/example/beleg/beleg/JsonOutput")) R_m_apS0 [o, ch] #[(.ref o), (.ref a)] h0 (Q_m_apS0 Z o ch kc a t kt cs h0) := by
  refine Met.of_go pn_m_apS0 (fun mid => ef_m_apS0 mid o ch kc a t kt cs ) ?_
  intro hO hWS
  refine Go.aload_n (pc' := 1) d_prog_11_method_6_0 rfl rfl rfl ?_
  refine Go.aload_n (pc' := 2) d_prog_11_method_6_1 rfl rfl rfl ?_
  refine Go.iconst (pc' := 3) d_prog_11_method_6_2 rfl ic_0 ?_
  refine Go.aload_n (pc' := 4) d_prog_11_method_6_3 rfl rfl rfl ?_
  refine Go.callV (pc' := 7) (u := N_16) (z := N_16) (a := a) d_prog_11_method_6_4 rfl (w_98 hw) (w_84 hw) (nf (w_86 hw) rfl) (w_86 hw) (w_85 hw) (by decide) E_a (argsL := []) (rest := [(.int (0 : Int32)), (.ref a), (.ref o)]) (Pays.of_met (W := 3) (len := 3) (m_length hw hs a t kt (255 : Int32) (cs.map lowV) h0 E_a F_a_coder F_a_value V_t) (w_87 hw) (w_4 hw) (by decide) (by decide)) rfl rfl (lenOf pd_19 rfl) rfl (Nat.le_of_eq rfl) mem0 (by decide) (by decide) ?_
  rintro _ _ _ - - ⟨rfl, rfl, rfl⟩
  change Go _ _ _ _ _ _ _ _ _ _ _ _ _ _ [o, ch] h0 0 0 7 #[.val (.ref o), .val (.ref a)] [(.int (255 : Int32)), (.int (0 : Int32)), (.ref a), (.ref o)]
  refine Go.callV (pc' := 10) (u := N_39) (z := N_39) (a := o) d_prog_11_method_6_7 rfl (w_99 hw) (w_100 hw) (nf (w_102 hw) rfl) (w_102 hw) (w_101 hw) (by decide) E_o (argsL := [(.ref a), (.int (0 : Int32)), (.int (255 : Int32))]) (rest := []) (Pays.of_met (W := 0) (len := 3) (m_aps0 hw hs o ch kc a t kt cs (255 : Int32) (255 : Int32) h0 E_o F_o_chars F_o_length V_ch E_a F_a_coder F_a_value V_t (by rw [hl]; decide) (by decide) (by rw [hl]; decide) (by decide) (by decide) (by decide) (h255) ne_t_ch ne_ch_o) (w_103 hw) (w_33 hw) (by decide) (by decide)) rfl rfl (lenOf pd_30 rfl) rfl (Nat.le_of_eq rfl) (memS (List.mem_of_getElem? (i := 0) rfl) (memS (List.mem_of_getElem? (i := 1) rfl) mem0)) (by decide) (by decide) ?_
  rintro _ h189 _ K190 le191 ⟨rfl, rfl, p192, p193, p194, p195⟩
  replace E_o := E_o.keep K190
  replace E_a := E_a.keep K190
  have F_o_chars := p193
  have F_o_length := p194
  have V_ch := p195
  change Go _ _ _ _ _ _ _ _ _ _ _ _ _ _ [o, ch] h189 0 0 10 #[.val (.ref o), .val (.ref a)] [(.ref o)]
  rw [own_take_len (n := (255 : Int32).toNatClampNeg) (by rw [hl]; decide)] at V_ch
  exact Go.retA d_prog_11_method_6_10 rfl rfl rfl (by decide) (by decide) [] sn0 ⟨rfl, rfl, E_o, F_o_chars, F_o_length, V_ch⟩
abbrev R_m_apS1 : Room := { frames := 7, cells := 0, slots := 0, locals := 148 }
theorem pn_m_apS1 : plainFor (⟨"com/example/beleg/beleg/JsonOutput", "append", "(Ljava/lang/String;)Lcom/example/beleg/beleg/JsonOutput;"⟩ : MethodName) = true := by first | (refine plainFor_of_name ?_; simp [plainName, overriddenIn]; done) | decide +kernel
abbrev Q_m_apS1 (Z : State) (o : Addr) (ch : Addr) (kc : ClassId) (a : Addr) (t : Addr) (kt : ClassId) (bs : List Int32) (cs : List Int32) (h0 : Heap) : Option Value → Heap → List Addr → Prop := fun res h' SN => res = some (.ref o) ∧ SN = [] ∧ Exa Z h' o "com/example/beleg/beleg/JsonOutput" ∧ Fld Z h' o "com/example/beleg/beleg/JsonOutput" "chars" "[C" (.ref ch) ∧ Fld Z h' o "com/example/beleg/beleg/JsonOutput" "length" "I" (.int (255 : Int32)) ∧ Arv Z h' ch kc .char (256 : Int32) (cs.map Value.int) (.int (0 : Int32))
theorem ef_m_apS1 (mid : MethodId) (o : Addr) (ch : Addr) (kc : ClassId) (a : Addr) (t : Addr) (kt : ClassId) (bs : List Int32) (cs : List Int32) : entryFrame mid #[(.ref o), (.ref a)] 2 = mkF mid 0 #[.val (.ref o), .val (.ref a)] [] := by first | (simp [entryFrame, mkF, argsToLocals, Value.category]; done) | rfl
set_option maxRecDepth 65536 in
set_option maxHeartbeats 40000000 in
theorem m_apS1 {l : Launch} {Z : State} {a0 : Array Value} {n0 : Nat} (hw : ∀ d ∈ tables_1, d.before a0 Z = true) (hs : Stat Z) (o : Addr) (ch : Addr) (kc : ClassId) (a : Addr) (t : Addr) (kt : ClassId) (bs : List Int32) (cs : List Int32) (h0 : Heap) (E_o : Exa Z h0 o "com/example/beleg/beleg/JsonOutput") (F_o_chars : Fld Z h0 o "com/example/beleg/beleg/JsonOutput" "chars" "[C" (.ref ch)) (F_o_length : Fld Z h0 o "com/example/beleg/beleg/JsonOutput" "length" "I" (.int (0 : Int32))) (V_ch : Arv Z h0 ch kc .char (256 : Int32) (([] : List Int32).map Value.int) (.int (0 : Int32))) (E_a : Exa Z h0 a "java/lang/String") (F_a_coder : Fld Z h0 a "java/lang/String" "coder" "B" (.int (1 : Int32))) (F_a_value : Fld Z h0 a "java/lang/String" "value" "[B" (.ref t)) (V_t : Arv Z h0 t kt .byte ((255 : Int32) <<< ((1 : Int32) &&& 31)) (bs.map Value.int) (.int (0 : Int32))) (hl : cs.length = 255) (hE : Enc bs cs cs.length) (h16 : ∀ x ∈ cs, ¬ x < 0 ∧ ¬ 65535 < x) (ne_t_ch : t ≠ ch) (ne_ch_o : ch ≠ o) :
    Met l Z EL0 n0 NR0 KN0 N_44 prog_11_method_6_code 2 (Option.some (Jvm.ClassFile.FieldType.object "com/example/beleg/beleg/JsonOutput")) R_m_apS1 [o, ch] #[(.ref o), (.ref a)] h0 (Q_m_apS1 Z o ch kc a t kt bs cs h0) := by
  refine Met.of_go pn_m_apS1 (fun mid => ef_m_apS1 mid o ch kc a t kt bs cs ) ?_
  intro hO hWS
  refine Go.aload_n (pc' := 1) d_prog_11_method_6_0 rfl rfl rfl ?_
  refine Go.aload_n (pc' := 2) d_prog_11_method_6_1 rfl rfl rfl ?_
  refine Go.iconst (pc' := 3) d_prog_11_method_6_2 rfl ic_0 ?_
  refine Go.aload_n (pc' := 4) d_prog_11_method_6_3 rfl rfl rfl ?_
  refine Go.callV (pc' := 7) (u := N_16) (z := N_16) (a := a) d_prog_11_method_6_4 rfl (w_98 hw) (w_84 hw) (nf (w_86 hw) rfl) (w_86 hw) (w_85 hw) (by decide) E_a (argsL := []) (rest := [(.int (0 : Int32)), (.ref a), (.ref o)]) (Pays.of_met (W := 3) (len := 3) (m_ulen hw hs a t kt (255 : Int32) bs h0 E_a F_a_coder F_a_value V_t (by decide) (by decide)) (w_87 hw) (w_4 hw) (by decide) (by decide)) rfl rfl (lenOf pd_19 rfl) rfl (Nat.le_of_eq rfl) mem0 (by decide) (by decide) ?_
  rintro _ _ _ - - ⟨rfl, rfl, rfl⟩
  change Go _ _ _ _ _ _ _ _ _ _ _ _ _ _ [o, ch] h0 0 0 7 #[.val (.ref o), .val (.ref a)] [(.int (255 : Int32)), (.int (0 : Int32)), (.ref a), (.ref o)]
  refine Go.callV (pc' := 10) (u := N_39) (z := N_39) (a := o) d_prog_11_method_6_7 rfl (w_99 hw) (w_100 hw) (nf (w_102 hw) rfl) (w_102 hw) (w_101 hw) (by decide) E_o (argsL := [(.ref a), (.int (0 : Int32)), (.int (255 : Int32))]) (rest := []) (Pays.of_met (W := 0) (len := 3) (m_aps1 hw hs o ch kc a t kt bs cs (255 : Int32) (255 : Int32) h0 E_o F_o_chars F_o_length V_ch E_a F_a_coder F_a_value V_t (by rw [hl]; decide) (by decide) (by rw [hl]; decide) (by decide) (by decide) (by decide) (hE) (h16) ne_t_ch ne_ch_o) (w_103 hw) (w_33 hw) (by decide) (by decide)) rfl rfl (lenOf pd_30 rfl) rfl (Nat.le_of_eq rfl) (memS (List.mem_of_getElem? (i := 0) rfl) (memS (List.mem_of_getElem? (i := 1) rfl) mem0)) (by decide) (by decide) ?_
  rintro _ h196 _ K197 le198 ⟨rfl, rfl, p199, p200, p201, p202⟩
  replace E_o := E_o.keep K197
  replace E_a := E_a.keep K197
  have F_o_chars := p200
  have F_o_length := p201
  have V_ch := p202
  change Go _ _ _ _ _ _ _ _ _ _ _ _ _ _ [o, ch] h196 0 0 10 #[.val (.ref o), .val (.ref a)] [(.ref o)]
  rw [own_take_len (n := (255 : Int32).toNatClampNeg) (by rw [hl]; decide)] at V_ch
  exact Go.retA d_prog_11_method_6_10 rfl rfl rfl (by decide) (by decide) [] sn0 ⟨rfl, rfl, E_o, F_o_chars, F_o_length, V_ch⟩
abbrev Q_m_law (Z : State) (p1 : Int32) (p2 : Int32) (p3 : Int32) (p4 : Int32) (p5 : Int32) (h0 : Heap) : Option Value → Heap → List Addr → Prop := fun res h' SN => res = some (.int (1 : Int32)) ∧ SN = []
set_option maxRecDepth 65536 in
set_option maxHeartbeats 40000000 in
theorem m_lawS0_0 {l : Launch} {Z : State} {a0 : Array Value} {n0 : Nat} (hw : ∀ d ∈ tables_1, d.before a0 Z = true) (hs : Stat Z) (p1 : Int32) (p2 : Int32) (p3 : Int32) (p4 : Int32) (p5 : Int32) (c0 : Int32) (c1 : Int32) (c2 : Int32) (hh : Int32) (tt : Int32) (pad : Addr) (ps : Addr) (o : Addr) (ch : Addr) (kc : ClassId) (h0 h : Heap) (E_o : Exa Z h o "com/example/beleg/beleg/JsonOutput") (F_o_chars : Fld Z h o "com/example/beleg/beleg/JsonOutput" "chars" "[C" (.ref ch)) (F_o_length : Fld Z h o "com/example/beleg/beleg/JsonOutput" "length" "I" (.int (0 : Int32))) (V_ch : Arv Z h ch kc .char (256 : Int32) (([] : List Int32).map Value.int) (.int (0 : Int32))) (hc0 : ¬ c0 < 0 ∧ ¬ 65535 < c0) (hc1 : ¬ c1 < 0 ∧ ¬ 65535 < c1) (hc2 : ¬ c2 < 0 ∧ ¬ 65535 < c2) (ne_ch_o : ch ≠ o) :
    Go l Z EL0 n0 NR0 KN0 x code maxLocals ret room_1 h0 [] (Q_m_law Z p1 p2 p3 p4 p5 h0) [o, ch] h 8 2400 122 #[.val (.int p1), .val (.int p2), .val (.int p3), .val (.int p4), .val (.int p5), .val (.int (0 : Int32)), .val (.int (0 : Int32)), .val (.int c0), .val (.int c1), .val (.int c2), .val (.int hh), .val (.int tt), .val (.ref pad), .val (.ref ps), .val (.ref o), .val (.int (0 : Int32)), .unset, .unset] [] := by
  refine Go.iload (pc' := 124) at_122 rfl rfl ?_
  refine Go.iconst (pc' := 125) at_124 rfl ic_1 ?_
  have q16_0 : ∀ x ∈ ([] : List Int32), ¬ x < 0 ∧ ¬ 65535 < x := fun x hx => absurd hx (by simp)
  have hK0 : ([] : List Int32).length = 0 := rfl
  refine Go.icmpY (pc' := 136) at_125 (by decide) (by decide) (tlt (by decide : (0 : Int32) < (1 : Int32))).1 ?_
  refine Go.iload (pc' := 138) at_136 rfl rfl ?_
  refine Go.iconst (pc' := 139) at_138 rfl ic_2 ?_
  refine Go.icmpY (pc' := 150) at_139 (by decide) (by decide) (tlt (by decide : (0 : Int32) < (2 : Int32))).1 ?_
  refine Go.iload (pc' := 152) at_150 rfl rfl ?_
  refine Go.iconst (pc' := 153) at_152 rfl ic_3 ?_
  refine Go.icmpY (pc' := 164) at_153 (by decide) (by decide) (tlt (by decide : (0 : Int32) < (3 : Int32))).1 ?_
  refine Go.aload (pc' := 166) at_164 rfl rfl rfl ?_
  refine Go.callV (pc' := 169) (u := N_41) (z := N_41) (a := o) at_166 rfl (w_43 hw) (w_44 hw) (nf (w_46 hw) rfl) (w_46 hw) (w_45 hw) (by decide) E_o (argsL := []) (rest := []) (Pays.of_met (W := 0) (len := 3) (m_jstr0 hw hs o ch kc ([] : List Int32) (256 : Int32) h E_o F_o_chars F_o_length V_ch (by decide)) (w_47 hw) (w_33 hw) (by decide) (by decide)) rfl rfl (lenOf pd_31 rfl) rfl (Nat.le_of_eq rfl) mem0 (by decide) (by decide) ?_
  rintro _ h206 _ K207 le208 ⟨b203, b204, q205, rfl, rfl, p209, p210, p211, p212⟩
  replace E_o := E_o.keep K207
  replace F_o_chars := F_o_chars.keep K207 nin0
  replace F_o_length := F_o_length.keep K207 nin0
  replace V_ch := V_ch.keep K207 nin0
  have E_b203 := p209
  have F_b203_coder := p210
  have F_b203_value := p211
  have V_b204 := p212
  change Go _ _ _ _ _ _ _ _ _ _ _ _ _ _ [o, ch] h206 13 2412 169 #[.val (.int p1), .val (.int p2), .val (.int p3), .val (.int p4), .val (.int p5), .val (.int (0 : Int32)), .val (.int (0 : Int32)), .val (.int c0), .val (.int c1), .val (.int c2), .val (.int hh), .val (.int tt), .val (.ref pad), .val (.ref ps), .val (.ref o), .val (.int (0 : Int32)), .unset, .unset] [(.ref b203)]
  replace V_b204 : Arv Z h206 b204 q205 .byte (0 : Int32) (([] : List Int32).map lowV) (.int (0 : Int32)) := V_b204
  have hA_b203 : ∀ x ∈ ([] : List Int32), ¬ 255 < x := fun x hx => absurd hx (by simp)
  refine Go.astore (pc' := 171) (Ls' := #[.val (.int p1), .val (.int p2), .val (.int p3), .val (.int p4), .val (.int p5), .val (.int (0 : Int32)), .val (.int (0 : Int32)), .val (.int c0), .val (.int c1), .val (.int c2), .val (.int hh), .val (.int tt), .val (.ref pad), .val (.ref ps), .val (.ref o), .val (.int (0 : Int32)), .val (.ref b203), .unset]) at_169 rfl rfl rfl ?_
  refine Go.aload (pc' := 173) at_171 rfl rfl rfl ?_
  refine Go.callV (pc' := 176) (u := N_41) (z := N_41) (a := o) at_173 rfl (w_43 hw) (w_44 hw) (nf (w_46 hw) rfl) (w_46 hw) (w_45 hw) (by decide) E_o (argsL := []) (rest := []) (Pays.of_met (W := 0) (len := 3) (m_jstr0 hw hs o ch kc ([] : List Int32) (256 : Int32) h206 E_o F_o_chars F_o_length V_ch (by decide)) (w_47 hw) (w_33 hw) (by decide) (by decide)) rfl rfl (lenOf pd_31 rfl) rfl (Nat.le_of_eq rfl) mem0 (by decide) (by decide) ?_
  rintro _ h216 _ K217 le218 ⟨b213, b214, q215, rfl, rfl, p219, p220, p221, p222⟩
  replace E_o := E_o.keep K217
  replace F_o_chars := F_o_chars.keep K217 nin0
  replace F_o_length := F_o_length.keep K217 nin0
  replace V_ch := V_ch.keep K217 nin0
  replace E_b203 := E_b203.keep K217
  replace F_b203_coder := F_b203_coder.keep K217 nin0
  replace F_b203_value := F_b203_value.keep K217 nin0
  replace V_b204 := V_b204.keep K217 nin0
  have E_b213 := p219
  have F_b213_coder := p220
  have F_b213_value := p221
  have V_b214 := p222
  change Go _ _ _ _ _ _ _ _ _ _ _ _ _ _ [o, ch] h216 18 2424 176 #[.val (.int p1), .val (.int p2), .val (.int p3), .val (.int p4), .val (.int p5), .val (.int (0 : Int32)), .val (.int (0 : Int32)), .val (.int c0), .val (.int c1), .val (.int c2), .val (.int hh), .val (.int tt), .val (.ref pad), .val (.ref ps), .val (.ref o), .val (.int (0 : Int32)), .val (.ref b203), .unset] [(.ref b213)]
  replace V_b214 : Arv Z h216 b214 q215 .byte (0 : Int32) (([] : List Int32).map lowV) (.int (0 : Int32)) := V_b214
  have hA_b213 : ∀ x ∈ ([] : List Int32), ¬ 255 < x := fun x hx => absurd hx (by simp)
  refine Go.astore (pc' := 178) (Ls' := #[.val (.int p1), .val (.int p2), .val (.int p3), .val (.int p4), .val (.int p5), .val (.int (0 : Int32)), .val (.int (0 : Int32)), .val (.int c0), .val (.int c1), .val (.int c2), .val (.int hh), .val (.int tt), .val (.ref pad), .val (.ref ps), .val (.ref o), .val (.int (0 : Int32)), .val (.ref b203), .val (.ref b213)]) at_176 rfl rfl rfl ?_
  refine Go.aload (pc' := 180) at_178 rfl rfl rfl ?_
  refine Go.aload (pc' := 182) at_180 rfl rfl rfl ?_
  have W_b203 := V_b204
  rw [own_low_map] at W_b203
  have W_b213 := V_b214
  rw [own_low_map] at W_b213
  refine Go.callV (pc' := 185) (u := N_43) (z := N_43) (a := b203) at_182 rfl (w_68 hw) (w_69 hw) (nf (w_71 hw) rfl) (w_71 hw) (w_70 hw) (by decide) E_b203 (argsL := [(.ref b213)]) (rest := []) (Pays.of_met (W := 0) (len := 3) (m_seq0 hw hs b203 b213 b204 b214 q205 q215 (([] : List Int32).map (fun c => c.toInt8.toInt32)) (([] : List Int32).map (fun c => c.toInt8.toInt32)) (0 : Int32) (0 : Int32) h216 E_b203 F_b203_coder F_b203_value W_b203 E_b213 F_b213_coder F_b213_value W_b213 (by rw [List.length_map]; rfl) (by rw [List.length_map]; rfl)) (w_72 hw) (w_4 hw) (by decide) (by decide)) rfl rfl (lenOf pd_32 rfl) rfl (Nat.le_of_eq rfl) mem0 (by decide) (by decide) ?_
  rintro _ _ _ - - ⟨rfl, rfl, rfl⟩
  change Go _ _ _ _ _ _ _ _ _ _ _ _ _ _ [o, ch] h216 18 2424 185 #[.val (.int p1), .val (.int p2), .val (.int p3), .val (.int p4), .val (.int p5), .val (.int (0 : Int32)), .val (.int (0 : Int32)), .val (.int c0), .val (.int c1), .val (.int c2), .val (.int hh), .val (.int tt), .val (.ref pad), .val (.ref ps), .val (.ref o), .val (.int (0 : Int32)), .val (.ref b203), .val (.ref b213)] [(.int (own_eqb (([] : List Int32).map (fun c => c.toInt8.toInt32)) (([] : List Int32).map (fun c => c.toInt8.toInt32))))]
  rw [own_eqb_pos rfl]
  refine Go.ifY (pc' := 190) at_185 (by decide) (by decide) ((if0 _ _).trans (feq (by decide : ¬ ((1 : Int32) = (0 : Int32)))).2) ?_
  refine Go.aload (pc' := 192) at_190 rfl rfl rfl ?_
  refine Go.callV (pc' := 195) (u := N_40) (z := N_40) (a := o) at_192 rfl (w_78 hw) (w_79 hw) (nf (w_81 hw) rfl) (w_81 hw) (w_80 hw) (by decide) E_o (argsL := []) (rest := []) (Pays.of_met (W := 0) (len := 3) (m_jlen hw hs o (0 : Int32) h216 F_o_length) (w_82 hw) (w_33 hw) (by decide) (by decide)) rfl rfl (lenOf pd_19 rfl) rfl (Nat.le_of_eq rfl) mem0 (by decide) (by decide) ?_
  rintro _ _ _ - - ⟨rfl, rfl, rfl⟩
  change Go _ _ _ _ _ _ _ _ _ _ _ _ _ _ [o, ch] h216 18 2424 195 #[.val (.int p1), .val (.int p2), .val (.int p3), .val (.int p4), .val (.int p5), .val (.int (0 : Int32)), .val (.int (0 : Int32)), .val (.int c0), .val (.int c1), .val (.int c2), .val (.int hh), .val (.int tt), .val (.ref pad), .val (.ref ps), .val (.ref o), .val (.int (0 : Int32)), .val (.ref b203), .val (.ref b213)] [(.int (0 : Int32))]
  refine Go.iload (pc' := 197) at_195 rfl rfl ?_
  refine Go.iload (pc' := 199) at_197 rfl rfl ?_
  refine Go.iadd (pc' := 200) at_199 rfl ?_
  rw [show ((0 : Int32) + (0 : Int32)) = (0 : Int32) from by decide]
  refine Go.icmpY (pc' := 205) at_200 (by decide) (by decide) (teq (rfl : (0 : Int32) = (0 : Int32))).1 ?_
  refine Go.aload (pc' := 207) at_205 rfl rfl rfl ?_
  refine Go.callV (pc' := 210) (u := N_16) (z := N_16) (a := b203) at_207 rfl (w_83 hw) (w_84 hw) (nf (w_86 hw) rfl) (w_86 hw) (w_85 hw) (by decide) E_b203 (argsL := []) (rest := []) (Pays.of_met (W := 0) (len := 3) (m_length hw hs b203 b204 q205 (0 : Int32) (([] : List Int32).map lowV) h216 E_b203 F_b203_coder F_b203_value V_b204) (w_87 hw) (w_4 hw) (by decide) (by decide)) rfl rfl (lenOf pd_19 rfl) rfl (Nat.le_of_eq rfl) mem0 (by decide) (by decide) ?_
  rintro _ _ _ - - ⟨rfl, rfl, rfl⟩
  change Go _ _ _ _ _ _ _ _ _ _ _ _ _ _ [o, ch] h216 18 2424 210 #[.val (.int p1), .val (.int p2), .val (.int p3), .val (.int p4), .val (.int p5), .val (.int (0 : Int32)), .val (.int (0 : Int32)), .val (.int c0), .val (.int c1), .val (.int c2), .val (.int hh), .val (.int tt), .val (.ref pad), .val (.ref ps), .val (.ref o), .val (.int (0 : Int32)), .val (.ref b203), .val (.ref b213)] [(.int (0 : Int32))]
  refine Go.iload (pc' := 212) at_210 rfl rfl ?_
  refine Go.iload (pc' := 214) at_212 rfl rfl ?_
  refine Go.iadd (pc' := 215) at_214 rfl ?_
  rw [show ((0 : Int32) + (0 : Int32)) = (0 : Int32) from by decide]
  refine Go.icmpY (pc' := 220) at_215 (by decide) (by decide) (teq (rfl : (0 : Int32) = (0 : Int32))).1 ?_
  refine Go.iload (pc' := 222) at_220 rfl rfl ?_
  refine Go.ifY (pc' := 260) at_222 (by decide) (by decide) ((if0 _ _).trans (teq (rfl : (0 : Int32) = (0 : Int32))).1) ?_
  refine Go.iload (pc' := 262) at_260 rfl rfl ?_
  refine Go.iconst (pc' := 263) at_262 rfl ic_1 ?_
  refine Go.icmpY (pc' := 280) at_263 (by decide) (by decide) (tlt (by decide : (0 : Int32) < (1 : Int32))).1 ?_
  refine Go.iload (pc' := 282) at_280 rfl rfl ?_
  refine Go.iconst (pc' := 283) at_282 rfl ic_2 ?_
  refine Go.icmpY (pc' := 302) at_283 (by decide) (by decide) (tlt (by decide : (0 : Int32) < (2 : Int32))).1 ?_
  refine Go.iload (pc' := 304) at_302 rfl rfl ?_
  refine Go.iconst (pc' := 305) at_304 rfl ic_3 ?_
  refine Go.icmpY (pc' := 324) at_305 (by decide) (by decide) (tlt (by decide : (0 : Int32) < (3 : Int32))).1 ?_
  refine Go.iconst (pc' := 325) at_324 rfl ic_1 ?_
  exact Go.retS (ty := .boolean) at_325 rfl (by simp) rfl (by decide) (by decide) [] sn0 ⟨rfl, rfl⟩
set_option maxRecDepth 65536 in
set_option maxHeartbeats 40000000 in
theorem m_lawS0_1 {l : Launch} {Z : State} {a0 : Array Value} {n0 : Nat} (hw : ∀ d ∈ tables_1, d.before a0 Z = true) (hs : Stat Z) (p1 : Int32) (p2 : Int32) (p3 : Int32) (p4 : Int32) (p5 : Int32) (c0 : Int32) (c1 : Int32) (c2 : Int32) (hh : Int32) (tt : Int32) (pad : Addr) (ps : Addr) (o : Addr) (ch : Addr) (kc : ClassId) (h0 h : Heap) (E_o : Exa Z h o "com/example/beleg/beleg/JsonOutput") (F_o_chars : Fld Z h o "com/example/beleg/beleg/JsonOutput" "chars" "[C" (.ref ch)) (F_o_length : Fld Z h o "com/example/beleg/beleg/JsonOutput" "length" "I" (.int (0 : Int32))) (V_ch : Arv Z h ch kc .char (256 : Int32) (([] : List Int32).map Value.int) (.int (0 : Int32))) (hc0 : ¬ c0 < 0 ∧ ¬ 65535 < c0) (hc1 : ¬ c1 < 0 ∧ ¬ 65535 < c1) (hc2 : ¬ c2 < 0 ∧ ¬ 65535 < c2) (ne_ch_o : ch ≠ o) :
    Go l Z EL0 n0 NR0 KN0 x code maxLocals ret room_1 h0 [] (Q_m_law Z p1 p2 p3 p4 p5 h0) [o, ch] h 8 2400 122 #[.val (.int p1), .val (.int p2), .val (.int p3), .val (.int p4), .val (.int p5), .val (.int (1 : Int32)), .val (.int (0 : Int32)), .val (.int c0), .val (.int c1), .val (.int c2), .val (.int hh), .val (.int tt), .val (.ref pad), .val (.ref ps), .val (.ref o), .val (.int (0 : Int32)), .unset, .unset] [] := by
  refine Go.iload (pc' := 124) at_122 rfl rfl ?_
  refine Go.iconst (pc' := 125) at_124 rfl ic_1 ?_
  have q16_0 : ∀ x ∈ ([] : List Int32), ¬ x < 0 ∧ ¬ 65535 < x := fun x hx => absurd hx (by simp)
  have hK0 : ([] : List Int32).length = 0 := rfl
  refine Go.icmpN (pc' := 128) at_125 rfl (flt (by decide : ¬ ((1 : Int32) < (1 : Int32)))).1 ?_
  refine Go.aload (pc' := 130) at_128 rfl rfl rfl ?_
  refine Go.iload (pc' := 132) at_130 rfl rfl ?_
  refine Go.callV (pc' := 135) (u := N_38) (z := N_38) (a := o) at_132 rfl (w_131 hw) (w_132 hw) (nf (w_134 hw) rfl) (w_134 hw) (w_133 hw) (by decide) E_o (argsL := [(.int c0)]) (rest := []) (Pays.of_met (W := 0) (len := 3) (m_apc hw hs o ch kc ([] : List Int32) c0 (256 : Int32) (0 : Int32) h E_o F_o_chars F_o_length V_ch (by rw [hK0]; decide) (by decide) (by decide) (hc0) ne_ch_o) (w_135 hw) (w_33 hw) (by decide) (by decide)) rfl rfl (lenOf pd_33 rfl) rfl (Nat.le_of_eq rfl) (memS (List.mem_of_getElem? (i := 0) rfl) (memS (List.mem_of_getElem? (i := 1) rfl) mem0)) (by decide) (by decide) ?_
  rintro _ h223 _ K224 le225 ⟨rfl, rfl, p226, p227, p228, p229⟩
  replace E_o := E_o.keep K224
  have F_o_chars := p227
  have F_o_length := p228
  have V_ch := p229
  change Go _ _ _ _ _ _ _ _ _ _ _ _ _ _ [o, ch] h223 8 2400 135 #[.val (.int p1), .val (.int p2), .val (.int p3), .val (.int p4), .val (.int p5), .val (.int (1 : Int32)), .val (.int (0 : Int32)), .val (.int c0), .val (.int c1), .val (.int c2), .val (.int hh), .val (.int tt), .val (.ref pad), .val (.ref ps), .val (.ref o), .val (.int (0 : Int32)), .unset, .unset] [(.ref o)]
  rw [show ((0 : Int32) + (1 : Int32)) = (1 : Int32) from by decide] at F_o_length
  refine Go.pop (pc' := 136) at_135 rfl rfl ?_
  refine Go.iload (pc' := 138) at_136 rfl rfl ?_
  refine Go.iconst (pc' := 139) at_138 rfl ic_2 ?_
  have hL1 : (([] : List Int32) ++ [c0]).length = 1 := by rw [List.length_append, hK0]; rfl
  have q16_1 := own_ap_all q16_0 hc0
  refine Go.icmpY (pc' := 150) at_139 (by decide) (by decide) (tlt (by decide : (1 : Int32) < (2 : Int32))).1 ?_
  refine Go.iload (pc' := 152) at_150 rfl rfl ?_
  refine Go.iconst (pc' := 153) at_152 rfl ic_3 ?_
  refine Go.icmpY (pc' := 164) at_153 (by decide) (by decide) (tlt (by decide : (1 : Int32) < (3 : Int32))).1 ?_
  refine Go.aload (pc' := 166) at_164 rfl rfl rfl ?_
  refine Go.callV (pc' := 169) (u := N_41) (z := N_41) (a := o) at_166 rfl (w_43 hw) (w_44 hw) (nf (w_46 hw) rfl) (w_46 hw) (w_45 hw) (by decide) E_o (argsL := []) (rest := []) (Pays.of_met (W := 0) (len := 3) (m_jstr hw hs o ch kc (([] : List Int32) ++ [c0]) (256 : Int32) (1 : Int32) h223 E_o F_o_chars F_o_length V_ch (by rw [hL1]; decide) (by decide) (by decide) (by decide) (q16_1) (by decide)) (w_47 hw) (w_33 hw) (by decide) (by decide)) rfl rfl (lenOf pd_31 rfl) rfl (Nat.le_of_eq rfl) mem0 (by decide) (by decide) ?_
  rintro _ h233 _ K234 le235 ⟨b230, b231, q232, rfl, rfl, p236, p237, p238, p239⟩
  have o_o_b230 : o ≠ b230 := Nat.ne_of_lt (Nat.lt_of_lt_of_le E_o.lt p237)
  have o_ch_b230 : ch ≠ b230 := Nat.ne_of_lt (Nat.lt_of_lt_of_le V_ch.lt p237)
  have ge_b230 := Nat.le_trans le235 p237
  have o_o_b231 : o ≠ b231 := Nat.ne_of_lt (Nat.lt_of_lt_of_le E_o.lt p238)
  have o_ch_b231 : ch ≠ b231 := Nat.ne_of_lt (Nat.lt_of_lt_of_le V_ch.lt p238)
  have ge_b231 := Nat.le_trans le235 p238
  replace E_o := E_o.keep K234
  replace F_o_chars := F_o_chars.keep K234 nin0
  replace F_o_length := F_o_length.keep K234 nin0
  replace V_ch := V_ch.keep K234 nin0
  have E_b230 := p236
  change Go _ _ _ _ _ _ _ _ _ _ _ _ _ _ [o, ch] h233 11 3178 169 #[.val (.int p1), .val (.int p2), .val (.int p3), .val (.int p4), .val (.int p5), .val (.int (1 : Int32)), .val (.int (0 : Int32)), .val (.int c0), .val (.int c1), .val (.int c2), .val (.int hh), .val (.int tt), .val (.ref pad), .val (.ref ps), .val (.ref o), .val (.int (0 : Int32)), .unset, .unset] [(.ref b230)]
  rcases p239 with ⟨Fc_b230, Fv_b230, Vt_b230, hA_b230⟩ | ⟨Fc_b230, Fv_b230, bs_b230, Vt_b230, hE_b230, hX_b230⟩
  · skip
    refine Go.astore (pc' := 171) (Ls' := #[.val (.int p1), .val (.int p2), .val (.int p3), .val (.int p4), .val (.int p5), .val (.int (1 : Int32)), .val (.int (0 : Int32)), .val (.int c0), .val (.int c1), .val (.int c2), .val (.int hh), .val (.int tt), .val (.ref pad), .val (.ref ps), .val (.ref o), .val (.int (0 : Int32)), .val (.ref b230), .unset]) at_169 rfl rfl rfl ?_
    refine Go.aload (pc' := 173) at_171 rfl rfl rfl ?_
    refine Go.callV (pc' := 176) (u := N_41) (z := N_41) (a := o) at_173 rfl (w_43 hw) (w_44 hw) (nf (w_46 hw) rfl) (w_46 hw) (w_45 hw) (by decide) E_o (argsL := []) (rest := []) (Pays.of_met (W := 0) (len := 3) (m_jstr hw hs o ch kc (([] : List Int32) ++ [c0]) (256 : Int32) (1 : Int32) h233 E_o F_o_chars F_o_length V_ch (by rw [hL1]; decide) (by decide) (by decide) (by decide) (q16_1) (by decide)) (w_47 hw) (w_33 hw) (by decide) (by decide)) rfl rfl (lenOf pd_31 rfl) rfl (Nat.le_of_eq rfl) mem0 (by decide) (by decide) ?_
    rintro _ h243 _ K244 le245 ⟨b240, b241, q242, rfl, rfl, p246, p247, p248, p249⟩
    have o_o_b240 : o ≠ b240 := Nat.ne_of_lt (Nat.lt_of_lt_of_le E_o.lt p247)
    have o_ch_b240 : ch ≠ b240 := Nat.ne_of_lt (Nat.lt_of_lt_of_le V_ch.lt p247)
    have o_b230_b240 : b230 ≠ b240 := Nat.ne_of_lt (Nat.lt_of_lt_of_le E_b230.lt p247)
    have o_b231_b240 : b231 ≠ b240 := Nat.ne_of_lt (Nat.lt_of_lt_of_le Vt_b230.lt p247)
    have ge_b240 := Nat.le_trans le245 p247
    have o_o_b241 : o ≠ b241 := Nat.ne_of_lt (Nat.lt_of_lt_of_le E_o.lt p248)
    have o_ch_b241 : ch ≠ b241 := Nat.ne_of_lt (Nat.lt_of_lt_of_le V_ch.lt p248)
    have o_b230_b241 : b230 ≠ b241 := Nat.ne_of_lt (Nat.lt_of_lt_of_le E_b230.lt p248)
    have o_b231_b241 : b231 ≠ b241 := Nat.ne_of_lt (Nat.lt_of_lt_of_le Vt_b230.lt p248)
    have ge_b241 := Nat.le_trans le245 p248
    replace E_o := E_o.keep K244
    replace F_o_chars := F_o_chars.keep K244 nin0
    replace F_o_length := F_o_length.keep K244 nin0
    replace V_ch := V_ch.keep K244 nin0
    replace E_b230 := E_b230.keep K244
    replace Fc_b230 := Fc_b230.keep K244 nin0
    replace Fv_b230 := Fv_b230.keep K244 nin0
    replace Vt_b230 := Vt_b230.keep K244 nin0
    have E_b240 := p246
    change Go _ _ _ _ _ _ _ _ _ _ _ _ _ _ [o, ch] h243 14 3956 176 #[.val (.int p1), .val (.int p2), .val (.int p3), .val (.int p4), .val (.int p5), .val (.int (1 : Int32)), .val (.int (0 : Int32)), .val (.int c0), .val (.int c1), .val (.int c2), .val (.int hh), .val (.int tt), .val (.ref pad), .val (.ref ps), .val (.ref o), .val (.int (0 : Int32)), .val (.ref b230), .unset] [(.ref b240)]
    rcases p249 with ⟨Fc_b240, Fv_b240, Vt_b240, hA_b240⟩ | ⟨Fc_b240, Fv_b240, bs_b240, Vt_b240, hE_b240, hX_b240⟩
    · skip
      refine Go.astore (pc' := 178) (Ls' := #[.val (.int p1), .val (.int p2), .val (.int p3), .val (.int p4), .val (.int p5), .val (.int (1 : Int32)), .val (.int (0 : Int32)), .val (.int c0), .val (.int c1), .val (.int c2), .val (.int hh), .val (.int tt), .val (.ref pad), .val (.ref ps), .val (.ref o), .val (.int (0 : Int32)), .val (.ref b230), .val (.ref b240)]) at_176 rfl rfl rfl ?_
      refine Go.aload (pc' := 180) at_178 rfl rfl rfl ?_
      refine Go.aload (pc' := 182) at_180 rfl rfl rfl ?_
      have W_b230 := Vt_b230
      rw [own_low_map] at W_b230
      have W_b240 := Vt_b240
      rw [own_low_map] at W_b240
      refine Go.callV (pc' := 185) (u := N_43) (z := N_43) (a := b230) at_182 rfl (w_68 hw) (w_69 hw) (nf (w_71 hw) rfl) (w_71 hw) (w_70 hw) (by decide) E_b230 (argsL := [(.ref b240)]) (rest := []) (Pays.of_met (W := 0) (len := 3) (m_seq0 hw hs b230 b240 b231 b241 q232 q242 ((([] : List Int32) ++ [c0]).map (fun c => c.toInt8.toInt32)) ((([] : List Int32) ++ [c0]).map (fun c => c.toInt8.toInt32)) (1 : Int32) (1 : Int32) h243 E_b230 Fc_b230 Fv_b230 W_b230 E_b240 Fc_b240 Fv_b240 W_b240 (by rw [List.length_map]; rw [hL1]; decide) (by rw [List.length_map]; rw [hL1]; decide)) (w_72 hw) (w_4 hw) (by decide) (by decide)) rfl rfl (lenOf pd_32 rfl) rfl (Nat.le_of_eq rfl) mem0 (by decide) (by decide) ?_
      rintro _ _ _ - - ⟨rfl, rfl, rfl⟩
      change Go _ _ _ _ _ _ _ _ _ _ _ _ _ _ [o, ch] h243 14 3956 185 #[.val (.int p1), .val (.int p2), .val (.int p3), .val (.int p4), .val (.int p5), .val (.int (1 : Int32)), .val (.int (0 : Int32)), .val (.int c0), .val (.int c1), .val (.int c2), .val (.int hh), .val (.int tt), .val (.ref pad), .val (.ref ps), .val (.ref o), .val (.int (0 : Int32)), .val (.ref b230), .val (.ref b240)] [(.int (own_eqb ((([] : List Int32) ++ [c0]).map (fun c => c.toInt8.toInt32)) ((([] : List Int32) ++ [c0]).map (fun c => c.toInt8.toInt32))))]
      rw [own_eqb_pos rfl]
      refine Go.ifY (pc' := 190) at_185 (by decide) (by decide) ((if0 _ _).trans (feq (by decide : ¬ ((1 : Int32) = (0 : Int32)))).2) ?_
      refine Go.aload (pc' := 192) at_190 rfl rfl rfl ?_
      refine Go.callV (pc' := 195) (u := N_40) (z := N_40) (a := o) at_192 rfl (w_78 hw) (w_79 hw) (nf (w_81 hw) rfl) (w_81 hw) (w_80 hw) (by decide) E_o (argsL := []) (rest := []) (Pays.of_met (W := 0) (len := 3) (m_jlen hw hs o (1 : Int32) h243 F_o_length) (w_82 hw) (w_33 hw) (by decide) (by decide)) rfl rfl (lenOf pd_19 rfl) rfl (Nat.le_of_eq rfl) mem0 (by decide) (by decide) ?_
      rintro _ _ _ - - ⟨rfl, rfl, rfl⟩
      change Go _ _ _ _ _ _ _ _ _ _ _ _ _ _ [o, ch] h243 14 3956 195 #[.val (.int p1), .val (.int p2), .val (.int p3), .val (.int p4), .val (.int p5), .val (.int (1 : Int32)), .val (.int (0 : Int32)), .val (.int c0), .val (.int c1), .val (.int c2), .val (.int hh), .val (.int tt), .val (.ref pad), .val (.ref ps), .val (.ref o), .val (.int (0 : Int32)), .val (.ref b230), .val (.ref b240)] [(.int (1 : Int32))]
      refine Go.iload (pc' := 197) at_195 rfl rfl ?_
      refine Go.iload (pc' := 199) at_197 rfl rfl ?_
      refine Go.iadd (pc' := 200) at_199 rfl ?_
      rw [show ((0 : Int32) + (1 : Int32)) = (1 : Int32) from by decide]
      refine Go.icmpY (pc' := 205) at_200 (by decide) (by decide) (teq (rfl : (1 : Int32) = (1 : Int32))).1 ?_
      refine Go.aload (pc' := 207) at_205 rfl rfl rfl ?_
      refine Go.callV (pc' := 210) (u := N_16) (z := N_16) (a := b230) at_207 rfl (w_83 hw) (w_84 hw) (nf (w_86 hw) rfl) (w_86 hw) (w_85 hw) (by decide) E_b230 (argsL := []) (rest := []) (Pays.of_met (W := 0) (len := 3) (m_length hw hs b230 b231 q232 (1 : Int32) ((([] : List Int32) ++ [c0]).map lowV) h243 E_b230 Fc_b230 Fv_b230 Vt_b230) (w_87 hw) (w_4 hw) (by decide) (by decide)) rfl rfl (lenOf pd_19 rfl) rfl (Nat.le_of_eq rfl) mem0 (by decide) (by decide) ?_
      rintro _ _ _ - - ⟨rfl, rfl, rfl⟩
      change Go _ _ _ _ _ _ _ _ _ _ _ _ _ _ [o, ch] h243 14 3956 210 #[.val (.int p1), .val (.int p2), .val (.int p3), .val (.int p4), .val (.int p5), .val (.int (1 : Int32)), .val (.int (0 : Int32)), .val (.int c0), .val (.int c1), .val (.int c2), .val (.int hh), .val (.int tt), .val (.ref pad), .val (.ref ps), .val (.ref o), .val (.int (0 : Int32)), .val (.ref b230), .val (.ref b240)] [(.int (1 : Int32))]
      refine Go.iload (pc' := 212) at_210 rfl rfl ?_
      refine Go.iload (pc' := 214) at_212 rfl rfl ?_
      refine Go.iadd (pc' := 215) at_214 rfl ?_
      rw [show ((0 : Int32) + (1 : Int32)) = (1 : Int32) from by decide]
      refine Go.icmpY (pc' := 220) at_215 (by decide) (by decide) (teq (rfl : (1 : Int32) = (1 : Int32))).1 ?_
      refine Go.iload (pc' := 222) at_220 rfl rfl ?_
      refine Go.ifY (pc' := 260) at_222 (by decide) (by decide) ((if0 _ _).trans (teq (rfl : (0 : Int32) = (0 : Int32))).1) ?_
      refine Go.iload (pc' := 262) at_260 rfl rfl ?_
      refine Go.iconst (pc' := 263) at_262 rfl ic_1 ?_
      refine Go.icmpN (pc' := 266) at_263 rfl (flt (by decide : ¬ ((1 : Int32) < (1 : Int32)))).1 ?_
      refine Go.aload (pc' := 268) at_266 rfl rfl rfl ?_
      refine Go.iload (pc' := 270) at_268 rfl rfl ?_
      refine Go.callV (pc' := 273) (u := N_20) (z := N_20) (a := b230) at_270 rfl (w_156 hw) (w_157 hw) (nf (w_159 hw) rfl) (w_159 hw) (w_158 hw) (by decide) E_b230 (argsL := [(.int (0 : Int32))]) (rest := []) (Pays.of_met (W := 0) (len := 3) (m_charAt hw hs b230 b231 q232 (1 : Int32) ((([] : List Int32) ++ [c0]).map lowV) (0 : Int32) ((([] : List Int32) ++ [c0]).getD (0 : Int32).toNatClampNeg 0).toInt8.toInt32 h243 E_b230 Fc_b230 Fv_b230 Vt_b230 (by decide) (getD_low (([] : List Int32) ++ [c0]) _ (by rw [hL1]; decide))) (w_160 hw) (w_4 hw) (by decide) (by decide)) rfl rfl (lenOf pd_34 rfl) rfl (Nat.le_of_eq rfl) mem0 (by decide) (by decide) ?_
      rintro _ _ _ - - ⟨rfl, rfl, rfl⟩
      change Go _ _ _ _ _ _ _ _ _ _ _ _ _ _ [o, ch] h243 14 3956 273 #[.val (.int p1), .val (.int p2), .val (.int p3), .val (.int p4), .val (.int p5), .val (.int (1 : Int32)), .val (.int (0 : Int32)), .val (.int c0), .val (.int c1), .val (.int c2), .val (.int hh), .val (.int tt), .val (.ref pad), .val (.ref ps), .val (.ref o), .val (.int (0 : Int32)), .val (.ref b230), .val (.ref b240)] [(.int (((([] : List Int32) ++ [c0]).getD (0 : Int32).toNatClampNeg 0).toInt8.toInt32 &&& (255 : Int32)).toUInt32.toUInt16.toUInt32.toInt32)]
      have mm := getD_mem (P := fun x => ¬ x < 0 ∧ ¬ 255 < x) (fun x hx => ⟨(q16_1 x hx).1, hA_b230 x hx⟩) (i := (0 : Int32).toNatClampNeg) (by rw [hL1]; decide)
      rw [own_lowback mm.1 mm.2]
      rw [show (0 : Int32).toNatClampNeg = 0 from by decide, (own_ap_eq (by rw [hK0]) : (([] : List Int32) ++ [c0]).getD 0 0 = c0)]
      refine Go.iload (pc' := 275) at_273 rfl rfl ?_
      refine Go.icmpY (pc' := 280) at_275 (by decide) (by decide) (teq (rfl : c0 = c0)).1 ?_
      refine Go.iload (pc' := 282) at_280 rfl rfl ?_
      refine Go.iconst (pc' := 283) at_282 rfl ic_2 ?_
      refine Go.icmpY (pc' := 302) at_283 (by decide) (by decide) (tlt (by decide : (1 : Int32) < (2 : Int32))).1 ?_
      refine Go.iload (pc' := 304) at_302 rfl rfl ?_
      refine Go.iconst (pc' := 305) at_304 rfl ic_3 ?_
      refine Go.icmpY (pc' := 324) at_305 (by decide) (by decide) (tlt (by decide : (1 : Int32) < (3 : Int32))).1 ?_
      refine Go.iconst (pc' := 325) at_324 rfl ic_1 ?_
      exact Go.retS (ty := .boolean) at_325 rfl (by simp) rfl (by decide) (by decide) [] sn0 ⟨rfl, rfl⟩
    · skip
      exact False.elim (by obtain ⟨y, y1, y2⟩ := hX_b240; exact hA_b230 y y1 y2)
  · skip
    refine Go.astore (pc' := 171) (Ls' := #[.val (.int p1), .val (.int p2), .val (.int p3), .val (.int p4), .val (.int p5), .val (.int (1 : Int32)), .val (.int (0 : Int32)), .val (.int c0), .val (.int c1), .val (.int c2), .val (.int hh), .val (.int tt), .val (.ref pad), .val (.ref ps), .val (.ref o), .val (.int (0 : Int32)), .val (.ref b230), .unset]) at_169 rfl rfl rfl ?_
    refine Go.aload (pc' := 173) at_171 rfl rfl rfl ?_
    refine Go.callV (pc' := 176) (u := N_41) (z := N_41) (a := o) at_173 rfl (w_43 hw) (w_44 hw) (nf (w_46 hw) rfl) (w_46 hw) (w_45 hw) (by decide) E_o (argsL := []) (rest := []) (Pays.of_met (W := 0) (len := 3) (m_jstr hw hs o ch kc (([] : List Int32) ++ [c0]) (256 : Int32) (1 : Int32) h233 E_o F_o_chars F_o_length V_ch (by rw [hL1]; decide) (by decide) (by decide) (by decide) (q16_1) (by decide)) (w_47 hw) (w_33 hw) (by decide) (by decide)) rfl rfl (lenOf pd_31 rfl) rfl (Nat.le_of_eq rfl) mem0 (by decide) (by decide) ?_
    rintro _ h253 _ K254 le255 ⟨b250, b251, q252, rfl, rfl, p256, p257, p258, p259⟩
    have o_o_b250 : o ≠ b250 := Nat.ne_of_lt (Nat.lt_of_lt_of_le E_o.lt p257)
    have o_ch_b250 : ch ≠ b250 := Nat.ne_of_lt (Nat.lt_of_lt_of_le V_ch.lt p257)
    have o_b230_b250 : b230 ≠ b250 := Nat.ne_of_lt (Nat.lt_of_lt_of_le E_b230.lt p257)
    have o_b231_b250 : b231 ≠ b250 := Nat.ne_of_lt (Nat.lt_of_lt_of_le Vt_b230.lt p257)
    have ge_b250 := Nat.le_trans le255 p257
    have o_o_b251 : o ≠ b251 := Nat.ne_of_lt (Nat.lt_of_lt_of_le E_o.lt p258)
    have o_ch_b251 : ch ≠ b251 := Nat.ne_of_lt (Nat.lt_of_lt_of_le V_ch.lt p258)
    have o_b230_b251 : b230 ≠ b251 := Nat.ne_of_lt (Nat.lt_of_lt_of_le E_b230.lt p258)
    have o_b231_b251 : b231 ≠ b251 := Nat.ne_of_lt (Nat.lt_of_lt_of_le Vt_b230.lt p258)
    have ge_b251 := Nat.le_trans le255 p258
    replace E_o := E_o.keep K254
    replace F_o_chars := F_o_chars.keep K254 nin0
    replace F_o_length := F_o_length.keep K254 nin0
    replace V_ch := V_ch.keep K254 nin0
    replace E_b230 := E_b230.keep K254
    replace Fc_b230 := Fc_b230.keep K254 nin0
    replace Fv_b230 := Fv_b230.keep K254 nin0
    replace Vt_b230 := Vt_b230.keep K254 nin0
    have E_b250 := p256
    change Go _ _ _ _ _ _ _ _ _ _ _ _ _ _ [o, ch] h253 14 3956 176 #[.val (.int p1), .val (.int p2), .val (.int p3), .val (.int p4), .val (.int p5), .val (.int (1 : Int32)), .val (.int (0 : Int32)), .val (.int c0), .val (.int c1), .val (.int c2), .val (.int hh), .val (.int tt), .val (.ref pad), .val (.ref ps), .val (.ref o), .val (.int (0 : Int32)), .val (.ref b230), .unset] [(.ref b250)]
    rcases p259 with ⟨Fc_b250, Fv_b250, Vt_b250, hA_b250⟩ | ⟨Fc_b250, Fv_b250, bs_b250, Vt_b250, hE_b250, hX_b250⟩
    · skip
      exact False.elim (by obtain ⟨y, y1, y2⟩ := hX_b230; exact hA_b250 y y1 y2)
    · skip
      refine Go.astore (pc' := 178) (Ls' := #[.val (.int p1), .val (.int p2), .val (.int p3), .val (.int p4), .val (.int p5), .val (.int (1 : Int32)), .val (.int (0 : Int32)), .val (.int c0), .val (.int c1), .val (.int c2), .val (.int hh), .val (.int tt), .val (.ref pad), .val (.ref ps), .val (.ref o), .val (.int (0 : Int32)), .val (.ref b230), .val (.ref b250)]) at_176 rfl rfl rfl ?_
      refine Go.aload (pc' := 180) at_178 rfl rfl rfl ?_
      refine Go.aload (pc' := 182) at_180 rfl rfl rfl ?_
      refine Go.callV (pc' := 185) (u := N_43) (z := N_43) (a := b230) at_182 rfl (w_68 hw) (w_69 hw) (nf (w_71 hw) rfl) (w_71 hw) (w_70 hw) (by decide) E_b230 (argsL := [(.ref b250)]) (rest := []) (Pays.of_met (W := 0) (len := 3) (m_seq1 hw hs b230 b250 b231 b251 q232 q252 bs_b230 bs_b250 ((1 : Int32) <<< ((1 : Int32) &&& 31)) ((1 : Int32) <<< ((1 : Int32) &&& 31)) h253 E_b230 Fc_b230 Fv_b230 Vt_b230 E_b250 Fc_b250 Fv_b250 Vt_b250 (by rw [hE_b230.1, hL1]; decide) (by rw [hE_b250.1, hL1]; decide)) (w_72 hw) (w_4 hw) (by decide) (by decide)) rfl rfl (lenOf pd_32 rfl) rfl (Nat.le_of_eq rfl) mem0 (by decide) (by decide) ?_
      rintro _ _ _ - - ⟨rfl, rfl, rfl⟩
      change Go _ _ _ _ _ _ _ _ _ _ _ _ _ _ [o, ch] h253 14 3956 185 #[.val (.int p1), .val (.int p2), .val (.int p3), .val (.int p4), .val (.int p5), .val (.int (1 : Int32)), .val (.int (0 : Int32)), .val (.int c0), .val (.int c1), .val (.int c2), .val (.int hh), .val (.int tt), .val (.ref pad), .val (.ref ps), .val (.ref o), .val (.int (0 : Int32)), .val (.ref b230), .val (.ref b250)] [(.int (own_eqb bs_b230 bs_b250))]
      rw [own_eqb_pos (hE_b230.uniq hE_b250)]
      refine Go.ifY (pc' := 190) at_185 (by decide) (by decide) ((if0 _ _).trans (feq (by decide : ¬ ((1 : Int32) = (0 : Int32)))).2) ?_
      refine Go.aload (pc' := 192) at_190 rfl rfl rfl ?_
      refine Go.callV (pc' := 195) (u := N_40) (z := N_40) (a := o) at_192 rfl (w_78 hw) (w_79 hw) (nf (w_81 hw) rfl) (w_81 hw) (w_80 hw) (by decide) E_o (argsL := []) (rest := []) (Pays.of_met (W := 0) (len := 3) (m_jlen hw hs o (1 : Int32) h253 F_o_length) (w_82 hw) (w_33 hw) (by decide) (by decide)) rfl rfl (lenOf pd_19 rfl) rfl (Nat.le_of_eq rfl) mem0 (by decide) (by decide) ?_
      rintro _ _ _ - - ⟨rfl, rfl, rfl⟩
      change Go _ _ _ _ _ _ _ _ _ _ _ _ _ _ [o, ch] h253 14 3956 195 #[.val (.int p1), .val (.int p2), .val (.int p3), .val (.int p4), .val (.int p5), .val (.int (1 : Int32)), .val (.int (0 : Int32)), .val (.int c0), .val (.int c1), .val (.int c2), .val (.int hh), .val (.int tt), .val (.ref pad), .val (.ref ps), .val (.ref o), .val (.int (0 : Int32)), .val (.ref b230), .val (.ref b250)] [(.int (1 : Int32))]
      refine Go.iload (pc' := 197) at_195 rfl rfl ?_
      refine Go.iload (pc' := 199) at_197 rfl rfl ?_
      refine Go.iadd (pc' := 200) at_199 rfl ?_
      rw [show ((0 : Int32) + (1 : Int32)) = (1 : Int32) from by decide]
      refine Go.icmpY (pc' := 205) at_200 (by decide) (by decide) (teq (rfl : (1 : Int32) = (1 : Int32))).1 ?_
      refine Go.aload (pc' := 207) at_205 rfl rfl rfl ?_
      refine Go.callV (pc' := 210) (u := N_16) (z := N_16) (a := b230) at_207 rfl (w_83 hw) (w_84 hw) (nf (w_86 hw) rfl) (w_86 hw) (w_85 hw) (by decide) E_b230 (argsL := []) (rest := []) (Pays.of_met (W := 0) (len := 3) (m_ulen hw hs b230 b231 q232 (1 : Int32) bs_b230 h253 E_b230 Fc_b230 Fv_b230 Vt_b230 (by decide) (by decide)) (w_87 hw) (w_4 hw) (by decide) (by decide)) rfl rfl (lenOf pd_19 rfl) rfl (Nat.le_of_eq rfl) mem0 (by decide) (by decide) ?_
      rintro _ _ _ - - ⟨rfl, rfl, rfl⟩
      change Go _ _ _ _ _ _ _ _ _ _ _ _ _ _ [o, ch] h253 14 3956 210 #[.val (.int p1), .val (.int p2), .val (.int p3), .val (.int p4), .val (.int p5), .val (.int (1 : Int32)), .val (.int (0 : Int32)), .val (.int c0), .val (.int c1), .val (.int c2), .val (.int hh), .val (.int tt), .val (.ref pad), .val (.ref ps), .val (.ref o), .val (.int (0 : Int32)), .val (.ref b230), .val (.ref b250)] [(.int (1 : Int32))]
      refine Go.iload (pc' := 212) at_210 rfl rfl ?_
      refine Go.iload (pc' := 214) at_212 rfl rfl ?_
      refine Go.iadd (pc' := 215) at_214 rfl ?_
      rw [show ((0 : Int32) + (1 : Int32)) = (1 : Int32) from by decide]
      refine Go.icmpY (pc' := 220) at_215 (by decide) (by decide) (teq (rfl : (1 : Int32) = (1 : Int32))).1 ?_
      refine Go.iload (pc' := 222) at_220 rfl rfl ?_
      refine Go.ifY (pc' := 260) at_222 (by decide) (by decide) ((if0 _ _).trans (teq (rfl : (0 : Int32) = (0 : Int32))).1) ?_
      refine Go.iload (pc' := 262) at_260 rfl rfl ?_
      refine Go.iconst (pc' := 263) at_262 rfl ic_1 ?_
      refine Go.icmpN (pc' := 266) at_263 rfl (flt (by decide : ¬ ((1 : Int32) < (1 : Int32)))).1 ?_
      refine Go.aload (pc' := 268) at_266 rfl rfl rfl ?_
      refine Go.iload (pc' := 270) at_268 rfl rfl ?_
      refine Go.callV (pc' := 273) (u := N_20) (z := N_20) (a := b230) at_270 rfl (w_156 hw) (w_157 hw) (nf (w_159 hw) rfl) (w_159 hw) (w_158 hw) (by decide) E_b230 (argsL := [(.int (0 : Int32))]) (rest := []) (Pays.of_met (W := 0) (len := 3) (m_ucA hw hs b230 b231 q232 (1 : Int32) bs_b230 (0 : Int32) (([] : List Int32) ++ [c0]) h253 E_b230 Fc_b230 Fv_b230 Vt_b230 (by decide) (by decide) (by decide) (by rw [hL1]; decide) (hE_b230) (q16_1)) (w_160 hw) (w_4 hw) (by decide) (by decide)) rfl rfl (lenOf pd_34 rfl) rfl (Nat.le_of_eq rfl) mem0 (by decide) (by decide) ?_
      rintro _ _ _ - - ⟨rfl, rfl, rfl⟩
      change Go _ _ _ _ _ _ _ _ _ _ _ _ _ _ [o, ch] h253 14 3956 273 #[.val (.int p1), .val (.int p2), .val (.int p3), .val (.int p4), .val (.int p5), .val (.int (1 : Int32)), .val (.int (0 : Int32)), .val (.int c0), .val (.int c1), .val (.int c2), .val (.int hh), .val (.int tt), .val (.ref pad), .val (.ref ps), .val (.ref o), .val (.int (0 : Int32)), .val (.ref b230), .val (.ref b250)] [(.int ((([] : List Int32) ++ [c0]).getD (0 : Int32).toNatClampNeg 0))]
      rw [show (0 : Int32).toNatClampNeg = 0 from by decide, (own_ap_eq (by rw [hK0]) : (([] : List Int32) ++ [c0]).getD 0 0 = c0)]
      refine Go.iload (pc' := 275) at_273 rfl rfl ?_
      refine Go.icmpY (pc' := 280) at_275 (by decide) (by decide) (teq (rfl : c0 = c0)).1 ?_
      refine Go.iload (pc' := 282) at_280 rfl rfl ?_
      refine Go.iconst (pc' := 283) at_282 rfl ic_2 ?_
      refine Go.icmpY (pc' := 302) at_283 (by decide) (by decide) (tlt (by decide : (1 : Int32) < (2 : Int32))).1 ?_
      refine Go.iload (pc' := 304) at_302 rfl rfl ?_
      refine Go.iconst (pc' := 305) at_304 rfl ic_3 ?_
      refine Go.icmpY (pc' := 324) at_305 (by decide) (by decide) (tlt (by decide : (1 : Int32) < (3 : Int32))).1 ?_
      refine Go.iconst (pc' := 325) at_324 rfl ic_1 ?_
      exact Go.retS (ty := .boolean) at_325 rfl (by simp) rfl (by decide) (by decide) [] sn0 ⟨rfl, rfl⟩
set_option maxRecDepth 65536 in
set_option maxHeartbeats 40000000 in
theorem m_lawS0_2 {l : Launch} {Z : State} {a0 : Array Value} {n0 : Nat} (hw : ∀ d ∈ tables_1, d.before a0 Z = true) (hs : Stat Z) (p1 : Int32) (p2 : Int32) (p3 : Int32) (p4 : Int32) (p5 : Int32) (c0 : Int32) (c1 : Int32) (c2 : Int32) (hh : Int32) (tt : Int32) (pad : Addr) (ps : Addr) (o : Addr) (ch : Addr) (kc : ClassId) (h0 h : Heap) (E_o : Exa Z h o "com/example/beleg/beleg/JsonOutput") (F_o_chars : Fld Z h o "com/example/beleg/beleg/JsonOutput" "chars" "[C" (.ref ch)) (F_o_length : Fld Z h o "com/example/beleg/beleg/JsonOutput" "length" "I" (.int (0 : Int32))) (V_ch : Arv Z h ch kc .char (256 : Int32) (([] : List Int32).map Value.int) (.int (0 : Int32))) (hc0 : ¬ c0 < 0 ∧ ¬ 65535 < c0) (hc1 : ¬ c1 < 0 ∧ ¬ 65535 < c1) (hc2 : ¬ c2 < 0 ∧ ¬ 65535 < c2) (ne_ch_o : ch ≠ o) :
    Go l Z EL0 n0 NR0 KN0 x code maxLocals ret room_1 h0 [] (Q_m_law Z p1 p2 p3 p4 p5 h0) [o, ch] h 8 2400 122 #[.val (.int p1), .val (.int p2), .val (.int p3), .val (.int p4), .val (.int p5), .val (.int (2 : Int32)), .val (.int (0 : Int32)), .val (.int c0), .val (.int c1), .val (.int c2), .val (.int hh), .val (.int tt), .val (.ref pad), .val (.ref ps), .val (.ref o), .val (.int (0 : Int32)), .unset, .unset] [] := by
  refine Go.iload (pc' := 124) at_122 rfl rfl ?_
  refine Go.iconst (pc' := 125) at_124 rfl ic_1 ?_
  have q16_0 : ∀ x ∈ ([] : List Int32), ¬ x < 0 ∧ ¬ 65535 < x := fun x hx => absurd hx (by simp)
  have hK0 : ([] : List Int32).length = 0 := rfl
  refine Go.icmpN (pc' := 128) at_125 rfl (flt (by decide : ¬ ((2 : Int32) < (1 : Int32)))).1 ?_
  refine Go.aload (pc' := 130) at_128 rfl rfl rfl ?_
  refine Go.iload (pc' := 132) at_130 rfl rfl ?_
  refine Go.callV (pc' := 135) (u := N_38) (z := N_38) (a := o) at_132 rfl (w_131 hw) (w_132 hw) (nf (w_134 hw) rfl) (w_134 hw) (w_133 hw) (by decide) E_o (argsL := [(.int c0)]) (rest := []) (Pays.of_met (W := 0) (len := 3) (m_apc hw hs o ch kc ([] : List Int32) c0 (256 : Int32) (0 : Int32) h E_o F_o_chars F_o_length V_ch (by rw [hK0]; decide) (by decide) (by decide) (hc0) ne_ch_o) (w_135 hw) (w_33 hw) (by decide) (by decide)) rfl rfl (lenOf pd_33 rfl) rfl (Nat.le_of_eq rfl) (memS (List.mem_of_getElem? (i := 0) rfl) (memS (List.mem_of_getElem? (i := 1) rfl) mem0)) (by decide) (by decide) ?_
  rintro _ h260 _ K261 le262 ⟨rfl, rfl, p263, p264, p265, p266⟩
  replace E_o := E_o.keep K261
  have F_o_chars := p264
  have F_o_length := p265
  have V_ch := p266
  change Go _ _ _ _ _ _ _ _ _ _ _ _ _ _ [o, ch] h260 8 2400 135 #[.val (.int p1), .val (.int p2), .val (.int p3), .val (.int p4), .val (.int p5), .val (.int (2 : Int32)), .val (.int (0 : Int32)), .val (.int c0), .val (.int c1), .val (.int c2), .val (.int hh), .val (.int tt), .val (.ref pad), .val (.ref ps), .val (.ref o), .val (.int (0 : Int32)), .unset, .unset] [(.ref o)]
  rw [show ((0 : Int32) + (1 : Int32)) = (1 : Int32) from by decide] at F_o_length
  refine Go.pop (pc' := 136) at_135 rfl rfl ?_
  refine Go.iload (pc' := 138) at_136 rfl rfl ?_
  refine Go.iconst (pc' := 139) at_138 rfl ic_2 ?_
  have hL1 : (([] : List Int32) ++ [c0]).length = 1 := by rw [List.length_append, hK0]; rfl
  have q16_1 := own_ap_all q16_0 hc0
  refine Go.icmpN (pc' := 142) at_139 rfl (flt (by decide : ¬ ((2 : Int32) < (2 : Int32)))).1 ?_
  refine Go.aload (pc' := 144) at_142 rfl rfl rfl ?_
  refine Go.iload (pc' := 146) at_144 rfl rfl ?_
  refine Go.callV (pc' := 149) (u := N_38) (z := N_38) (a := o) at_146 rfl (w_131 hw) (w_132 hw) (nf (w_134 hw) rfl) (w_134 hw) (w_133 hw) (by decide) E_o (argsL := [(.int c1)]) (rest := []) (Pays.of_met (W := 0) (len := 3) (m_apc hw hs o ch kc (([] : List Int32) ++ [c0]) c1 (256 : Int32) (1 : Int32) h260 E_o F_o_chars F_o_length V_ch (by rw [hL1]; decide) (by decide) (by decide) (hc1) ne_ch_o) (w_135 hw) (w_33 hw) (by decide) (by decide)) rfl rfl (lenOf pd_33 rfl) rfl (Nat.le_of_eq rfl) (memS (List.mem_of_getElem? (i := 0) rfl) (memS (List.mem_of_getElem? (i := 1) rfl) mem0)) (by decide) (by decide) ?_
  rintro _ h267 _ K268 le269 ⟨rfl, rfl, p270, p271, p272, p273⟩
  replace E_o := E_o.keep K268
  have F_o_chars := p271
  have F_o_length := p272
  have V_ch := p273
  change Go _ _ _ _ _ _ _ _ _ _ _ _ _ _ [o, ch] h267 8 2400 149 #[.val (.int p1), .val (.int p2), .val (.int p3), .val (.int p4), .val (.int p5), .val (.int (2 : Int32)), .val (.int (0 : Int32)), .val (.int c0), .val (.int c1), .val (.int c2), .val (.int hh), .val (.int tt), .val (.ref pad), .val (.ref ps), .val (.ref o), .val (.int (0 : Int32)), .unset, .unset] [(.ref o)]
  rw [show ((1 : Int32) + (1 : Int32)) = (2 : Int32) from by decide] at F_o_length
  refine Go.pop (pc' := 150) at_149 rfl rfl ?_
  refine Go.iload (pc' := 152) at_150 rfl rfl ?_
  refine Go.iconst (pc' := 153) at_152 rfl ic_3 ?_
  have hL2 : ((([] : List Int32) ++ [c0]) ++ [c1]).length = 2 := by rw [List.length_append, hL1]; rfl
  have q16_2 := own_ap_all q16_1 hc1
  refine Go.icmpY (pc' := 164) at_153 (by decide) (by decide) (tlt (by decide : (2 : Int32) < (3 : Int32))).1 ?_
  refine Go.aload (pc' := 166) at_164 rfl rfl rfl ?_
  refine Go.callV (pc' := 169) (u := N_41) (z := N_41) (a := o) at_166 rfl (w_43 hw) (w_44 hw) (nf (w_46 hw) rfl) (w_46 hw) (w_45 hw) (by decide) E_o (argsL := []) (rest := []) (Pays.of_met (W := 0) (len := 3) (m_jstr hw hs o ch kc ((([] : List Int32) ++ [c0]) ++ [c1]) (256 : Int32) (2 : Int32) h267 E_o F_o_chars F_o_length V_ch (by rw [hL2]; decide) (by decide) (by decide) (by decide) (q16_2) (by decide)) (w_47 hw) (w_33 hw) (by decide) (by decide)) rfl rfl (lenOf pd_31 rfl) rfl (Nat.le_of_eq rfl) mem0 (by decide) (by decide) ?_
  rintro _ h277 _ K278 le279 ⟨b274, b275, q276, rfl, rfl, p280, p281, p282, p283⟩
  have o_o_b274 : o ≠ b274 := Nat.ne_of_lt (Nat.lt_of_lt_of_le E_o.lt p281)
  have o_ch_b274 : ch ≠ b274 := Nat.ne_of_lt (Nat.lt_of_lt_of_le V_ch.lt p281)
  have ge_b274 := Nat.le_trans le279 p281
  have o_o_b275 : o ≠ b275 := Nat.ne_of_lt (Nat.lt_of_lt_of_le E_o.lt p282)
  have o_ch_b275 : ch ≠ b275 := Nat.ne_of_lt (Nat.lt_of_lt_of_le V_ch.lt p282)
  have ge_b275 := Nat.le_trans le279 p282
  replace E_o := E_o.keep K278
  replace F_o_chars := F_o_chars.keep K278 nin0
  replace F_o_length := F_o_length.keep K278 nin0
  replace V_ch := V_ch.keep K278 nin0
  have E_b274 := p280
  change Go _ _ _ _ _ _ _ _ _ _ _ _ _ _ [o, ch] h277 11 3178 169 #[.val (.int p1), .val (.int p2), .val (.int p3), .val (.int p4), .val (.int p5), .val (.int (2 : Int32)), .val (.int (0 : Int32)), .val (.int c0), .val (.int c1), .val (.int c2), .val (.int hh), .val (.int tt), .val (.ref pad), .val (.ref ps), .val (.ref o), .val (.int (0 : Int32)), .unset, .unset] [(.ref b274)]
  rcases p283 with ⟨Fc_b274, Fv_b274, Vt_b274, hA_b274⟩ | ⟨Fc_b274, Fv_b274, bs_b274, Vt_b274, hE_b274, hX_b274⟩
  · skip
    refine Go.astore (pc' := 171) (Ls' := #[.val (.int p1), .val (.int p2), .val (.int p3), .val (.int p4), .val (.int p5), .val (.int (2 : Int32)), .val (.int (0 : Int32)), .val (.int c0), .val (.int c1), .val (.int c2), .val (.int hh), .val (.int tt), .val (.ref pad), .val (.ref ps), .val (.ref o), .val (.int (0 : Int32)), .val (.ref b274), .unset]) at_169 rfl rfl rfl ?_
    refine Go.aload (pc' := 173) at_171 rfl rfl rfl ?_
    refine Go.callV (pc' := 176) (u := N_41) (z := N_41) (a := o) at_173 rfl (w_43 hw) (w_44 hw) (nf (w_46 hw) rfl) (w_46 hw) (w_45 hw) (by decide) E_o (argsL := []) (rest := []) (Pays.of_met (W := 0) (len := 3) (m_jstr hw hs o ch kc ((([] : List Int32) ++ [c0]) ++ [c1]) (256 : Int32) (2 : Int32) h277 E_o F_o_chars F_o_length V_ch (by rw [hL2]; decide) (by decide) (by decide) (by decide) (q16_2) (by decide)) (w_47 hw) (w_33 hw) (by decide) (by decide)) rfl rfl (lenOf pd_31 rfl) rfl (Nat.le_of_eq rfl) mem0 (by decide) (by decide) ?_
    rintro _ h287 _ K288 le289 ⟨b284, b285, q286, rfl, rfl, p290, p291, p292, p293⟩
    have o_o_b284 : o ≠ b284 := Nat.ne_of_lt (Nat.lt_of_lt_of_le E_o.lt p291)
    have o_ch_b284 : ch ≠ b284 := Nat.ne_of_lt (Nat.lt_of_lt_of_le V_ch.lt p291)
    have o_b274_b284 : b274 ≠ b284 := Nat.ne_of_lt (Nat.lt_of_lt_of_le E_b274.lt p291)
    have o_b275_b284 : b275 ≠ b284 := Nat.ne_of_lt (Nat.lt_of_lt_of_le Vt_b274.lt p291)
    have ge_b284 := Nat.le_trans le289 p291
    have o_o_b285 : o ≠ b285 := Nat.ne_of_lt (Nat.lt_of_lt_of_le E_o.lt p292)
    have o_ch_b285 : ch ≠ b285 := Nat.ne_of_lt (Nat.lt_of_lt_of_le V_ch.lt p292)
    have o_b274_b285 : b274 ≠ b285 := Nat.ne_of_lt (Nat.lt_of_lt_of_le E_b274.lt p292)
    have o_b275_b285 : b275 ≠ b285 := Nat.ne_of_lt (Nat.lt_of_lt_of_le Vt_b274.lt p292)
    have ge_b285 := Nat.le_trans le289 p292
    replace E_o := E_o.keep K288
    replace F_o_chars := F_o_chars.keep K288 nin0
    replace F_o_length := F_o_length.keep K288 nin0
    replace V_ch := V_ch.keep K288 nin0
    replace E_b274 := E_b274.keep K288
    replace Fc_b274 := Fc_b274.keep K288 nin0
    replace Fv_b274 := Fv_b274.keep K288 nin0
    replace Vt_b274 := Vt_b274.keep K288 nin0
    have E_b284 := p290
    change Go _ _ _ _ _ _ _ _ _ _ _ _ _ _ [o, ch] h287 14 3956 176 #[.val (.int p1), .val (.int p2), .val (.int p3), .val (.int p4), .val (.int p5), .val (.int (2 : Int32)), .val (.int (0 : Int32)), .val (.int c0), .val (.int c1), .val (.int c2), .val (.int hh), .val (.int tt), .val (.ref pad), .val (.ref ps), .val (.ref o), .val (.int (0 : Int32)), .val (.ref b274), .unset] [(.ref b284)]
    rcases p293 with ⟨Fc_b284, Fv_b284, Vt_b284, hA_b284⟩ | ⟨Fc_b284, Fv_b284, bs_b284, Vt_b284, hE_b284, hX_b284⟩
    · skip
      refine Go.astore (pc' := 178) (Ls' := #[.val (.int p1), .val (.int p2), .val (.int p3), .val (.int p4), .val (.int p5), .val (.int (2 : Int32)), .val (.int (0 : Int32)), .val (.int c0), .val (.int c1), .val (.int c2), .val (.int hh), .val (.int tt), .val (.ref pad), .val (.ref ps), .val (.ref o), .val (.int (0 : Int32)), .val (.ref b274), .val (.ref b284)]) at_176 rfl rfl rfl ?_
      refine Go.aload (pc' := 180) at_178 rfl rfl rfl ?_
      refine Go.aload (pc' := 182) at_180 rfl rfl rfl ?_
      have W_b274 := Vt_b274
      rw [own_low_map] at W_b274
      have W_b284 := Vt_b284
      rw [own_low_map] at W_b284
      refine Go.callV (pc' := 185) (u := N_43) (z := N_43) (a := b274) at_182 rfl (w_68 hw) (w_69 hw) (nf (w_71 hw) rfl) (w_71 hw) (w_70 hw) (by decide) E_b274 (argsL := [(.ref b284)]) (rest := []) (Pays.of_met (W := 0) (len := 3) (m_seq0 hw hs b274 b284 b275 b285 q276 q286 (((([] : List Int32) ++ [c0]) ++ [c1]).map (fun c => c.toInt8.toInt32)) (((([] : List Int32) ++ [c0]) ++ [c1]).map (fun c => c.toInt8.toInt32)) (2 : Int32) (2 : Int32) h287 E_b274 Fc_b274 Fv_b274 W_b274 E_b284 Fc_b284 Fv_b284 W_b284 (by rw [List.length_map]; rw [hL2]; decide) (by rw [List.length_map]; rw [hL2]; decide)) (w_72 hw) (w_4 hw) (by decide) (by decide)) rfl rfl (lenOf pd_32 rfl) rfl (Nat.le_of_eq rfl) mem0 (by decide) (by decide) ?_
      rintro _ _ _ - - ⟨rfl, rfl, rfl⟩
      change Go _ _ _ _ _ _ _ _ _ _ _ _ _ _ [o, ch] h287 14 3956 185 #[.val (.int p1), .val (.int p2), .val (.int p3), .val (.int p4), .val (.int p5), .val (.int (2 : Int32)), .val (.int (0 : Int32)), .val (.int c0), .val (.int c1), .val (.int c2), .val (.int hh), .val (.int tt), .val (.ref pad), .val (.ref ps), .val (.ref o), .val (.int (0 : Int32)), .val (.ref b274), .val (.ref b284)] [(.int (own_eqb (((([] : List Int32) ++ [c0]) ++ [c1]).map (fun c => c.toInt8.toInt32)) (((([] : List Int32) ++ [c0]) ++ [c1]).map (fun c => c.toInt8.toInt32))))]
      rw [own_eqb_pos rfl]
      refine Go.ifY (pc' := 190) at_185 (by decide) (by decide) ((if0 _ _).trans (feq (by decide : ¬ ((1 : Int32) = (0 : Int32)))).2) ?_
      refine Go.aload (pc' := 192) at_190 rfl rfl rfl ?_
      refine Go.callV (pc' := 195) (u := N_40) (z := N_40) (a := o) at_192 rfl (w_78 hw) (w_79 hw) (nf (w_81 hw) rfl) (w_81 hw) (w_80 hw) (by decide) E_o (argsL := []) (rest := []) (Pays.of_met (W := 0) (len := 3) (m_jlen hw hs o (2 : Int32) h287 F_o_length) (w_82 hw) (w_33 hw) (by decide) (by decide)) rfl rfl (lenOf pd_19 rfl) rfl (Nat.le_of_eq rfl) mem0 (by decide) (by decide) ?_
      rintro _ _ _ - - ⟨rfl, rfl, rfl⟩
      change Go _ _ _ _ _ _ _ _ _ _ _ _ _ _ [o, ch] h287 14 3956 195 #[.val (.int p1), .val (.int p2), .val (.int p3), .val (.int p4), .val (.int p5), .val (.int (2 : Int32)), .val (.int (0 : Int32)), .val (.int c0), .val (.int c1), .val (.int c2), .val (.int hh), .val (.int tt), .val (.ref pad), .val (.ref ps), .val (.ref o), .val (.int (0 : Int32)), .val (.ref b274), .val (.ref b284)] [(.int (2 : Int32))]
      refine Go.iload (pc' := 197) at_195 rfl rfl ?_
      refine Go.iload (pc' := 199) at_197 rfl rfl ?_
      refine Go.iadd (pc' := 200) at_199 rfl ?_
      rw [show ((0 : Int32) + (2 : Int32)) = (2 : Int32) from by decide]
      refine Go.icmpY (pc' := 205) at_200 (by decide) (by decide) (teq (rfl : (2 : Int32) = (2 : Int32))).1 ?_
      refine Go.aload (pc' := 207) at_205 rfl rfl rfl ?_
      refine Go.callV (pc' := 210) (u := N_16) (z := N_16) (a := b274) at_207 rfl (w_83 hw) (w_84 hw) (nf (w_86 hw) rfl) (w_86 hw) (w_85 hw) (by decide) E_b274 (argsL := []) (rest := []) (Pays.of_met (W := 0) (len := 3) (m_length hw hs b274 b275 q276 (2 : Int32) (((([] : List Int32) ++ [c0]) ++ [c1]).map lowV) h287 E_b274 Fc_b274 Fv_b274 Vt_b274) (w_87 hw) (w_4 hw) (by decide) (by decide)) rfl rfl (lenOf pd_19 rfl) rfl (Nat.le_of_eq rfl) mem0 (by decide) (by decide) ?_
      rintro _ _ _ - - ⟨rfl, rfl, rfl⟩
      change Go _ _ _ _ _ _ _ _ _ _ _ _ _ _ [o, ch] h287 14 3956 210 #[.val (.int p1), .val (.int p2), .val (.int p3), .val (.int p4), .val (.int p5), .val (.int (2 : Int32)), .val (.int (0 : Int32)), .val (.int c0), .val (.int c1), .val (.int c2), .val (.int hh), .val (.int tt), .val (.ref pad), .val (.ref ps), .val (.ref o), .val (.int (0 : Int32)), .val (.ref b274), .val (.ref b284)] [(.int (2 : Int32))]
      refine Go.iload (pc' := 212) at_210 rfl rfl ?_
      refine Go.iload (pc' := 214) at_212 rfl rfl ?_
      refine Go.iadd (pc' := 215) at_214 rfl ?_
      rw [show ((0 : Int32) + (2 : Int32)) = (2 : Int32) from by decide]
      refine Go.icmpY (pc' := 220) at_215 (by decide) (by decide) (teq (rfl : (2 : Int32) = (2 : Int32))).1 ?_
      refine Go.iload (pc' := 222) at_220 rfl rfl ?_
      refine Go.ifY (pc' := 260) at_222 (by decide) (by decide) ((if0 _ _).trans (teq (rfl : (0 : Int32) = (0 : Int32))).1) ?_
      refine Go.iload (pc' := 262) at_260 rfl rfl ?_
      refine Go.iconst (pc' := 263) at_262 rfl ic_1 ?_
      refine Go.icmpN (pc' := 266) at_263 rfl (flt (by decide : ¬ ((2 : Int32) < (1 : Int32)))).1 ?_
      refine Go.aload (pc' := 268) at_266 rfl rfl rfl ?_
      refine Go.iload (pc' := 270) at_268 rfl rfl ?_
      refine Go.callV (pc' := 273) (u := N_20) (z := N_20) (a := b274) at_270 rfl (w_156 hw) (w_157 hw) (nf (w_159 hw) rfl) (w_159 hw) (w_158 hw) (by decide) E_b274 (argsL := [(.int (0 : Int32))]) (rest := []) (Pays.of_met (W := 0) (len := 3) (m_charAt hw hs b274 b275 q276 (2 : Int32) (((([] : List Int32) ++ [c0]) ++ [c1]).map lowV) (0 : Int32) (((([] : List Int32) ++ [c0]) ++ [c1]).getD (0 : Int32).toNatClampNeg 0).toInt8.toInt32 h287 E_b274 Fc_b274 Fv_b274 Vt_b274 (by decide) (getD_low ((([] : List Int32) ++ [c0]) ++ [c1]) _ (by rw [hL2]; decide))) (w_160 hw) (w_4 hw) (by decide) (by decide)) rfl rfl (lenOf pd_34 rfl) rfl (Nat.le_of_eq rfl) mem0 (by decide) (by decide) ?_
      rintro _ _ _ - - ⟨rfl, rfl, rfl⟩
      change Go _ _ _ _ _ _ _ _ _ _ _ _ _ _ [o, ch] h287 14 3956 273 #[.val (.int p1), .val (.int p2), .val (.int p3), .val (.int p4), .val (.int p5), .val (.int (2 : Int32)), .val (.int (0 : Int32)), .val (.int c0), .val (.int c1), .val (.int c2), .val (.int hh), .val (.int tt), .val (.ref pad), .val (.ref ps), .val (.ref o), .val (.int (0 : Int32)), .val (.ref b274), .val (.ref b284)] [(.int ((((([] : List Int32) ++ [c0]) ++ [c1]).getD (0 : Int32).toNatClampNeg 0).toInt8.toInt32 &&& (255 : Int32)).toUInt32.toUInt16.toUInt32.toInt32)]
      have mm := getD_mem (P := fun x => ¬ x < 0 ∧ ¬ 255 < x) (fun x hx => ⟨(q16_2 x hx).1, hA_b274 x hx⟩) (i := (0 : Int32).toNatClampNeg) (by rw [hL2]; decide)
      rw [own_lowback mm.1 mm.2]
      rw [show (0 : Int32).toNatClampNeg = 0 from by decide, ((own_ap_lt (by rw [hL1]; decide)).trans (own_ap_eq (by rw [hK0])) : ((([] : List Int32) ++ [c0]) ++ [c1]).getD 0 0 = c0)]
      refine Go.iload (pc' := 275) at_273 rfl rfl ?_
      refine Go.icmpY (pc' := 280) at_275 (by decide) (by decide) (teq (rfl : c0 = c0)).1 ?_
      refine Go.iload (pc' := 282) at_280 rfl rfl ?_
      refine Go.iconst (pc' := 283) at_282 rfl ic_2 ?_
      refine Go.icmpN (pc' := 286) at_283 rfl (flt (by decide : ¬ ((2 : Int32) < (2 : Int32)))).1 ?_
      refine Go.aload (pc' := 288) at_286 rfl rfl rfl ?_
      refine Go.iload (pc' := 290) at_288 rfl rfl ?_
      refine Go.iconst (pc' := 291) at_290 rfl ic_1 ?_
      refine Go.iadd (pc' := 292) at_291 rfl ?_
      rw [show ((0 : Int32) + (1 : Int32)) = (1 : Int32) from by decide]
      refine Go.callV (pc' := 295) (u := N_20) (z := N_20) (a := b274) at_292 rfl (w_156 hw) (w_157 hw) (nf (w_159 hw) rfl) (w_159 hw) (w_158 hw) (by decide) E_b274 (argsL := [(.int (1 : Int32))]) (rest := []) (Pays.of_met (W := 0) (len := 3) (m_charAt hw hs b274 b275 q276 (2 : Int32) (((([] : List Int32) ++ [c0]) ++ [c1]).map lowV) (1 : Int32) (((([] : List Int32) ++ [c0]) ++ [c1]).getD (1 : Int32).toNatClampNeg 0).toInt8.toInt32 h287 E_b274 Fc_b274 Fv_b274 Vt_b274 (by decide) (getD_low ((([] : List Int32) ++ [c0]) ++ [c1]) _ (by rw [hL2]; decide))) (w_160 hw) (w_4 hw) (by decide) (by decide)) rfl rfl (lenOf pd_34 rfl) rfl (Nat.le_of_eq rfl) mem0 (by decide) (by decide) ?_
      rintro _ _ _ - - ⟨rfl, rfl, rfl⟩
      change Go _ _ _ _ _ _ _ _ _ _ _ _ _ _ [o, ch] h287 14 3956 295 #[.val (.int p1), .val (.int p2), .val (.int p3), .val (.int p4), .val (.int p5), .val (.int (2 : Int32)), .val (.int (0 : Int32)), .val (.int c0), .val (.int c1), .val (.int c2), .val (.int hh), .val (.int tt), .val (.ref pad), .val (.ref ps), .val (.ref o), .val (.int (0 : Int32)), .val (.ref b274), .val (.ref b284)] [(.int ((((([] : List Int32) ++ [c0]) ++ [c1]).getD (1 : Int32).toNatClampNeg 0).toInt8.toInt32 &&& (255 : Int32)).toUInt32.toUInt16.toUInt32.toInt32)]
      have mm := getD_mem (P := fun x => ¬ x < 0 ∧ ¬ 255 < x) (fun x hx => ⟨(q16_2 x hx).1, hA_b274 x hx⟩) (i := (1 : Int32).toNatClampNeg) (by rw [hL2]; decide)
      rw [own_lowback mm.1 mm.2]
      rw [show (1 : Int32).toNatClampNeg = 1 from by decide, (own_ap_eq (by rw [hL1]) : ((([] : List Int32) ++ [c0]) ++ [c1]).getD 1 0 = c1)]
      refine Go.iload (pc' := 297) at_295 rfl rfl ?_
      refine Go.icmpY (pc' := 302) at_297 (by decide) (by decide) (teq (rfl : c1 = c1)).1 ?_
      refine Go.iload (pc' := 304) at_302 rfl rfl ?_
      refine Go.iconst (pc' := 305) at_304 rfl ic_3 ?_
      refine Go.icmpY (pc' := 324) at_305 (by decide) (by decide) (tlt (by decide : (2 : Int32) < (3 : Int32))).1 ?_
      refine Go.iconst (pc' := 325) at_324 rfl ic_1 ?_
      exact Go.retS (ty := .boolean) at_325 rfl (by simp) rfl (by decide) (by decide) [] sn0 ⟨rfl, rfl⟩
    · skip
      exact False.elim (by obtain ⟨y, y1, y2⟩ := hX_b284; exact hA_b274 y y1 y2)
  · skip
    refine Go.astore (pc' := 171) (Ls' := #[.val (.int p1), .val (.int p2), .val (.int p3), .val (.int p4), .val (.int p5), .val (.int (2 : Int32)), .val (.int (0 : Int32)), .val (.int c0), .val (.int c1), .val (.int c2), .val (.int hh), .val (.int tt), .val (.ref pad), .val (.ref ps), .val (.ref o), .val (.int (0 : Int32)), .val (.ref b274), .unset]) at_169 rfl rfl rfl ?_
    refine Go.aload (pc' := 173) at_171 rfl rfl rfl ?_
    refine Go.callV (pc' := 176) (u := N_41) (z := N_41) (a := o) at_173 rfl (w_43 hw) (w_44 hw) (nf (w_46 hw) rfl) (w_46 hw) (w_45 hw) (by decide) E_o (argsL := []) (rest := []) (Pays.of_met (W := 0) (len := 3) (m_jstr hw hs o ch kc ((([] : List Int32) ++ [c0]) ++ [c1]) (256 : Int32) (2 : Int32) h277 E_o F_o_chars F_o_length V_ch (by rw [hL2]; decide) (by decide) (by decide) (by decide) (q16_2) (by decide)) (w_47 hw) (w_33 hw) (by decide) (by decide)) rfl rfl (lenOf pd_31 rfl) rfl (Nat.le_of_eq rfl) mem0 (by decide) (by decide) ?_
    rintro _ h297 _ K298 le299 ⟨b294, b295, q296, rfl, rfl, p300, p301, p302, p303⟩
    have o_o_b294 : o ≠ b294 := Nat.ne_of_lt (Nat.lt_of_lt_of_le E_o.lt p301)
    have o_ch_b294 : ch ≠ b294 := Nat.ne_of_lt (Nat.lt_of_lt_of_le V_ch.lt p301)
    have o_b274_b294 : b274 ≠ b294 := Nat.ne_of_lt (Nat.lt_of_lt_of_le E_b274.lt p301)
    have o_b275_b294 : b275 ≠ b294 := Nat.ne_of_lt (Nat.lt_of_lt_of_le Vt_b274.lt p301)
    have ge_b294 := Nat.le_trans le299 p301
    have o_o_b295 : o ≠ b295 := Nat.ne_of_lt (Nat.lt_of_lt_of_le E_o.lt p302)
    have o_ch_b295 : ch ≠ b295 := Nat.ne_of_lt (Nat.lt_of_lt_of_le V_ch.lt p302)
    have o_b274_b295 : b274 ≠ b295 := Nat.ne_of_lt (Nat.lt_of_lt_of_le E_b274.lt p302)
    have o_b275_b295 : b275 ≠ b295 := Nat.ne_of_lt (Nat.lt_of_lt_of_le Vt_b274.lt p302)
    have ge_b295 := Nat.le_trans le299 p302
    replace E_o := E_o.keep K298
    replace F_o_chars := F_o_chars.keep K298 nin0
    replace F_o_length := F_o_length.keep K298 nin0
    replace V_ch := V_ch.keep K298 nin0
    replace E_b274 := E_b274.keep K298
    replace Fc_b274 := Fc_b274.keep K298 nin0
    replace Fv_b274 := Fv_b274.keep K298 nin0
    replace Vt_b274 := Vt_b274.keep K298 nin0
    have E_b294 := p300
    change Go _ _ _ _ _ _ _ _ _ _ _ _ _ _ [o, ch] h297 14 3956 176 #[.val (.int p1), .val (.int p2), .val (.int p3), .val (.int p4), .val (.int p5), .val (.int (2 : Int32)), .val (.int (0 : Int32)), .val (.int c0), .val (.int c1), .val (.int c2), .val (.int hh), .val (.int tt), .val (.ref pad), .val (.ref ps), .val (.ref o), .val (.int (0 : Int32)), .val (.ref b274), .unset] [(.ref b294)]
    rcases p303 with ⟨Fc_b294, Fv_b294, Vt_b294, hA_b294⟩ | ⟨Fc_b294, Fv_b294, bs_b294, Vt_b294, hE_b294, hX_b294⟩
    · skip
      exact False.elim (by obtain ⟨y, y1, y2⟩ := hX_b274; exact hA_b294 y y1 y2)
    · skip
      refine Go.astore (pc' := 178) (Ls' := #[.val (.int p1), .val (.int p2), .val (.int p3), .val (.int p4), .val (.int p5), .val (.int (2 : Int32)), .val (.int (0 : Int32)), .val (.int c0), .val (.int c1), .val (.int c2), .val (.int hh), .val (.int tt), .val (.ref pad), .val (.ref ps), .val (.ref o), .val (.int (0 : Int32)), .val (.ref b274), .val (.ref b294)]) at_176 rfl rfl rfl ?_
      refine Go.aload (pc' := 180) at_178 rfl rfl rfl ?_
      refine Go.aload (pc' := 182) at_180 rfl rfl rfl ?_
      refine Go.callV (pc' := 185) (u := N_43) (z := N_43) (a := b274) at_182 rfl (w_68 hw) (w_69 hw) (nf (w_71 hw) rfl) (w_71 hw) (w_70 hw) (by decide) E_b274 (argsL := [(.ref b294)]) (rest := []) (Pays.of_met (W := 0) (len := 3) (m_seq1 hw hs b274 b294 b275 b295 q276 q296 bs_b274 bs_b294 ((2 : Int32) <<< ((1 : Int32) &&& 31)) ((2 : Int32) <<< ((1 : Int32) &&& 31)) h297 E_b274 Fc_b274 Fv_b274 Vt_b274 E_b294 Fc_b294 Fv_b294 Vt_b294 (by rw [hE_b274.1, hL2]; decide) (by rw [hE_b294.1, hL2]; decide)) (w_72 hw) (w_4 hw) (by decide) (by decide)) rfl rfl (lenOf pd_32 rfl) rfl (Nat.le_of_eq rfl) mem0 (by decide) (by decide) ?_
      rintro _ _ _ - - ⟨rfl, rfl, rfl⟩
      change Go _ _ _ _ _ _ _ _ _ _ _ _ _ _ [o, ch] h297 14 3956 185 #[.val (.int p1), .val (.int p2), .val (.int p3), .val (.int p4), .val (.int p5), .val (.int (2 : Int32)), .val (.int (0 : Int32)), .val (.int c0), .val (.int c1), .val (.int c2), .val (.int hh), .val (.int tt), .val (.ref pad), .val (.ref ps), .val (.ref o), .val (.int (0 : Int32)), .val (.ref b274), .val (.ref b294)] [(.int (own_eqb bs_b274 bs_b294))]
      rw [own_eqb_pos (hE_b274.uniq hE_b294)]
      refine Go.ifY (pc' := 190) at_185 (by decide) (by decide) ((if0 _ _).trans (feq (by decide : ¬ ((1 : Int32) = (0 : Int32)))).2) ?_
      refine Go.aload (pc' := 192) at_190 rfl rfl rfl ?_
      refine Go.callV (pc' := 195) (u := N_40) (z := N_40) (a := o) at_192 rfl (w_78 hw) (w_79 hw) (nf (w_81 hw) rfl) (w_81 hw) (w_80 hw) (by decide) E_o (argsL := []) (rest := []) (Pays.of_met (W := 0) (len := 3) (m_jlen hw hs o (2 : Int32) h297 F_o_length) (w_82 hw) (w_33 hw) (by decide) (by decide)) rfl rfl (lenOf pd_19 rfl) rfl (Nat.le_of_eq rfl) mem0 (by decide) (by decide) ?_
      rintro _ _ _ - - ⟨rfl, rfl, rfl⟩
      change Go _ _ _ _ _ _ _ _ _ _ _ _ _ _ [o, ch] h297 14 3956 195 #[.val (.int p1), .val (.int p2), .val (.int p3), .val (.int p4), .val (.int p5), .val (.int (2 : Int32)), .val (.int (0 : Int32)), .val (.int c0), .val (.int c1), .val (.int c2), .val (.int hh), .val (.int tt), .val (.ref pad), .val (.ref ps), .val (.ref o), .val (.int (0 : Int32)), .val (.ref b274), .val (.ref b294)] [(.int (2 : Int32))]
      refine Go.iload (pc' := 197) at_195 rfl rfl ?_
      refine Go.iload (pc' := 199) at_197 rfl rfl ?_
      refine Go.iadd (pc' := 200) at_199 rfl ?_
      rw [show ((0 : Int32) + (2 : Int32)) = (2 : Int32) from by decide]
      refine Go.icmpY (pc' := 205) at_200 (by decide) (by decide) (teq (rfl : (2 : Int32) = (2 : Int32))).1 ?_
      refine Go.aload (pc' := 207) at_205 rfl rfl rfl ?_
      refine Go.callV (pc' := 210) (u := N_16) (z := N_16) (a := b274) at_207 rfl (w_83 hw) (w_84 hw) (nf (w_86 hw) rfl) (w_86 hw) (w_85 hw) (by decide) E_b274 (argsL := []) (rest := []) (Pays.of_met (W := 0) (len := 3) (m_ulen hw hs b274 b275 q276 (2 : Int32) bs_b274 h297 E_b274 Fc_b274 Fv_b274 Vt_b274 (by decide) (by decide)) (w_87 hw) (w_4 hw) (by decide) (by decide)) rfl rfl (lenOf pd_19 rfl) rfl (Nat.le_of_eq rfl) mem0 (by decide) (by decide) ?_
      rintro _ _ _ - - ⟨rfl, rfl, rfl⟩
      change Go _ _ _ _ _ _ _ _ _ _ _ _ _ _ [o, ch] h297 14 3956 210 #[.val (.int p1), .val (.int p2), .val (.int p3), .val (.int p4), .val (.int p5), .val (.int (2 : Int32)), .val (.int (0 : Int32)), .val (.int c0), .val (.int c1), .val (.int c2), .val (.int hh), .val (.int tt), .val (.ref pad), .val (.ref ps), .val (.ref o), .val (.int (0 : Int32)), .val (.ref b274), .val (.ref b294)] [(.int (2 : Int32))]
      refine Go.iload (pc' := 212) at_210 rfl rfl ?_
      refine Go.iload (pc' := 214) at_212 rfl rfl ?_
      refine Go.iadd (pc' := 215) at_214 rfl ?_
      rw [show ((0 : Int32) + (2 : Int32)) = (2 : Int32) from by decide]
      refine Go.icmpY (pc' := 220) at_215 (by decide) (by decide) (teq (rfl : (2 : Int32) = (2 : Int32))).1 ?_
      refine Go.iload (pc' := 222) at_220 rfl rfl ?_
      refine Go.ifY (pc' := 260) at_222 (by decide) (by decide) ((if0 _ _).trans (teq (rfl : (0 : Int32) = (0 : Int32))).1) ?_
      refine Go.iload (pc' := 262) at_260 rfl rfl ?_
      refine Go.iconst (pc' := 263) at_262 rfl ic_1 ?_
      refine Go.icmpN (pc' := 266) at_263 rfl (flt (by decide : ¬ ((2 : Int32) < (1 : Int32)))).1 ?_
      refine Go.aload (pc' := 268) at_266 rfl rfl rfl ?_
      refine Go.iload (pc' := 270) at_268 rfl rfl ?_
      refine Go.callV (pc' := 273) (u := N_20) (z := N_20) (a := b274) at_270 rfl (w_156 hw) (w_157 hw) (nf (w_159 hw) rfl) (w_159 hw) (w_158 hw) (by decide) E_b274 (argsL := [(.int (0 : Int32))]) (rest := []) (Pays.of_met (W := 0) (len := 3) (m_ucA hw hs b274 b275 q276 (2 : Int32) bs_b274 (0 : Int32) ((([] : List Int32) ++ [c0]) ++ [c1]) h297 E_b274 Fc_b274 Fv_b274 Vt_b274 (by decide) (by decide) (by decide) (by rw [hL2]; decide) (hE_b274) (q16_2)) (w_160 hw) (w_4 hw) (by decide) (by decide)) rfl rfl (lenOf pd_34 rfl) rfl (Nat.le_of_eq rfl) mem0 (by decide) (by decide) ?_
      rintro _ _ _ - - ⟨rfl, rfl, rfl⟩
      change Go _ _ _ _ _ _ _ _ _ _ _ _ _ _ [o, ch] h297 14 3956 273 #[.val (.int p1), .val (.int p2), .val (.int p3), .val (.int p4), .val (.int p5), .val (.int (2 : Int32)), .val (.int (0 : Int32)), .val (.int c0), .val (.int c1), .val (.int c2), .val (.int hh), .val (.int tt), .val (.ref pad), .val (.ref ps), .val (.ref o), .val (.int (0 : Int32)), .val (.ref b274), .val (.ref b294)] [(.int (((([] : List Int32) ++ [c0]) ++ [c1]).getD (0 : Int32).toNatClampNeg 0))]
      rw [show (0 : Int32).toNatClampNeg = 0 from by decide, ((own_ap_lt (by rw [hL1]; decide)).trans (own_ap_eq (by rw [hK0])) : ((([] : List Int32) ++ [c0]) ++ [c1]).getD 0 0 = c0)]
      refine Go.iload (pc' := 275) at_273 rfl rfl ?_
      refine Go.icmpY (pc' := 280) at_275 (by decide) (by decide) (teq (rfl : c0 = c0)).1 ?_
      refine Go.iload (pc' := 282) at_280 rfl rfl ?_
      refine Go.iconst (pc' := 283) at_282 rfl ic_2 ?_
      refine Go.icmpN (pc' := 286) at_283 rfl (flt (by decide : ¬ ((2 : Int32) < (2 : Int32)))).1 ?_
      refine Go.aload (pc' := 288) at_286 rfl rfl rfl ?_
      refine Go.iload (pc' := 290) at_288 rfl rfl ?_
      refine Go.iconst (pc' := 291) at_290 rfl ic_1 ?_
      refine Go.iadd (pc' := 292) at_291 rfl ?_
      rw [show ((0 : Int32) + (1 : Int32)) = (1 : Int32) from by decide]
      refine Go.callV (pc' := 295) (u := N_20) (z := N_20) (a := b274) at_292 rfl (w_156 hw) (w_157 hw) (nf (w_159 hw) rfl) (w_159 hw) (w_158 hw) (by decide) E_b274 (argsL := [(.int (1 : Int32))]) (rest := []) (Pays.of_met (W := 0) (len := 3) (m_ucA hw hs b274 b275 q276 (2 : Int32) bs_b274 (1 : Int32) ((([] : List Int32) ++ [c0]) ++ [c1]) h297 E_b274 Fc_b274 Fv_b274 Vt_b274 (by decide) (by decide) (by decide) (by rw [hL2]; decide) (hE_b274) (q16_2)) (w_160 hw) (w_4 hw) (by decide) (by decide)) rfl rfl (lenOf pd_34 rfl) rfl (Nat.le_of_eq rfl) mem0 (by decide) (by decide) ?_
      rintro _ _ _ - - ⟨rfl, rfl, rfl⟩
      change Go _ _ _ _ _ _ _ _ _ _ _ _ _ _ [o, ch] h297 14 3956 295 #[.val (.int p1), .val (.int p2), .val (.int p3), .val (.int p4), .val (.int p5), .val (.int (2 : Int32)), .val (.int (0 : Int32)), .val (.int c0), .val (.int c1), .val (.int c2), .val (.int hh), .val (.int tt), .val (.ref pad), .val (.ref ps), .val (.ref o), .val (.int (0 : Int32)), .val (.ref b274), .val (.ref b294)] [(.int (((([] : List Int32) ++ [c0]) ++ [c1]).getD (1 : Int32).toNatClampNeg 0))]
      rw [show (1 : Int32).toNatClampNeg = 1 from by decide, (own_ap_eq (by rw [hL1]) : ((([] : List Int32) ++ [c0]) ++ [c1]).getD 1 0 = c1)]
      refine Go.iload (pc' := 297) at_295 rfl rfl ?_
      refine Go.icmpY (pc' := 302) at_297 (by decide) (by decide) (teq (rfl : c1 = c1)).1 ?_
      refine Go.iload (pc' := 304) at_302 rfl rfl ?_
      refine Go.iconst (pc' := 305) at_304 rfl ic_3 ?_
      refine Go.icmpY (pc' := 324) at_305 (by decide) (by decide) (tlt (by decide : (2 : Int32) < (3 : Int32))).1 ?_
      refine Go.iconst (pc' := 325) at_324 rfl ic_1 ?_
      exact Go.retS (ty := .boolean) at_325 rfl (by simp) rfl (by decide) (by decide) [] sn0 ⟨rfl, rfl⟩
set_option maxRecDepth 65536 in
set_option maxHeartbeats 40000000 in
theorem m_lawS0_3 {l : Launch} {Z : State} {a0 : Array Value} {n0 : Nat} (hw : ∀ d ∈ tables_1, d.before a0 Z = true) (hs : Stat Z) (p1 : Int32) (p2 : Int32) (p3 : Int32) (p4 : Int32) (p5 : Int32) (c0 : Int32) (c1 : Int32) (c2 : Int32) (hh : Int32) (tt : Int32) (pad : Addr) (ps : Addr) (o : Addr) (ch : Addr) (kc : ClassId) (h0 h : Heap) (E_o : Exa Z h o "com/example/beleg/beleg/JsonOutput") (F_o_chars : Fld Z h o "com/example/beleg/beleg/JsonOutput" "chars" "[C" (.ref ch)) (F_o_length : Fld Z h o "com/example/beleg/beleg/JsonOutput" "length" "I" (.int (0 : Int32))) (V_ch : Arv Z h ch kc .char (256 : Int32) (([] : List Int32).map Value.int) (.int (0 : Int32))) (hc0 : ¬ c0 < 0 ∧ ¬ 65535 < c0) (hc1 : ¬ c1 < 0 ∧ ¬ 65535 < c1) (hc2 : ¬ c2 < 0 ∧ ¬ 65535 < c2) (ne_ch_o : ch ≠ o) :
    Go l Z EL0 n0 NR0 KN0 x code maxLocals ret room_1 h0 [] (Q_m_law Z p1 p2 p3 p4 p5 h0) [o, ch] h 8 2400 122 #[.val (.int p1), .val (.int p2), .val (.int p3), .val (.int p4), .val (.int p5), .val (.int (3 : Int32)), .val (.int (0 : Int32)), .val (.int c0), .val (.int c1), .val (.int c2), .val (.int hh), .val (.int tt), .val (.ref pad), .val (.ref ps), .val (.ref o), .val (.int (0 : Int32)), .unset, .unset] [] := by
  refine Go.iload (pc' := 124) at_122 rfl rfl ?_
  refine Go.iconst (pc' := 125) at_124 rfl ic_1 ?_
  have q16_0 : ∀ x ∈ ([] : List Int32), ¬ x < 0 ∧ ¬ 65535 < x := fun x hx => absurd hx (by simp)
  have hK0 : ([] : List Int32).length = 0 := rfl
  refine Go.icmpN (pc' := 128) at_125 rfl (flt (by decide : ¬ ((3 : Int32) < (1 : Int32)))).1 ?_
  refine Go.aload (pc' := 130) at_128 rfl rfl rfl ?_
  refine Go.iload (pc' := 132) at_130 rfl rfl ?_
  refine Go.callV (pc' := 135) (u := N_38) (z := N_38) (a := o) at_132 rfl (w_131 hw) (w_132 hw) (nf (w_134 hw) rfl) (w_134 hw) (w_133 hw) (by decide) E_o (argsL := [(.int c0)]) (rest := []) (Pays.of_met (W := 0) (len := 3) (m_apc hw hs o ch kc ([] : List Int32) c0 (256 : Int32) (0 : Int32) h E_o F_o_chars F_o_length V_ch (by rw [hK0]; decide) (by decide) (by decide) (hc0) ne_ch_o) (w_135 hw) (w_33 hw) (by decide) (by decide)) rfl rfl (lenOf pd_33 rfl) rfl (Nat.le_of_eq rfl) (memS (List.mem_of_getElem? (i := 0) rfl) (memS (List.mem_of_getElem? (i := 1) rfl) mem0)) (by decide) (by decide) ?_
  rintro _ h304 _ K305 le306 ⟨rfl, rfl, p307, p308, p309, p310⟩
  replace E_o := E_o.keep K305
  have F_o_chars := p308
  have F_o_length := p309
  have V_ch := p310
  change Go _ _ _ _ _ _ _ _ _ _ _ _ _ _ [o, ch] h304 8 2400 135 #[.val (.int p1), .val (.int p2), .val (.int p3), .val (.int p4), .val (.int p5), .val (.int (3 : Int32)), .val (.int (0 : Int32)), .val (.int c0), .val (.int c1), .val (.int c2), .val (.int hh), .val (.int tt), .val (.ref pad), .val (.ref ps), .val (.ref o), .val (.int (0 : Int32)), .unset, .unset] [(.ref o)]
  rw [show ((0 : Int32) + (1 : Int32)) = (1 : Int32) from by decide] at F_o_length
  refine Go.pop (pc' := 136) at_135 rfl rfl ?_
  refine Go.iload (pc' := 138) at_136 rfl rfl ?_
  refine Go.iconst (pc' := 139) at_138 rfl ic_2 ?_
  have hL1 : (([] : List Int32) ++ [c0]).length = 1 := by rw [List.length_append, hK0]; rfl
  have q16_1 := own_ap_all q16_0 hc0
  refine Go.icmpN (pc' := 142) at_139 rfl (flt (by decide : ¬ ((3 : Int32) < (2 : Int32)))).1 ?_
  refine Go.aload (pc' := 144) at_142 rfl rfl rfl ?_
  refine Go.iload (pc' := 146) at_144 rfl rfl ?_
  refine Go.callV (pc' := 149) (u := N_38) (z := N_38) (a := o) at_146 rfl (w_131 hw) (w_132 hw) (nf (w_134 hw) rfl) (w_134 hw) (w_133 hw) (by decide) E_o (argsL := [(.int c1)]) (rest := []) (Pays.of_met (W := 0) (len := 3) (m_apc hw hs o ch kc (([] : List Int32) ++ [c0]) c1 (256 : Int32) (1 : Int32) h304 E_o F_o_chars F_o_length V_ch (by rw [hL1]; decide) (by decide) (by decide) (hc1) ne_ch_o) (w_135 hw) (w_33 hw) (by decide) (by decide)) rfl rfl (lenOf pd_33 rfl) rfl (Nat.le_of_eq rfl) (memS (List.mem_of_getElem? (i := 0) rfl) (memS (List.mem_of_getElem? (i := 1) rfl) mem0)) (by decide) (by decide) ?_
  rintro _ h311 _ K312 le313 ⟨rfl, rfl, p314, p315, p316, p317⟩
  replace E_o := E_o.keep K312
  have F_o_chars := p315
  have F_o_length := p316
  have V_ch := p317
  change Go _ _ _ _ _ _ _ _ _ _ _ _ _ _ [o, ch] h311 8 2400 149 #[.val (.int p1), .val (.int p2), .val (.int p3), .val (.int p4), .val (.int p5), .val (.int (3 : Int32)), .val (.int (0 : Int32)), .val (.int c0), .val (.int c1), .val (.int c2), .val (.int hh), .val (.int tt), .val (.ref pad), .val (.ref ps), .val (.ref o), .val (.int (0 : Int32)), .unset, .unset] [(.ref o)]
  rw [show ((1 : Int32) + (1 : Int32)) = (2 : Int32) from by decide] at F_o_length
  refine Go.pop (pc' := 150) at_149 rfl rfl ?_
  refine Go.iload (pc' := 152) at_150 rfl rfl ?_
  refine Go.iconst (pc' := 153) at_152 rfl ic_3 ?_
  have hL2 : ((([] : List Int32) ++ [c0]) ++ [c1]).length = 2 := by rw [List.length_append, hL1]; rfl
  have q16_2 := own_ap_all q16_1 hc1
  refine Go.icmpN (pc' := 156) at_153 rfl (flt (by decide : ¬ ((3 : Int32) < (3 : Int32)))).1 ?_
  refine Go.aload (pc' := 158) at_156 rfl rfl rfl ?_
  refine Go.iload (pc' := 160) at_158 rfl rfl ?_
  refine Go.callV (pc' := 163) (u := N_38) (z := N_38) (a := o) at_160 rfl (w_131 hw) (w_132 hw) (nf (w_134 hw) rfl) (w_134 hw) (w_133 hw) (by decide) E_o (argsL := [(.int c2)]) (rest := []) (Pays.of_met (W := 0) (len := 3) (m_apc hw hs o ch kc ((([] : List Int32) ++ [c0]) ++ [c1]) c2 (256 : Int32) (2 : Int32) h311 E_o F_o_chars F_o_length V_ch (by rw [hL2]; decide) (by decide) (by decide) (hc2) ne_ch_o) (w_135 hw) (w_33 hw) (by decide) (by decide)) rfl rfl (lenOf pd_33 rfl) rfl (Nat.le_of_eq rfl) (memS (List.mem_of_getElem? (i := 0) rfl) (memS (List.mem_of_getElem? (i := 1) rfl) mem0)) (by decide) (by decide) ?_
  rintro _ h318 _ K319 le320 ⟨rfl, rfl, p321, p322, p323, p324⟩
  replace E_o := E_o.keep K319
  have F_o_chars := p322
  have F_o_length := p323
  have V_ch := p324
  change Go _ _ _ _ _ _ _ _ _ _ _ _ _ _ [o, ch] h318 8 2400 163 #[.val (.int p1), .val (.int p2), .val (.int p3), .val (.int p4), .val (.int p5), .val (.int (3 : Int32)), .val (.int (0 : Int32)), .val (.int c0), .val (.int c1), .val (.int c2), .val (.int hh), .val (.int tt), .val (.ref pad), .val (.ref ps), .val (.ref o), .val (.int (0 : Int32)), .unset, .unset] [(.ref o)]
  rw [show ((2 : Int32) + (1 : Int32)) = (3 : Int32) from by decide] at F_o_length
  refine Go.pop (pc' := 164) at_163 rfl rfl ?_
  refine Go.aload (pc' := 166) at_164 rfl rfl rfl ?_
  have hL3 : (((([] : List Int32) ++ [c0]) ++ [c1]) ++ [c2]).length = 3 := by rw [List.length_append, hL2]; rfl
  have q16_3 := own_ap_all q16_2 hc2
  refine Go.callV (pc' := 169) (u := N_41) (z := N_41) (a := o) at_166 rfl (w_43 hw) (w_44 hw) (nf (w_46 hw) rfl) (w_46 hw) (w_45 hw) (by decide) E_o (argsL := []) (rest := []) (Pays.of_met (W := 0) (len := 3) (m_jstr hw hs o ch kc (((([] : List Int32) ++ [c0]) ++ [c1]) ++ [c2]) (256 : Int32) (3 : Int32) h318 E_o F_o_chars F_o_length V_ch (by rw [hL3]; decide) (by decide) (by decide) (by decide) (q16_3) (by decide)) (w_47 hw) (w_33 hw) (by decide) (by decide)) rfl rfl (lenOf pd_31 rfl) rfl (Nat.le_of_eq rfl) mem0 (by decide) (by decide) ?_
  rintro _ h328 _ K329 le330 ⟨b325, b326, q327, rfl, rfl, p331, p332, p333, p334⟩
  have o_o_b325 : o ≠ b325 := Nat.ne_of_lt (Nat.lt_of_lt_of_le E_o.lt p332)
  have o_ch_b325 : ch ≠ b325 := Nat.ne_of_lt (Nat.lt_of_lt_of_le V_ch.lt p332)
  have ge_b325 := Nat.le_trans le330 p332
  have o_o_b326 : o ≠ b326 := Nat.ne_of_lt (Nat.lt_of_lt_of_le E_o.lt p333)
  have o_ch_b326 : ch ≠ b326 := Nat.ne_of_lt (Nat.lt_of_lt_of_le V_ch.lt p333)
  have ge_b326 := Nat.le_trans le330 p333
  replace E_o := E_o.keep K329
  replace F_o_chars := F_o_chars.keep K329 nin0
  replace F_o_length := F_o_length.keep K329 nin0
  replace V_ch := V_ch.keep K329 nin0
  have E_b325 := p331
  change Go _ _ _ _ _ _ _ _ _ _ _ _ _ _ [o, ch] h328 11 3178 169 #[.val (.int p1), .val (.int p2), .val (.int p3), .val (.int p4), .val (.int p5), .val (.int (3 : Int32)), .val (.int (0 : Int32)), .val (.int c0), .val (.int c1), .val (.int c2), .val (.int hh), .val (.int tt), .val (.ref pad), .val (.ref ps), .val (.ref o), .val (.int (0 : Int32)), .unset, .unset] [(.ref b325)]
  rcases p334 with ⟨Fc_b325, Fv_b325, Vt_b325, hA_b325⟩ | ⟨Fc_b325, Fv_b325, bs_b325, Vt_b325, hE_b325, hX_b325⟩
  · skip
    refine Go.astore (pc' := 171) (Ls' := #[.val (.int p1), .val (.int p2), .val (.int p3), .val (.int p4), .val (.int p5), .val (.int (3 : Int32)), .val (.int (0 : Int32)), .val (.int c0), .val (.int c1), .val (.int c2), .val (.int hh), .val (.int tt), .val (.ref pad), .val (.ref ps), .val (.ref o), .val (.int (0 : Int32)), .val (.ref b325), .unset]) at_169 rfl rfl rfl ?_
    refine Go.aload (pc' := 173) at_171 rfl rfl rfl ?_
    refine Go.callV (pc' := 176) (u := N_41) (z := N_41) (a := o) at_173 rfl (w_43 hw) (w_44 hw) (nf (w_46 hw) rfl) (w_46 hw) (w_45 hw) (by decide) E_o (argsL := []) (rest := []) (Pays.of_met (W := 0) (len := 3) (m_jstr hw hs o ch kc (((([] : List Int32) ++ [c0]) ++ [c1]) ++ [c2]) (256 : Int32) (3 : Int32) h328 E_o F_o_chars F_o_length V_ch (by rw [hL3]; decide) (by decide) (by decide) (by decide) (q16_3) (by decide)) (w_47 hw) (w_33 hw) (by decide) (by decide)) rfl rfl (lenOf pd_31 rfl) rfl (Nat.le_of_eq rfl) mem0 (by decide) (by decide) ?_
    rintro _ h338 _ K339 le340 ⟨b335, b336, q337, rfl, rfl, p341, p342, p343, p344⟩
    have o_o_b335 : o ≠ b335 := Nat.ne_of_lt (Nat.lt_of_lt_of_le E_o.lt p342)
    have o_ch_b335 : ch ≠ b335 := Nat.ne_of_lt (Nat.lt_of_lt_of_le V_ch.lt p342)
    have o_b325_b335 : b325 ≠ b335 := Nat.ne_of_lt (Nat.lt_of_lt_of_le E_b325.lt p342)
    have o_b326_b335 : b326 ≠ b335 := Nat.ne_of_lt (Nat.lt_of_lt_of_le Vt_b325.lt p342)
    have ge_b335 := Nat.le_trans le340 p342
    have o_o_b336 : o ≠ b336 := Nat.ne_of_lt (Nat.lt_of_lt_of_le E_o.lt p343)
    have o_ch_b336 : ch ≠ b336 := Nat.ne_of_lt (Nat.lt_of_lt_of_le V_ch.lt p343)
    have o_b325_b336 : b325 ≠ b336 := Nat.ne_of_lt (Nat.lt_of_lt_of_le E_b325.lt p343)
    have o_b326_b336 : b326 ≠ b336 := Nat.ne_of_lt (Nat.lt_of_lt_of_le Vt_b325.lt p343)
    have ge_b336 := Nat.le_trans le340 p343
    replace E_o := E_o.keep K339
    replace F_o_chars := F_o_chars.keep K339 nin0
    replace F_o_length := F_o_length.keep K339 nin0
    replace V_ch := V_ch.keep K339 nin0
    replace E_b325 := E_b325.keep K339
    replace Fc_b325 := Fc_b325.keep K339 nin0
    replace Fv_b325 := Fv_b325.keep K339 nin0
    replace Vt_b325 := Vt_b325.keep K339 nin0
    have E_b335 := p341
    change Go _ _ _ _ _ _ _ _ _ _ _ _ _ _ [o, ch] h338 14 3956 176 #[.val (.int p1), .val (.int p2), .val (.int p3), .val (.int p4), .val (.int p5), .val (.int (3 : Int32)), .val (.int (0 : Int32)), .val (.int c0), .val (.int c1), .val (.int c2), .val (.int hh), .val (.int tt), .val (.ref pad), .val (.ref ps), .val (.ref o), .val (.int (0 : Int32)), .val (.ref b325), .unset] [(.ref b335)]
    rcases p344 with ⟨Fc_b335, Fv_b335, Vt_b335, hA_b335⟩ | ⟨Fc_b335, Fv_b335, bs_b335, Vt_b335, hE_b335, hX_b335⟩
    · skip
      refine Go.astore (pc' := 178) (Ls' := #[.val (.int p1), .val (.int p2), .val (.int p3), .val (.int p4), .val (.int p5), .val (.int (3 : Int32)), .val (.int (0 : Int32)), .val (.int c0), .val (.int c1), .val (.int c2), .val (.int hh), .val (.int tt), .val (.ref pad), .val (.ref ps), .val (.ref o), .val (.int (0 : Int32)), .val (.ref b325), .val (.ref b335)]) at_176 rfl rfl rfl ?_
      refine Go.aload (pc' := 180) at_178 rfl rfl rfl ?_
      refine Go.aload (pc' := 182) at_180 rfl rfl rfl ?_
      have W_b325 := Vt_b325
      rw [own_low_map] at W_b325
      have W_b335 := Vt_b335
      rw [own_low_map] at W_b335
      refine Go.callV (pc' := 185) (u := N_43) (z := N_43) (a := b325) at_182 rfl (w_68 hw) (w_69 hw) (nf (w_71 hw) rfl) (w_71 hw) (w_70 hw) (by decide) E_b325 (argsL := [(.ref b335)]) (rest := []) (Pays.of_met (W := 0) (len := 3) (m_seq0 hw hs b325 b335 b326 b336 q327 q337 ((((([] : List Int32) ++ [c0]) ++ [c1]) ++ [c2]).map (fun c => c.toInt8.toInt32)) ((((([] : List Int32) ++ [c0]) ++ [c1]) ++ [c2]).map (fun c => c.toInt8.toInt32)) (3 : Int32) (3 : Int32) h338 E_b325 Fc_b325 Fv_b325 W_b325 E_b335 Fc_b335 Fv_b335 W_b335 (by rw [List.length_map]; rw [hL3]; decide) (by rw [List.length_map]; rw [hL3]; decide)) (w_72 hw) (w_4 hw) (by decide) (by decide)) rfl rfl (lenOf pd_32 rfl) rfl (Nat.le_of_eq rfl) mem0 (by decide) (by decide) ?_
      rintro _ _ _ - - ⟨rfl, rfl, rfl⟩
      change Go _ _ _ _ _ _ _ _ _ _ _ _ _ _ [o, ch] h338 14 3956 185 #[.val (.int p1), .val (.int p2), .val (.int p3), .val (.int p4), .val (.int p5), .val (.int (3 : Int32)), .val (.int (0 : Int32)), .val (.int c0), .val (.int c1), .val (.int c2), .val (.int hh), .val (.int tt), .val (.ref pad), .val (.ref ps), .val (.ref o), .val (.int (0 : Int32)), .val (.ref b325), .val (.ref b335)] [(.int (own_eqb ((((([] : List Int32) ++ [c0]) ++ [c1]) ++ [c2]).map (fun c => c.toInt8.toInt32)) ((((([] : List Int32) ++ [c0]) ++ [c1]) ++ [c2]).map (fun c => c.toInt8.toInt32))))]
      rw [own_eqb_pos rfl]
      refine Go.ifY (pc' := 190) at_185 (by decide) (by decide) ((if0 _ _).trans (feq (by decide : ¬ ((1 : Int32) = (0 : Int32)))).2) ?_
      refine Go.aload (pc' := 192) at_190 rfl rfl rfl ?_
      refine Go.callV (pc' := 195) (u := N_40) (z := N_40) (a := o) at_192 rfl (w_78 hw) (w_79 hw) (nf (w_81 hw) rfl) (w_81 hw) (w_80 hw) (by decide) E_o (argsL := []) (rest := []) (Pays.of_met (W := 0) (len := 3) (m_jlen hw hs o (3 : Int32) h338 F_o_length) (w_82 hw) (w_33 hw) (by decide) (by decide)) rfl rfl (lenOf pd_19 rfl) rfl (Nat.le_of_eq rfl) mem0 (by decide) (by decide) ?_
      rintro _ _ _ - - ⟨rfl, rfl, rfl⟩
      change Go _ _ _ _ _ _ _ _ _ _ _ _ _ _ [o, ch] h338 14 3956 195 #[.val (.int p1), .val (.int p2), .val (.int p3), .val (.int p4), .val (.int p5), .val (.int (3 : Int32)), .val (.int (0 : Int32)), .val (.int c0), .val (.int c1), .val (.int c2), .val (.int hh), .val (.int tt), .val (.ref pad), .val (.ref ps), .val (.ref o), .val (.int (0 : Int32)), .val (.ref b325), .val (.ref b335)] [(.int (3 : Int32))]
      refine Go.iload (pc' := 197) at_195 rfl rfl ?_
      refine Go.iload (pc' := 199) at_197 rfl rfl ?_
      refine Go.iadd (pc' := 200) at_199 rfl ?_
      rw [show ((0 : Int32) + (3 : Int32)) = (3 : Int32) from by decide]
      refine Go.icmpY (pc' := 205) at_200 (by decide) (by decide) (teq (rfl : (3 : Int32) = (3 : Int32))).1 ?_
      refine Go.aload (pc' := 207) at_205 rfl rfl rfl ?_
      refine Go.callV (pc' := 210) (u := N_16) (z := N_16) (a := b325) at_207 rfl (w_83 hw) (w_84 hw) (nf (w_86 hw) rfl) (w_86 hw) (w_85 hw) (by decide) E_b325 (argsL := []) (rest := []) (Pays.of_met (W := 0) (len := 3) (m_length hw hs b325 b326 q327 (3 : Int32) ((((([] : List Int32) ++ [c0]) ++ [c1]) ++ [c2]).map lowV) h338 E_b325 Fc_b325 Fv_b325 Vt_b325) (w_87 hw) (w_4 hw) (by decide) (by decide)) rfl rfl (lenOf pd_19 rfl) rfl (Nat.le_of_eq rfl) mem0 (by decide) (by decide) ?_
      rintro _ _ _ - - ⟨rfl, rfl, rfl⟩
      change Go _ _ _ _ _ _ _ _ _ _ _ _ _ _ [o, ch] h338 14 3956 210 #[.val (.int p1), .val (.int p2), .val (.int p3), .val (.int p4), .val (.int p5), .val (.int (3 : Int32)), .val (.int (0 : Int32)), .val (.int c0), .val (.int c1), .val (.int c2), .val (.int hh), .val (.int tt), .val (.ref pad), .val (.ref ps), .val (.ref o), .val (.int (0 : Int32)), .val (.ref b325), .val (.ref b335)] [(.int (3 : Int32))]
      refine Go.iload (pc' := 212) at_210 rfl rfl ?_
      refine Go.iload (pc' := 214) at_212 rfl rfl ?_
      refine Go.iadd (pc' := 215) at_214 rfl ?_
      rw [show ((0 : Int32) + (3 : Int32)) = (3 : Int32) from by decide]
      refine Go.icmpY (pc' := 220) at_215 (by decide) (by decide) (teq (rfl : (3 : Int32) = (3 : Int32))).1 ?_
      refine Go.iload (pc' := 222) at_220 rfl rfl ?_
      refine Go.ifY (pc' := 260) at_222 (by decide) (by decide) ((if0 _ _).trans (teq (rfl : (0 : Int32) = (0 : Int32))).1) ?_
      refine Go.iload (pc' := 262) at_260 rfl rfl ?_
      refine Go.iconst (pc' := 263) at_262 rfl ic_1 ?_
      refine Go.icmpN (pc' := 266) at_263 rfl (flt (by decide : ¬ ((3 : Int32) < (1 : Int32)))).1 ?_
      refine Go.aload (pc' := 268) at_266 rfl rfl rfl ?_
      refine Go.iload (pc' := 270) at_268 rfl rfl ?_
      refine Go.callV (pc' := 273) (u := N_20) (z := N_20) (a := b325) at_270 rfl (w_156 hw) (w_157 hw) (nf (w_159 hw) rfl) (w_159 hw) (w_158 hw) (by decide) E_b325 (argsL := [(.int (0 : Int32))]) (rest := []) (Pays.of_met (W := 0) (len := 3) (m_charAt hw hs b325 b326 q327 (3 : Int32) ((((([] : List Int32) ++ [c0]) ++ [c1]) ++ [c2]).map lowV) (0 : Int32) ((((([] : List Int32) ++ [c0]) ++ [c1]) ++ [c2]).getD (0 : Int32).toNatClampNeg 0).toInt8.toInt32 h338 E_b325 Fc_b325 Fv_b325 Vt_b325 (by decide) (getD_low (((([] : List Int32) ++ [c0]) ++ [c1]) ++ [c2]) _ (by rw [hL3]; decide))) (w_160 hw) (w_4 hw) (by decide) (by decide)) rfl rfl (lenOf pd_34 rfl) rfl (Nat.le_of_eq rfl) mem0 (by decide) (by decide) ?_
      rintro _ _ _ - - ⟨rfl, rfl, rfl⟩
      change Go _ _ _ _ _ _ _ _ _ _ _ _ _ _ [o, ch] h338 14 3956 273 #[.val (.int p1), .val (.int p2), .val (.int p3), .val (.int p4), .val (.int p5), .val (.int (3 : Int32)), .val (.int (0 : Int32)), .val (.int c0), .val (.int c1), .val (.int c2), .val (.int hh), .val (.int tt), .val (.ref pad), .val (.ref ps), .val (.ref o), .val (.int (0 : Int32)), .val (.ref b325), .val (.ref b335)] [(.int (((((([] : List Int32) ++ [c0]) ++ [c1]) ++ [c2]).getD (0 : Int32).toNatClampNeg 0).toInt8.toInt32 &&& (255 : Int32)).toUInt32.toUInt16.toUInt32.toInt32)]
      have mm := getD_mem (P := fun x => ¬ x < 0 ∧ ¬ 255 < x) (fun x hx => ⟨(q16_3 x hx).1, hA_b325 x hx⟩) (i := (0 : Int32).toNatClampNeg) (by rw [hL3]; decide)
      rw [own_lowback mm.1 mm.2]
      rw [show (0 : Int32).toNatClampNeg = 0 from by decide, ((own_ap_lt (by rw [hL2]; decide)).trans ((own_ap_lt (by rw [hL1]; decide)).trans (own_ap_eq (by rw [hK0]))) : (((([] : List Int32) ++ [c0]) ++ [c1]) ++ [c2]).getD 0 0 = c0)]
      refine Go.iload (pc' := 275) at_273 rfl rfl ?_
      refine Go.icmpY (pc' := 280) at_275 (by decide) (by decide) (teq (rfl : c0 = c0)).1 ?_
      refine Go.iload (pc' := 282) at_280 rfl rfl ?_
      refine Go.iconst (pc' := 283) at_282 rfl ic_2 ?_
      refine Go.icmpN (pc' := 286) at_283 rfl (flt (by decide : ¬ ((3 : Int32) < (2 : Int32)))).1 ?_
      refine Go.aload (pc' := 288) at_286 rfl rfl rfl ?_
      refine Go.iload (pc' := 290) at_288 rfl rfl ?_
      refine Go.iconst (pc' := 291) at_290 rfl ic_1 ?_
      refine Go.iadd (pc' := 292) at_291 rfl ?_
      rw [show ((0 : Int32) + (1 : Int32)) = (1 : Int32) from by decide]
      refine Go.callV (pc' := 295) (u := N_20) (z := N_20) (a := b325) at_292 rfl (w_156 hw) (w_157 hw) (nf (w_159 hw) rfl) (w_159 hw) (w_158 hw) (by decide) E_b325 (argsL := [(.int (1 : Int32))]) (rest := []) (Pays.of_met (W := 0) (len := 3) (m_charAt hw hs b325 b326 q327 (3 : Int32) ((((([] : List Int32) ++ [c0]) ++ [c1]) ++ [c2]).map lowV) (1 : Int32) ((((([] : List Int32) ++ [c0]) ++ [c1]) ++ [c2]).getD (1 : Int32).toNatClampNeg 0).toInt8.toInt32 h338 E_b325 Fc_b325 Fv_b325 Vt_b325 (by decide) (getD_low (((([] : List Int32) ++ [c0]) ++ [c1]) ++ [c2]) _ (by rw [hL3]; decide))) (w_160 hw) (w_4 hw) (by decide) (by decide)) rfl rfl (lenOf pd_34 rfl) rfl (Nat.le_of_eq rfl) mem0 (by decide) (by decide) ?_
      rintro _ _ _ - - ⟨rfl, rfl, rfl⟩
      change Go _ _ _ _ _ _ _ _ _ _ _ _ _ _ [o, ch] h338 14 3956 295 #[.val (.int p1), .val (.int p2), .val (.int p3), .val (.int p4), .val (.int p5), .val (.int (3 : Int32)), .val (.int (0 : Int32)), .val (.int c0), .val (.int c1), .val (.int c2), .val (.int hh), .val (.int tt), .val (.ref pad), .val (.ref ps), .val (.ref o), .val (.int (0 : Int32)), .val (.ref b325), .val (.ref b335)] [(.int (((((([] : List Int32) ++ [c0]) ++ [c1]) ++ [c2]).getD (1 : Int32).toNatClampNeg 0).toInt8.toInt32 &&& (255 : Int32)).toUInt32.toUInt16.toUInt32.toInt32)]
      have mm := getD_mem (P := fun x => ¬ x < 0 ∧ ¬ 255 < x) (fun x hx => ⟨(q16_3 x hx).1, hA_b325 x hx⟩) (i := (1 : Int32).toNatClampNeg) (by rw [hL3]; decide)
      rw [own_lowback mm.1 mm.2]
      rw [show (1 : Int32).toNatClampNeg = 1 from by decide, ((own_ap_lt (by rw [hL2]; decide)).trans (own_ap_eq (by rw [hL1])) : (((([] : List Int32) ++ [c0]) ++ [c1]) ++ [c2]).getD 1 0 = c1)]
      refine Go.iload (pc' := 297) at_295 rfl rfl ?_
      refine Go.icmpY (pc' := 302) at_297 (by decide) (by decide) (teq (rfl : c1 = c1)).1 ?_
      refine Go.iload (pc' := 304) at_302 rfl rfl ?_
      refine Go.iconst (pc' := 305) at_304 rfl ic_3 ?_
      refine Go.icmpN (pc' := 308) at_305 rfl (flt (by decide : ¬ ((3 : Int32) < (3 : Int32)))).1 ?_
      refine Go.aload (pc' := 310) at_308 rfl rfl rfl ?_
      refine Go.iload (pc' := 312) at_310 rfl rfl ?_
      refine Go.iconst (pc' := 313) at_312 rfl ic_2 ?_
      refine Go.iadd (pc' := 314) at_313 rfl ?_
      rw [show ((0 : Int32) + (2 : Int32)) = (2 : Int32) from by decide]
      refine Go.callV (pc' := 317) (u := N_20) (z := N_20) (a := b325) at_314 rfl (w_156 hw) (w_157 hw) (nf (w_159 hw) rfl) (w_159 hw) (w_158 hw) (by decide) E_b325 (argsL := [(.int (2 : Int32))]) (rest := []) (Pays.of_met (W := 0) (len := 3) (m_charAt hw hs b325 b326 q327 (3 : Int32) ((((([] : List Int32) ++ [c0]) ++ [c1]) ++ [c2]).map lowV) (2 : Int32) ((((([] : List Int32) ++ [c0]) ++ [c1]) ++ [c2]).getD (2 : Int32).toNatClampNeg 0).toInt8.toInt32 h338 E_b325 Fc_b325 Fv_b325 Vt_b325 (by decide) (getD_low (((([] : List Int32) ++ [c0]) ++ [c1]) ++ [c2]) _ (by rw [hL3]; decide))) (w_160 hw) (w_4 hw) (by decide) (by decide)) rfl rfl (lenOf pd_34 rfl) rfl (Nat.le_of_eq rfl) mem0 (by decide) (by decide) ?_
      rintro _ _ _ - - ⟨rfl, rfl, rfl⟩
      change Go _ _ _ _ _ _ _ _ _ _ _ _ _ _ [o, ch] h338 14 3956 317 #[.val (.int p1), .val (.int p2), .val (.int p3), .val (.int p4), .val (.int p5), .val (.int (3 : Int32)), .val (.int (0 : Int32)), .val (.int c0), .val (.int c1), .val (.int c2), .val (.int hh), .val (.int tt), .val (.ref pad), .val (.ref ps), .val (.ref o), .val (.int (0 : Int32)), .val (.ref b325), .val (.ref b335)] [(.int (((((([] : List Int32) ++ [c0]) ++ [c1]) ++ [c2]).getD (2 : Int32).toNatClampNeg 0).toInt8.toInt32 &&& (255 : Int32)).toUInt32.toUInt16.toUInt32.toInt32)]
      have mm := getD_mem (P := fun x => ¬ x < 0 ∧ ¬ 255 < x) (fun x hx => ⟨(q16_3 x hx).1, hA_b325 x hx⟩) (i := (2 : Int32).toNatClampNeg) (by rw [hL3]; decide)
      rw [own_lowback mm.1 mm.2]
      rw [show (2 : Int32).toNatClampNeg = 2 from by decide, (own_ap_eq (by rw [hL2]) : (((([] : List Int32) ++ [c0]) ++ [c1]) ++ [c2]).getD 2 0 = c2)]
      refine Go.iload (pc' := 319) at_317 rfl rfl ?_
      refine Go.icmpY (pc' := 324) at_319 (by decide) (by decide) (teq (rfl : c2 = c2)).1 ?_
      refine Go.iconst (pc' := 325) at_324 rfl ic_1 ?_
      exact Go.retS (ty := .boolean) at_325 rfl (by simp) rfl (by decide) (by decide) [] sn0 ⟨rfl, rfl⟩
    · skip
      exact False.elim (by obtain ⟨y, y1, y2⟩ := hX_b335; exact hA_b325 y y1 y2)
  · skip
    refine Go.astore (pc' := 171) (Ls' := #[.val (.int p1), .val (.int p2), .val (.int p3), .val (.int p4), .val (.int p5), .val (.int (3 : Int32)), .val (.int (0 : Int32)), .val (.int c0), .val (.int c1), .val (.int c2), .val (.int hh), .val (.int tt), .val (.ref pad), .val (.ref ps), .val (.ref o), .val (.int (0 : Int32)), .val (.ref b325), .unset]) at_169 rfl rfl rfl ?_
    refine Go.aload (pc' := 173) at_171 rfl rfl rfl ?_
    refine Go.callV (pc' := 176) (u := N_41) (z := N_41) (a := o) at_173 rfl (w_43 hw) (w_44 hw) (nf (w_46 hw) rfl) (w_46 hw) (w_45 hw) (by decide) E_o (argsL := []) (rest := []) (Pays.of_met (W := 0) (len := 3) (m_jstr hw hs o ch kc (((([] : List Int32) ++ [c0]) ++ [c1]) ++ [c2]) (256 : Int32) (3 : Int32) h328 E_o F_o_chars F_o_length V_ch (by rw [hL3]; decide) (by decide) (by decide) (by decide) (q16_3) (by decide)) (w_47 hw) (w_33 hw) (by decide) (by decide)) rfl rfl (lenOf pd_31 rfl) rfl (Nat.le_of_eq rfl) mem0 (by decide) (by decide) ?_
    rintro _ h348 _ K349 le350 ⟨b345, b346, q347, rfl, rfl, p351, p352, p353, p354⟩
    have o_o_b345 : o ≠ b345 := Nat.ne_of_lt (Nat.lt_of_lt_of_le E_o.lt p352)
    have o_ch_b345 : ch ≠ b345 := Nat.ne_of_lt (Nat.lt_of_lt_of_le V_ch.lt p352)
    have o_b325_b345 : b325 ≠ b345 := Nat.ne_of_lt (Nat.lt_of_lt_of_le E_b325.lt p352)
    have o_b326_b345 : b326 ≠ b345 := Nat.ne_of_lt (Nat.lt_of_lt_of_le Vt_b325.lt p352)
    have ge_b345 := Nat.le_trans le350 p352
    have o_o_b346 : o ≠ b346 := Nat.ne_of_lt (Nat.lt_of_lt_of_le E_o.lt p353)
    have o_ch_b346 : ch ≠ b346 := Nat.ne_of_lt (Nat.lt_of_lt_of_le V_ch.lt p353)
    have o_b325_b346 : b325 ≠ b346 := Nat.ne_of_lt (Nat.lt_of_lt_of_le E_b325.lt p353)
    have o_b326_b346 : b326 ≠ b346 := Nat.ne_of_lt (Nat.lt_of_lt_of_le Vt_b325.lt p353)
    have ge_b346 := Nat.le_trans le350 p353
    replace E_o := E_o.keep K349
    replace F_o_chars := F_o_chars.keep K349 nin0
    replace F_o_length := F_o_length.keep K349 nin0
    replace V_ch := V_ch.keep K349 nin0
    replace E_b325 := E_b325.keep K349
    replace Fc_b325 := Fc_b325.keep K349 nin0
    replace Fv_b325 := Fv_b325.keep K349 nin0
    replace Vt_b325 := Vt_b325.keep K349 nin0
    have E_b345 := p351
    change Go _ _ _ _ _ _ _ _ _ _ _ _ _ _ [o, ch] h348 14 3956 176 #[.val (.int p1), .val (.int p2), .val (.int p3), .val (.int p4), .val (.int p5), .val (.int (3 : Int32)), .val (.int (0 : Int32)), .val (.int c0), .val (.int c1), .val (.int c2), .val (.int hh), .val (.int tt), .val (.ref pad), .val (.ref ps), .val (.ref o), .val (.int (0 : Int32)), .val (.ref b325), .unset] [(.ref b345)]
    rcases p354 with ⟨Fc_b345, Fv_b345, Vt_b345, hA_b345⟩ | ⟨Fc_b345, Fv_b345, bs_b345, Vt_b345, hE_b345, hX_b345⟩
    · skip
      exact False.elim (by obtain ⟨y, y1, y2⟩ := hX_b325; exact hA_b345 y y1 y2)
    · skip
      refine Go.astore (pc' := 178) (Ls' := #[.val (.int p1), .val (.int p2), .val (.int p3), .val (.int p4), .val (.int p5), .val (.int (3 : Int32)), .val (.int (0 : Int32)), .val (.int c0), .val (.int c1), .val (.int c2), .val (.int hh), .val (.int tt), .val (.ref pad), .val (.ref ps), .val (.ref o), .val (.int (0 : Int32)), .val (.ref b325), .val (.ref b345)]) at_176 rfl rfl rfl ?_
      refine Go.aload (pc' := 180) at_178 rfl rfl rfl ?_
      refine Go.aload (pc' := 182) at_180 rfl rfl rfl ?_
      refine Go.callV (pc' := 185) (u := N_43) (z := N_43) (a := b325) at_182 rfl (w_68 hw) (w_69 hw) (nf (w_71 hw) rfl) (w_71 hw) (w_70 hw) (by decide) E_b325 (argsL := [(.ref b345)]) (rest := []) (Pays.of_met (W := 0) (len := 3) (m_seq1 hw hs b325 b345 b326 b346 q327 q347 bs_b325 bs_b345 ((3 : Int32) <<< ((1 : Int32) &&& 31)) ((3 : Int32) <<< ((1 : Int32) &&& 31)) h348 E_b325 Fc_b325 Fv_b325 Vt_b325 E_b345 Fc_b345 Fv_b345 Vt_b345 (by rw [hE_b325.1, hL3]; decide) (by rw [hE_b345.1, hL3]; decide)) (w_72 hw) (w_4 hw) (by decide) (by decide)) rfl rfl (lenOf pd_32 rfl) rfl (Nat.le_of_eq rfl) mem0 (by decide) (by decide) ?_
      rintro _ _ _ - - ⟨rfl, rfl, rfl⟩
      change Go _ _ _ _ _ _ _ _ _ _ _ _ _ _ [o, ch] h348 14 3956 185 #[.val (.int p1), .val (.int p2), .val (.int p3), .val (.int p4), .val (.int p5), .val (.int (3 : Int32)), .val (.int (0 : Int32)), .val (.int c0), .val (.int c1), .val (.int c2), .val (.int hh), .val (.int tt), .val (.ref pad), .val (.ref ps), .val (.ref o), .val (.int (0 : Int32)), .val (.ref b325), .val (.ref b345)] [(.int (own_eqb bs_b325 bs_b345))]
      rw [own_eqb_pos (hE_b325.uniq hE_b345)]
      refine Go.ifY (pc' := 190) at_185 (by decide) (by decide) ((if0 _ _).trans (feq (by decide : ¬ ((1 : Int32) = (0 : Int32)))).2) ?_
      refine Go.aload (pc' := 192) at_190 rfl rfl rfl ?_
      refine Go.callV (pc' := 195) (u := N_40) (z := N_40) (a := o) at_192 rfl (w_78 hw) (w_79 hw) (nf (w_81 hw) rfl) (w_81 hw) (w_80 hw) (by decide) E_o (argsL := []) (rest := []) (Pays.of_met (W := 0) (len := 3) (m_jlen hw hs o (3 : Int32) h348 F_o_length) (w_82 hw) (w_33 hw) (by decide) (by decide)) rfl rfl (lenOf pd_19 rfl) rfl (Nat.le_of_eq rfl) mem0 (by decide) (by decide) ?_
      rintro _ _ _ - - ⟨rfl, rfl, rfl⟩
      change Go _ _ _ _ _ _ _ _ _ _ _ _ _ _ [o, ch] h348 14 3956 195 #[.val (.int p1), .val (.int p2), .val (.int p3), .val (.int p4), .val (.int p5), .val (.int (3 : Int32)), .val (.int (0 : Int32)), .val (.int c0), .val (.int c1), .val (.int c2), .val (.int hh), .val (.int tt), .val (.ref pad), .val (.ref ps), .val (.ref o), .val (.int (0 : Int32)), .val (.ref b325), .val (.ref b345)] [(.int (3 : Int32))]
      refine Go.iload (pc' := 197) at_195 rfl rfl ?_
      refine Go.iload (pc' := 199) at_197 rfl rfl ?_
      refine Go.iadd (pc' := 200) at_199 rfl ?_
      rw [show ((0 : Int32) + (3 : Int32)) = (3 : Int32) from by decide]
      refine Go.icmpY (pc' := 205) at_200 (by decide) (by decide) (teq (rfl : (3 : Int32) = (3 : Int32))).1 ?_
      refine Go.aload (pc' := 207) at_205 rfl rfl rfl ?_
      refine Go.callV (pc' := 210) (u := N_16) (z := N_16) (a := b325) at_207 rfl (w_83 hw) (w_84 hw) (nf (w_86 hw) rfl) (w_86 hw) (w_85 hw) (by decide) E_b325 (argsL := []) (rest := []) (Pays.of_met (W := 0) (len := 3) (m_ulen hw hs b325 b326 q327 (3 : Int32) bs_b325 h348 E_b325 Fc_b325 Fv_b325 Vt_b325 (by decide) (by decide)) (w_87 hw) (w_4 hw) (by decide) (by decide)) rfl rfl (lenOf pd_19 rfl) rfl (Nat.le_of_eq rfl) mem0 (by decide) (by decide) ?_
      rintro _ _ _ - - ⟨rfl, rfl, rfl⟩
      change Go _ _ _ _ _ _ _ _ _ _ _ _ _ _ [o, ch] h348 14 3956 210 #[.val (.int p1), .val (.int p2), .val (.int p3), .val (.int p4), .val (.int p5), .val (.int (3 : Int32)), .val (.int (0 : Int32)), .val (.int c0), .val (.int c1), .val (.int c2), .val (.int hh), .val (.int tt), .val (.ref pad), .val (.ref ps), .val (.ref o), .val (.int (0 : Int32)), .val (.ref b325), .val (.ref b345)] [(.int (3 : Int32))]
      refine Go.iload (pc' := 212) at_210 rfl rfl ?_
      refine Go.iload (pc' := 214) at_212 rfl rfl ?_
      refine Go.iadd (pc' := 215) at_214 rfl ?_
      rw [show ((0 : Int32) + (3 : Int32)) = (3 : Int32) from by decide]
      refine Go.icmpY (pc' := 220) at_215 (by decide) (by decide) (teq (rfl : (3 : Int32) = (3 : Int32))).1 ?_
      refine Go.iload (pc' := 222) at_220 rfl rfl ?_
      refine Go.ifY (pc' := 260) at_222 (by decide) (by decide) ((if0 _ _).trans (teq (rfl : (0 : Int32) = (0 : Int32))).1) ?_
      refine Go.iload (pc' := 262) at_260 rfl rfl ?_
      refine Go.iconst (pc' := 263) at_262 rfl ic_1 ?_
      refine Go.icmpN (pc' := 266) at_263 rfl (flt (by decide : ¬ ((3 : Int32) < (1 : Int32)))).1 ?_
      refine Go.aload (pc' := 268) at_266 rfl rfl rfl ?_
      refine Go.iload (pc' := 270) at_268 rfl rfl ?_
      refine Go.callV (pc' := 273) (u := N_20) (z := N_20) (a := b325) at_270 rfl (w_156 hw) (w_157 hw) (nf (w_159 hw) rfl) (w_159 hw) (w_158 hw) (by decide) E_b325 (argsL := [(.int (0 : Int32))]) (rest := []) (Pays.of_met (W := 0) (len := 3) (m_ucA hw hs b325 b326 q327 (3 : Int32) bs_b325 (0 : Int32) (((([] : List Int32) ++ [c0]) ++ [c1]) ++ [c2]) h348 E_b325 Fc_b325 Fv_b325 Vt_b325 (by decide) (by decide) (by decide) (by rw [hL3]; decide) (hE_b325) (q16_3)) (w_160 hw) (w_4 hw) (by decide) (by decide)) rfl rfl (lenOf pd_34 rfl) rfl (Nat.le_of_eq rfl) mem0 (by decide) (by decide) ?_
      rintro _ _ _ - - ⟨rfl, rfl, rfl⟩
      change Go _ _ _ _ _ _ _ _ _ _ _ _ _ _ [o, ch] h348 14 3956 273 #[.val (.int p1), .val (.int p2), .val (.int p3), .val (.int p4), .val (.int p5), .val (.int (3 : Int32)), .val (.int (0 : Int32)), .val (.int c0), .val (.int c1), .val (.int c2), .val (.int hh), .val (.int tt), .val (.ref pad), .val (.ref ps), .val (.ref o), .val (.int (0 : Int32)), .val (.ref b325), .val (.ref b345)] [(.int ((((([] : List Int32) ++ [c0]) ++ [c1]) ++ [c2]).getD (0 : Int32).toNatClampNeg 0))]
      rw [show (0 : Int32).toNatClampNeg = 0 from by decide, ((own_ap_lt (by rw [hL2]; decide)).trans ((own_ap_lt (by rw [hL1]; decide)).trans (own_ap_eq (by rw [hK0]))) : (((([] : List Int32) ++ [c0]) ++ [c1]) ++ [c2]).getD 0 0 = c0)]
      refine Go.iload (pc' := 275) at_273 rfl rfl ?_
      refine Go.icmpY (pc' := 280) at_275 (by decide) (by decide) (teq (rfl : c0 = c0)).1 ?_
      refine Go.iload (pc' := 282) at_280 rfl rfl ?_
      refine Go.iconst (pc' := 283) at_282 rfl ic_2 ?_
      refine Go.icmpN (pc' := 286) at_283 rfl (flt (by decide : ¬ ((3 : Int32) < (2 : Int32)))).1 ?_
      refine Go.aload (pc' := 288) at_286 rfl rfl rfl ?_
      refine Go.iload (pc' := 290) at_288 rfl rfl ?_
      refine Go.iconst (pc' := 291) at_290 rfl ic_1 ?_
      refine Go.iadd (pc' := 292) at_291 rfl ?_
      rw [show ((0 : Int32) + (1 : Int32)) = (1 : Int32) from by decide]
      refine Go.callV (pc' := 295) (u := N_20) (z := N_20) (a := b325) at_292 rfl (w_156 hw) (w_157 hw) (nf (w_159 hw) rfl) (w_159 hw) (w_158 hw) (by decide) E_b325 (argsL := [(.int (1 : Int32))]) (rest := []) (Pays.of_met (W := 0) (len := 3) (m_ucA hw hs b325 b326 q327 (3 : Int32) bs_b325 (1 : Int32) (((([] : List Int32) ++ [c0]) ++ [c1]) ++ [c2]) h348 E_b325 Fc_b325 Fv_b325 Vt_b325 (by decide) (by decide) (by decide) (by rw [hL3]; decide) (hE_b325) (q16_3)) (w_160 hw) (w_4 hw) (by decide) (by decide)) rfl rfl (lenOf pd_34 rfl) rfl (Nat.le_of_eq rfl) mem0 (by decide) (by decide) ?_
      rintro _ _ _ - - ⟨rfl, rfl, rfl⟩
      change Go _ _ _ _ _ _ _ _ _ _ _ _ _ _ [o, ch] h348 14 3956 295 #[.val (.int p1), .val (.int p2), .val (.int p3), .val (.int p4), .val (.int p5), .val (.int (3 : Int32)), .val (.int (0 : Int32)), .val (.int c0), .val (.int c1), .val (.int c2), .val (.int hh), .val (.int tt), .val (.ref pad), .val (.ref ps), .val (.ref o), .val (.int (0 : Int32)), .val (.ref b325), .val (.ref b345)] [(.int ((((([] : List Int32) ++ [c0]) ++ [c1]) ++ [c2]).getD (1 : Int32).toNatClampNeg 0))]
      rw [show (1 : Int32).toNatClampNeg = 1 from by decide, ((own_ap_lt (by rw [hL2]; decide)).trans (own_ap_eq (by rw [hL1])) : (((([] : List Int32) ++ [c0]) ++ [c1]) ++ [c2]).getD 1 0 = c1)]
      refine Go.iload (pc' := 297) at_295 rfl rfl ?_
      refine Go.icmpY (pc' := 302) at_297 (by decide) (by decide) (teq (rfl : c1 = c1)).1 ?_
      refine Go.iload (pc' := 304) at_302 rfl rfl ?_
      refine Go.iconst (pc' := 305) at_304 rfl ic_3 ?_
      refine Go.icmpN (pc' := 308) at_305 rfl (flt (by decide : ¬ ((3 : Int32) < (3 : Int32)))).1 ?_
      refine Go.aload (pc' := 310) at_308 rfl rfl rfl ?_
      refine Go.iload (pc' := 312) at_310 rfl rfl ?_
      refine Go.iconst (pc' := 313) at_312 rfl ic_2 ?_
      refine Go.iadd (pc' := 314) at_313 rfl ?_
      rw [show ((0 : Int32) + (2 : Int32)) = (2 : Int32) from by decide]
      refine Go.callV (pc' := 317) (u := N_20) (z := N_20) (a := b325) at_314 rfl (w_156 hw) (w_157 hw) (nf (w_159 hw) rfl) (w_159 hw) (w_158 hw) (by decide) E_b325 (argsL := [(.int (2 : Int32))]) (rest := []) (Pays.of_met (W := 0) (len := 3) (m_ucA hw hs b325 b326 q327 (3 : Int32) bs_b325 (2 : Int32) (((([] : List Int32) ++ [c0]) ++ [c1]) ++ [c2]) h348 E_b325 Fc_b325 Fv_b325 Vt_b325 (by decide) (by decide) (by decide) (by rw [hL3]; decide) (hE_b325) (q16_3)) (w_160 hw) (w_4 hw) (by decide) (by decide)) rfl rfl (lenOf pd_34 rfl) rfl (Nat.le_of_eq rfl) mem0 (by decide) (by decide) ?_
      rintro _ _ _ - - ⟨rfl, rfl, rfl⟩
      change Go _ _ _ _ _ _ _ _ _ _ _ _ _ _ [o, ch] h348 14 3956 317 #[.val (.int p1), .val (.int p2), .val (.int p3), .val (.int p4), .val (.int p5), .val (.int (3 : Int32)), .val (.int (0 : Int32)), .val (.int c0), .val (.int c1), .val (.int c2), .val (.int hh), .val (.int tt), .val (.ref pad), .val (.ref ps), .val (.ref o), .val (.int (0 : Int32)), .val (.ref b325), .val (.ref b345)] [(.int ((((([] : List Int32) ++ [c0]) ++ [c1]) ++ [c2]).getD (2 : Int32).toNatClampNeg 0))]
      rw [show (2 : Int32).toNatClampNeg = 2 from by decide, (own_ap_eq (by rw [hL2]) : (((([] : List Int32) ++ [c0]) ++ [c1]) ++ [c2]).getD 2 0 = c2)]
      refine Go.iload (pc' := 319) at_317 rfl rfl ?_
      refine Go.icmpY (pc' := 324) at_319 (by decide) (by decide) (teq (rfl : c2 = c2)).1 ?_
      refine Go.iconst (pc' := 325) at_324 rfl ic_1 ?_
      exact Go.retS (ty := .boolean) at_325 rfl (by simp) rfl (by decide) (by decide) [] sn0 ⟨rfl, rfl⟩
set_option maxRecDepth 65536 in
set_option maxHeartbeats 40000000 in
theorem m_lawS255_0 {l : Launch} {Z : State} {a0 : Array Value} {n0 : Nat} (hw : ∀ d ∈ tables_1, d.before a0 Z = true) (hs : Stat Z) (p1 : Int32) (p2 : Int32) (p3 : Int32) (p4 : Int32) (p5 : Int32) (c0 : Int32) (c1 : Int32) (c2 : Int32) (hh : Int32) (tt : Int32) (pad : Addr) (ps : Addr) (o : Addr) (ch : Addr) (kc : ClassId) (K : List Int32) (h0 h : Heap) (E_o : Exa Z h o "com/example/beleg/beleg/JsonOutput") (F_o_chars : Fld Z h o "com/example/beleg/beleg/JsonOutput" "chars" "[C" (.ref ch)) (F_o_length : Fld Z h o "com/example/beleg/beleg/JsonOutput" "length" "I" (.int (255 : Int32))) (V_ch : Arv Z h ch kc .char (256 : Int32) (K.map Value.int) (.int (0 : Int32))) (hK0 : K.length = 255) (h16 : ∀ x ∈ K, ¬ x < 0 ∧ ¬ 65535 < x) (hKa : K.getD 0 0 = hh) (hKb : K.getD 1 0 = 0) (hKc : K.getD 254 0 = tt) (hc0 : ¬ c0 < 0 ∧ ¬ 65535 < c0) (hc1 : ¬ c1 < 0 ∧ ¬ 65535 < c1) (hc2 : ¬ c2 < 0 ∧ ¬ 65535 < c2) (ne_ch_o : ch ≠ o) :
    Go l Z EL0 n0 NR0 KN0 x code maxLocals ret room_1 h0 [] (Q_m_law Z p1 p2 p3 p4 p5 h0) [o, ch] h 8 2400 122 #[.val (.int p1), .val (.int p2), .val (.int p3), .val (.int p4), .val (.int p5), .val (.int (0 : Int32)), .val (.int (1 : Int32)), .val (.int c0), .val (.int c1), .val (.int c2), .val (.int hh), .val (.int tt), .val (.ref pad), .val (.ref ps), .val (.ref o), .val (.int (255 : Int32)), .unset, .unset] [] := by
  refine Go.iload (pc' := 124) at_122 rfl rfl ?_
  refine Go.iconst (pc' := 125) at_124 rfl ic_1 ?_
  have q16_0 := h16
  refine Go.icmpY (pc' := 136) at_125 (by decide) (by decide) (tlt (by decide : (0 : Int32) < (1 : Int32))).1 ?_
  refine Go.iload (pc' := 138) at_136 rfl rfl ?_
  refine Go.iconst (pc' := 139) at_138 rfl ic_2 ?_
  refine Go.icmpY (pc' := 150) at_139 (by decide) (by decide) (tlt (by decide : (0 : Int32) < (2 : Int32))).1 ?_
  refine Go.iload (pc' := 152) at_150 rfl rfl ?_
  refine Go.iconst (pc' := 153) at_152 rfl ic_3 ?_
  refine Go.icmpY (pc' := 164) at_153 (by decide) (by decide) (tlt (by decide : (0 : Int32) < (3 : Int32))).1 ?_
  refine Go.aload (pc' := 166) at_164 rfl rfl rfl ?_
  refine Go.callV (pc' := 169) (u := N_41) (z := N_41) (a := o) at_166 rfl (w_43 hw) (w_44 hw) (nf (w_46 hw) rfl) (w_46 hw) (w_45 hw) (by decide) E_o (argsL := []) (rest := []) (Pays.of_met (W := 0) (len := 3) (m_jstr hw hs o ch kc K (256 : Int32) (255 : Int32) h E_o F_o_chars F_o_length V_ch (by rw [hK0]; decide) (by decide) (by decide) (by decide) (q16_0) (by decide)) (w_47 hw) (w_33 hw) (by decide) (by decide)) rfl rfl (lenOf pd_31 rfl) rfl (Nat.le_of_eq rfl) mem0 (by decide) (by decide) ?_
  rintro _ h358 _ K359 le360 ⟨b355, b356, q357, rfl, rfl, p361, p362, p363, p364⟩
  have o_o_b355 : o ≠ b355 := Nat.ne_of_lt (Nat.lt_of_lt_of_le E_o.lt p362)
  have o_ch_b355 : ch ≠ b355 := Nat.ne_of_lt (Nat.lt_of_lt_of_le V_ch.lt p362)
  have ge_b355 := Nat.le_trans le360 p362
  have o_o_b356 : o ≠ b356 := Nat.ne_of_lt (Nat.lt_of_lt_of_le E_o.lt p363)
  have o_ch_b356 : ch ≠ b356 := Nat.ne_of_lt (Nat.lt_of_lt_of_le V_ch.lt p363)
  have ge_b356 := Nat.le_trans le360 p363
  replace E_o := E_o.keep K359
  replace F_o_chars := F_o_chars.keep K359 nin0
  replace F_o_length := F_o_length.keep K359 nin0
  replace V_ch := V_ch.keep K359 nin0
  have E_b355 := p361
  change Go _ _ _ _ _ _ _ _ _ _ _ _ _ _ [o, ch] h358 11 3178 169 #[.val (.int p1), .val (.int p2), .val (.int p3), .val (.int p4), .val (.int p5), .val (.int (0 : Int32)), .val (.int (1 : Int32)), .val (.int c0), .val (.int c1), .val (.int c2), .val (.int hh), .val (.int tt), .val (.ref pad), .val (.ref ps), .val (.ref o), .val (.int (255 : Int32)), .unset, .unset] [(.ref b355)]
  rcases p364 with ⟨Fc_b355, Fv_b355, Vt_b355, hA_b355⟩ | ⟨Fc_b355, Fv_b355, bs_b355, Vt_b355, hE_b355, hX_b355⟩
  · skip
    refine Go.astore (pc' := 171) (Ls' := #[.val (.int p1), .val (.int p2), .val (.int p3), .val (.int p4), .val (.int p5), .val (.int (0 : Int32)), .val (.int (1 : Int32)), .val (.int c0), .val (.int c1), .val (.int c2), .val (.int hh), .val (.int tt), .val (.ref pad), .val (.ref ps), .val (.ref o), .val (.int (255 : Int32)), .val (.ref b355), .unset]) at_169 rfl rfl rfl ?_
    refine Go.aload (pc' := 173) at_171 rfl rfl rfl ?_
    refine Go.callV (pc' := 176) (u := N_41) (z := N_41) (a := o) at_173 rfl (w_43 hw) (w_44 hw) (nf (w_46 hw) rfl) (w_46 hw) (w_45 hw) (by decide) E_o (argsL := []) (rest := []) (Pays.of_met (W := 0) (len := 3) (m_jstr hw hs o ch kc K (256 : Int32) (255 : Int32) h358 E_o F_o_chars F_o_length V_ch (by rw [hK0]; decide) (by decide) (by decide) (by decide) (q16_0) (by decide)) (w_47 hw) (w_33 hw) (by decide) (by decide)) rfl rfl (lenOf pd_31 rfl) rfl (Nat.le_of_eq rfl) mem0 (by decide) (by decide) ?_
    rintro _ h368 _ K369 le370 ⟨b365, b366, q367, rfl, rfl, p371, p372, p373, p374⟩
    have o_o_b365 : o ≠ b365 := Nat.ne_of_lt (Nat.lt_of_lt_of_le E_o.lt p372)
    have o_ch_b365 : ch ≠ b365 := Nat.ne_of_lt (Nat.lt_of_lt_of_le V_ch.lt p372)
    have o_b355_b365 : b355 ≠ b365 := Nat.ne_of_lt (Nat.lt_of_lt_of_le E_b355.lt p372)
    have o_b356_b365 : b356 ≠ b365 := Nat.ne_of_lt (Nat.lt_of_lt_of_le Vt_b355.lt p372)
    have ge_b365 := Nat.le_trans le370 p372
    have o_o_b366 : o ≠ b366 := Nat.ne_of_lt (Nat.lt_of_lt_of_le E_o.lt p373)
    have o_ch_b366 : ch ≠ b366 := Nat.ne_of_lt (Nat.lt_of_lt_of_le V_ch.lt p373)
    have o_b355_b366 : b355 ≠ b366 := Nat.ne_of_lt (Nat.lt_of_lt_of_le E_b355.lt p373)
    have o_b356_b366 : b356 ≠ b366 := Nat.ne_of_lt (Nat.lt_of_lt_of_le Vt_b355.lt p373)
    have ge_b366 := Nat.le_trans le370 p373
    replace E_o := E_o.keep K369
    replace F_o_chars := F_o_chars.keep K369 nin0
    replace F_o_length := F_o_length.keep K369 nin0
    replace V_ch := V_ch.keep K369 nin0
    replace E_b355 := E_b355.keep K369
    replace Fc_b355 := Fc_b355.keep K369 nin0
    replace Fv_b355 := Fv_b355.keep K369 nin0
    replace Vt_b355 := Vt_b355.keep K369 nin0
    have E_b365 := p371
    change Go _ _ _ _ _ _ _ _ _ _ _ _ _ _ [o, ch] h368 14 3956 176 #[.val (.int p1), .val (.int p2), .val (.int p3), .val (.int p4), .val (.int p5), .val (.int (0 : Int32)), .val (.int (1 : Int32)), .val (.int c0), .val (.int c1), .val (.int c2), .val (.int hh), .val (.int tt), .val (.ref pad), .val (.ref ps), .val (.ref o), .val (.int (255 : Int32)), .val (.ref b355), .unset] [(.ref b365)]
    rcases p374 with ⟨Fc_b365, Fv_b365, Vt_b365, hA_b365⟩ | ⟨Fc_b365, Fv_b365, bs_b365, Vt_b365, hE_b365, hX_b365⟩
    · skip
      refine Go.astore (pc' := 178) (Ls' := #[.val (.int p1), .val (.int p2), .val (.int p3), .val (.int p4), .val (.int p5), .val (.int (0 : Int32)), .val (.int (1 : Int32)), .val (.int c0), .val (.int c1), .val (.int c2), .val (.int hh), .val (.int tt), .val (.ref pad), .val (.ref ps), .val (.ref o), .val (.int (255 : Int32)), .val (.ref b355), .val (.ref b365)]) at_176 rfl rfl rfl ?_
      refine Go.aload (pc' := 180) at_178 rfl rfl rfl ?_
      refine Go.aload (pc' := 182) at_180 rfl rfl rfl ?_
      have W_b355 := Vt_b355
      rw [own_low_map] at W_b355
      have W_b365 := Vt_b365
      rw [own_low_map] at W_b365
      refine Go.callV (pc' := 185) (u := N_43) (z := N_43) (a := b355) at_182 rfl (w_68 hw) (w_69 hw) (nf (w_71 hw) rfl) (w_71 hw) (w_70 hw) (by decide) E_b355 (argsL := [(.ref b365)]) (rest := []) (Pays.of_met (W := 0) (len := 3) (m_seq0 hw hs b355 b365 b356 b366 q357 q367 (K.map (fun c => c.toInt8.toInt32)) (K.map (fun c => c.toInt8.toInt32)) (255 : Int32) (255 : Int32) h368 E_b355 Fc_b355 Fv_b355 W_b355 E_b365 Fc_b365 Fv_b365 W_b365 (by rw [List.length_map]; rw [hK0]; decide) (by rw [List.length_map]; rw [hK0]; decide)) (w_72 hw) (w_4 hw) (by decide) (by decide)) rfl rfl (lenOf pd_32 rfl) rfl (Nat.le_of_eq rfl) mem0 (by decide) (by decide) ?_
      rintro _ _ _ - - ⟨rfl, rfl, rfl⟩
      change Go _ _ _ _ _ _ _ _ _ _ _ _ _ _ [o, ch] h368 14 3956 185 #[.val (.int p1), .val (.int p2), .val (.int p3), .val (.int p4), .val (.int p5), .val (.int (0 : Int32)), .val (.int (1 : Int32)), .val (.int c0), .val (.int c1), .val (.int c2), .val (.int hh), .val (.int tt), .val (.ref pad), .val (.ref ps), .val (.ref o), .val (.int (255 : Int32)), .val (.ref b355), .val (.ref b365)] [(.int (own_eqb (K.map (fun c => c.toInt8.toInt32)) (K.map (fun c => c.toInt8.toInt32))))]
      rw [own_eqb_pos rfl]
      refine Go.ifY (pc' := 190) at_185 (by decide) (by decide) ((if0 _ _).trans (feq (by decide : ¬ ((1 : Int32) = (0 : Int32)))).2) ?_
      refine Go.aload (pc' := 192) at_190 rfl rfl rfl ?_
      refine Go.callV (pc' := 195) (u := N_40) (z := N_40) (a := o) at_192 rfl (w_78 hw) (w_79 hw) (nf (w_81 hw) rfl) (w_81 hw) (w_80 hw) (by decide) E_o (argsL := []) (rest := []) (Pays.of_met (W := 0) (len := 3) (m_jlen hw hs o (255 : Int32) h368 F_o_length) (w_82 hw) (w_33 hw) (by decide) (by decide)) rfl rfl (lenOf pd_19 rfl) rfl (Nat.le_of_eq rfl) mem0 (by decide) (by decide) ?_
      rintro _ _ _ - - ⟨rfl, rfl, rfl⟩
      change Go _ _ _ _ _ _ _ _ _ _ _ _ _ _ [o, ch] h368 14 3956 195 #[.val (.int p1), .val (.int p2), .val (.int p3), .val (.int p4), .val (.int p5), .val (.int (0 : Int32)), .val (.int (1 : Int32)), .val (.int c0), .val (.int c1), .val (.int c2), .val (.int hh), .val (.int tt), .val (.ref pad), .val (.ref ps), .val (.ref o), .val (.int (255 : Int32)), .val (.ref b355), .val (.ref b365)] [(.int (255 : Int32))]
      refine Go.iload (pc' := 197) at_195 rfl rfl ?_
      refine Go.iload (pc' := 199) at_197 rfl rfl ?_
      refine Go.iadd (pc' := 200) at_199 rfl ?_
      rw [show ((255 : Int32) + (0 : Int32)) = (255 : Int32) from by decide]
      refine Go.icmpY (pc' := 205) at_200 (by decide) (by decide) (teq (rfl : (255 : Int32) = (255 : Int32))).1 ?_
      refine Go.aload (pc' := 207) at_205 rfl rfl rfl ?_
      refine Go.callV (pc' := 210) (u := N_16) (z := N_16) (a := b355) at_207 rfl (w_83 hw) (w_84 hw) (nf (w_86 hw) rfl) (w_86 hw) (w_85 hw) (by decide) E_b355 (argsL := []) (rest := []) (Pays.of_met (W := 0) (len := 3) (m_length hw hs b355 b356 q357 (255 : Int32) (K.map lowV) h368 E_b355 Fc_b355 Fv_b355 Vt_b355) (w_87 hw) (w_4 hw) (by decide) (by decide)) rfl rfl (lenOf pd_19 rfl) rfl (Nat.le_of_eq rfl) mem0 (by decide) (by decide) ?_
      rintro _ _ _ - - ⟨rfl, rfl, rfl⟩
      change Go _ _ _ _ _ _ _ _ _ _ _ _ _ _ [o, ch] h368 14 3956 210 #[.val (.int p1), .val (.int p2), .val (.int p3), .val (.int p4), .val (.int p5), .val (.int (0 : Int32)), .val (.int (1 : Int32)), .val (.int c0), .val (.int c1), .val (.int c2), .val (.int hh), .val (.int tt), .val (.ref pad), .val (.ref ps), .val (.ref o), .val (.int (255 : Int32)), .val (.ref b355), .val (.ref b365)] [(.int (255 : Int32))]
      refine Go.iload (pc' := 212) at_210 rfl rfl ?_
      refine Go.iload (pc' := 214) at_212 rfl rfl ?_
      refine Go.iadd (pc' := 215) at_214 rfl ?_
      rw [show ((255 : Int32) + (0 : Int32)) = (255 : Int32) from by decide]
      refine Go.icmpY (pc' := 220) at_215 (by decide) (by decide) (teq (rfl : (255 : Int32) = (255 : Int32))).1 ?_
      refine Go.iload (pc' := 222) at_220 rfl rfl ?_
      refine Go.ifN (pc' := 225) at_222 rfl ((if0 _ _).trans (feq (by decide : ¬ ((1 : Int32) = (0 : Int32)))).1) ?_
      refine Go.aload (pc' := 227) at_225 rfl rfl rfl ?_
      refine Go.iconst (pc' := 228) at_227 rfl ic_0 ?_
      refine Go.callV (pc' := 231) (u := N_20) (z := N_20) (a := b355) at_228 rfl (w_156 hw) (w_157 hw) (nf (w_159 hw) rfl) (w_159 hw) (w_158 hw) (by decide) E_b355 (argsL := [(.int (0 : Int32))]) (rest := []) (Pays.of_met (W := 0) (len := 3) (m_charAt hw hs b355 b356 q357 (255 : Int32) (K.map lowV) (0 : Int32) (K.getD (0 : Int32).toNatClampNeg 0).toInt8.toInt32 h368 E_b355 Fc_b355 Fv_b355 Vt_b355 (by decide) (getD_low K _ (by rw [hK0]; decide))) (w_160 hw) (w_4 hw) (by decide) (by decide)) rfl rfl (lenOf pd_34 rfl) rfl (Nat.le_of_eq rfl) mem0 (by decide) (by decide) ?_
      rintro _ _ _ - - ⟨rfl, rfl, rfl⟩
      change Go _ _ _ _ _ _ _ _ _ _ _ _ _ _ [o, ch] h368 14 3956 231 #[.val (.int p1), .val (.int p2), .val (.int p3), .val (.int p4), .val (.int p5), .val (.int (0 : Int32)), .val (.int (1 : Int32)), .val (.int c0), .val (.int c1), .val (.int c2), .val (.int hh), .val (.int tt), .val (.ref pad), .val (.ref ps), .val (.ref o), .val (.int (255 : Int32)), .val (.ref b355), .val (.ref b365)] [(.int ((K.getD (0 : Int32).toNatClampNeg 0).toInt8.toInt32 &&& (255 : Int32)).toUInt32.toUInt16.toUInt32.toInt32)]
      have mm := getD_mem (P := fun x => ¬ x < 0 ∧ ¬ 255 < x) (fun x hx => ⟨(q16_0 x hx).1, hA_b355 x hx⟩) (i := (0 : Int32).toNatClampNeg) (by rw [hK0]; decide)
      rw [own_lowback mm.1 mm.2]
      rw [show (0 : Int32).toNatClampNeg = 0 from by decide, (hKa : K.getD 0 0 = hh)]
      refine Go.iload (pc' := 233) at_231 rfl rfl ?_
      refine Go.icmpN (pc' := 236) at_233 rfl (teq (rfl : hh = hh)).2 ?_
      refine Go.aload (pc' := 238) at_236 rfl rfl rfl ?_
      refine Go.iconst (pc' := 239) at_238 rfl ic_1 ?_
      refine Go.callV (pc' := 242) (u := N_20) (z := N_20) (a := b355) at_239 rfl (w_156 hw) (w_157 hw) (nf (w_159 hw) rfl) (w_159 hw) (w_158 hw) (by decide) E_b355 (argsL := [(.int (1 : Int32))]) (rest := []) (Pays.of_met (W := 0) (len := 3) (m_charAt hw hs b355 b356 q357 (255 : Int32) (K.map lowV) (1 : Int32) (K.getD (1 : Int32).toNatClampNeg 0).toInt8.toInt32 h368 E_b355 Fc_b355 Fv_b355 Vt_b355 (by decide) (getD_low K _ (by rw [hK0]; decide))) (w_160 hw) (w_4 hw) (by decide) (by decide)) rfl rfl (lenOf pd_34 rfl) rfl (Nat.le_of_eq rfl) mem0 (by decide) (by decide) ?_
      rintro _ _ _ - - ⟨rfl, rfl, rfl⟩
      change Go _ _ _ _ _ _ _ _ _ _ _ _ _ _ [o, ch] h368 14 3956 242 #[.val (.int p1), .val (.int p2), .val (.int p3), .val (.int p4), .val (.int p5), .val (.int (0 : Int32)), .val (.int (1 : Int32)), .val (.int c0), .val (.int c1), .val (.int c2), .val (.int hh), .val (.int tt), .val (.ref pad), .val (.ref ps), .val (.ref o), .val (.int (255 : Int32)), .val (.ref b355), .val (.ref b365)] [(.int ((K.getD (1 : Int32).toNatClampNeg 0).toInt8.toInt32 &&& (255 : Int32)).toUInt32.toUInt16.toUInt32.toInt32)]
      have mm := getD_mem (P := fun x => ¬ x < 0 ∧ ¬ 255 < x) (fun x hx => ⟨(q16_0 x hx).1, hA_b355 x hx⟩) (i := (1 : Int32).toNatClampNeg) (by rw [hK0]; decide)
      rw [own_lowback mm.1 mm.2]
      rw [show (1 : Int32).toNatClampNeg = 1 from by decide, (hKb : K.getD 1 0 = (0 : Int32))]
      refine Go.ifN (pc' := 245) at_242 rfl ((if0 _ _).trans (teq (rfl : (0 : Int32) = (0 : Int32))).2) ?_
      refine Go.aload (pc' := 247) at_245 rfl rfl rfl ?_
      refine Go.sipush (pc' := 250) at_247 rfl ics_254 ?_
      refine Go.callV (pc' := 253) (u := N_20) (z := N_20) (a := b355) at_250 rfl (w_156 hw) (w_157 hw) (nf (w_159 hw) rfl) (w_159 hw) (w_158 hw) (by decide) E_b355 (argsL := [(.int (254 : Int32))]) (rest := []) (Pays.of_met (W := 0) (len := 3) (m_charAt hw hs b355 b356 q357 (255 : Int32) (K.map lowV) (254 : Int32) (K.getD (254 : Int32).toNatClampNeg 0).toInt8.toInt32 h368 E_b355 Fc_b355 Fv_b355 Vt_b355 (by decide) (getD_low K _ (by rw [hK0]; decide))) (w_160 hw) (w_4 hw) (by decide) (by decide)) rfl rfl (lenOf pd_34 rfl) rfl (Nat.le_of_eq rfl) mem0 (by decide) (by decide) ?_
      rintro _ _ _ - - ⟨rfl, rfl, rfl⟩
      change Go _ _ _ _ _ _ _ _ _ _ _ _ _ _ [o, ch] h368 14 3956 253 #[.val (.int p1), .val (.int p2), .val (.int p3), .val (.int p4), .val (.int p5), .val (.int (0 : Int32)), .val (.int (1 : Int32)), .val (.int c0), .val (.int c1), .val (.int c2), .val (.int hh), .val (.int tt), .val (.ref pad), .val (.ref ps), .val (.ref o), .val (.int (255 : Int32)), .val (.ref b355), .val (.ref b365)] [(.int ((K.getD (254 : Int32).toNatClampNeg 0).toInt8.toInt32 &&& (255 : Int32)).toUInt32.toUInt16.toUInt32.toInt32)]
      have mm := getD_mem (P := fun x => ¬ x < 0 ∧ ¬ 255 < x) (fun x hx => ⟨(q16_0 x hx).1, hA_b355 x hx⟩) (i := (254 : Int32).toNatClampNeg) (by rw [hK0]; decide)
      rw [own_lowback mm.1 mm.2]
      rw [show (254 : Int32).toNatClampNeg = 254 from by decide, (hKc : K.getD 254 0 = tt)]
      refine Go.iload (pc' := 255) at_253 rfl rfl ?_
      refine Go.icmpY (pc' := 260) at_255 (by decide) (by decide) (teq (rfl : tt = tt)).1 ?_
      refine Go.iload (pc' := 262) at_260 rfl rfl ?_
      refine Go.iconst (pc' := 263) at_262 rfl ic_1 ?_
      refine Go.icmpY (pc' := 280) at_263 (by decide) (by decide) (tlt (by decide : (0 : Int32) < (1 : Int32))).1 ?_
      refine Go.iload (pc' := 282) at_280 rfl rfl ?_
      refine Go.iconst (pc' := 283) at_282 rfl ic_2 ?_
      refine Go.icmpY (pc' := 302) at_283 (by decide) (by decide) (tlt (by decide : (0 : Int32) < (2 : Int32))).1 ?_
      refine Go.iload (pc' := 304) at_302 rfl rfl ?_
      refine Go.iconst (pc' := 305) at_304 rfl ic_3 ?_
      refine Go.icmpY (pc' := 324) at_305 (by decide) (by decide) (tlt (by decide : (0 : Int32) < (3 : Int32))).1 ?_
      refine Go.iconst (pc' := 325) at_324 rfl ic_1 ?_
      exact Go.retS (ty := .boolean) at_325 rfl (by simp) rfl (by decide) (by decide) [] sn0 ⟨rfl, rfl⟩
    · skip
      exact False.elim (by obtain ⟨y, y1, y2⟩ := hX_b365; exact hA_b355 y y1 y2)
  · skip
    refine Go.astore (pc' := 171) (Ls' := #[.val (.int p1), .val (.int p2), .val (.int p3), .val (.int p4), .val (.int p5), .val (.int (0 : Int32)), .val (.int (1 : Int32)), .val (.int c0), .val (.int c1), .val (.int c2), .val (.int hh), .val (.int tt), .val (.ref pad), .val (.ref ps), .val (.ref o), .val (.int (255 : Int32)), .val (.ref b355), .unset]) at_169 rfl rfl rfl ?_
    refine Go.aload (pc' := 173) at_171 rfl rfl rfl ?_
    refine Go.callV (pc' := 176) (u := N_41) (z := N_41) (a := o) at_173 rfl (w_43 hw) (w_44 hw) (nf (w_46 hw) rfl) (w_46 hw) (w_45 hw) (by decide) E_o (argsL := []) (rest := []) (Pays.of_met (W := 0) (len := 3) (m_jstr hw hs o ch kc K (256 : Int32) (255 : Int32) h358 E_o F_o_chars F_o_length V_ch (by rw [hK0]; decide) (by decide) (by decide) (by decide) (q16_0) (by decide)) (w_47 hw) (w_33 hw) (by decide) (by decide)) rfl rfl (lenOf pd_31 rfl) rfl (Nat.le_of_eq rfl) mem0 (by decide) (by decide) ?_
    rintro _ h378 _ K379 le380 ⟨b375, b376, q377, rfl, rfl, p381, p382, p383, p384⟩
    have o_o_b375 : o ≠ b375 := Nat.ne_of_lt (Nat.lt_of_lt_of_le E_o.lt p382)
    have o_ch_b375 : ch ≠ b375 := Nat.ne_of_lt (Nat.lt_of_lt_of_le V_ch.lt p382)
    have o_b355_b375 : b355 ≠ b375 := Nat.ne_of_lt (Nat.lt_of_lt_of_le E_b355.lt p382)
    have o_b356_b375 : b356 ≠ b375 := Nat.ne_of_lt (Nat.lt_of_lt_of_le Vt_b355.lt p382)
    have ge_b375 := Nat.le_trans le380 p382
    have o_o_b376 : o ≠ b376 := Nat.ne_of_lt (Nat.lt_of_lt_of_le E_o.lt p383)
    have o_ch_b376 : ch ≠ b376 := Nat.ne_of_lt (Nat.lt_of_lt_of_le V_ch.lt p383)
    have o_b355_b376 : b355 ≠ b376 := Nat.ne_of_lt (Nat.lt_of_lt_of_le E_b355.lt p383)
    have o_b356_b376 : b356 ≠ b376 := Nat.ne_of_lt (Nat.lt_of_lt_of_le Vt_b355.lt p383)
    have ge_b376 := Nat.le_trans le380 p383
    replace E_o := E_o.keep K379
    replace F_o_chars := F_o_chars.keep K379 nin0
    replace F_o_length := F_o_length.keep K379 nin0
    replace V_ch := V_ch.keep K379 nin0
    replace E_b355 := E_b355.keep K379
    replace Fc_b355 := Fc_b355.keep K379 nin0
    replace Fv_b355 := Fv_b355.keep K379 nin0
    replace Vt_b355 := Vt_b355.keep K379 nin0
    have E_b375 := p381
    change Go _ _ _ _ _ _ _ _ _ _ _ _ _ _ [o, ch] h378 14 3956 176 #[.val (.int p1), .val (.int p2), .val (.int p3), .val (.int p4), .val (.int p5), .val (.int (0 : Int32)), .val (.int (1 : Int32)), .val (.int c0), .val (.int c1), .val (.int c2), .val (.int hh), .val (.int tt), .val (.ref pad), .val (.ref ps), .val (.ref o), .val (.int (255 : Int32)), .val (.ref b355), .unset] [(.ref b375)]
    rcases p384 with ⟨Fc_b375, Fv_b375, Vt_b375, hA_b375⟩ | ⟨Fc_b375, Fv_b375, bs_b375, Vt_b375, hE_b375, hX_b375⟩
    · skip
      exact False.elim (by obtain ⟨y, y1, y2⟩ := hX_b355; exact hA_b375 y y1 y2)
    · skip
      refine Go.astore (pc' := 178) (Ls' := #[.val (.int p1), .val (.int p2), .val (.int p3), .val (.int p4), .val (.int p5), .val (.int (0 : Int32)), .val (.int (1 : Int32)), .val (.int c0), .val (.int c1), .val (.int c2), .val (.int hh), .val (.int tt), .val (.ref pad), .val (.ref ps), .val (.ref o), .val (.int (255 : Int32)), .val (.ref b355), .val (.ref b375)]) at_176 rfl rfl rfl ?_
      refine Go.aload (pc' := 180) at_178 rfl rfl rfl ?_
      refine Go.aload (pc' := 182) at_180 rfl rfl rfl ?_
      refine Go.callV (pc' := 185) (u := N_43) (z := N_43) (a := b355) at_182 rfl (w_68 hw) (w_69 hw) (nf (w_71 hw) rfl) (w_71 hw) (w_70 hw) (by decide) E_b355 (argsL := [(.ref b375)]) (rest := []) (Pays.of_met (W := 0) (len := 3) (m_seq1 hw hs b355 b375 b356 b376 q357 q377 bs_b355 bs_b375 ((255 : Int32) <<< ((1 : Int32) &&& 31)) ((255 : Int32) <<< ((1 : Int32) &&& 31)) h378 E_b355 Fc_b355 Fv_b355 Vt_b355 E_b375 Fc_b375 Fv_b375 Vt_b375 (by rw [hE_b355.1, hK0]; decide) (by rw [hE_b375.1, hK0]; decide)) (w_72 hw) (w_4 hw) (by decide) (by decide)) rfl rfl (lenOf pd_32 rfl) rfl (Nat.le_of_eq rfl) mem0 (by decide) (by decide) ?_
      rintro _ _ _ - - ⟨rfl, rfl, rfl⟩
      change Go _ _ _ _ _ _ _ _ _ _ _ _ _ _ [o, ch] h378 14 3956 185 #[.val (.int p1), .val (.int p2), .val (.int p3), .val (.int p4), .val (.int p5), .val (.int (0 : Int32)), .val (.int (1 : Int32)), .val (.int c0), .val (.int c1), .val (.int c2), .val (.int hh), .val (.int tt), .val (.ref pad), .val (.ref ps), .val (.ref o), .val (.int (255 : Int32)), .val (.ref b355), .val (.ref b375)] [(.int (own_eqb bs_b355 bs_b375))]
      rw [own_eqb_pos (hE_b355.uniq hE_b375)]
      refine Go.ifY (pc' := 190) at_185 (by decide) (by decide) ((if0 _ _).trans (feq (by decide : ¬ ((1 : Int32) = (0 : Int32)))).2) ?_
      refine Go.aload (pc' := 192) at_190 rfl rfl rfl ?_
      refine Go.callV (pc' := 195) (u := N_40) (z := N_40) (a := o) at_192 rfl (w_78 hw) (w_79 hw) (nf (w_81 hw) rfl) (w_81 hw) (w_80 hw) (by decide) E_o (argsL := []) (rest := []) (Pays.of_met (W := 0) (len := 3) (m_jlen hw hs o (255 : Int32) h378 F_o_length) (w_82 hw) (w_33 hw) (by decide) (by decide)) rfl rfl (lenOf pd_19 rfl) rfl (Nat.le_of_eq rfl) mem0 (by decide) (by decide) ?_
      rintro _ _ _ - - ⟨rfl, rfl, rfl⟩
      change Go _ _ _ _ _ _ _ _ _ _ _ _ _ _ [o, ch] h378 14 3956 195 #[.val (.int p1), .val (.int p2), .val (.int p3), .val (.int p4), .val (.int p5), .val (.int (0 : Int32)), .val (.int (1 : Int32)), .val (.int c0), .val (.int c1), .val (.int c2), .val (.int hh), .val (.int tt), .val (.ref pad), .val (.ref ps), .val (.ref o), .val (.int (255 : Int32)), .val (.ref b355), .val (.ref b375)] [(.int (255 : Int32))]
      refine Go.iload (pc' := 197) at_195 rfl rfl ?_
      refine Go.iload (pc' := 199) at_197 rfl rfl ?_
      refine Go.iadd (pc' := 200) at_199 rfl ?_
      rw [show ((255 : Int32) + (0 : Int32)) = (255 : Int32) from by decide]
      refine Go.icmpY (pc' := 205) at_200 (by decide) (by decide) (teq (rfl : (255 : Int32) = (255 : Int32))).1 ?_
      refine Go.aload (pc' := 207) at_205 rfl rfl rfl ?_
      refine Go.callV (pc' := 210) (u := N_16) (z := N_16) (a := b355) at_207 rfl (w_83 hw) (w_84 hw) (nf (w_86 hw) rfl) (w_86 hw) (w_85 hw) (by decide) E_b355 (argsL := []) (rest := []) (Pays.of_met (W := 0) (len := 3) (m_ulen hw hs b355 b356 q357 (255 : Int32) bs_b355 h378 E_b355 Fc_b355 Fv_b355 Vt_b355 (by decide) (by decide)) (w_87 hw) (w_4 hw) (by decide) (by decide)) rfl rfl (lenOf pd_19 rfl) rfl (Nat.le_of_eq rfl) mem0 (by decide) (by decide) ?_
      rintro _ _ _ - - ⟨rfl, rfl, rfl⟩
      change Go _ _ _ _ _ _ _ _ _ _ _ _ _ _ [o, ch] h378 14 3956 210 #[.val (.int p1), .val (.int p2), .val (.int p3), .val (.int p4), .val (.int p5), .val (.int (0 : Int32)), .val (.int (1 : Int32)), .val (.int c0), .val (.int c1), .val (.int c2), .val (.int hh), .val (.int tt), .val (.ref pad), .val (.ref ps), .val (.ref o), .val (.int (255 : Int32)), .val (.ref b355), .val (.ref b375)] [(.int (255 : Int32))]
      refine Go.iload (pc' := 212) at_210 rfl rfl ?_
      refine Go.iload (pc' := 214) at_212 rfl rfl ?_
      refine Go.iadd (pc' := 215) at_214 rfl ?_
      rw [show ((255 : Int32) + (0 : Int32)) = (255 : Int32) from by decide]
      refine Go.icmpY (pc' := 220) at_215 (by decide) (by decide) (teq (rfl : (255 : Int32) = (255 : Int32))).1 ?_
      refine Go.iload (pc' := 222) at_220 rfl rfl ?_
      refine Go.ifN (pc' := 225) at_222 rfl ((if0 _ _).trans (feq (by decide : ¬ ((1 : Int32) = (0 : Int32)))).1) ?_
      refine Go.aload (pc' := 227) at_225 rfl rfl rfl ?_
      refine Go.iconst (pc' := 228) at_227 rfl ic_0 ?_
      refine Go.callV (pc' := 231) (u := N_20) (z := N_20) (a := b355) at_228 rfl (w_156 hw) (w_157 hw) (nf (w_159 hw) rfl) (w_159 hw) (w_158 hw) (by decide) E_b355 (argsL := [(.int (0 : Int32))]) (rest := []) (Pays.of_met (W := 0) (len := 3) (m_ucA hw hs b355 b356 q357 (255 : Int32) bs_b355 (0 : Int32) K h378 E_b355 Fc_b355 Fv_b355 Vt_b355 (by decide) (by decide) (by decide) (by rw [hK0]; decide) (hE_b355) (q16_0)) (w_160 hw) (w_4 hw) (by decide) (by decide)) rfl rfl (lenOf pd_34 rfl) rfl (Nat.le_of_eq rfl) mem0 (by decide) (by decide) ?_
      rintro _ _ _ - - ⟨rfl, rfl, rfl⟩
      change Go _ _ _ _ _ _ _ _ _ _ _ _ _ _ [o, ch] h378 14 3956 231 #[.val (.int p1), .val (.int p2), .val (.int p3), .val (.int p4), .val (.int p5), .val (.int (0 : Int32)), .val (.int (1 : Int32)), .val (.int c0), .val (.int c1), .val (.int c2), .val (.int hh), .val (.int tt), .val (.ref pad), .val (.ref ps), .val (.ref o), .val (.int (255 : Int32)), .val (.ref b355), .val (.ref b375)] [(.int (K.getD (0 : Int32).toNatClampNeg 0))]
      rw [show (0 : Int32).toNatClampNeg = 0 from by decide, (hKa : K.getD 0 0 = hh)]
      refine Go.iload (pc' := 233) at_231 rfl rfl ?_
      refine Go.icmpN (pc' := 236) at_233 rfl (teq (rfl : hh = hh)).2 ?_
      refine Go.aload (pc' := 238) at_236 rfl rfl rfl ?_
      refine Go.iconst (pc' := 239) at_238 rfl ic_1 ?_
      refine Go.callV (pc' := 242) (u := N_20) (z := N_20) (a := b355) at_239 rfl (w_156 hw) (w_157 hw) (nf (w_159 hw) rfl) (w_159 hw) (w_158 hw) (by decide) E_b355 (argsL := [(.int (1 : Int32))]) (rest := []) (Pays.of_met (W := 0) (len := 3) (m_ucA hw hs b355 b356 q357 (255 : Int32) bs_b355 (1 : Int32) K h378 E_b355 Fc_b355 Fv_b355 Vt_b355 (by decide) (by decide) (by decide) (by rw [hK0]; decide) (hE_b355) (q16_0)) (w_160 hw) (w_4 hw) (by decide) (by decide)) rfl rfl (lenOf pd_34 rfl) rfl (Nat.le_of_eq rfl) mem0 (by decide) (by decide) ?_
      rintro _ _ _ - - ⟨rfl, rfl, rfl⟩
      change Go _ _ _ _ _ _ _ _ _ _ _ _ _ _ [o, ch] h378 14 3956 242 #[.val (.int p1), .val (.int p2), .val (.int p3), .val (.int p4), .val (.int p5), .val (.int (0 : Int32)), .val (.int (1 : Int32)), .val (.int c0), .val (.int c1), .val (.int c2), .val (.int hh), .val (.int tt), .val (.ref pad), .val (.ref ps), .val (.ref o), .val (.int (255 : Int32)), .val (.ref b355), .val (.ref b375)] [(.int (K.getD (1 : Int32).toNatClampNeg 0))]
      rw [show (1 : Int32).toNatClampNeg = 1 from by decide, (hKb : K.getD 1 0 = (0 : Int32))]
      refine Go.ifN (pc' := 245) at_242 rfl ((if0 _ _).trans (teq (rfl : (0 : Int32) = (0 : Int32))).2) ?_
      refine Go.aload (pc' := 247) at_245 rfl rfl rfl ?_
      refine Go.sipush (pc' := 250) at_247 rfl ics_254 ?_
      refine Go.callV (pc' := 253) (u := N_20) (z := N_20) (a := b355) at_250 rfl (w_156 hw) (w_157 hw) (nf (w_159 hw) rfl) (w_159 hw) (w_158 hw) (by decide) E_b355 (argsL := [(.int (254 : Int32))]) (rest := []) (Pays.of_met (W := 0) (len := 3) (m_ucA hw hs b355 b356 q357 (255 : Int32) bs_b355 (254 : Int32) K h378 E_b355 Fc_b355 Fv_b355 Vt_b355 (by decide) (by decide) (by decide) (by rw [hK0]; decide) (hE_b355) (q16_0)) (w_160 hw) (w_4 hw) (by decide) (by decide)) rfl rfl (lenOf pd_34 rfl) rfl (Nat.le_of_eq rfl) mem0 (by decide) (by decide) ?_
      rintro _ _ _ - - ⟨rfl, rfl, rfl⟩
      change Go _ _ _ _ _ _ _ _ _ _ _ _ _ _ [o, ch] h378 14 3956 253 #[.val (.int p1), .val (.int p2), .val (.int p3), .val (.int p4), .val (.int p5), .val (.int (0 : Int32)), .val (.int (1 : Int32)), .val (.int c0), .val (.int c1), .val (.int c2), .val (.int hh), .val (.int tt), .val (.ref pad), .val (.ref ps), .val (.ref o), .val (.int (255 : Int32)), .val (.ref b355), .val (.ref b375)] [(.int (K.getD (254 : Int32).toNatClampNeg 0))]
      rw [show (254 : Int32).toNatClampNeg = 254 from by decide, (hKc : K.getD 254 0 = tt)]
      refine Go.iload (pc' := 255) at_253 rfl rfl ?_
      refine Go.icmpY (pc' := 260) at_255 (by decide) (by decide) (teq (rfl : tt = tt)).1 ?_
      refine Go.iload (pc' := 262) at_260 rfl rfl ?_
      refine Go.iconst (pc' := 263) at_262 rfl ic_1 ?_
      refine Go.icmpY (pc' := 280) at_263 (by decide) (by decide) (tlt (by decide : (0 : Int32) < (1 : Int32))).1 ?_
      refine Go.iload (pc' := 282) at_280 rfl rfl ?_
      refine Go.iconst (pc' := 283) at_282 rfl ic_2 ?_
      refine Go.icmpY (pc' := 302) at_283 (by decide) (by decide) (tlt (by decide : (0 : Int32) < (2 : Int32))).1 ?_
      refine Go.iload (pc' := 304) at_302 rfl rfl ?_
      refine Go.iconst (pc' := 305) at_304 rfl ic_3 ?_
      refine Go.icmpY (pc' := 324) at_305 (by decide) (by decide) (tlt (by decide : (0 : Int32) < (3 : Int32))).1 ?_
      refine Go.iconst (pc' := 325) at_324 rfl ic_1 ?_
      exact Go.retS (ty := .boolean) at_325 rfl (by simp) rfl (by decide) (by decide) [] sn0 ⟨rfl, rfl⟩
set_option maxRecDepth 65536 in
set_option maxHeartbeats 40000000 in
theorem m_lawS255_1 {l : Launch} {Z : State} {a0 : Array Value} {n0 : Nat} (hw : ∀ d ∈ tables_1, d.before a0 Z = true) (hs : Stat Z) (p1 : Int32) (p2 : Int32) (p3 : Int32) (p4 : Int32) (p5 : Int32) (c0 : Int32) (c1 : Int32) (c2 : Int32) (hh : Int32) (tt : Int32) (pad : Addr) (ps : Addr) (o : Addr) (ch : Addr) (kc : ClassId) (K : List Int32) (h0 h : Heap) (E_o : Exa Z h o "com/example/beleg/beleg/JsonOutput") (F_o_chars : Fld Z h o "com/example/beleg/beleg/JsonOutput" "chars" "[C" (.ref ch)) (F_o_length : Fld Z h o "com/example/beleg/beleg/JsonOutput" "length" "I" (.int (255 : Int32))) (V_ch : Arv Z h ch kc .char (256 : Int32) (K.map Value.int) (.int (0 : Int32))) (hK0 : K.length = 255) (h16 : ∀ x ∈ K, ¬ x < 0 ∧ ¬ 65535 < x) (hKa : K.getD 0 0 = hh) (hKb : K.getD 1 0 = 0) (hKc : K.getD 254 0 = tt) (hc0 : ¬ c0 < 0 ∧ ¬ 65535 < c0) (hc1 : ¬ c1 < 0 ∧ ¬ 65535 < c1) (hc2 : ¬ c2 < 0 ∧ ¬ 65535 < c2) (ne_ch_o : ch ≠ o) :
    Go l Z EL0 n0 NR0 KN0 x code maxLocals ret room_1 h0 [] (Q_m_law Z p1 p2 p3 p4 p5 h0) [o, ch] h 8 2400 122 #[.val (.int p1), .val (.int p2), .val (.int p3), .val (.int p4), .val (.int p5), .val (.int (1 : Int32)), .val (.int (1 : Int32)), .val (.int c0), .val (.int c1), .val (.int c2), .val (.int hh), .val (.int tt), .val (.ref pad), .val (.ref ps), .val (.ref o), .val (.int (255 : Int32)), .unset, .unset] [] := by
  refine Go.iload (pc' := 124) at_122 rfl rfl ?_
  refine Go.iconst (pc' := 125) at_124 rfl ic_1 ?_
  have q16_0 := h16
  refine Go.icmpN (pc' := 128) at_125 rfl (flt (by decide : ¬ ((1 : Int32) < (1 : Int32)))).1 ?_
  refine Go.aload (pc' := 130) at_128 rfl rfl rfl ?_
  refine Go.iload (pc' := 132) at_130 rfl rfl ?_
  refine Go.callV (pc' := 135) (u := N_38) (z := N_38) (a := o) at_132 rfl (w_131 hw) (w_132 hw) (nf (w_134 hw) rfl) (w_134 hw) (w_133 hw) (by decide) E_o (argsL := [(.int c0)]) (rest := []) (Pays.of_met (W := 0) (len := 3) (m_apc hw hs o ch kc K c0 (256 : Int32) (255 : Int32) h E_o F_o_chars F_o_length V_ch (by rw [hK0]; decide) (by decide) (by decide) (hc0) ne_ch_o) (w_135 hw) (w_33 hw) (by decide) (by decide)) rfl rfl (lenOf pd_33 rfl) rfl (Nat.le_of_eq rfl) (memS (List.mem_of_getElem? (i := 0) rfl) (memS (List.mem_of_getElem? (i := 1) rfl) mem0)) (by decide) (by decide) ?_
  rintro _ h385 _ K386 le387 ⟨rfl, rfl, p388, p389, p390, p391⟩
  replace E_o := E_o.keep K386
  have F_o_chars := p389
  have F_o_length := p390
  have V_ch := p391
  change Go _ _ _ _ _ _ _ _ _ _ _ _ _ _ [o, ch] h385 8 2400 135 #[.val (.int p1), .val (.int p2), .val (.int p3), .val (.int p4), .val (.int p5), .val (.int (1 : Int32)), .val (.int (1 : Int32)), .val (.int c0), .val (.int c1), .val (.int c2), .val (.int hh), .val (.int tt), .val (.ref pad), .val (.ref ps), .val (.ref o), .val (.int (255 : Int32)), .unset, .unset] [(.ref o)]
  rw [show ((255 : Int32) + (1 : Int32)) = (256 : Int32) from by decide] at F_o_length
  refine Go.pop (pc' := 136) at_135 rfl rfl ?_
  refine Go.iload (pc' := 138) at_136 rfl rfl ?_
  refine Go.iconst (pc' := 139) at_138 rfl ic_2 ?_
  have hL1 : (K ++ [c0]).length = 256 := by rw [List.length_append, hK0]; rfl
  have q16_1 := own_ap_all q16_0 hc0
  refine Go.icmpY (pc' := 150) at_139 (by decide) (by decide) (tlt (by decide : (1 : Int32) < (2 : Int32))).1 ?_
  refine Go.iload (pc' := 152) at_150 rfl rfl ?_
  refine Go.iconst (pc' := 153) at_152 rfl ic_3 ?_
  refine Go.icmpY (pc' := 164) at_153 (by decide) (by decide) (tlt (by decide : (1 : Int32) < (3 : Int32))).1 ?_
  refine Go.aload (pc' := 166) at_164 rfl rfl rfl ?_
  refine Go.callV (pc' := 169) (u := N_41) (z := N_41) (a := o) at_166 rfl (w_43 hw) (w_44 hw) (nf (w_46 hw) rfl) (w_46 hw) (w_45 hw) (by decide) E_o (argsL := []) (rest := []) (Pays.of_met (W := 0) (len := 3) (m_jstr hw hs o ch kc (K ++ [c0]) (256 : Int32) (256 : Int32) h385 E_o F_o_chars F_o_length V_ch (by rw [hL1]; decide) (by decide) (by decide) (by decide) (q16_1) (by decide)) (w_47 hw) (w_33 hw) (by decide) (by decide)) rfl rfl (lenOf pd_31 rfl) rfl (Nat.le_of_eq rfl) mem0 (by decide) (by decide) ?_
  rintro _ h395 _ K396 le397 ⟨b392, b393, q394, rfl, rfl, p398, p399, p400, p401⟩
  have o_o_b392 : o ≠ b392 := Nat.ne_of_lt (Nat.lt_of_lt_of_le E_o.lt p399)
  have o_ch_b392 : ch ≠ b392 := Nat.ne_of_lt (Nat.lt_of_lt_of_le V_ch.lt p399)
  have ge_b392 := Nat.le_trans le397 p399
  have o_o_b393 : o ≠ b393 := Nat.ne_of_lt (Nat.lt_of_lt_of_le E_o.lt p400)
  have o_ch_b393 : ch ≠ b393 := Nat.ne_of_lt (Nat.lt_of_lt_of_le V_ch.lt p400)
  have ge_b393 := Nat.le_trans le397 p400
  replace E_o := E_o.keep K396
  replace F_o_chars := F_o_chars.keep K396 nin0
  replace F_o_length := F_o_length.keep K396 nin0
  replace V_ch := V_ch.keep K396 nin0
  have E_b392 := p398
  change Go _ _ _ _ _ _ _ _ _ _ _ _ _ _ [o, ch] h395 11 3178 169 #[.val (.int p1), .val (.int p2), .val (.int p3), .val (.int p4), .val (.int p5), .val (.int (1 : Int32)), .val (.int (1 : Int32)), .val (.int c0), .val (.int c1), .val (.int c2), .val (.int hh), .val (.int tt), .val (.ref pad), .val (.ref ps), .val (.ref o), .val (.int (255 : Int32)), .unset, .unset] [(.ref b392)]
  rcases p401 with ⟨Fc_b392, Fv_b392, Vt_b392, hA_b392⟩ | ⟨Fc_b392, Fv_b392, bs_b392, Vt_b392, hE_b392, hX_b392⟩
  · skip
    refine Go.astore (pc' := 171) (Ls' := #[.val (.int p1), .val (.int p2), .val (.int p3), .val (.int p4), .val (.int p5), .val (.int (1 : Int32)), .val (.int (1 : Int32)), .val (.int c0), .val (.int c1), .val (.int c2), .val (.int hh), .val (.int tt), .val (.ref pad), .val (.ref ps), .val (.ref o), .val (.int (255 : Int32)), .val (.ref b392), .unset]) at_169 rfl rfl rfl ?_
    refine Go.aload (pc' := 173) at_171 rfl rfl rfl ?_
    refine Go.callV (pc' := 176) (u := N_41) (z := N_41) (a := o) at_173 rfl (w_43 hw) (w_44 hw) (nf (w_46 hw) rfl) (w_46 hw) (w_45 hw) (by decide) E_o (argsL := []) (rest := []) (Pays.of_met (W := 0) (len := 3) (m_jstr hw hs o ch kc (K ++ [c0]) (256 : Int32) (256 : Int32) h395 E_o F_o_chars F_o_length V_ch (by rw [hL1]; decide) (by decide) (by decide) (by decide) (q16_1) (by decide)) (w_47 hw) (w_33 hw) (by decide) (by decide)) rfl rfl (lenOf pd_31 rfl) rfl (Nat.le_of_eq rfl) mem0 (by decide) (by decide) ?_
    rintro _ h405 _ K406 le407 ⟨b402, b403, q404, rfl, rfl, p408, p409, p410, p411⟩
    have o_o_b402 : o ≠ b402 := Nat.ne_of_lt (Nat.lt_of_lt_of_le E_o.lt p409)
    have o_ch_b402 : ch ≠ b402 := Nat.ne_of_lt (Nat.lt_of_lt_of_le V_ch.lt p409)
    have o_b392_b402 : b392 ≠ b402 := Nat.ne_of_lt (Nat.lt_of_lt_of_le E_b392.lt p409)
    have o_b393_b402 : b393 ≠ b402 := Nat.ne_of_lt (Nat.lt_of_lt_of_le Vt_b392.lt p409)
    have ge_b402 := Nat.le_trans le407 p409
    have o_o_b403 : o ≠ b403 := Nat.ne_of_lt (Nat.lt_of_lt_of_le E_o.lt p410)
    have o_ch_b403 : ch ≠ b403 := Nat.ne_of_lt (Nat.lt_of_lt_of_le V_ch.lt p410)
    have o_b392_b403 : b392 ≠ b403 := Nat.ne_of_lt (Nat.lt_of_lt_of_le E_b392.lt p410)
    have o_b393_b403 : b393 ≠ b403 := Nat.ne_of_lt (Nat.lt_of_lt_of_le Vt_b392.lt p410)
    have ge_b403 := Nat.le_trans le407 p410
    replace E_o := E_o.keep K406
    replace F_o_chars := F_o_chars.keep K406 nin0
    replace F_o_length := F_o_length.keep K406 nin0
    replace V_ch := V_ch.keep K406 nin0
    replace E_b392 := E_b392.keep K406
    replace Fc_b392 := Fc_b392.keep K406 nin0
    replace Fv_b392 := Fv_b392.keep K406 nin0
    replace Vt_b392 := Vt_b392.keep K406 nin0
    have E_b402 := p408
    change Go _ _ _ _ _ _ _ _ _ _ _ _ _ _ [o, ch] h405 14 3956 176 #[.val (.int p1), .val (.int p2), .val (.int p3), .val (.int p4), .val (.int p5), .val (.int (1 : Int32)), .val (.int (1 : Int32)), .val (.int c0), .val (.int c1), .val (.int c2), .val (.int hh), .val (.int tt), .val (.ref pad), .val (.ref ps), .val (.ref o), .val (.int (255 : Int32)), .val (.ref b392), .unset] [(.ref b402)]
    rcases p411 with ⟨Fc_b402, Fv_b402, Vt_b402, hA_b402⟩ | ⟨Fc_b402, Fv_b402, bs_b402, Vt_b402, hE_b402, hX_b402⟩
    · skip
      refine Go.astore (pc' := 178) (Ls' := #[.val (.int p1), .val (.int p2), .val (.int p3), .val (.int p4), .val (.int p5), .val (.int (1 : Int32)), .val (.int (1 : Int32)), .val (.int c0), .val (.int c1), .val (.int c2), .val (.int hh), .val (.int tt), .val (.ref pad), .val (.ref ps), .val (.ref o), .val (.int (255 : Int32)), .val (.ref b392), .val (.ref b402)]) at_176 rfl rfl rfl ?_
      refine Go.aload (pc' := 180) at_178 rfl rfl rfl ?_
      refine Go.aload (pc' := 182) at_180 rfl rfl rfl ?_
      have W_b392 := Vt_b392
      rw [own_low_map] at W_b392
      have W_b402 := Vt_b402
      rw [own_low_map] at W_b402
      refine Go.callV (pc' := 185) (u := N_43) (z := N_43) (a := b392) at_182 rfl (w_68 hw) (w_69 hw) (nf (w_71 hw) rfl) (w_71 hw) (w_70 hw) (by decide) E_b392 (argsL := [(.ref b402)]) (rest := []) (Pays.of_met (W := 0) (len := 3) (m_seq0 hw hs b392 b402 b393 b403 q394 q404 ((K ++ [c0]).map (fun c => c.toInt8.toInt32)) ((K ++ [c0]).map (fun c => c.toInt8.toInt32)) (256 : Int32) (256 : Int32) h405 E_b392 Fc_b392 Fv_b392 W_b392 E_b402 Fc_b402 Fv_b402 W_b402 (by rw [List.length_map]; rw [hL1]; decide) (by rw [List.length_map]; rw [hL1]; decide)) (w_72 hw) (w_4 hw) (by decide) (by decide)) rfl rfl (lenOf pd_32 rfl) rfl (Nat.le_of_eq rfl) mem0 (by decide) (by decide) ?_
      rintro _ _ _ - - ⟨rfl, rfl, rfl⟩
      change Go _ _ _ _ _ _ _ _ _ _ _ _ _ _ [o, ch] h405 14 3956 185 #[.val (.int p1), .val (.int p2), .val (.int p3), .val (.int p4), .val (.int p5), .val (.int (1 : Int32)), .val (.int (1 : Int32)), .val (.int c0), .val (.int c1), .val (.int c2), .val (.int hh), .val (.int tt), .val (.ref pad), .val (.ref ps), .val (.ref o), .val (.int (255 : Int32)), .val (.ref b392), .val (.ref b402)] [(.int (own_eqb ((K ++ [c0]).map (fun c => c.toInt8.toInt32)) ((K ++ [c0]).map (fun c => c.toInt8.toInt32))))]
      rw [own_eqb_pos rfl]
      refine Go.ifY (pc' := 190) at_185 (by decide) (by decide) ((if0 _ _).trans (feq (by decide : ¬ ((1 : Int32) = (0 : Int32)))).2) ?_
      refine Go.aload (pc' := 192) at_190 rfl rfl rfl ?_
      refine Go.callV (pc' := 195) (u := N_40) (z := N_40) (a := o) at_192 rfl (w_78 hw) (w_79 hw) (nf (w_81 hw) rfl) (w_81 hw) (w_80 hw) (by decide) E_o (argsL := []) (rest := []) (Pays.of_met (W := 0) (len := 3) (m_jlen hw hs o (256 : Int32) h405 F_o_length) (w_82 hw) (w_33 hw) (by decide) (by decide)) rfl rfl (lenOf pd_19 rfl) rfl (Nat.le_of_eq rfl) mem0 (by decide) (by decide) ?_
      rintro _ _ _ - - ⟨rfl, rfl, rfl⟩
      change Go _ _ _ _ _ _ _ _ _ _ _ _ _ _ [o, ch] h405 14 3956 195 #[.val (.int p1), .val (.int p2), .val (.int p3), .val (.int p4), .val (.int p5), .val (.int (1 : Int32)), .val (.int (1 : Int32)), .val (.int c0), .val (.int c1), .val (.int c2), .val (.int hh), .val (.int tt), .val (.ref pad), .val (.ref ps), .val (.ref o), .val (.int (255 : Int32)), .val (.ref b392), .val (.ref b402)] [(.int (256 : Int32))]
      refine Go.iload (pc' := 197) at_195 rfl rfl ?_
      refine Go.iload (pc' := 199) at_197 rfl rfl ?_
      refine Go.iadd (pc' := 200) at_199 rfl ?_
      rw [show ((255 : Int32) + (1 : Int32)) = (256 : Int32) from by decide]
      refine Go.icmpY (pc' := 205) at_200 (by decide) (by decide) (teq (rfl : (256 : Int32) = (256 : Int32))).1 ?_
      refine Go.aload (pc' := 207) at_205 rfl rfl rfl ?_
      refine Go.callV (pc' := 210) (u := N_16) (z := N_16) (a := b392) at_207 rfl (w_83 hw) (w_84 hw) (nf (w_86 hw) rfl) (w_86 hw) (w_85 hw) (by decide) E_b392 (argsL := []) (rest := []) (Pays.of_met (W := 0) (len := 3) (m_length hw hs b392 b393 q394 (256 : Int32) ((K ++ [c0]).map lowV) h405 E_b392 Fc_b392 Fv_b392 Vt_b392) (w_87 hw) (w_4 hw) (by decide) (by decide)) rfl rfl (lenOf pd_19 rfl) rfl (Nat.le_of_eq rfl) mem0 (by decide) (by decide) ?_
      rintro _ _ _ - - ⟨rfl, rfl, rfl⟩
      change Go _ _ _ _ _ _ _ _ _ _ _ _ _ _ [o, ch] h405 14 3956 210 #[.val (.int p1), .val (.int p2), .val (.int p3), .val (.int p4), .val (.int p5), .val (.int (1 : Int32)), .val (.int (1 : Int32)), .val (.int c0), .val (.int c1), .val (.int c2), .val (.int hh), .val (.int tt), .val (.ref pad), .val (.ref ps), .val (.ref o), .val (.int (255 : Int32)), .val (.ref b392), .val (.ref b402)] [(.int (256 : Int32))]
      refine Go.iload (pc' := 212) at_210 rfl rfl ?_
      refine Go.iload (pc' := 214) at_212 rfl rfl ?_
      refine Go.iadd (pc' := 215) at_214 rfl ?_
      rw [show ((255 : Int32) + (1 : Int32)) = (256 : Int32) from by decide]
      refine Go.icmpY (pc' := 220) at_215 (by decide) (by decide) (teq (rfl : (256 : Int32) = (256 : Int32))).1 ?_
      refine Go.iload (pc' := 222) at_220 rfl rfl ?_
      refine Go.ifN (pc' := 225) at_222 rfl ((if0 _ _).trans (feq (by decide : ¬ ((1 : Int32) = (0 : Int32)))).1) ?_
      refine Go.aload (pc' := 227) at_225 rfl rfl rfl ?_
      refine Go.iconst (pc' := 228) at_227 rfl ic_0 ?_
      refine Go.callV (pc' := 231) (u := N_20) (z := N_20) (a := b392) at_228 rfl (w_156 hw) (w_157 hw) (nf (w_159 hw) rfl) (w_159 hw) (w_158 hw) (by decide) E_b392 (argsL := [(.int (0 : Int32))]) (rest := []) (Pays.of_met (W := 0) (len := 3) (m_charAt hw hs b392 b393 q394 (256 : Int32) ((K ++ [c0]).map lowV) (0 : Int32) ((K ++ [c0]).getD (0 : Int32).toNatClampNeg 0).toInt8.toInt32 h405 E_b392 Fc_b392 Fv_b392 Vt_b392 (by decide) (getD_low (K ++ [c0]) _ (by rw [hL1]; decide))) (w_160 hw) (w_4 hw) (by decide) (by decide)) rfl rfl (lenOf pd_34 rfl) rfl (Nat.le_of_eq rfl) mem0 (by decide) (by decide) ?_
      rintro _ _ _ - - ⟨rfl, rfl, rfl⟩
      change Go _ _ _ _ _ _ _ _ _ _ _ _ _ _ [o, ch] h405 14 3956 231 #[.val (.int p1), .val (.int p2), .val (.int p3), .val (.int p4), .val (.int p5), .val (.int (1 : Int32)), .val (.int (1 : Int32)), .val (.int c0), .val (.int c1), .val (.int c2), .val (.int hh), .val (.int tt), .val (.ref pad), .val (.ref ps), .val (.ref o), .val (.int (255 : Int32)), .val (.ref b392), .val (.ref b402)] [(.int (((K ++ [c0]).getD (0 : Int32).toNatClampNeg 0).toInt8.toInt32 &&& (255 : Int32)).toUInt32.toUInt16.toUInt32.toInt32)]
      have mm := getD_mem (P := fun x => ¬ x < 0 ∧ ¬ 255 < x) (fun x hx => ⟨(q16_1 x hx).1, hA_b392 x hx⟩) (i := (0 : Int32).toNatClampNeg) (by rw [hL1]; decide)
      rw [own_lowback mm.1 mm.2]
      rw [show (0 : Int32).toNatClampNeg = 0 from by decide, ((own_ap_lt (by rw [hK0]; decide)).trans (hKa) : (K ++ [c0]).getD 0 0 = hh)]
      refine Go.iload (pc' := 233) at_231 rfl rfl ?_
      refine Go.icmpN (pc' := 236) at_233 rfl (teq (rfl : hh = hh)).2 ?_
      refine Go.aload (pc' := 238) at_236 rfl rfl rfl ?_
      refine Go.iconst (pc' := 239) at_238 rfl ic_1 ?_
      refine Go.callV (pc' := 242) (u := N_20) (z := N_20) (a := b392) at_239 rfl (w_156 hw) (w_157 hw) (nf (w_159 hw) rfl) (w_159 hw) (w_158 hw) (by decide) E_b392 (argsL := [(.int (1 : Int32))]) (rest := []) (Pays.of_met (W := 0) (len := 3) (m_charAt hw hs b392 b393 q394 (256 : Int32) ((K ++ [c0]).map lowV) (1 : Int32) ((K ++ [c0]).getD (1 : Int32).toNatClampNeg 0).toInt8.toInt32 h405 E_b392 Fc_b392 Fv_b392 Vt_b392 (by decide) (getD_low (K ++ [c0]) _ (by rw [hL1]; decide))) (w_160 hw) (w_4 hw) (by decide) (by decide)) rfl rfl (lenOf pd_34 rfl) rfl (Nat.le_of_eq rfl) mem0 (by decide) (by decide) ?_
      rintro _ _ _ - - ⟨rfl, rfl, rfl⟩
      change Go _ _ _ _ _ _ _ _ _ _ _ _ _ _ [o, ch] h405 14 3956 242 #[.val (.int p1), .val (.int p2), .val (.int p3), .val (.int p4), .val (.int p5), .val (.int (1 : Int32)), .val (.int (1 : Int32)), .val (.int c0), .val (.int c1), .val (.int c2), .val (.int hh), .val (.int tt), .val (.ref pad), .val (.ref ps), .val (.ref o), .val (.int (255 : Int32)), .val (.ref b392), .val (.ref b402)] [(.int (((K ++ [c0]).getD (1 : Int32).toNatClampNeg 0).toInt8.toInt32 &&& (255 : Int32)).toUInt32.toUInt16.toUInt32.toInt32)]
      have mm := getD_mem (P := fun x => ¬ x < 0 ∧ ¬ 255 < x) (fun x hx => ⟨(q16_1 x hx).1, hA_b392 x hx⟩) (i := (1 : Int32).toNatClampNeg) (by rw [hL1]; decide)
      rw [own_lowback mm.1 mm.2]
      rw [show (1 : Int32).toNatClampNeg = 1 from by decide, ((own_ap_lt (by rw [hK0]; decide)).trans (hKb) : (K ++ [c0]).getD 1 0 = (0 : Int32))]
      refine Go.ifN (pc' := 245) at_242 rfl ((if0 _ _).trans (teq (rfl : (0 : Int32) = (0 : Int32))).2) ?_
      refine Go.aload (pc' := 247) at_245 rfl rfl rfl ?_
      refine Go.sipush (pc' := 250) at_247 rfl ics_254 ?_
      refine Go.callV (pc' := 253) (u := N_20) (z := N_20) (a := b392) at_250 rfl (w_156 hw) (w_157 hw) (nf (w_159 hw) rfl) (w_159 hw) (w_158 hw) (by decide) E_b392 (argsL := [(.int (254 : Int32))]) (rest := []) (Pays.of_met (W := 0) (len := 3) (m_charAt hw hs b392 b393 q394 (256 : Int32) ((K ++ [c0]).map lowV) (254 : Int32) ((K ++ [c0]).getD (254 : Int32).toNatClampNeg 0).toInt8.toInt32 h405 E_b392 Fc_b392 Fv_b392 Vt_b392 (by decide) (getD_low (K ++ [c0]) _ (by rw [hL1]; decide))) (w_160 hw) (w_4 hw) (by decide) (by decide)) rfl rfl (lenOf pd_34 rfl) rfl (Nat.le_of_eq rfl) mem0 (by decide) (by decide) ?_
      rintro _ _ _ - - ⟨rfl, rfl, rfl⟩
      change Go _ _ _ _ _ _ _ _ _ _ _ _ _ _ [o, ch] h405 14 3956 253 #[.val (.int p1), .val (.int p2), .val (.int p3), .val (.int p4), .val (.int p5), .val (.int (1 : Int32)), .val (.int (1 : Int32)), .val (.int c0), .val (.int c1), .val (.int c2), .val (.int hh), .val (.int tt), .val (.ref pad), .val (.ref ps), .val (.ref o), .val (.int (255 : Int32)), .val (.ref b392), .val (.ref b402)] [(.int (((K ++ [c0]).getD (254 : Int32).toNatClampNeg 0).toInt8.toInt32 &&& (255 : Int32)).toUInt32.toUInt16.toUInt32.toInt32)]
      have mm := getD_mem (P := fun x => ¬ x < 0 ∧ ¬ 255 < x) (fun x hx => ⟨(q16_1 x hx).1, hA_b392 x hx⟩) (i := (254 : Int32).toNatClampNeg) (by rw [hL1]; decide)
      rw [own_lowback mm.1 mm.2]
      rw [show (254 : Int32).toNatClampNeg = 254 from by decide, ((own_ap_lt (by rw [hK0]; decide)).trans (hKc) : (K ++ [c0]).getD 254 0 = tt)]
      refine Go.iload (pc' := 255) at_253 rfl rfl ?_
      refine Go.icmpY (pc' := 260) at_255 (by decide) (by decide) (teq (rfl : tt = tt)).1 ?_
      refine Go.iload (pc' := 262) at_260 rfl rfl ?_
      refine Go.iconst (pc' := 263) at_262 rfl ic_1 ?_
      refine Go.icmpN (pc' := 266) at_263 rfl (flt (by decide : ¬ ((1 : Int32) < (1 : Int32)))).1 ?_
      refine Go.aload (pc' := 268) at_266 rfl rfl rfl ?_
      refine Go.iload (pc' := 270) at_268 rfl rfl ?_
      refine Go.callV (pc' := 273) (u := N_20) (z := N_20) (a := b392) at_270 rfl (w_156 hw) (w_157 hw) (nf (w_159 hw) rfl) (w_159 hw) (w_158 hw) (by decide) E_b392 (argsL := [(.int (255 : Int32))]) (rest := []) (Pays.of_met (W := 0) (len := 3) (m_charAt hw hs b392 b393 q394 (256 : Int32) ((K ++ [c0]).map lowV) (255 : Int32) ((K ++ [c0]).getD (255 : Int32).toNatClampNeg 0).toInt8.toInt32 h405 E_b392 Fc_b392 Fv_b392 Vt_b392 (by decide) (getD_low (K ++ [c0]) _ (by rw [hL1]; decide))) (w_160 hw) (w_4 hw) (by decide) (by decide)) rfl rfl (lenOf pd_34 rfl) rfl (Nat.le_of_eq rfl) mem0 (by decide) (by decide) ?_
      rintro _ _ _ - - ⟨rfl, rfl, rfl⟩
      change Go _ _ _ _ _ _ _ _ _ _ _ _ _ _ [o, ch] h405 14 3956 273 #[.val (.int p1), .val (.int p2), .val (.int p3), .val (.int p4), .val (.int p5), .val (.int (1 : Int32)), .val (.int (1 : Int32)), .val (.int c0), .val (.int c1), .val (.int c2), .val (.int hh), .val (.int tt), .val (.ref pad), .val (.ref ps), .val (.ref o), .val (.int (255 : Int32)), .val (.ref b392), .val (.ref b402)] [(.int (((K ++ [c0]).getD (255 : Int32).toNatClampNeg 0).toInt8.toInt32 &&& (255 : Int32)).toUInt32.toUInt16.toUInt32.toInt32)]
      have mm := getD_mem (P := fun x => ¬ x < 0 ∧ ¬ 255 < x) (fun x hx => ⟨(q16_1 x hx).1, hA_b392 x hx⟩) (i := (255 : Int32).toNatClampNeg) (by rw [hL1]; decide)
      rw [own_lowback mm.1 mm.2]
      rw [show (255 : Int32).toNatClampNeg = 255 from by decide, (own_ap_eq (by rw [hK0]) : (K ++ [c0]).getD 255 0 = c0)]
      refine Go.iload (pc' := 275) at_273 rfl rfl ?_
      refine Go.icmpY (pc' := 280) at_275 (by decide) (by decide) (teq (rfl : c0 = c0)).1 ?_
      refine Go.iload (pc' := 282) at_280 rfl rfl ?_
      refine Go.iconst (pc' := 283) at_282 rfl ic_2 ?_
      refine Go.icmpY (pc' := 302) at_283 (by decide) (by decide) (tlt (by decide : (1 : Int32) < (2 : Int32))).1 ?_
      refine Go.iload (pc' := 304) at_302 rfl rfl ?_
      refine Go.iconst (pc' := 305) at_304 rfl ic_3 ?_
      refine Go.icmpY (pc' := 324) at_305 (by decide) (by decide) (tlt (by decide : (1 : Int32) < (3 : Int32))).1 ?_
      refine Go.iconst (pc' := 325) at_324 rfl ic_1 ?_
      exact Go.retS (ty := .boolean) at_325 rfl (by simp) rfl (by decide) (by decide) [] sn0 ⟨rfl, rfl⟩
    · skip
      exact False.elim (by obtain ⟨y, y1, y2⟩ := hX_b402; exact hA_b392 y y1 y2)
  · skip
    refine Go.astore (pc' := 171) (Ls' := #[.val (.int p1), .val (.int p2), .val (.int p3), .val (.int p4), .val (.int p5), .val (.int (1 : Int32)), .val (.int (1 : Int32)), .val (.int c0), .val (.int c1), .val (.int c2), .val (.int hh), .val (.int tt), .val (.ref pad), .val (.ref ps), .val (.ref o), .val (.int (255 : Int32)), .val (.ref b392), .unset]) at_169 rfl rfl rfl ?_
    refine Go.aload (pc' := 173) at_171 rfl rfl rfl ?_
    refine Go.callV (pc' := 176) (u := N_41) (z := N_41) (a := o) at_173 rfl (w_43 hw) (w_44 hw) (nf (w_46 hw) rfl) (w_46 hw) (w_45 hw) (by decide) E_o (argsL := []) (rest := []) (Pays.of_met (W := 0) (len := 3) (m_jstr hw hs o ch kc (K ++ [c0]) (256 : Int32) (256 : Int32) h395 E_o F_o_chars F_o_length V_ch (by rw [hL1]; decide) (by decide) (by decide) (by decide) (q16_1) (by decide)) (w_47 hw) (w_33 hw) (by decide) (by decide)) rfl rfl (lenOf pd_31 rfl) rfl (Nat.le_of_eq rfl) mem0 (by decide) (by decide) ?_
    rintro _ h415 _ K416 le417 ⟨b412, b413, q414, rfl, rfl, p418, p419, p420, p421⟩
    have o_o_b412 : o ≠ b412 := Nat.ne_of_lt (Nat.lt_of_lt_of_le E_o.lt p419)
    have o_ch_b412 : ch ≠ b412 := Nat.ne_of_lt (Nat.lt_of_lt_of_le V_ch.lt p419)
    have o_b392_b412 : b392 ≠ b412 := Nat.ne_of_lt (Nat.lt_of_lt_of_le E_b392.lt p419)
    have o_b393_b412 : b393 ≠ b412 := Nat.ne_of_lt (Nat.lt_of_lt_of_le Vt_b392.lt p419)
    have ge_b412 := Nat.le_trans le417 p419
    have o_o_b413 : o ≠ b413 := Nat.ne_of_lt (Nat.lt_of_lt_of_le E_o.lt p420)
    have o_ch_b413 : ch ≠ b413 := Nat.ne_of_lt (Nat.lt_of_lt_of_le V_ch.lt p420)
    have o_b392_b413 : b392 ≠ b413 := Nat.ne_of_lt (Nat.lt_of_lt_of_le E_b392.lt p420)
    have o_b393_b413 : b393 ≠ b413 := Nat.ne_of_lt (Nat.lt_of_lt_of_le Vt_b392.lt p420)
    have ge_b413 := Nat.le_trans le417 p420
    replace E_o := E_o.keep K416
    replace F_o_chars := F_o_chars.keep K416 nin0
    replace F_o_length := F_o_length.keep K416 nin0
    replace V_ch := V_ch.keep K416 nin0
    replace E_b392 := E_b392.keep K416
    replace Fc_b392 := Fc_b392.keep K416 nin0
    replace Fv_b392 := Fv_b392.keep K416 nin0
    replace Vt_b392 := Vt_b392.keep K416 nin0
    have E_b412 := p418
    change Go _ _ _ _ _ _ _ _ _ _ _ _ _ _ [o, ch] h415 14 3956 176 #[.val (.int p1), .val (.int p2), .val (.int p3), .val (.int p4), .val (.int p5), .val (.int (1 : Int32)), .val (.int (1 : Int32)), .val (.int c0), .val (.int c1), .val (.int c2), .val (.int hh), .val (.int tt), .val (.ref pad), .val (.ref ps), .val (.ref o), .val (.int (255 : Int32)), .val (.ref b392), .unset] [(.ref b412)]
    rcases p421 with ⟨Fc_b412, Fv_b412, Vt_b412, hA_b412⟩ | ⟨Fc_b412, Fv_b412, bs_b412, Vt_b412, hE_b412, hX_b412⟩
    · skip
      exact False.elim (by obtain ⟨y, y1, y2⟩ := hX_b392; exact hA_b412 y y1 y2)
    · skip
      refine Go.astore (pc' := 178) (Ls' := #[.val (.int p1), .val (.int p2), .val (.int p3), .val (.int p4), .val (.int p5), .val (.int (1 : Int32)), .val (.int (1 : Int32)), .val (.int c0), .val (.int c1), .val (.int c2), .val (.int hh), .val (.int tt), .val (.ref pad), .val (.ref ps), .val (.ref o), .val (.int (255 : Int32)), .val (.ref b392), .val (.ref b412)]) at_176 rfl rfl rfl ?_
      refine Go.aload (pc' := 180) at_178 rfl rfl rfl ?_
      refine Go.aload (pc' := 182) at_180 rfl rfl rfl ?_
      refine Go.callV (pc' := 185) (u := N_43) (z := N_43) (a := b392) at_182 rfl (w_68 hw) (w_69 hw) (nf (w_71 hw) rfl) (w_71 hw) (w_70 hw) (by decide) E_b392 (argsL := [(.ref b412)]) (rest := []) (Pays.of_met (W := 0) (len := 3) (m_seq1 hw hs b392 b412 b393 b413 q394 q414 bs_b392 bs_b412 ((256 : Int32) <<< ((1 : Int32) &&& 31)) ((256 : Int32) <<< ((1 : Int32) &&& 31)) h415 E_b392 Fc_b392 Fv_b392 Vt_b392 E_b412 Fc_b412 Fv_b412 Vt_b412 (by rw [hE_b392.1, hL1]; decide) (by rw [hE_b412.1, hL1]; decide)) (w_72 hw) (w_4 hw) (by decide) (by decide)) rfl rfl (lenOf pd_32 rfl) rfl (Nat.le_of_eq rfl) mem0 (by decide) (by decide) ?_
      rintro _ _ _ - - ⟨rfl, rfl, rfl⟩
      change Go _ _ _ _ _ _ _ _ _ _ _ _ _ _ [o, ch] h415 14 3956 185 #[.val (.int p1), .val (.int p2), .val (.int p3), .val (.int p4), .val (.int p5), .val (.int (1 : Int32)), .val (.int (1 : Int32)), .val (.int c0), .val (.int c1), .val (.int c2), .val (.int hh), .val (.int tt), .val (.ref pad), .val (.ref ps), .val (.ref o), .val (.int (255 : Int32)), .val (.ref b392), .val (.ref b412)] [(.int (own_eqb bs_b392 bs_b412))]
      rw [own_eqb_pos (hE_b392.uniq hE_b412)]
      refine Go.ifY (pc' := 190) at_185 (by decide) (by decide) ((if0 _ _).trans (feq (by decide : ¬ ((1 : Int32) = (0 : Int32)))).2) ?_
      refine Go.aload (pc' := 192) at_190 rfl rfl rfl ?_
      refine Go.callV (pc' := 195) (u := N_40) (z := N_40) (a := o) at_192 rfl (w_78 hw) (w_79 hw) (nf (w_81 hw) rfl) (w_81 hw) (w_80 hw) (by decide) E_o (argsL := []) (rest := []) (Pays.of_met (W := 0) (len := 3) (m_jlen hw hs o (256 : Int32) h415 F_o_length) (w_82 hw) (w_33 hw) (by decide) (by decide)) rfl rfl (lenOf pd_19 rfl) rfl (Nat.le_of_eq rfl) mem0 (by decide) (by decide) ?_
      rintro _ _ _ - - ⟨rfl, rfl, rfl⟩
      change Go _ _ _ _ _ _ _ _ _ _ _ _ _ _ [o, ch] h415 14 3956 195 #[.val (.int p1), .val (.int p2), .val (.int p3), .val (.int p4), .val (.int p5), .val (.int (1 : Int32)), .val (.int (1 : Int32)), .val (.int c0), .val (.int c1), .val (.int c2), .val (.int hh), .val (.int tt), .val (.ref pad), .val (.ref ps), .val (.ref o), .val (.int (255 : Int32)), .val (.ref b392), .val (.ref b412)] [(.int (256 : Int32))]
      refine Go.iload (pc' := 197) at_195 rfl rfl ?_
      refine Go.iload (pc' := 199) at_197 rfl rfl ?_
      refine Go.iadd (pc' := 200) at_199 rfl ?_
      rw [show ((255 : Int32) + (1 : Int32)) = (256 : Int32) from by decide]
      refine Go.icmpY (pc' := 205) at_200 (by decide) (by decide) (teq (rfl : (256 : Int32) = (256 : Int32))).1 ?_
      refine Go.aload (pc' := 207) at_205 rfl rfl rfl ?_
      refine Go.callV (pc' := 210) (u := N_16) (z := N_16) (a := b392) at_207 rfl (w_83 hw) (w_84 hw) (nf (w_86 hw) rfl) (w_86 hw) (w_85 hw) (by decide) E_b392 (argsL := []) (rest := []) (Pays.of_met (W := 0) (len := 3) (m_ulen hw hs b392 b393 q394 (256 : Int32) bs_b392 h415 E_b392 Fc_b392 Fv_b392 Vt_b392 (by decide) (by decide)) (w_87 hw) (w_4 hw) (by decide) (by decide)) rfl rfl (lenOf pd_19 rfl) rfl (Nat.le_of_eq rfl) mem0 (by decide) (by decide) ?_
      rintro _ _ _ - - ⟨rfl, rfl, rfl⟩
      change Go _ _ _ _ _ _ _ _ _ _ _ _ _ _ [o, ch] h415 14 3956 210 #[.val (.int p1), .val (.int p2), .val (.int p3), .val (.int p4), .val (.int p5), .val (.int (1 : Int32)), .val (.int (1 : Int32)), .val (.int c0), .val (.int c1), .val (.int c2), .val (.int hh), .val (.int tt), .val (.ref pad), .val (.ref ps), .val (.ref o), .val (.int (255 : Int32)), .val (.ref b392), .val (.ref b412)] [(.int (256 : Int32))]
      refine Go.iload (pc' := 212) at_210 rfl rfl ?_
      refine Go.iload (pc' := 214) at_212 rfl rfl ?_
      refine Go.iadd (pc' := 215) at_214 rfl ?_
      rw [show ((255 : Int32) + (1 : Int32)) = (256 : Int32) from by decide]
      refine Go.icmpY (pc' := 220) at_215 (by decide) (by decide) (teq (rfl : (256 : Int32) = (256 : Int32))).1 ?_
      refine Go.iload (pc' := 222) at_220 rfl rfl ?_
      refine Go.ifN (pc' := 225) at_222 rfl ((if0 _ _).trans (feq (by decide : ¬ ((1 : Int32) = (0 : Int32)))).1) ?_
      refine Go.aload (pc' := 227) at_225 rfl rfl rfl ?_
      refine Go.iconst (pc' := 228) at_227 rfl ic_0 ?_
      refine Go.callV (pc' := 231) (u := N_20) (z := N_20) (a := b392) at_228 rfl (w_156 hw) (w_157 hw) (nf (w_159 hw) rfl) (w_159 hw) (w_158 hw) (by decide) E_b392 (argsL := [(.int (0 : Int32))]) (rest := []) (Pays.of_met (W := 0) (len := 3) (m_ucA hw hs b392 b393 q394 (256 : Int32) bs_b392 (0 : Int32) (K ++ [c0]) h415 E_b392 Fc_b392 Fv_b392 Vt_b392 (by decide) (by decide) (by decide) (by rw [hL1]; decide) (hE_b392) (q16_1)) (w_160 hw) (w_4 hw) (by decide) (by decide)) rfl rfl (lenOf pd_34 rfl) rfl (Nat.le_of_eq rfl) mem0 (by decide) (by decide) ?_
      rintro _ _ _ - - ⟨rfl, rfl, rfl⟩
      change Go _ _ _ _ _ _ _ _ _ _ _ _ _ _ [o, ch] h415 14 3956 231 #[.val (.int p1), .val (.int p2), .val (.int p3), .val (.int p4), .val (.int p5), .val (.int (1 : Int32)), .val (.int (1 : Int32)), .val (.int c0), .val (.int c1), .val (.int c2), .val (.int hh), .val (.int tt), .val (.ref pad), .val (.ref ps), .val (.ref o), .val (.int (255 : Int32)), .val (.ref b392), .val (.ref b412)] [(.int ((K ++ [c0]).getD (0 : Int32).toNatClampNeg 0))]
      rw [show (0 : Int32).toNatClampNeg = 0 from by decide, ((own_ap_lt (by rw [hK0]; decide)).trans (hKa) : (K ++ [c0]).getD 0 0 = hh)]
      refine Go.iload (pc' := 233) at_231 rfl rfl ?_
      refine Go.icmpN (pc' := 236) at_233 rfl (teq (rfl : hh = hh)).2 ?_
      refine Go.aload (pc' := 238) at_236 rfl rfl rfl ?_
      refine Go.iconst (pc' := 239) at_238 rfl ic_1 ?_
      refine Go.callV (pc' := 242) (u := N_20) (z := N_20) (a := b392) at_239 rfl (w_156 hw) (w_157 hw) (nf (w_159 hw) rfl) (w_159 hw) (w_158 hw) (by decide) E_b392 (argsL := [(.int (1 : Int32))]) (rest := []) (Pays.of_met (W := 0) (len := 3) (m_ucA hw hs b392 b393 q394 (256 : Int32) bs_b392 (1 : Int32) (K ++ [c0]) h415 E_b392 Fc_b392 Fv_b392 Vt_b392 (by decide) (by decide) (by decide) (by rw [hL1]; decide) (hE_b392) (q16_1)) (w_160 hw) (w_4 hw) (by decide) (by decide)) rfl rfl (lenOf pd_34 rfl) rfl (Nat.le_of_eq rfl) mem0 (by decide) (by decide) ?_
      rintro _ _ _ - - ⟨rfl, rfl, rfl⟩
      change Go _ _ _ _ _ _ _ _ _ _ _ _ _ _ [o, ch] h415 14 3956 242 #[.val (.int p1), .val (.int p2), .val (.int p3), .val (.int p4), .val (.int p5), .val (.int (1 : Int32)), .val (.int (1 : Int32)), .val (.int c0), .val (.int c1), .val (.int c2), .val (.int hh), .val (.int tt), .val (.ref pad), .val (.ref ps), .val (.ref o), .val (.int (255 : Int32)), .val (.ref b392), .val (.ref b412)] [(.int ((K ++ [c0]).getD (1 : Int32).toNatClampNeg 0))]
      rw [show (1 : Int32).toNatClampNeg = 1 from by decide, ((own_ap_lt (by rw [hK0]; decide)).trans (hKb) : (K ++ [c0]).getD 1 0 = (0 : Int32))]
      refine Go.ifN (pc' := 245) at_242 rfl ((if0 _ _).trans (teq (rfl : (0 : Int32) = (0 : Int32))).2) ?_
      refine Go.aload (pc' := 247) at_245 rfl rfl rfl ?_
      refine Go.sipush (pc' := 250) at_247 rfl ics_254 ?_
      refine Go.callV (pc' := 253) (u := N_20) (z := N_20) (a := b392) at_250 rfl (w_156 hw) (w_157 hw) (nf (w_159 hw) rfl) (w_159 hw) (w_158 hw) (by decide) E_b392 (argsL := [(.int (254 : Int32))]) (rest := []) (Pays.of_met (W := 0) (len := 3) (m_ucA hw hs b392 b393 q394 (256 : Int32) bs_b392 (254 : Int32) (K ++ [c0]) h415 E_b392 Fc_b392 Fv_b392 Vt_b392 (by decide) (by decide) (by decide) (by rw [hL1]; decide) (hE_b392) (q16_1)) (w_160 hw) (w_4 hw) (by decide) (by decide)) rfl rfl (lenOf pd_34 rfl) rfl (Nat.le_of_eq rfl) mem0 (by decide) (by decide) ?_
      rintro _ _ _ - - ⟨rfl, rfl, rfl⟩
      change Go _ _ _ _ _ _ _ _ _ _ _ _ _ _ [o, ch] h415 14 3956 253 #[.val (.int p1), .val (.int p2), .val (.int p3), .val (.int p4), .val (.int p5), .val (.int (1 : Int32)), .val (.int (1 : Int32)), .val (.int c0), .val (.int c1), .val (.int c2), .val (.int hh), .val (.int tt), .val (.ref pad), .val (.ref ps), .val (.ref o), .val (.int (255 : Int32)), .val (.ref b392), .val (.ref b412)] [(.int ((K ++ [c0]).getD (254 : Int32).toNatClampNeg 0))]
      rw [show (254 : Int32).toNatClampNeg = 254 from by decide, ((own_ap_lt (by rw [hK0]; decide)).trans (hKc) : (K ++ [c0]).getD 254 0 = tt)]
      refine Go.iload (pc' := 255) at_253 rfl rfl ?_
      refine Go.icmpY (pc' := 260) at_255 (by decide) (by decide) (teq (rfl : tt = tt)).1 ?_
      refine Go.iload (pc' := 262) at_260 rfl rfl ?_
      refine Go.iconst (pc' := 263) at_262 rfl ic_1 ?_
      refine Go.icmpN (pc' := 266) at_263 rfl (flt (by decide : ¬ ((1 : Int32) < (1 : Int32)))).1 ?_
      refine Go.aload (pc' := 268) at_266 rfl rfl rfl ?_
      refine Go.iload (pc' := 270) at_268 rfl rfl ?_
      refine Go.callV (pc' := 273) (u := N_20) (z := N_20) (a := b392) at_270 rfl (w_156 hw) (w_157 hw) (nf (w_159 hw) rfl) (w_159 hw) (w_158 hw) (by decide) E_b392 (argsL := [(.int (255 : Int32))]) (rest := []) (Pays.of_met (W := 0) (len := 3) (m_ucA hw hs b392 b393 q394 (256 : Int32) bs_b392 (255 : Int32) (K ++ [c0]) h415 E_b392 Fc_b392 Fv_b392 Vt_b392 (by decide) (by decide) (by decide) (by rw [hL1]; decide) (hE_b392) (q16_1)) (w_160 hw) (w_4 hw) (by decide) (by decide)) rfl rfl (lenOf pd_34 rfl) rfl (Nat.le_of_eq rfl) mem0 (by decide) (by decide) ?_
      rintro _ _ _ - - ⟨rfl, rfl, rfl⟩
      change Go _ _ _ _ _ _ _ _ _ _ _ _ _ _ [o, ch] h415 14 3956 273 #[.val (.int p1), .val (.int p2), .val (.int p3), .val (.int p4), .val (.int p5), .val (.int (1 : Int32)), .val (.int (1 : Int32)), .val (.int c0), .val (.int c1), .val (.int c2), .val (.int hh), .val (.int tt), .val (.ref pad), .val (.ref ps), .val (.ref o), .val (.int (255 : Int32)), .val (.ref b392), .val (.ref b412)] [(.int ((K ++ [c0]).getD (255 : Int32).toNatClampNeg 0))]
      rw [show (255 : Int32).toNatClampNeg = 255 from by decide, (own_ap_eq (by rw [hK0]) : (K ++ [c0]).getD 255 0 = c0)]
      refine Go.iload (pc' := 275) at_273 rfl rfl ?_
      refine Go.icmpY (pc' := 280) at_275 (by decide) (by decide) (teq (rfl : c0 = c0)).1 ?_
      refine Go.iload (pc' := 282) at_280 rfl rfl ?_
      refine Go.iconst (pc' := 283) at_282 rfl ic_2 ?_
      refine Go.icmpY (pc' := 302) at_283 (by decide) (by decide) (tlt (by decide : (1 : Int32) < (2 : Int32))).1 ?_
      refine Go.iload (pc' := 304) at_302 rfl rfl ?_
      refine Go.iconst (pc' := 305) at_304 rfl ic_3 ?_
      refine Go.icmpY (pc' := 324) at_305 (by decide) (by decide) (tlt (by decide : (1 : Int32) < (3 : Int32))).1 ?_
      refine Go.iconst (pc' := 325) at_324 rfl ic_1 ?_
      exact Go.retS (ty := .boolean) at_325 rfl (by simp) rfl (by decide) (by decide) [] sn0 ⟨rfl, rfl⟩
set_option maxRecDepth 65536 in
set_option maxHeartbeats 40000000 in
theorem m_lawS255_2 {l : Launch} {Z : State} {a0 : Array Value} {n0 : Nat} (hw : ∀ d ∈ tables_1, d.before a0 Z = true) (hs : Stat Z) (p1 : Int32) (p2 : Int32) (p3 : Int32) (p4 : Int32) (p5 : Int32) (c0 : Int32) (c1 : Int32) (c2 : Int32) (hh : Int32) (tt : Int32) (pad : Addr) (ps : Addr) (o : Addr) (ch : Addr) (kc : ClassId) (K : List Int32) (h0 h : Heap) (E_o : Exa Z h o "com/example/beleg/beleg/JsonOutput") (F_o_chars : Fld Z h o "com/example/beleg/beleg/JsonOutput" "chars" "[C" (.ref ch)) (F_o_length : Fld Z h o "com/example/beleg/beleg/JsonOutput" "length" "I" (.int (255 : Int32))) (V_ch : Arv Z h ch kc .char (256 : Int32) (K.map Value.int) (.int (0 : Int32))) (hK0 : K.length = 255) (h16 : ∀ x ∈ K, ¬ x < 0 ∧ ¬ 65535 < x) (hKa : K.getD 0 0 = hh) (hKb : K.getD 1 0 = 0) (hKc : K.getD 254 0 = tt) (hc0 : ¬ c0 < 0 ∧ ¬ 65535 < c0) (hc1 : ¬ c1 < 0 ∧ ¬ 65535 < c1) (hc2 : ¬ c2 < 0 ∧ ¬ 65535 < c2) (ne_ch_o : ch ≠ o) :
    Go l Z EL0 n0 NR0 KN0 x code maxLocals ret room_1 h0 [] (Q_m_law Z p1 p2 p3 p4 p5 h0) [o, ch] h 8 2400 122 #[.val (.int p1), .val (.int p2), .val (.int p3), .val (.int p4), .val (.int p5), .val (.int (2 : Int32)), .val (.int (1 : Int32)), .val (.int c0), .val (.int c1), .val (.int c2), .val (.int hh), .val (.int tt), .val (.ref pad), .val (.ref ps), .val (.ref o), .val (.int (255 : Int32)), .unset, .unset] [] := by
  refine Go.iload (pc' := 124) at_122 rfl rfl ?_
  refine Go.iconst (pc' := 125) at_124 rfl ic_1 ?_
  have q16_0 := h16
  refine Go.icmpN (pc' := 128) at_125 rfl (flt (by decide : ¬ ((2 : Int32) < (1 : Int32)))).1 ?_
  refine Go.aload (pc' := 130) at_128 rfl rfl rfl ?_
  refine Go.iload (pc' := 132) at_130 rfl rfl ?_
  refine Go.callV (pc' := 135) (u := N_38) (z := N_38) (a := o) at_132 rfl (w_131 hw) (w_132 hw) (nf (w_134 hw) rfl) (w_134 hw) (w_133 hw) (by decide) E_o (argsL := [(.int c0)]) (rest := []) (Pays.of_met (W := 0) (len := 3) (m_apc hw hs o ch kc K c0 (256 : Int32) (255 : Int32) h E_o F_o_chars F_o_length V_ch (by rw [hK0]; decide) (by decide) (by decide) (hc0) ne_ch_o) (w_135 hw) (w_33 hw) (by decide) (by decide)) rfl rfl (lenOf pd_33 rfl) rfl (Nat.le_of_eq rfl) (memS (List.mem_of_getElem? (i := 0) rfl) (memS (List.mem_of_getElem? (i := 1) rfl) mem0)) (by decide) (by decide) ?_
  rintro _ h422 _ K423 le424 ⟨rfl, rfl, p425, p426, p427, p428⟩
  replace E_o := E_o.keep K423
  have F_o_chars := p426
  have F_o_length := p427
  have V_ch := p428
  change Go _ _ _ _ _ _ _ _ _ _ _ _ _ _ [o, ch] h422 8 2400 135 #[.val (.int p1), .val (.int p2), .val (.int p3), .val (.int p4), .val (.int p5), .val (.int (2 : Int32)), .val (.int (1 : Int32)), .val (.int c0), .val (.int c1), .val (.int c2), .val (.int hh), .val (.int tt), .val (.ref pad), .val (.ref ps), .val (.ref o), .val (.int (255 : Int32)), .unset, .unset] [(.ref o)]
  rw [show ((255 : Int32) + (1 : Int32)) = (256 : Int32) from by decide] at F_o_length
  refine Go.pop (pc' := 136) at_135 rfl rfl ?_
  refine Go.iload (pc' := 138) at_136 rfl rfl ?_
  refine Go.iconst (pc' := 139) at_138 rfl ic_2 ?_
  have hL1 : (K ++ [c0]).length = 256 := by rw [List.length_append, hK0]; rfl
  have q16_1 := own_ap_all q16_0 hc0
  refine Go.icmpN (pc' := 142) at_139 rfl (flt (by decide : ¬ ((2 : Int32) < (2 : Int32)))).1 ?_
  refine Go.aload (pc' := 144) at_142 rfl rfl rfl ?_
  refine Go.iload (pc' := 146) at_144 rfl rfl ?_
  refine Go.callV (pc' := 149) (u := N_38) (z := N_38) (a := o) at_146 rfl (w_131 hw) (w_132 hw) (nf (w_134 hw) rfl) (w_134 hw) (w_133 hw) (by decide) E_o (argsL := [(.int c1)]) (rest := []) (Pays.of_met (W := 0) (len := 3) (m_apg hw hs o ch kc (K ++ [c0]) c1 h422 E_o F_o_chars F_o_length V_ch (hL1) (hc1) ne_ch_o) (w_135 hw) (w_33 hw) (by decide) (by decide)) rfl rfl (lenOf pd_33 rfl) rfl (Nat.le_of_eq rfl) (memS (List.mem_of_getElem? (i := 0) rfl) mem0) (by decide) (by decide) ?_
  rintro _ h431 _ K432 le433 ⟨b429, q430, rfl, rfl, p434, p435, p436, p437, p438⟩
  have o_o_b429 : o ≠ b429 := Nat.ne_of_lt (Nat.lt_of_lt_of_le E_o.lt p437)
  have o_ch_b429 : ch ≠ b429 := Nat.ne_of_lt (Nat.lt_of_lt_of_le V_ch.lt p437)
  have ge_b429 := Nat.le_trans le433 p437
  replace E_o := E_o.keep K432
  replace V_ch := V_ch.keep K432 (ninS ne_ch_o nin0)
  have F_o_chars := p435
  have F_o_length := p436
  have V_b429 := p438
  change Go _ _ _ _ _ _ _ _ _ _ _ _ _ _ [b429, o, ch] h431 9 2912 149 #[.val (.int p1), .val (.int p2), .val (.int p3), .val (.int p4), .val (.int p5), .val (.int (2 : Int32)), .val (.int (1 : Int32)), .val (.int c0), .val (.int c1), .val (.int c2), .val (.int hh), .val (.int tt), .val (.ref pad), .val (.ref ps), .val (.ref o), .val (.int (255 : Int32)), .unset, .unset] [(.ref o)]
  refine Go.pop (pc' := 150) at_149 rfl rfl ?_
  refine Go.iload (pc' := 152) at_150 rfl rfl ?_
  refine Go.iconst (pc' := 153) at_152 rfl ic_3 ?_
  have hL2 : ((K ++ [c0]) ++ [c1]).length = 257 := by rw [List.length_append, hL1]; rfl
  have q16_2 := own_ap_all q16_1 hc1
  refine Go.icmpY (pc' := 164) at_153 (by decide) (by decide) (tlt (by decide : (2 : Int32) < (3 : Int32))).1 ?_
  refine Go.aload (pc' := 166) at_164 rfl rfl rfl ?_
  refine Go.callV (pc' := 169) (u := N_41) (z := N_41) (a := o) at_166 rfl (w_43 hw) (w_44 hw) (nf (w_46 hw) rfl) (w_46 hw) (w_45 hw) (by decide) E_o (argsL := []) (rest := []) (Pays.of_met (W := 0) (len := 3) (m_jstr hw hs o b429 q430 ((K ++ [c0]) ++ [c1]) (512 : Int32) (257 : Int32) h431 E_o F_o_chars F_o_length V_b429 (by rw [hL2]; decide) (by decide) (by decide) (by decide) (q16_2) (by decide)) (w_47 hw) (w_33 hw) (by decide) (by decide)) rfl rfl (lenOf pd_31 rfl) rfl (Nat.le_of_eq rfl) mem0 (by decide) (by decide) ?_
  rintro _ h442 _ K443 le444 ⟨b439, b440, q441, rfl, rfl, p445, p446, p447, p448⟩
  have o_o_b439 : o ≠ b439 := Nat.ne_of_lt (Nat.lt_of_lt_of_le E_o.lt p446)
  have o_ch_b439 : ch ≠ b439 := Nat.ne_of_lt (Nat.lt_of_lt_of_le V_ch.lt p446)
  have o_b429_b439 : b429 ≠ b439 := Nat.ne_of_lt (Nat.lt_of_lt_of_le V_b429.lt p446)
  have ge_b439 := Nat.le_trans le444 p446
  have o_o_b440 : o ≠ b440 := Nat.ne_of_lt (Nat.lt_of_lt_of_le E_o.lt p447)
  have o_ch_b440 : ch ≠ b440 := Nat.ne_of_lt (Nat.lt_of_lt_of_le V_ch.lt p447)
  have o_b429_b440 : b429 ≠ b440 := Nat.ne_of_lt (Nat.lt_of_lt_of_le V_b429.lt p447)
  have ge_b440 := Nat.le_trans le444 p447
  replace E_o := E_o.keep K443
  replace V_ch := V_ch.keep K443 nin0
  replace F_o_chars := F_o_chars.keep K443 nin0
  replace F_o_length := F_o_length.keep K443 nin0
  replace V_b429 := V_b429.keep K443 nin0
  have E_b439 := p445
  change Go _ _ _ _ _ _ _ _ _ _ _ _ _ _ [b429, o, ch] h442 12 3690 169 #[.val (.int p1), .val (.int p2), .val (.int p3), .val (.int p4), .val (.int p5), .val (.int (2 : Int32)), .val (.int (1 : Int32)), .val (.int c0), .val (.int c1), .val (.int c2), .val (.int hh), .val (.int tt), .val (.ref pad), .val (.ref ps), .val (.ref o), .val (.int (255 : Int32)), .unset, .unset] [(.ref b439)]
  rcases p448 with ⟨Fc_b439, Fv_b439, Vt_b439, hA_b439⟩ | ⟨Fc_b439, Fv_b439, bs_b439, Vt_b439, hE_b439, hX_b439⟩
  · skip
    refine Go.astore (pc' := 171) (Ls' := #[.val (.int p1), .val (.int p2), .val (.int p3), .val (.int p4), .val (.int p5), .val (.int (2 : Int32)), .val (.int (1 : Int32)), .val (.int c0), .val (.int c1), .val (.int c2), .val (.int hh), .val (.int tt), .val (.ref pad), .val (.ref ps), .val (.ref o), .val (.int (255 : Int32)), .val (.ref b439), .unset]) at_169 rfl rfl rfl ?_
    refine Go.aload (pc' := 173) at_171 rfl rfl rfl ?_
    refine Go.callV (pc' := 176) (u := N_41) (z := N_41) (a := o) at_173 rfl (w_43 hw) (w_44 hw) (nf (w_46 hw) rfl) (w_46 hw) (w_45 hw) (by decide) E_o (argsL := []) (rest := []) (Pays.of_met (W := 0) (len := 3) (m_jstr hw hs o b429 q430 ((K ++ [c0]) ++ [c1]) (512 : Int32) (257 : Int32) h442 E_o F_o_chars F_o_length V_b429 (by rw [hL2]; decide) (by decide) (by decide) (by decide) (q16_2) (by decide)) (w_47 hw) (w_33 hw) (by decide) (by decide)) rfl rfl (lenOf pd_31 rfl) rfl (Nat.le_of_eq rfl) mem0 (by decide) (by decide) ?_
    rintro _ h452 _ K453 le454 ⟨b449, b450, q451, rfl, rfl, p455, p456, p457, p458⟩
    have o_o_b449 : o ≠ b449 := Nat.ne_of_lt (Nat.lt_of_lt_of_le E_o.lt p456)
    have o_ch_b449 : ch ≠ b449 := Nat.ne_of_lt (Nat.lt_of_lt_of_le V_ch.lt p456)
    have o_b429_b449 : b429 ≠ b449 := Nat.ne_of_lt (Nat.lt_of_lt_of_le V_b429.lt p456)
    have o_b439_b449 : b439 ≠ b449 := Nat.ne_of_lt (Nat.lt_of_lt_of_le E_b439.lt p456)
    have o_b440_b449 : b440 ≠ b449 := Nat.ne_of_lt (Nat.lt_of_lt_of_le Vt_b439.lt p456)
    have ge_b449 := Nat.le_trans le454 p456
    have o_o_b450 : o ≠ b450 := Nat.ne_of_lt (Nat.lt_of_lt_of_le E_o.lt p457)
    have o_ch_b450 : ch ≠ b450 := Nat.ne_of_lt (Nat.lt_of_lt_of_le V_ch.lt p457)
    have o_b429_b450 : b429 ≠ b450 := Nat.ne_of_lt (Nat.lt_of_lt_of_le V_b429.lt p457)
    have o_b439_b450 : b439 ≠ b450 := Nat.ne_of_lt (Nat.lt_of_lt_of_le E_b439.lt p457)
    have o_b440_b450 : b440 ≠ b450 := Nat.ne_of_lt (Nat.lt_of_lt_of_le Vt_b439.lt p457)
    have ge_b450 := Nat.le_trans le454 p457
    replace E_o := E_o.keep K453
    replace V_ch := V_ch.keep K453 nin0
    replace F_o_chars := F_o_chars.keep K453 nin0
    replace F_o_length := F_o_length.keep K453 nin0
    replace V_b429 := V_b429.keep K453 nin0
    replace E_b439 := E_b439.keep K453
    replace Fc_b439 := Fc_b439.keep K453 nin0
    replace Fv_b439 := Fv_b439.keep K453 nin0
    replace Vt_b439 := Vt_b439.keep K453 nin0
    have E_b449 := p455
    change Go _ _ _ _ _ _ _ _ _ _ _ _ _ _ [b429, o, ch] h452 15 4468 176 #[.val (.int p1), .val (.int p2), .val (.int p3), .val (.int p4), .val (.int p5), .val (.int (2 : Int32)), .val (.int (1 : Int32)), .val (.int c0), .val (.int c1), .val (.int c2), .val (.int hh), .val (.int tt), .val (.ref pad), .val (.ref ps), .val (.ref o), .val (.int (255 : Int32)), .val (.ref b439), .unset] [(.ref b449)]
    rcases p458 with ⟨Fc_b449, Fv_b449, Vt_b449, hA_b449⟩ | ⟨Fc_b449, Fv_b449, bs_b449, Vt_b449, hE_b449, hX_b449⟩
    · skip
      refine Go.astore (pc' := 178) (Ls' := #[.val (.int p1), .val (.int p2), .val (.int p3), .val (.int p4), .val (.int p5), .val (.int (2 : Int32)), .val (.int (1 : Int32)), .val (.int c0), .val (.int c1), .val (.int c2), .val (.int hh), .val (.int tt), .val (.ref pad), .val (.ref ps), .val (.ref o), .val (.int (255 : Int32)), .val (.ref b439), .val (.ref b449)]) at_176 rfl rfl rfl ?_
      refine Go.aload (pc' := 180) at_178 rfl rfl rfl ?_
      refine Go.aload (pc' := 182) at_180 rfl rfl rfl ?_
      have W_b439 := Vt_b439
      rw [own_low_map] at W_b439
      have W_b449 := Vt_b449
      rw [own_low_map] at W_b449
      refine Go.callV (pc' := 185) (u := N_43) (z := N_43) (a := b439) at_182 rfl (w_68 hw) (w_69 hw) (nf (w_71 hw) rfl) (w_71 hw) (w_70 hw) (by decide) E_b439 (argsL := [(.ref b449)]) (rest := []) (Pays.of_met (W := 0) (len := 3) (m_seq0 hw hs b439 b449 b440 b450 q441 q451 (((K ++ [c0]) ++ [c1]).map (fun c => c.toInt8.toInt32)) (((K ++ [c0]) ++ [c1]).map (fun c => c.toInt8.toInt32)) (257 : Int32) (257 : Int32) h452 E_b439 Fc_b439 Fv_b439 W_b439 E_b449 Fc_b449 Fv_b449 W_b449 (by rw [List.length_map]; rw [hL2]; decide) (by rw [List.length_map]; rw [hL2]; decide)) (w_72 hw) (w_4 hw) (by decide) (by decide)) rfl rfl (lenOf pd_32 rfl) rfl (Nat.le_of_eq rfl) mem0 (by decide) (by decide) ?_
      rintro _ _ _ - - ⟨rfl, rfl, rfl⟩
      change Go _ _ _ _ _ _ _ _ _ _ _ _ _ _ [b429, o, ch] h452 15 4468 185 #[.val (.int p1), .val (.int p2), .val (.int p3), .val (.int p4), .val (.int p5), .val (.int (2 : Int32)), .val (.int (1 : Int32)), .val (.int c0), .val (.int c1), .val (.int c2), .val (.int hh), .val (.int tt), .val (.ref pad), .val (.ref ps), .val (.ref o), .val (.int (255 : Int32)), .val (.ref b439), .val (.ref b449)] [(.int (own_eqb (((K ++ [c0]) ++ [c1]).map (fun c => c.toInt8.toInt32)) (((K ++ [c0]) ++ [c1]).map (fun c => c.toInt8.toInt32))))]
      rw [own_eqb_pos rfl]
      refine Go.ifY (pc' := 190) at_185 (by decide) (by decide) ((if0 _ _).trans (feq (by decide : ¬ ((1 : Int32) = (0 : Int32)))).2) ?_
      refine Go.aload (pc' := 192) at_190 rfl rfl rfl ?_
      refine Go.callV (pc' := 195) (u := N_40) (z := N_40) (a := o) at_192 rfl (w_78 hw) (w_79 hw) (nf (w_81 hw) rfl) (w_81 hw) (w_80 hw) (by decide) E_o (argsL := []) (rest := []) (Pays.of_met (W := 0) (len := 3) (m_jlen hw hs o (257 : Int32) h452 F_o_length) (w_82 hw) (w_33 hw) (by decide) (by decide)) rfl rfl (lenOf pd_19 rfl) rfl (Nat.le_of_eq rfl) mem0 (by decide) (by decide) ?_
      rintro _ _ _ - - ⟨rfl, rfl, rfl⟩
      change Go _ _ _ _ _ _ _ _ _ _ _ _ _ _ [b429, o, ch] h452 15 4468 195 #[.val (.int p1), .val (.int p2), .val (.int p3), .val (.int p4), .val (.int p5), .val (.int (2 : Int32)), .val (.int (1 : Int32)), .val (.int c0), .val (.int c1), .val (.int c2), .val (.int hh), .val (.int tt), .val (.ref pad), .val (.ref ps), .val (.ref o), .val (.int (255 : Int32)), .val (.ref b439), .val (.ref b449)] [(.int (257 : Int32))]
      refine Go.iload (pc' := 197) at_195 rfl rfl ?_
      refine Go.iload (pc' := 199) at_197 rfl rfl ?_
      refine Go.iadd (pc' := 200) at_199 rfl ?_
      rw [show ((255 : Int32) + (2 : Int32)) = (257 : Int32) from by decide]
      refine Go.icmpY (pc' := 205) at_200 (by decide) (by decide) (teq (rfl : (257 : Int32) = (257 : Int32))).1 ?_
      refine Go.aload (pc' := 207) at_205 rfl rfl rfl ?_
      refine Go.callV (pc' := 210) (u := N_16) (z := N_16) (a := b439) at_207 rfl (w_83 hw) (w_84 hw) (nf (w_86 hw) rfl) (w_86 hw) (w_85 hw) (by decide) E_b439 (argsL := []) (rest := []) (Pays.of_met (W := 0) (len := 3) (m_length hw hs b439 b440 q441 (257 : Int32) (((K ++ [c0]) ++ [c1]).map lowV) h452 E_b439 Fc_b439 Fv_b439 Vt_b439) (w_87 hw) (w_4 hw) (by decide) (by decide)) rfl rfl (lenOf pd_19 rfl) rfl (Nat.le_of_eq rfl) mem0 (by decide) (by decide) ?_
      rintro _ _ _ - - ⟨rfl, rfl, rfl⟩
      change Go _ _ _ _ _ _ _ _ _ _ _ _ _ _ [b429, o, ch] h452 15 4468 210 #[.val (.int p1), .val (.int p2), .val (.int p3), .val (.int p4), .val (.int p5), .val (.int (2 : Int32)), .val (.int (1 : Int32)), .val (.int c0), .val (.int c1), .val (.int c2), .val (.int hh), .val (.int tt), .val (.ref pad), .val (.ref ps), .val (.ref o), .val (.int (255 : Int32)), .val (.ref b439), .val (.ref b449)] [(.int (257 : Int32))]
      refine Go.iload (pc' := 212) at_210 rfl rfl ?_
      refine Go.iload (pc' := 214) at_212 rfl rfl ?_
      refine Go.iadd (pc' := 215) at_214 rfl ?_
      rw [show ((255 : Int32) + (2 : Int32)) = (257 : Int32) from by decide]
      refine Go.icmpY (pc' := 220) at_215 (by decide) (by decide) (teq (rfl : (257 : Int32) = (257 : Int32))).1 ?_
      refine Go.iload (pc' := 222) at_220 rfl rfl ?_
      refine Go.ifN (pc' := 225) at_222 rfl ((if0 _ _).trans (feq (by decide : ¬ ((1 : Int32) = (0 : Int32)))).1) ?_
      refine Go.aload (pc' := 227) at_225 rfl rfl rfl ?_
      refine Go.iconst (pc' := 228) at_227 rfl ic_0 ?_
      refine Go.callV (pc' := 231) (u := N_20) (z := N_20) (a := b439) at_228 rfl (w_156 hw) (w_157 hw) (nf (w_159 hw) rfl) (w_159 hw) (w_158 hw) (by decide) E_b439 (argsL := [(.int (0 : Int32))]) (rest := []) (Pays.of_met (W := 0) (len := 3) (m_charAt hw hs b439 b440 q441 (257 : Int32) (((K ++ [c0]) ++ [c1]).map lowV) (0 : Int32) (((K ++ [c0]) ++ [c1]).getD (0 : Int32).toNatClampNeg 0).toInt8.toInt32 h452 E_b439 Fc_b439 Fv_b439 Vt_b439 (by decide) (getD_low ((K ++ [c0]) ++ [c1]) _ (by rw [hL2]; decide))) (w_160 hw) (w_4 hw) (by decide) (by decide)) rfl rfl (lenOf pd_34 rfl) rfl (Nat.le_of_eq rfl) mem0 (by decide) (by decide) ?_
      rintro _ _ _ - - ⟨rfl, rfl, rfl⟩
      change Go _ _ _ _ _ _ _ _ _ _ _ _ _ _ [b429, o, ch] h452 15 4468 231 #[.val (.int p1), .val (.int p2), .val (.int p3), .val (.int p4), .val (.int p5), .val (.int (2 : Int32)), .val (.int (1 : Int32)), .val (.int c0), .val (.int c1), .val (.int c2), .val (.int hh), .val (.int tt), .val (.ref pad), .val (.ref ps), .val (.ref o), .val (.int (255 : Int32)), .val (.ref b439), .val (.ref b449)] [(.int ((((K ++ [c0]) ++ [c1]).getD (0 : Int32).toNatClampNeg 0).toInt8.toInt32 &&& (255 : Int32)).toUInt32.toUInt16.toUInt32.toInt32)]
      have mm := getD_mem (P := fun x => ¬ x < 0 ∧ ¬ 255 < x) (fun x hx => ⟨(q16_2 x hx).1, hA_b439 x hx⟩) (i := (0 : Int32).toNatClampNeg) (by rw [hL2]; decide)
      rw [own_lowback mm.1 mm.2]
      rw [show (0 : Int32).toNatClampNeg = 0 from by decide, ((own_ap_lt (by rw [hL1]; decide)).trans ((own_ap_lt (by rw [hK0]; decide)).trans (hKa)) : ((K ++ [c0]) ++ [c1]).getD 0 0 = hh)]
      refine Go.iload (pc' := 233) at_231 rfl rfl ?_
      refine Go.icmpN (pc' := 236) at_233 rfl (teq (rfl : hh = hh)).2 ?_
      refine Go.aload (pc' := 238) at_236 rfl rfl rfl ?_
      refine Go.iconst (pc' := 239) at_238 rfl ic_1 ?_
      refine Go.callV (pc' := 242) (u := N_20) (z := N_20) (a := b439) at_239 rfl (w_156 hw) (w_157 hw) (nf (w_159 hw) rfl) (w_159 hw) (w_158 hw) (by decide) E_b439 (argsL := [(.int (1 : Int32))]) (rest := []) (Pays.of_met (W := 0) (len := 3) (m_charAt hw hs b439 b440 q441 (257 : Int32) (((K ++ [c0]) ++ [c1]).map lowV) (1 : Int32) (((K ++ [c0]) ++ [c1]).getD (1 : Int32).toNatClampNeg 0).toInt8.toInt32 h452 E_b439 Fc_b439 Fv_b439 Vt_b439 (by decide) (getD_low ((K ++ [c0]) ++ [c1]) _ (by rw [hL2]; decide))) (w_160 hw) (w_4 hw) (by decide) (by decide)) rfl rfl (lenOf pd_34 rfl) rfl (Nat.le_of_eq rfl) mem0 (by decide) (by decide) ?_
      rintro _ _ _ - - ⟨rfl, rfl, rfl⟩
      change Go _ _ _ _ _ _ _ _ _ _ _ _ _ _ [b429, o, ch] h452 15 4468 242 #[.val (.int p1), .val (.int p2), .val (.int p3), .val (.int p4), .val (.int p5), .val (.int (2 : Int32)), .val (.int (1 : Int32)), .val (.int c0), .val (.int c1), .val (.int c2), .val (.int hh), .val (.int tt), .val (.ref pad), .val (.ref ps), .val (.ref o), .val (.int (255 : Int32)), .val (.ref b439), .val (.ref b449)] [(.int ((((K ++ [c0]) ++ [c1]).getD (1 : Int32).toNatClampNeg 0).toInt8.toInt32 &&& (255 : Int32)).toUInt32.toUInt16.toUInt32.toInt32)]
      have mm := getD_mem (P := fun x => ¬ x < 0 ∧ ¬ 255 < x) (fun x hx => ⟨(q16_2 x hx).1, hA_b439 x hx⟩) (i := (1 : Int32).toNatClampNeg) (by rw [hL2]; decide)
      rw [own_lowback mm.1 mm.2]
      rw [show (1 : Int32).toNatClampNeg = 1 from by decide, ((own_ap_lt (by rw [hL1]; decide)).trans ((own_ap_lt (by rw [hK0]; decide)).trans (hKb)) : ((K ++ [c0]) ++ [c1]).getD 1 0 = (0 : Int32))]
      refine Go.ifN (pc' := 245) at_242 rfl ((if0 _ _).trans (teq (rfl : (0 : Int32) = (0 : Int32))).2) ?_
      refine Go.aload (pc' := 247) at_245 rfl rfl rfl ?_
      refine Go.sipush (pc' := 250) at_247 rfl ics_254 ?_
      refine Go.callV (pc' := 253) (u := N_20) (z := N_20) (a := b439) at_250 rfl (w_156 hw) (w_157 hw) (nf (w_159 hw) rfl) (w_159 hw) (w_158 hw) (by decide) E_b439 (argsL := [(.int (254 : Int32))]) (rest := []) (Pays.of_met (W := 0) (len := 3) (m_charAt hw hs b439 b440 q441 (257 : Int32) (((K ++ [c0]) ++ [c1]).map lowV) (254 : Int32) (((K ++ [c0]) ++ [c1]).getD (254 : Int32).toNatClampNeg 0).toInt8.toInt32 h452 E_b439 Fc_b439 Fv_b439 Vt_b439 (by decide) (getD_low ((K ++ [c0]) ++ [c1]) _ (by rw [hL2]; decide))) (w_160 hw) (w_4 hw) (by decide) (by decide)) rfl rfl (lenOf pd_34 rfl) rfl (Nat.le_of_eq rfl) mem0 (by decide) (by decide) ?_
      rintro _ _ _ - - ⟨rfl, rfl, rfl⟩
      change Go _ _ _ _ _ _ _ _ _ _ _ _ _ _ [b429, o, ch] h452 15 4468 253 #[.val (.int p1), .val (.int p2), .val (.int p3), .val (.int p4), .val (.int p5), .val (.int (2 : Int32)), .val (.int (1 : Int32)), .val (.int c0), .val (.int c1), .val (.int c2), .val (.int hh), .val (.int tt), .val (.ref pad), .val (.ref ps), .val (.ref o), .val (.int (255 : Int32)), .val (.ref b439), .val (.ref b449)] [(.int ((((K ++ [c0]) ++ [c1]).getD (254 : Int32).toNatClampNeg 0).toInt8.toInt32 &&& (255 : Int32)).toUInt32.toUInt16.toUInt32.toInt32)]
      have mm := getD_mem (P := fun x => ¬ x < 0 ∧ ¬ 255 < x) (fun x hx => ⟨(q16_2 x hx).1, hA_b439 x hx⟩) (i := (254 : Int32).toNatClampNeg) (by rw [hL2]; decide)
      rw [own_lowback mm.1 mm.2]
      rw [show (254 : Int32).toNatClampNeg = 254 from by decide, ((own_ap_lt (by rw [hL1]; decide)).trans ((own_ap_lt (by rw [hK0]; decide)).trans (hKc)) : ((K ++ [c0]) ++ [c1]).getD 254 0 = tt)]
      refine Go.iload (pc' := 255) at_253 rfl rfl ?_
      refine Go.icmpY (pc' := 260) at_255 (by decide) (by decide) (teq (rfl : tt = tt)).1 ?_
      refine Go.iload (pc' := 262) at_260 rfl rfl ?_
      refine Go.iconst (pc' := 263) at_262 rfl ic_1 ?_
      refine Go.icmpN (pc' := 266) at_263 rfl (flt (by decide : ¬ ((2 : Int32) < (1 : Int32)))).1 ?_
      refine Go.aload (pc' := 268) at_266 rfl rfl rfl ?_
      refine Go.iload (pc' := 270) at_268 rfl rfl ?_
      refine Go.callV (pc' := 273) (u := N_20) (z := N_20) (a := b439) at_270 rfl (w_156 hw) (w_157 hw) (nf (w_159 hw) rfl) (w_159 hw) (w_158 hw) (by decide) E_b439 (argsL := [(.int (255 : Int32))]) (rest := []) (Pays.of_met (W := 0) (len := 3) (m_charAt hw hs b439 b440 q441 (257 : Int32) (((K ++ [c0]) ++ [c1]).map lowV) (255 : Int32) (((K ++ [c0]) ++ [c1]).getD (255 : Int32).toNatClampNeg 0).toInt8.toInt32 h452 E_b439 Fc_b439 Fv_b439 Vt_b439 (by decide) (getD_low ((K ++ [c0]) ++ [c1]) _ (by rw [hL2]; decide))) (w_160 hw) (w_4 hw) (by decide) (by decide)) rfl rfl (lenOf pd_34 rfl) rfl (Nat.le_of_eq rfl) mem0 (by decide) (by decide) ?_
      rintro _ _ _ - - ⟨rfl, rfl, rfl⟩
      change Go _ _ _ _ _ _ _ _ _ _ _ _ _ _ [b429, o, ch] h452 15 4468 273 #[.val (.int p1), .val (.int p2), .val (.int p3), .val (.int p4), .val (.int p5), .val (.int (2 : Int32)), .val (.int (1 : Int32)), .val (.int c0), .val (.int c1), .val (.int c2), .val (.int hh), .val (.int tt), .val (.ref pad), .val (.ref ps), .val (.ref o), .val (.int (255 : Int32)), .val (.ref b439), .val (.ref b449)] [(.int ((((K ++ [c0]) ++ [c1]).getD (255 : Int32).toNatClampNeg 0).toInt8.toInt32 &&& (255 : Int32)).toUInt32.toUInt16.toUInt32.toInt32)]
      have mm := getD_mem (P := fun x => ¬ x < 0 ∧ ¬ 255 < x) (fun x hx => ⟨(q16_2 x hx).1, hA_b439 x hx⟩) (i := (255 : Int32).toNatClampNeg) (by rw [hL2]; decide)
      rw [own_lowback mm.1 mm.2]
      rw [show (255 : Int32).toNatClampNeg = 255 from by decide, ((own_ap_lt (by rw [hL1]; decide)).trans (own_ap_eq (by rw [hK0])) : ((K ++ [c0]) ++ [c1]).getD 255 0 = c0)]
      refine Go.iload (pc' := 275) at_273 rfl rfl ?_
      refine Go.icmpY (pc' := 280) at_275 (by decide) (by decide) (teq (rfl : c0 = c0)).1 ?_
      refine Go.iload (pc' := 282) at_280 rfl rfl ?_
      refine Go.iconst (pc' := 283) at_282 rfl ic_2 ?_
      refine Go.icmpN (pc' := 286) at_283 rfl (flt (by decide : ¬ ((2 : Int32) < (2 : Int32)))).1 ?_
      refine Go.aload (pc' := 288) at_286 rfl rfl rfl ?_
      refine Go.iload (pc' := 290) at_288 rfl rfl ?_
      refine Go.iconst (pc' := 291) at_290 rfl ic_1 ?_
      refine Go.iadd (pc' := 292) at_291 rfl ?_
      rw [show ((255 : Int32) + (1 : Int32)) = (256 : Int32) from by decide]
      refine Go.callV (pc' := 295) (u := N_20) (z := N_20) (a := b439) at_292 rfl (w_156 hw) (w_157 hw) (nf (w_159 hw) rfl) (w_159 hw) (w_158 hw) (by decide) E_b439 (argsL := [(.int (256 : Int32))]) (rest := []) (Pays.of_met (W := 0) (len := 3) (m_charAt hw hs b439 b440 q441 (257 : Int32) (((K ++ [c0]) ++ [c1]).map lowV) (256 : Int32) (((K ++ [c0]) ++ [c1]).getD (256 : Int32).toNatClampNeg 0).toInt8.toInt32 h452 E_b439 Fc_b439 Fv_b439 Vt_b439 (by decide) (getD_low ((K ++ [c0]) ++ [c1]) _ (by rw [hL2]; decide))) (w_160 hw) (w_4 hw) (by decide) (by decide)) rfl rfl (lenOf pd_34 rfl) rfl (Nat.le_of_eq rfl) mem0 (by decide) (by decide) ?_
      rintro _ _ _ - - ⟨rfl, rfl, rfl⟩
      change Go _ _ _ _ _ _ _ _ _ _ _ _ _ _ [b429, o, ch] h452 15 4468 295 #[.val (.int p1), .val (.int p2), .val (.int p3), .val (.int p4), .val (.int p5), .val (.int (2 : Int32)), .val (.int (1 : Int32)), .val (.int c0), .val (.int c1), .val (.int c2), .val (.int hh), .val (.int tt), .val (.ref pad), .val (.ref ps), .val (.ref o), .val (.int (255 : Int32)), .val (.ref b439), .val (.ref b449)] [(.int ((((K ++ [c0]) ++ [c1]).getD (256 : Int32).toNatClampNeg 0).toInt8.toInt32 &&& (255 : Int32)).toUInt32.toUInt16.toUInt32.toInt32)]
      have mm := getD_mem (P := fun x => ¬ x < 0 ∧ ¬ 255 < x) (fun x hx => ⟨(q16_2 x hx).1, hA_b439 x hx⟩) (i := (256 : Int32).toNatClampNeg) (by rw [hL2]; decide)
      rw [own_lowback mm.1 mm.2]
      rw [show (256 : Int32).toNatClampNeg = 256 from by decide, (own_ap_eq (by rw [hL1]) : ((K ++ [c0]) ++ [c1]).getD 256 0 = c1)]
      refine Go.iload (pc' := 297) at_295 rfl rfl ?_
      refine Go.icmpY (pc' := 302) at_297 (by decide) (by decide) (teq (rfl : c1 = c1)).1 ?_
      refine Go.iload (pc' := 304) at_302 rfl rfl ?_
      refine Go.iconst (pc' := 305) at_304 rfl ic_3 ?_
      refine Go.icmpY (pc' := 324) at_305 (by decide) (by decide) (tlt (by decide : (2 : Int32) < (3 : Int32))).1 ?_
      refine Go.iconst (pc' := 325) at_324 rfl ic_1 ?_
      exact Go.retS (ty := .boolean) at_325 rfl (by simp) rfl (by decide) (by decide) [] sn0 ⟨rfl, rfl⟩
    · skip
      exact False.elim (by obtain ⟨y, y1, y2⟩ := hX_b449; exact hA_b439 y y1 y2)
  · skip
    refine Go.astore (pc' := 171) (Ls' := #[.val (.int p1), .val (.int p2), .val (.int p3), .val (.int p4), .val (.int p5), .val (.int (2 : Int32)), .val (.int (1 : Int32)), .val (.int c0), .val (.int c1), .val (.int c2), .val (.int hh), .val (.int tt), .val (.ref pad), .val (.ref ps), .val (.ref o), .val (.int (255 : Int32)), .val (.ref b439), .unset]) at_169 rfl rfl rfl ?_
    refine Go.aload (pc' := 173) at_171 rfl rfl rfl ?_
    refine Go.callV (pc' := 176) (u := N_41) (z := N_41) (a := o) at_173 rfl (w_43 hw) (w_44 hw) (nf (w_46 hw) rfl) (w_46 hw) (w_45 hw) (by decide) E_o (argsL := []) (rest := []) (Pays.of_met (W := 0) (len := 3) (m_jstr hw hs o b429 q430 ((K ++ [c0]) ++ [c1]) (512 : Int32) (257 : Int32) h442 E_o F_o_chars F_o_length V_b429 (by rw [hL2]; decide) (by decide) (by decide) (by decide) (q16_2) (by decide)) (w_47 hw) (w_33 hw) (by decide) (by decide)) rfl rfl (lenOf pd_31 rfl) rfl (Nat.le_of_eq rfl) mem0 (by decide) (by decide) ?_
    rintro _ h462 _ K463 le464 ⟨b459, b460, q461, rfl, rfl, p465, p466, p467, p468⟩
    have o_o_b459 : o ≠ b459 := Nat.ne_of_lt (Nat.lt_of_lt_of_le E_o.lt p466)
    have o_ch_b459 : ch ≠ b459 := Nat.ne_of_lt (Nat.lt_of_lt_of_le V_ch.lt p466)
    have o_b429_b459 : b429 ≠ b459 := Nat.ne_of_lt (Nat.lt_of_lt_of_le V_b429.lt p466)
    have o_b439_b459 : b439 ≠ b459 := Nat.ne_of_lt (Nat.lt_of_lt_of_le E_b439.lt p466)
    have o_b440_b459 : b440 ≠ b459 := Nat.ne_of_lt (Nat.lt_of_lt_of_le Vt_b439.lt p466)
    have ge_b459 := Nat.le_trans le464 p466
    have o_o_b460 : o ≠ b460 := Nat.ne_of_lt (Nat.lt_of_lt_of_le E_o.lt p467)
    have o_ch_b460 : ch ≠ b460 := Nat.ne_of_lt (Nat.lt_of_lt_of_le V_ch.lt p467)
    have o_b429_b460 : b429 ≠ b460 := Nat.ne_of_lt (Nat.lt_of_lt_of_le V_b429.lt p467)
    have o_b439_b460 : b439 ≠ b460 := Nat.ne_of_lt (Nat.lt_of_lt_of_le E_b439.lt p467)
    have o_b440_b460 : b440 ≠ b460 := Nat.ne_of_lt (Nat.lt_of_lt_of_le Vt_b439.lt p467)
    have ge_b460 := Nat.le_trans le464 p467
    replace E_o := E_o.keep K463
    replace V_ch := V_ch.keep K463 nin0
    replace F_o_chars := F_o_chars.keep K463 nin0
    replace F_o_length := F_o_length.keep K463 nin0
    replace V_b429 := V_b429.keep K463 nin0
    replace E_b439 := E_b439.keep K463
    replace Fc_b439 := Fc_b439.keep K463 nin0
    replace Fv_b439 := Fv_b439.keep K463 nin0
    replace Vt_b439 := Vt_b439.keep K463 nin0
    have E_b459 := p465
    change Go _ _ _ _ _ _ _ _ _ _ _ _ _ _ [b429, o, ch] h462 15 4468 176 #[.val (.int p1), .val (.int p2), .val (.int p3), .val (.int p4), .val (.int p5), .val (.int (2 : Int32)), .val (.int (1 : Int32)), .val (.int c0), .val (.int c1), .val (.int c2), .val (.int hh), .val (.int tt), .val (.ref pad), .val (.ref ps), .val (.ref o), .val (.int (255 : Int32)), .val (.ref b439), .unset] [(.ref b459)]
    rcases p468 with ⟨Fc_b459, Fv_b459, Vt_b459, hA_b459⟩ | ⟨Fc_b459, Fv_b459, bs_b459, Vt_b459, hE_b459, hX_b459⟩
    · skip
      exact False.elim (by obtain ⟨y, y1, y2⟩ := hX_b439; exact hA_b459 y y1 y2)
    · skip
      refine Go.astore (pc' := 178) (Ls' := #[.val (.int p1), .val (.int p2), .val (.int p3), .val (.int p4), .val (.int p5), .val (.int (2 : Int32)), .val (.int (1 : Int32)), .val (.int c0), .val (.int c1), .val (.int c2), .val (.int hh), .val (.int tt), .val (.ref pad), .val (.ref ps), .val (.ref o), .val (.int (255 : Int32)), .val (.ref b439), .val (.ref b459)]) at_176 rfl rfl rfl ?_
      refine Go.aload (pc' := 180) at_178 rfl rfl rfl ?_
      refine Go.aload (pc' := 182) at_180 rfl rfl rfl ?_
      refine Go.callV (pc' := 185) (u := N_43) (z := N_43) (a := b439) at_182 rfl (w_68 hw) (w_69 hw) (nf (w_71 hw) rfl) (w_71 hw) (w_70 hw) (by decide) E_b439 (argsL := [(.ref b459)]) (rest := []) (Pays.of_met (W := 0) (len := 3) (m_seq1 hw hs b439 b459 b440 b460 q441 q461 bs_b439 bs_b459 ((257 : Int32) <<< ((1 : Int32) &&& 31)) ((257 : Int32) <<< ((1 : Int32) &&& 31)) h462 E_b439 Fc_b439 Fv_b439 Vt_b439 E_b459 Fc_b459 Fv_b459 Vt_b459 (by rw [hE_b439.1, hL2]; decide) (by rw [hE_b459.1, hL2]; decide)) (w_72 hw) (w_4 hw) (by decide) (by decide)) rfl rfl (lenOf pd_32 rfl) rfl (Nat.le_of_eq rfl) mem0 (by decide) (by decide) ?_
      rintro _ _ _ - - ⟨rfl, rfl, rfl⟩
      change Go _ _ _ _ _ _ _ _ _ _ _ _ _ _ [b429, o, ch] h462 15 4468 185 #[.val (.int p1), .val (.int p2), .val (.int p3), .val (.int p4), .val (.int p5), .val (.int (2 : Int32)), .val (.int (1 : Int32)), .val (.int c0), .val (.int c1), .val (.int c2), .val (.int hh), .val (.int tt), .val (.ref pad), .val (.ref ps), .val (.ref o), .val (.int (255 : Int32)), .val (.ref b439), .val (.ref b459)] [(.int (own_eqb bs_b439 bs_b459))]
      rw [own_eqb_pos (hE_b439.uniq hE_b459)]
      refine Go.ifY (pc' := 190) at_185 (by decide) (by decide) ((if0 _ _).trans (feq (by decide : ¬ ((1 : Int32) = (0 : Int32)))).2) ?_
      refine Go.aload (pc' := 192) at_190 rfl rfl rfl ?_
      refine Go.callV (pc' := 195) (u := N_40) (z := N_40) (a := o) at_192 rfl (w_78 hw) (w_79 hw) (nf (w_81 hw) rfl) (w_81 hw) (w_80 hw) (by decide) E_o (argsL := []) (rest := []) (Pays.of_met (W := 0) (len := 3) (m_jlen hw hs o (257 : Int32) h462 F_o_length) (w_82 hw) (w_33 hw) (by decide) (by decide)) rfl rfl (lenOf pd_19 rfl) rfl (Nat.le_of_eq rfl) mem0 (by decide) (by decide) ?_
      rintro _ _ _ - - ⟨rfl, rfl, rfl⟩
      change Go _ _ _ _ _ _ _ _ _ _ _ _ _ _ [b429, o, ch] h462 15 4468 195 #[.val (.int p1), .val (.int p2), .val (.int p3), .val (.int p4), .val (.int p5), .val (.int (2 : Int32)), .val (.int (1 : Int32)), .val (.int c0), .val (.int c1), .val (.int c2), .val (.int hh), .val (.int tt), .val (.ref pad), .val (.ref ps), .val (.ref o), .val (.int (255 : Int32)), .val (.ref b439), .val (.ref b459)] [(.int (257 : Int32))]
      refine Go.iload (pc' := 197) at_195 rfl rfl ?_
      refine Go.iload (pc' := 199) at_197 rfl rfl ?_
      refine Go.iadd (pc' := 200) at_199 rfl ?_
      rw [show ((255 : Int32) + (2 : Int32)) = (257 : Int32) from by decide]
      refine Go.icmpY (pc' := 205) at_200 (by decide) (by decide) (teq (rfl : (257 : Int32) = (257 : Int32))).1 ?_
      refine Go.aload (pc' := 207) at_205 rfl rfl rfl ?_
      refine Go.callV (pc' := 210) (u := N_16) (z := N_16) (a := b439) at_207 rfl (w_83 hw) (w_84 hw) (nf (w_86 hw) rfl) (w_86 hw) (w_85 hw) (by decide) E_b439 (argsL := []) (rest := []) (Pays.of_met (W := 0) (len := 3) (m_ulen hw hs b439 b440 q441 (257 : Int32) bs_b439 h462 E_b439 Fc_b439 Fv_b439 Vt_b439 (by decide) (by decide)) (w_87 hw) (w_4 hw) (by decide) (by decide)) rfl rfl (lenOf pd_19 rfl) rfl (Nat.le_of_eq rfl) mem0 (by decide) (by decide) ?_
      rintro _ _ _ - - ⟨rfl, rfl, rfl⟩
      change Go _ _ _ _ _ _ _ _ _ _ _ _ _ _ [b429, o, ch] h462 15 4468 210 #[.val (.int p1), .val (.int p2), .val (.int p3), .val (.int p4), .val (.int p5), .val (.int (2 : Int32)), .val (.int (1 : Int32)), .val (.int c0), .val (.int c1), .val (.int c2), .val (.int hh), .val (.int tt), .val (.ref pad), .val (.ref ps), .val (.ref o), .val (.int (255 : Int32)), .val (.ref b439), .val (.ref b459)] [(.int (257 : Int32))]
      refine Go.iload (pc' := 212) at_210 rfl rfl ?_
      refine Go.iload (pc' := 214) at_212 rfl rfl ?_
      refine Go.iadd (pc' := 215) at_214 rfl ?_
      rw [show ((255 : Int32) + (2 : Int32)) = (257 : Int32) from by decide]
      refine Go.icmpY (pc' := 220) at_215 (by decide) (by decide) (teq (rfl : (257 : Int32) = (257 : Int32))).1 ?_
      refine Go.iload (pc' := 222) at_220 rfl rfl ?_
      refine Go.ifN (pc' := 225) at_222 rfl ((if0 _ _).trans (feq (by decide : ¬ ((1 : Int32) = (0 : Int32)))).1) ?_
      refine Go.aload (pc' := 227) at_225 rfl rfl rfl ?_
      refine Go.iconst (pc' := 228) at_227 rfl ic_0 ?_
      refine Go.callV (pc' := 231) (u := N_20) (z := N_20) (a := b439) at_228 rfl (w_156 hw) (w_157 hw) (nf (w_159 hw) rfl) (w_159 hw) (w_158 hw) (by decide) E_b439 (argsL := [(.int (0 : Int32))]) (rest := []) (Pays.of_met (W := 0) (len := 3) (m_ucA hw hs b439 b440 q441 (257 : Int32) bs_b439 (0 : Int32) ((K ++ [c0]) ++ [c1]) h462 E_b439 Fc_b439 Fv_b439 Vt_b439 (by decide) (by decide) (by decide) (by rw [hL2]; decide) (hE_b439) (q16_2)) (w_160 hw) (w_4 hw) (by decide) (by decide)) rfl rfl (lenOf pd_34 rfl) rfl (Nat.le_of_eq rfl) mem0 (by decide) (by decide) ?_
      rintro _ _ _ - - ⟨rfl, rfl, rfl⟩
      change Go _ _ _ _ _ _ _ _ _ _ _ _ _ _ [b429, o, ch] h462 15 4468 231 #[.val (.int p1), .val (.int p2), .val (.int p3), .val (.int p4), .val (.int p5), .val (.int (2 : Int32)), .val (.int (1 : Int32)), .val (.int c0), .val (.int c1), .val (.int c2), .val (.int hh), .val (.int tt), .val (.ref pad), .val (.ref ps), .val (.ref o), .val (.int (255 : Int32)), .val (.ref b439), .val (.ref b459)] [(.int (((K ++ [c0]) ++ [c1]).getD (0 : Int32).toNatClampNeg 0))]
      rw [show (0 : Int32).toNatClampNeg = 0 from by decide, ((own_ap_lt (by rw [hL1]; decide)).trans ((own_ap_lt (by rw [hK0]; decide)).trans (hKa)) : ((K ++ [c0]) ++ [c1]).getD 0 0 = hh)]
      refine Go.iload (pc' := 233) at_231 rfl rfl ?_
      refine Go.icmpN (pc' := 236) at_233 rfl (teq (rfl : hh = hh)).2 ?_
      refine Go.aload (pc' := 238) at_236 rfl rfl rfl ?_
      refine Go.iconst (pc' := 239) at_238 rfl ic_1 ?_
      refine Go.callV (pc' := 242) (u := N_20) (z := N_20) (a := b439) at_239 rfl (w_156 hw) (w_157 hw) (nf (w_159 hw) rfl) (w_159 hw) (w_158 hw) (by decide) E_b439 (argsL := [(.int (1 : Int32))]) (rest := []) (Pays.of_met (W := 0) (len := 3) (m_ucA hw hs b439 b440 q441 (257 : Int32) bs_b439 (1 : Int32) ((K ++ [c0]) ++ [c1]) h462 E_b439 Fc_b439 Fv_b439 Vt_b439 (by decide) (by decide) (by decide) (by rw [hL2]; decide) (hE_b439) (q16_2)) (w_160 hw) (w_4 hw) (by decide) (by decide)) rfl rfl (lenOf pd_34 rfl) rfl (Nat.le_of_eq rfl) mem0 (by decide) (by decide) ?_
      rintro _ _ _ - - ⟨rfl, rfl, rfl⟩
      change Go _ _ _ _ _ _ _ _ _ _ _ _ _ _ [b429, o, ch] h462 15 4468 242 #[.val (.int p1), .val (.int p2), .val (.int p3), .val (.int p4), .val (.int p5), .val (.int (2 : Int32)), .val (.int (1 : Int32)), .val (.int c0), .val (.int c1), .val (.int c2), .val (.int hh), .val (.int tt), .val (.ref pad), .val (.ref ps), .val (.ref o), .val (.int (255 : Int32)), .val (.ref b439), .val (.ref b459)] [(.int (((K ++ [c0]) ++ [c1]).getD (1 : Int32).toNatClampNeg 0))]
      rw [show (1 : Int32).toNatClampNeg = 1 from by decide, ((own_ap_lt (by rw [hL1]; decide)).trans ((own_ap_lt (by rw [hK0]; decide)).trans (hKb)) : ((K ++ [c0]) ++ [c1]).getD 1 0 = (0 : Int32))]
      refine Go.ifN (pc' := 245) at_242 rfl ((if0 _ _).trans (teq (rfl : (0 : Int32) = (0 : Int32))).2) ?_
      refine Go.aload (pc' := 247) at_245 rfl rfl rfl ?_
      refine Go.sipush (pc' := 250) at_247 rfl ics_254 ?_
      refine Go.callV (pc' := 253) (u := N_20) (z := N_20) (a := b439) at_250 rfl (w_156 hw) (w_157 hw) (nf (w_159 hw) rfl) (w_159 hw) (w_158 hw) (by decide) E_b439 (argsL := [(.int (254 : Int32))]) (rest := []) (Pays.of_met (W := 0) (len := 3) (m_ucA hw hs b439 b440 q441 (257 : Int32) bs_b439 (254 : Int32) ((K ++ [c0]) ++ [c1]) h462 E_b439 Fc_b439 Fv_b439 Vt_b439 (by decide) (by decide) (by decide) (by rw [hL2]; decide) (hE_b439) (q16_2)) (w_160 hw) (w_4 hw) (by decide) (by decide)) rfl rfl (lenOf pd_34 rfl) rfl (Nat.le_of_eq rfl) mem0 (by decide) (by decide) ?_
      rintro _ _ _ - - ⟨rfl, rfl, rfl⟩
      change Go _ _ _ _ _ _ _ _ _ _ _ _ _ _ [b429, o, ch] h462 15 4468 253 #[.val (.int p1), .val (.int p2), .val (.int p3), .val (.int p4), .val (.int p5), .val (.int (2 : Int32)), .val (.int (1 : Int32)), .val (.int c0), .val (.int c1), .val (.int c2), .val (.int hh), .val (.int tt), .val (.ref pad), .val (.ref ps), .val (.ref o), .val (.int (255 : Int32)), .val (.ref b439), .val (.ref b459)] [(.int (((K ++ [c0]) ++ [c1]).getD (254 : Int32).toNatClampNeg 0))]
      rw [show (254 : Int32).toNatClampNeg = 254 from by decide, ((own_ap_lt (by rw [hL1]; decide)).trans ((own_ap_lt (by rw [hK0]; decide)).trans (hKc)) : ((K ++ [c0]) ++ [c1]).getD 254 0 = tt)]
      refine Go.iload (pc' := 255) at_253 rfl rfl ?_
      refine Go.icmpY (pc' := 260) at_255 (by decide) (by decide) (teq (rfl : tt = tt)).1 ?_
      refine Go.iload (pc' := 262) at_260 rfl rfl ?_
      refine Go.iconst (pc' := 263) at_262 rfl ic_1 ?_
      refine Go.icmpN (pc' := 266) at_263 rfl (flt (by decide : ¬ ((2 : Int32) < (1 : Int32)))).1 ?_
      refine Go.aload (pc' := 268) at_266 rfl rfl rfl ?_
      refine Go.iload (pc' := 270) at_268 rfl rfl ?_
      refine Go.callV (pc' := 273) (u := N_20) (z := N_20) (a := b439) at_270 rfl (w_156 hw) (w_157 hw) (nf (w_159 hw) rfl) (w_159 hw) (w_158 hw) (by decide) E_b439 (argsL := [(.int (255 : Int32))]) (rest := []) (Pays.of_met (W := 0) (len := 3) (m_ucA hw hs b439 b440 q441 (257 : Int32) bs_b439 (255 : Int32) ((K ++ [c0]) ++ [c1]) h462 E_b439 Fc_b439 Fv_b439 Vt_b439 (by decide) (by decide) (by decide) (by rw [hL2]; decide) (hE_b439) (q16_2)) (w_160 hw) (w_4 hw) (by decide) (by decide)) rfl rfl (lenOf pd_34 rfl) rfl (Nat.le_of_eq rfl) mem0 (by decide) (by decide) ?_
      rintro _ _ _ - - ⟨rfl, rfl, rfl⟩
      change Go _ _ _ _ _ _ _ _ _ _ _ _ _ _ [b429, o, ch] h462 15 4468 273 #[.val (.int p1), .val (.int p2), .val (.int p3), .val (.int p4), .val (.int p5), .val (.int (2 : Int32)), .val (.int (1 : Int32)), .val (.int c0), .val (.int c1), .val (.int c2), .val (.int hh), .val (.int tt), .val (.ref pad), .val (.ref ps), .val (.ref o), .val (.int (255 : Int32)), .val (.ref b439), .val (.ref b459)] [(.int (((K ++ [c0]) ++ [c1]).getD (255 : Int32).toNatClampNeg 0))]
      rw [show (255 : Int32).toNatClampNeg = 255 from by decide, ((own_ap_lt (by rw [hL1]; decide)).trans (own_ap_eq (by rw [hK0])) : ((K ++ [c0]) ++ [c1]).getD 255 0 = c0)]
      refine Go.iload (pc' := 275) at_273 rfl rfl ?_
      refine Go.icmpY (pc' := 280) at_275 (by decide) (by decide) (teq (rfl : c0 = c0)).1 ?_
      refine Go.iload (pc' := 282) at_280 rfl rfl ?_
      refine Go.iconst (pc' := 283) at_282 rfl ic_2 ?_
      refine Go.icmpN (pc' := 286) at_283 rfl (flt (by decide : ¬ ((2 : Int32) < (2 : Int32)))).1 ?_
      refine Go.aload (pc' := 288) at_286 rfl rfl rfl ?_
      refine Go.iload (pc' := 290) at_288 rfl rfl ?_
      refine Go.iconst (pc' := 291) at_290 rfl ic_1 ?_
      refine Go.iadd (pc' := 292) at_291 rfl ?_
      rw [show ((255 : Int32) + (1 : Int32)) = (256 : Int32) from by decide]
      refine Go.callV (pc' := 295) (u := N_20) (z := N_20) (a := b439) at_292 rfl (w_156 hw) (w_157 hw) (nf (w_159 hw) rfl) (w_159 hw) (w_158 hw) (by decide) E_b439 (argsL := [(.int (256 : Int32))]) (rest := []) (Pays.of_met (W := 0) (len := 3) (m_ucA hw hs b439 b440 q441 (257 : Int32) bs_b439 (256 : Int32) ((K ++ [c0]) ++ [c1]) h462 E_b439 Fc_b439 Fv_b439 Vt_b439 (by decide) (by decide) (by decide) (by rw [hL2]; decide) (hE_b439) (q16_2)) (w_160 hw) (w_4 hw) (by decide) (by decide)) rfl rfl (lenOf pd_34 rfl) rfl (Nat.le_of_eq rfl) mem0 (by decide) (by decide) ?_
      rintro _ _ _ - - ⟨rfl, rfl, rfl⟩
      change Go _ _ _ _ _ _ _ _ _ _ _ _ _ _ [b429, o, ch] h462 15 4468 295 #[.val (.int p1), .val (.int p2), .val (.int p3), .val (.int p4), .val (.int p5), .val (.int (2 : Int32)), .val (.int (1 : Int32)), .val (.int c0), .val (.int c1), .val (.int c2), .val (.int hh), .val (.int tt), .val (.ref pad), .val (.ref ps), .val (.ref o), .val (.int (255 : Int32)), .val (.ref b439), .val (.ref b459)] [(.int (((K ++ [c0]) ++ [c1]).getD (256 : Int32).toNatClampNeg 0))]
      rw [show (256 : Int32).toNatClampNeg = 256 from by decide, (own_ap_eq (by rw [hL1]) : ((K ++ [c0]) ++ [c1]).getD 256 0 = c1)]
      refine Go.iload (pc' := 297) at_295 rfl rfl ?_
      refine Go.icmpY (pc' := 302) at_297 (by decide) (by decide) (teq (rfl : c1 = c1)).1 ?_
      refine Go.iload (pc' := 304) at_302 rfl rfl ?_
      refine Go.iconst (pc' := 305) at_304 rfl ic_3 ?_
      refine Go.icmpY (pc' := 324) at_305 (by decide) (by decide) (tlt (by decide : (2 : Int32) < (3 : Int32))).1 ?_
      refine Go.iconst (pc' := 325) at_324 rfl ic_1 ?_
      exact Go.retS (ty := .boolean) at_325 rfl (by simp) rfl (by decide) (by decide) [] sn0 ⟨rfl, rfl⟩
set_option maxRecDepth 65536 in
set_option maxHeartbeats 40000000 in
theorem m_lawS255_3 {l : Launch} {Z : State} {a0 : Array Value} {n0 : Nat} (hw : ∀ d ∈ tables_1, d.before a0 Z = true) (hs : Stat Z) (p1 : Int32) (p2 : Int32) (p3 : Int32) (p4 : Int32) (p5 : Int32) (c0 : Int32) (c1 : Int32) (c2 : Int32) (hh : Int32) (tt : Int32) (pad : Addr) (ps : Addr) (o : Addr) (ch : Addr) (kc : ClassId) (K : List Int32) (h0 h : Heap) (E_o : Exa Z h o "com/example/beleg/beleg/JsonOutput") (F_o_chars : Fld Z h o "com/example/beleg/beleg/JsonOutput" "chars" "[C" (.ref ch)) (F_o_length : Fld Z h o "com/example/beleg/beleg/JsonOutput" "length" "I" (.int (255 : Int32))) (V_ch : Arv Z h ch kc .char (256 : Int32) (K.map Value.int) (.int (0 : Int32))) (hK0 : K.length = 255) (h16 : ∀ x ∈ K, ¬ x < 0 ∧ ¬ 65535 < x) (hKa : K.getD 0 0 = hh) (hKb : K.getD 1 0 = 0) (hKc : K.getD 254 0 = tt) (hc0 : ¬ c0 < 0 ∧ ¬ 65535 < c0) (hc1 : ¬ c1 < 0 ∧ ¬ 65535 < c1) (hc2 : ¬ c2 < 0 ∧ ¬ 65535 < c2) (ne_ch_o : ch ≠ o) :
    Go l Z EL0 n0 NR0 KN0 x code maxLocals ret room_1 h0 [] (Q_m_law Z p1 p2 p3 p4 p5 h0) [o, ch] h 8 2400 122 #[.val (.int p1), .val (.int p2), .val (.int p3), .val (.int p4), .val (.int p5), .val (.int (3 : Int32)), .val (.int (1 : Int32)), .val (.int c0), .val (.int c1), .val (.int c2), .val (.int hh), .val (.int tt), .val (.ref pad), .val (.ref ps), .val (.ref o), .val (.int (255 : Int32)), .unset, .unset] [] := by
  refine Go.iload (pc' := 124) at_122 rfl rfl ?_
  refine Go.iconst (pc' := 125) at_124 rfl ic_1 ?_
  have q16_0 := h16
  refine Go.icmpN (pc' := 128) at_125 rfl (flt (by decide : ¬ ((3 : Int32) < (1 : Int32)))).1 ?_
  refine Go.aload (pc' := 130) at_128 rfl rfl rfl ?_
  refine Go.iload (pc' := 132) at_130 rfl rfl ?_
  refine Go.callV (pc' := 135) (u := N_38) (z := N_38) (a := o) at_132 rfl (w_131 hw) (w_132 hw) (nf (w_134 hw) rfl) (w_134 hw) (w_133 hw) (by decide) E_o (argsL := [(.int c0)]) (rest := []) (Pays.of_met (W := 0) (len := 3) (m_apc hw hs o ch kc K c0 (256 : Int32) (255 : Int32) h E_o F_o_chars F_o_length V_ch (by rw [hK0]; decide) (by decide) (by decide) (hc0) ne_ch_o) (w_135 hw) (w_33 hw) (by decide) (by decide)) rfl rfl (lenOf pd_33 rfl) rfl (Nat.le_of_eq rfl) (memS (List.mem_of_getElem? (i := 0) rfl) (memS (List.mem_of_getElem? (i := 1) rfl) mem0)) (by decide) (by decide) ?_
  rintro _ h469 _ K470 le471 ⟨rfl, rfl, p472, p473, p474, p475⟩
  replace E_o := E_o.keep K470
  have F_o_chars := p473
  have F_o_length := p474
  have V_ch := p475
  change Go _ _ _ _ _ _ _ _ _ _ _ _ _ _ [o, ch] h469 8 2400 135 #[.val (.int p1), .val (.int p2), .val (.int p3), .val (.int p4), .val (.int p5), .val (.int (3 : Int32)), .val (.int (1 : Int32)), .val (.int c0), .val (.int c1), .val (.int c2), .val (.int hh), .val (.int tt), .val (.ref pad), .val (.ref ps), .val (.ref o), .val (.int (255 : Int32)), .unset, .unset] [(.ref o)]
  rw [show ((255 : Int32) + (1 : Int32)) = (256 : Int32) from by decide] at F_o_length
  refine Go.pop (pc' := 136) at_135 rfl rfl ?_
  refine Go.iload (pc' := 138) at_136 rfl rfl ?_
  refine Go.iconst (pc' := 139) at_138 rfl ic_2 ?_
  have hL1 : (K ++ [c0]).length = 256 := by rw [List.length_append, hK0]; rfl
  have q16_1 := own_ap_all q16_0 hc0
  refine Go.icmpN (pc' := 142) at_139 rfl (flt (by decide : ¬ ((3 : Int32) < (2 : Int32)))).1 ?_
  refine Go.aload (pc' := 144) at_142 rfl rfl rfl ?_
  refine Go.iload (pc' := 146) at_144 rfl rfl ?_
  refine Go.callV (pc' := 149) (u := N_38) (z := N_38) (a := o) at_146 rfl (w_131 hw) (w_132 hw) (nf (w_134 hw) rfl) (w_134 hw) (w_133 hw) (by decide) E_o (argsL := [(.int c1)]) (rest := []) (Pays.of_met (W := 0) (len := 3) (m_apg hw hs o ch kc (K ++ [c0]) c1 h469 E_o F_o_chars F_o_length V_ch (hL1) (hc1) ne_ch_o) (w_135 hw) (w_33 hw) (by decide) (by decide)) rfl rfl (lenOf pd_33 rfl) rfl (Nat.le_of_eq rfl) (memS (List.mem_of_getElem? (i := 0) rfl) mem0) (by decide) (by decide) ?_
  rintro _ h478 _ K479 le480 ⟨b476, q477, rfl, rfl, p481, p482, p483, p484, p485⟩
  have o_o_b476 : o ≠ b476 := Nat.ne_of_lt (Nat.lt_of_lt_of_le E_o.lt p484)
  have o_ch_b476 : ch ≠ b476 := Nat.ne_of_lt (Nat.lt_of_lt_of_le V_ch.lt p484)
  have ge_b476 := Nat.le_trans le480 p484
  replace E_o := E_o.keep K479
  replace V_ch := V_ch.keep K479 (ninS ne_ch_o nin0)
  have F_o_chars := p482
  have F_o_length := p483
  have V_b476 := p485
  change Go _ _ _ _ _ _ _ _ _ _ _ _ _ _ [b476, o, ch] h478 9 2912 149 #[.val (.int p1), .val (.int p2), .val (.int p3), .val (.int p4), .val (.int p5), .val (.int (3 : Int32)), .val (.int (1 : Int32)), .val (.int c0), .val (.int c1), .val (.int c2), .val (.int hh), .val (.int tt), .val (.ref pad), .val (.ref ps), .val (.ref o), .val (.int (255 : Int32)), .unset, .unset] [(.ref o)]
  refine Go.pop (pc' := 150) at_149 rfl rfl ?_
  refine Go.iload (pc' := 152) at_150 rfl rfl ?_
  refine Go.iconst (pc' := 153) at_152 rfl ic_3 ?_
  have hL2 : ((K ++ [c0]) ++ [c1]).length = 257 := by rw [List.length_append, hL1]; rfl
  have q16_2 := own_ap_all q16_1 hc1
  refine Go.icmpN (pc' := 156) at_153 rfl (flt (by decide : ¬ ((3 : Int32) < (3 : Int32)))).1 ?_
  refine Go.aload (pc' := 158) at_156 rfl rfl rfl ?_
  refine Go.iload (pc' := 160) at_158 rfl rfl ?_
  refine Go.callV (pc' := 163) (u := N_38) (z := N_38) (a := o) at_160 rfl (w_131 hw) (w_132 hw) (nf (w_134 hw) rfl) (w_134 hw) (w_133 hw) (by decide) E_o (argsL := [(.int c2)]) (rest := []) (Pays.of_met (W := 0) (len := 3) (m_apc hw hs o b476 q477 ((K ++ [c0]) ++ [c1]) c2 (512 : Int32) (257 : Int32) h478 E_o F_o_chars F_o_length V_b476 (by rw [hL2]; decide) (by decide) (by decide) (hc2) (Ne.symm o_o_b476)) (w_135 hw) (w_33 hw) (by decide) (by decide)) rfl rfl (lenOf pd_33 rfl) rfl (Nat.le_of_eq rfl) (memS (List.mem_of_getElem? (i := 1) rfl) (memS (List.mem_of_getElem? (i := 0) rfl) mem0)) (by decide) (by decide) ?_
  rintro _ h486 _ K487 le488 ⟨rfl, rfl, p489, p490, p491, p492⟩
  replace E_o := E_o.keep K487
  replace V_ch := V_ch.keep K487 (ninS ne_ch_o (ninS o_ch_b476 nin0))
  have F_o_chars := p490
  have F_o_length := p491
  have V_b476 := p492
  change Go _ _ _ _ _ _ _ _ _ _ _ _ _ _ [b476, o, ch] h486 9 2912 163 #[.val (.int p1), .val (.int p2), .val (.int p3), .val (.int p4), .val (.int p5), .val (.int (3 : Int32)), .val (.int (1 : Int32)), .val (.int c0), .val (.int c1), .val (.int c2), .val (.int hh), .val (.int tt), .val (.ref pad), .val (.ref ps), .val (.ref o), .val (.int (255 : Int32)), .unset, .unset] [(.ref o)]
  rw [show ((257 : Int32) + (1 : Int32)) = (258 : Int32) from by decide] at F_o_length
  refine Go.pop (pc' := 164) at_163 rfl rfl ?_
  refine Go.aload (pc' := 166) at_164 rfl rfl rfl ?_
  have hL3 : (((K ++ [c0]) ++ [c1]) ++ [c2]).length = 258 := by rw [List.length_append, hL2]; rfl
  have q16_3 := own_ap_all q16_2 hc2
  refine Go.callV (pc' := 169) (u := N_41) (z := N_41) (a := o) at_166 rfl (w_43 hw) (w_44 hw) (nf (w_46 hw) rfl) (w_46 hw) (w_45 hw) (by decide) E_o (argsL := []) (rest := []) (Pays.of_met (W := 0) (len := 3) (m_jstr hw hs o b476 q477 (((K ++ [c0]) ++ [c1]) ++ [c2]) (512 : Int32) (258 : Int32) h486 E_o F_o_chars F_o_length V_b476 (by rw [hL3]; decide) (by decide) (by decide) (by decide) (q16_3) (by decide)) (w_47 hw) (w_33 hw) (by decide) (by decide)) rfl rfl (lenOf pd_31 rfl) rfl (Nat.le_of_eq rfl) mem0 (by decide) (by decide) ?_
  rintro _ h496 _ K497 le498 ⟨b493, b494, q495, rfl, rfl, p499, p500, p501, p502⟩
  have o_o_b493 : o ≠ b493 := Nat.ne_of_lt (Nat.lt_of_lt_of_le E_o.lt p500)
  have o_ch_b493 : ch ≠ b493 := Nat.ne_of_lt (Nat.lt_of_lt_of_le V_ch.lt p500)
  have o_b476_b493 : b476 ≠ b493 := Nat.ne_of_lt (Nat.lt_of_lt_of_le V_b476.lt p500)
  have ge_b493 := Nat.le_trans le498 p500
  have o_o_b494 : o ≠ b494 := Nat.ne_of_lt (Nat.lt_of_lt_of_le E_o.lt p501)
  have o_ch_b494 : ch ≠ b494 := Nat.ne_of_lt (Nat.lt_of_lt_of_le V_ch.lt p501)
  have o_b476_b494 : b476 ≠ b494 := Nat.ne_of_lt (Nat.lt_of_lt_of_le V_b476.lt p501)
  have ge_b494 := Nat.le_trans le498 p501
  replace E_o := E_o.keep K497
  replace V_ch := V_ch.keep K497 nin0
  replace F_o_chars := F_o_chars.keep K497 nin0
  replace F_o_length := F_o_length.keep K497 nin0
  replace V_b476 := V_b476.keep K497 nin0
  have E_b493 := p499
  change Go _ _ _ _ _ _ _ _ _ _ _ _ _ _ [b476, o, ch] h496 12 3690 169 #[.val (.int p1), .val (.int p2), .val (.int p3), .val (.int p4), .val (.int p5), .val (.int (3 : Int32)), .val (.int (1 : Int32)), .val (.int c0), .val (.int c1), .val (.int c2), .val (.int hh), .val (.int tt), .val (.ref pad), .val (.ref ps), .val (.ref o), .val (.int (255 : Int32)), .unset, .unset] [(.ref b493)]
  rcases p502 with ⟨Fc_b493, Fv_b493, Vt_b493, hA_b493⟩ | ⟨Fc_b493, Fv_b493, bs_b493, Vt_b493, hE_b493, hX_b493⟩
  · skip
    refine Go.astore (pc' := 171) (Ls' := #[.val (.int p1), .val (.int p2), .val (.int p3), .val (.int p4), .val (.int p5), .val (.int (3 : Int32)), .val (.int (1 : Int32)), .val (.int c0), .val (.int c1), .val (.int c2), .val (.int hh), .val (.int tt), .val (.ref pad), .val (.ref ps), .val (.ref o), .val (.int (255 : Int32)), .val (.ref b493), .unset]) at_169 rfl rfl rfl ?_
    refine Go.aload (pc' := 173) at_171 rfl rfl rfl ?_
    refine Go.callV (pc' := 176) (u := N_41) (z := N_41) (a := o) at_173 rfl (w_43 hw) (w_44 hw) (nf (w_46 hw) rfl) (w_46 hw) (w_45 hw) (by decide) E_o (argsL := []) (rest := []) (Pays.of_met (W := 0) (len := 3) (m_jstr hw hs o b476 q477 (((K ++ [c0]) ++ [c1]) ++ [c2]) (512 : Int32) (258 : Int32) h496 E_o F_o_chars F_o_length V_b476 (by rw [hL3]; decide) (by decide) (by decide) (by decide) (q16_3) (by decide)) (w_47 hw) (w_33 hw) (by decide) (by decide)) rfl rfl (lenOf pd_31 rfl) rfl (Nat.le_of_eq rfl) mem0 (by decide) (by decide) ?_
    rintro _ h506 _ K507 le508 ⟨b503, b504, q505, rfl, rfl, p509, p510, p511, p512⟩
    have o_o_b503 : o ≠ b503 := Nat.ne_of_lt (Nat.lt_of_lt_of_le E_o.lt p510)
    have o_ch_b503 : ch ≠ b503 := Nat.ne_of_lt (Nat.lt_of_lt_of_le V_ch.lt p510)
    have o_b476_b503 : b476 ≠ b503 := Nat.ne_of_lt (Nat.lt_of_lt_of_le V_b476.lt p510)
    have o_b493_b503 : b493 ≠ b503 := Nat.ne_of_lt (Nat.lt_of_lt_of_le E_b493.lt p510)
    have o_b494_b503 : b494 ≠ b503 := Nat.ne_of_lt (Nat.lt_of_lt_of_le Vt_b493.lt p510)
    have ge_b503 := Nat.le_trans le508 p510
    have o_o_b504 : o ≠ b504 := Nat.ne_of_lt (Nat.lt_of_lt_of_le E_o.lt p511)
    have o_ch_b504 : ch ≠ b504 := Nat.ne_of_lt (Nat.lt_of_lt_of_le V_ch.lt p511)
    have o_b476_b504 : b476 ≠ b504 := Nat.ne_of_lt (Nat.lt_of_lt_of_le V_b476.lt p511)
    have o_b493_b504 : b493 ≠ b504 := Nat.ne_of_lt (Nat.lt_of_lt_of_le E_b493.lt p511)
    have o_b494_b504 : b494 ≠ b504 := Nat.ne_of_lt (Nat.lt_of_lt_of_le Vt_b493.lt p511)
    have ge_b504 := Nat.le_trans le508 p511
    replace E_o := E_o.keep K507
    replace V_ch := V_ch.keep K507 nin0
    replace F_o_chars := F_o_chars.keep K507 nin0
    replace F_o_length := F_o_length.keep K507 nin0
    replace V_b476 := V_b476.keep K507 nin0
    replace E_b493 := E_b493.keep K507
    replace Fc_b493 := Fc_b493.keep K507 nin0
    replace Fv_b493 := Fv_b493.keep K507 nin0
    replace Vt_b493 := Vt_b493.keep K507 nin0
    have E_b503 := p509
    change Go _ _ _ _ _ _ _ _ _ _ _ _ _ _ [b476, o, ch] h506 15 4468 176 #[.val (.int p1), .val (.int p2), .val (.int p3), .val (.int p4), .val (.int p5), .val (.int (3 : Int32)), .val (.int (1 : Int32)), .val (.int c0), .val (.int c1), .val (.int c2), .val (.int hh), .val (.int tt), .val (.ref pad), .val (.ref ps), .val (.ref o), .val (.int (255 : Int32)), .val (.ref b493), .unset] [(.ref b503)]
    rcases p512 with ⟨Fc_b503, Fv_b503, Vt_b503, hA_b503⟩ | ⟨Fc_b503, Fv_b503, bs_b503, Vt_b503, hE_b503, hX_b503⟩
    · skip
      refine Go.astore (pc' := 178) (Ls' := #[.val (.int p1), .val (.int p2), .val (.int p3), .val (.int p4), .val (.int p5), .val (.int (3 : Int32)), .val (.int (1 : Int32)), .val (.int c0), .val (.int c1), .val (.int c2), .val (.int hh), .val (.int tt), .val (.ref pad), .val (.ref ps), .val (.ref o), .val (.int (255 : Int32)), .val (.ref b493), .val (.ref b503)]) at_176 rfl rfl rfl ?_
      refine Go.aload (pc' := 180) at_178 rfl rfl rfl ?_
      refine Go.aload (pc' := 182) at_180 rfl rfl rfl ?_
      have W_b493 := Vt_b493
      rw [own_low_map] at W_b493
      have W_b503 := Vt_b503
      rw [own_low_map] at W_b503
      refine Go.callV (pc' := 185) (u := N_43) (z := N_43) (a := b493) at_182 rfl (w_68 hw) (w_69 hw) (nf (w_71 hw) rfl) (w_71 hw) (w_70 hw) (by decide) E_b493 (argsL := [(.ref b503)]) (rest := []) (Pays.of_met (W := 0) (len := 3) (m_seq0 hw hs b493 b503 b494 b504 q495 q505 ((((K ++ [c0]) ++ [c1]) ++ [c2]).map (fun c => c.toInt8.toInt32)) ((((K ++ [c0]) ++ [c1]) ++ [c2]).map (fun c => c.toInt8.toInt32)) (258 : Int32) (258 : Int32) h506 E_b493 Fc_b493 Fv_b493 W_b493 E_b503 Fc_b503 Fv_b503 W_b503 (by rw [List.length_map]; rw [hL3]; decide) (by rw [List.length_map]; rw [hL3]; decide)) (w_72 hw) (w_4 hw) (by decide) (by decide)) rfl rfl (lenOf pd_32 rfl) rfl (Nat.le_of_eq rfl) mem0 (by decide) (by decide) ?_
      rintro _ _ _ - - ⟨rfl, rfl, rfl⟩
      change Go _ _ _ _ _ _ _ _ _ _ _ _ _ _ [b476, o, ch] h506 15 4468 185 #[.val (.int p1), .val (.int p2), .val (.int p3), .val (.int p4), .val (.int p5), .val (.int (3 : Int32)), .val (.int (1 : Int32)), .val (.int c0), .val (.int c1), .val (.int c2), .val (.int hh), .val (.int tt), .val (.ref pad), .val (.ref ps), .val (.ref o), .val (.int (255 : Int32)), .val (.ref b493), .val (.ref b503)] [(.int (own_eqb ((((K ++ [c0]) ++ [c1]) ++ [c2]).map (fun c => c.toInt8.toInt32)) ((((K ++ [c0]) ++ [c1]) ++ [c2]).map (fun c => c.toInt8.toInt32))))]
      rw [own_eqb_pos rfl]
      refine Go.ifY (pc' := 190) at_185 (by decide) (by decide) ((if0 _ _).trans (feq (by decide : ¬ ((1 : Int32) = (0 : Int32)))).2) ?_
      refine Go.aload (pc' := 192) at_190 rfl rfl rfl ?_
      refine Go.callV (pc' := 195) (u := N_40) (z := N_40) (a := o) at_192 rfl (w_78 hw) (w_79 hw) (nf (w_81 hw) rfl) (w_81 hw) (w_80 hw) (by decide) E_o (argsL := []) (rest := []) (Pays.of_met (W := 0) (len := 3) (m_jlen hw hs o (258 : Int32) h506 F_o_length) (w_82 hw) (w_33 hw) (by decide) (by decide)) rfl rfl (lenOf pd_19 rfl) rfl (Nat.le_of_eq rfl) mem0 (by decide) (by decide) ?_
      rintro _ _ _ - - ⟨rfl, rfl, rfl⟩
      change Go _ _ _ _ _ _ _ _ _ _ _ _ _ _ [b476, o, ch] h506 15 4468 195 #[.val (.int p1), .val (.int p2), .val (.int p3), .val (.int p4), .val (.int p5), .val (.int (3 : Int32)), .val (.int (1 : Int32)), .val (.int c0), .val (.int c1), .val (.int c2), .val (.int hh), .val (.int tt), .val (.ref pad), .val (.ref ps), .val (.ref o), .val (.int (255 : Int32)), .val (.ref b493), .val (.ref b503)] [(.int (258 : Int32))]
      refine Go.iload (pc' := 197) at_195 rfl rfl ?_
      refine Go.iload (pc' := 199) at_197 rfl rfl ?_
      refine Go.iadd (pc' := 200) at_199 rfl ?_
      rw [show ((255 : Int32) + (3 : Int32)) = (258 : Int32) from by decide]
      refine Go.icmpY (pc' := 205) at_200 (by decide) (by decide) (teq (rfl : (258 : Int32) = (258 : Int32))).1 ?_
      refine Go.aload (pc' := 207) at_205 rfl rfl rfl ?_
      refine Go.callV (pc' := 210) (u := N_16) (z := N_16) (a := b493) at_207 rfl (w_83 hw) (w_84 hw) (nf (w_86 hw) rfl) (w_86 hw) (w_85 hw) (by decide) E_b493 (argsL := []) (rest := []) (Pays.of_met (W := 0) (len := 3) (m_length hw hs b493 b494 q495 (258 : Int32) ((((K ++ [c0]) ++ [c1]) ++ [c2]).map lowV) h506 E_b493 Fc_b493 Fv_b493 Vt_b493) (w_87 hw) (w_4 hw) (by decide) (by decide)) rfl rfl (lenOf pd_19 rfl) rfl (Nat.le_of_eq rfl) mem0 (by decide) (by decide) ?_
      rintro _ _ _ - - ⟨rfl, rfl, rfl⟩
      change Go _ _ _ _ _ _ _ _ _ _ _ _ _ _ [b476, o, ch] h506 15 4468 210 #[.val (.int p1), .val (.int p2), .val (.int p3), .val (.int p4), .val (.int p5), .val (.int (3 : Int32)), .val (.int (1 : Int32)), .val (.int c0), .val (.int c1), .val (.int c2), .val (.int hh), .val (.int tt), .val (.ref pad), .val (.ref ps), .val (.ref o), .val (.int (255 : Int32)), .val (.ref b493), .val (.ref b503)] [(.int (258 : Int32))]
      refine Go.iload (pc' := 212) at_210 rfl rfl ?_
      refine Go.iload (pc' := 214) at_212 rfl rfl ?_
      refine Go.iadd (pc' := 215) at_214 rfl ?_
      rw [show ((255 : Int32) + (3 : Int32)) = (258 : Int32) from by decide]
      refine Go.icmpY (pc' := 220) at_215 (by decide) (by decide) (teq (rfl : (258 : Int32) = (258 : Int32))).1 ?_
      refine Go.iload (pc' := 222) at_220 rfl rfl ?_
      refine Go.ifN (pc' := 225) at_222 rfl ((if0 _ _).trans (feq (by decide : ¬ ((1 : Int32) = (0 : Int32)))).1) ?_
      refine Go.aload (pc' := 227) at_225 rfl rfl rfl ?_
      refine Go.iconst (pc' := 228) at_227 rfl ic_0 ?_
      refine Go.callV (pc' := 231) (u := N_20) (z := N_20) (a := b493) at_228 rfl (w_156 hw) (w_157 hw) (nf (w_159 hw) rfl) (w_159 hw) (w_158 hw) (by decide) E_b493 (argsL := [(.int (0 : Int32))]) (rest := []) (Pays.of_met (W := 0) (len := 3) (m_charAt hw hs b493 b494 q495 (258 : Int32) ((((K ++ [c0]) ++ [c1]) ++ [c2]).map lowV) (0 : Int32) ((((K ++ [c0]) ++ [c1]) ++ [c2]).getD (0 : Int32).toNatClampNeg 0).toInt8.toInt32 h506 E_b493 Fc_b493 Fv_b493 Vt_b493 (by decide) (getD_low (((K ++ [c0]) ++ [c1]) ++ [c2]) _ (by rw [hL3]; decide))) (w_160 hw) (w_4 hw) (by decide) (by decide)) rfl rfl (lenOf pd_34 rfl) rfl (Nat.le_of_eq rfl) mem0 (by decide) (by decide) ?_
      rintro _ _ _ - - ⟨rfl, rfl, rfl⟩
      change Go _ _ _ _ _ _ _ _ _ _ _ _ _ _ [b476, o, ch] h506 15 4468 231 #[.val (.int p1), .val (.int p2), .val (.int p3), .val (.int p4), .val (.int p5), .val (.int (3 : Int32)), .val (.int (1 : Int32)), .val (.int c0), .val (.int c1), .val (.int c2), .val (.int hh), .val (.int tt), .val (.ref pad), .val (.ref ps), .val (.ref o), .val (.int (255 : Int32)), .val (.ref b493), .val (.ref b503)] [(.int (((((K ++ [c0]) ++ [c1]) ++ [c2]).getD (0 : Int32).toNatClampNeg 0).toInt8.toInt32 &&& (255 : Int32)).toUInt32.toUInt16.toUInt32.toInt32)]
      have mm := getD_mem (P := fun x => ¬ x < 0 ∧ ¬ 255 < x) (fun x hx => ⟨(q16_3 x hx).1, hA_b493 x hx⟩) (i := (0 : Int32).toNatClampNeg) (by rw [hL3]; decide)
      rw [own_lowback mm.1 mm.2]
      rw [show (0 : Int32).toNatClampNeg = 0 from by decide, ((own_ap_lt (by rw [hL2]; decide)).trans ((own_ap_lt (by rw [hL1]; decide)).trans ((own_ap_lt (by rw [hK0]; decide)).trans (hKa))) : (((K ++ [c0]) ++ [c1]) ++ [c2]).getD 0 0 = hh)]
      refine Go.iload (pc' := 233) at_231 rfl rfl ?_
      refine Go.icmpN (pc' := 236) at_233 rfl (teq (rfl : hh = hh)).2 ?_
      refine Go.aload (pc' := 238) at_236 rfl rfl rfl ?_
      refine Go.iconst (pc' := 239) at_238 rfl ic_1 ?_
      refine Go.callV (pc' := 242) (u := N_20) (z := N_20) (a := b493) at_239 rfl (w_156 hw) (w_157 hw) (nf (w_159 hw) rfl) (w_159 hw) (w_158 hw) (by decide) E_b493 (argsL := [(.int (1 : Int32))]) (rest := []) (Pays.of_met (W := 0) (len := 3) (m_charAt hw hs b493 b494 q495 (258 : Int32) ((((K ++ [c0]) ++ [c1]) ++ [c2]).map lowV) (1 : Int32) ((((K ++ [c0]) ++ [c1]) ++ [c2]).getD (1 : Int32).toNatClampNeg 0).toInt8.toInt32 h506 E_b493 Fc_b493 Fv_b493 Vt_b493 (by decide) (getD_low (((K ++ [c0]) ++ [c1]) ++ [c2]) _ (by rw [hL3]; decide))) (w_160 hw) (w_4 hw) (by decide) (by decide)) rfl rfl (lenOf pd_34 rfl) rfl (Nat.le_of_eq rfl) mem0 (by decide) (by decide) ?_
      rintro _ _ _ - - ⟨rfl, rfl, rfl⟩
      change Go _ _ _ _ _ _ _ _ _ _ _ _ _ _ [b476, o, ch] h506 15 4468 242 #[.val (.int p1), .val (.int p2), .val (.int p3), .val (.int p4), .val (.int p5), .val (.int (3 : Int32)), .val (.int (1 : Int32)), .val (.int c0), .val (.int c1), .val (.int c2), .val (.int hh), .val (.int tt), .val (.ref pad), .val (.ref ps), .val (.ref o), .val (.int (255 : Int32)), .val (.ref b493), .val (.ref b503)] [(.int (((((K ++ [c0]) ++ [c1]) ++ [c2]).getD (1 : Int32).toNatClampNeg 0).toInt8.toInt32 &&& (255 : Int32)).toUInt32.toUInt16.toUInt32.toInt32)]
      have mm := getD_mem (P := fun x => ¬ x < 0 ∧ ¬ 255 < x) (fun x hx => ⟨(q16_3 x hx).1, hA_b493 x hx⟩) (i := (1 : Int32).toNatClampNeg) (by rw [hL3]; decide)
      rw [own_lowback mm.1 mm.2]
      rw [show (1 : Int32).toNatClampNeg = 1 from by decide, ((own_ap_lt (by rw [hL2]; decide)).trans ((own_ap_lt (by rw [hL1]; decide)).trans ((own_ap_lt (by rw [hK0]; decide)).trans (hKb))) : (((K ++ [c0]) ++ [c1]) ++ [c2]).getD 1 0 = (0 : Int32))]
      refine Go.ifN (pc' := 245) at_242 rfl ((if0 _ _).trans (teq (rfl : (0 : Int32) = (0 : Int32))).2) ?_
      refine Go.aload (pc' := 247) at_245 rfl rfl rfl ?_
      refine Go.sipush (pc' := 250) at_247 rfl ics_254 ?_
      refine Go.callV (pc' := 253) (u := N_20) (z := N_20) (a := b493) at_250 rfl (w_156 hw) (w_157 hw) (nf (w_159 hw) rfl) (w_159 hw) (w_158 hw) (by decide) E_b493 (argsL := [(.int (254 : Int32))]) (rest := []) (Pays.of_met (W := 0) (len := 3) (m_charAt hw hs b493 b494 q495 (258 : Int32) ((((K ++ [c0]) ++ [c1]) ++ [c2]).map lowV) (254 : Int32) ((((K ++ [c0]) ++ [c1]) ++ [c2]).getD (254 : Int32).toNatClampNeg 0).toInt8.toInt32 h506 E_b493 Fc_b493 Fv_b493 Vt_b493 (by decide) (getD_low (((K ++ [c0]) ++ [c1]) ++ [c2]) _ (by rw [hL3]; decide))) (w_160 hw) (w_4 hw) (by decide) (by decide)) rfl rfl (lenOf pd_34 rfl) rfl (Nat.le_of_eq rfl) mem0 (by decide) (by decide) ?_
      rintro _ _ _ - - ⟨rfl, rfl, rfl⟩
      change Go _ _ _ _ _ _ _ _ _ _ _ _ _ _ [b476, o, ch] h506 15 4468 253 #[.val (.int p1), .val (.int p2), .val (.int p3), .val (.int p4), .val (.int p5), .val (.int (3 : Int32)), .val (.int (1 : Int32)), .val (.int c0), .val (.int c1), .val (.int c2), .val (.int hh), .val (.int tt), .val (.ref pad), .val (.ref ps), .val (.ref o), .val (.int (255 : Int32)), .val (.ref b493), .val (.ref b503)] [(.int (((((K ++ [c0]) ++ [c1]) ++ [c2]).getD (254 : Int32).toNatClampNeg 0).toInt8.toInt32 &&& (255 : Int32)).toUInt32.toUInt16.toUInt32.toInt32)]
      have mm := getD_mem (P := fun x => ¬ x < 0 ∧ ¬ 255 < x) (fun x hx => ⟨(q16_3 x hx).1, hA_b493 x hx⟩) (i := (254 : Int32).toNatClampNeg) (by rw [hL3]; decide)
      rw [own_lowback mm.1 mm.2]
      rw [show (254 : Int32).toNatClampNeg = 254 from by decide, ((own_ap_lt (by rw [hL2]; decide)).trans ((own_ap_lt (by rw [hL1]; decide)).trans ((own_ap_lt (by rw [hK0]; decide)).trans (hKc))) : (((K ++ [c0]) ++ [c1]) ++ [c2]).getD 254 0 = tt)]
      refine Go.iload (pc' := 255) at_253 rfl rfl ?_
      refine Go.icmpY (pc' := 260) at_255 (by decide) (by decide) (teq (rfl : tt = tt)).1 ?_
      refine Go.iload (pc' := 262) at_260 rfl rfl ?_
      refine Go.iconst (pc' := 263) at_262 rfl ic_1 ?_
      refine Go.icmpN (pc' := 266) at_263 rfl (flt (by decide : ¬ ((3 : Int32) < (1 : Int32)))).1 ?_
      refine Go.aload (pc' := 268) at_266 rfl rfl rfl ?_
      refine Go.iload (pc' := 270) at_268 rfl rfl ?_
      refine Go.callV (pc' := 273) (u := N_20) (z := N_20) (a := b493) at_270 rfl (w_156 hw) (w_157 hw) (nf (w_159 hw) rfl) (w_159 hw) (w_158 hw) (by decide) E_b493 (argsL := [(.int (255 : Int32))]) (rest := []) (Pays.of_met (W := 0) (len := 3) (m_charAt hw hs b493 b494 q495 (258 : Int32) ((((K ++ [c0]) ++ [c1]) ++ [c2]).map lowV) (255 : Int32) ((((K ++ [c0]) ++ [c1]) ++ [c2]).getD (255 : Int32).toNatClampNeg 0).toInt8.toInt32 h506 E_b493 Fc_b493 Fv_b493 Vt_b493 (by decide) (getD_low (((K ++ [c0]) ++ [c1]) ++ [c2]) _ (by rw [hL3]; decide))) (w_160 hw) (w_4 hw) (by decide) (by decide)) rfl rfl (lenOf pd_34 rfl) rfl (Nat.le_of_eq rfl) mem0 (by decide) (by decide) ?_
      rintro _ _ _ - - ⟨rfl, rfl, rfl⟩
      change Go _ _ _ _ _ _ _ _ _ _ _ _ _ _ [b476, o, ch] h506 15 4468 273 #[.val (.int p1), .val (.int p2), .val (.int p3), .val (.int p4), .val (.int p5), .val (.int (3 : Int32)), .val (.int (1 : Int32)), .val (.int c0), .val (.int c1), .val (.int c2), .val (.int hh), .val (.int tt), .val (.ref pad), .val (.ref ps), .val (.ref o), .val (.int (255 : Int32)), .val (.ref b493), .val (.ref b503)] [(.int (((((K ++ [c0]) ++ [c1]) ++ [c2]).getD (255 : Int32).toNatClampNeg 0).toInt8.toInt32 &&& (255 : Int32)).toUInt32.toUInt16.toUInt32.toInt32)]
      have mm := getD_mem (P := fun x => ¬ x < 0 ∧ ¬ 255 < x) (fun x hx => ⟨(q16_3 x hx).1, hA_b493 x hx⟩) (i := (255 : Int32).toNatClampNeg) (by rw [hL3]; decide)
      rw [own_lowback mm.1 mm.2]
      rw [show (255 : Int32).toNatClampNeg = 255 from by decide, ((own_ap_lt (by rw [hL2]; decide)).trans ((own_ap_lt (by rw [hL1]; decide)).trans (own_ap_eq (by rw [hK0]))) : (((K ++ [c0]) ++ [c1]) ++ [c2]).getD 255 0 = c0)]
      refine Go.iload (pc' := 275) at_273 rfl rfl ?_
      refine Go.icmpY (pc' := 280) at_275 (by decide) (by decide) (teq (rfl : c0 = c0)).1 ?_
      refine Go.iload (pc' := 282) at_280 rfl rfl ?_
      refine Go.iconst (pc' := 283) at_282 rfl ic_2 ?_
      refine Go.icmpN (pc' := 286) at_283 rfl (flt (by decide : ¬ ((3 : Int32) < (2 : Int32)))).1 ?_
      refine Go.aload (pc' := 288) at_286 rfl rfl rfl ?_
      refine Go.iload (pc' := 290) at_288 rfl rfl ?_
      refine Go.iconst (pc' := 291) at_290 rfl ic_1 ?_
      refine Go.iadd (pc' := 292) at_291 rfl ?_
      rw [show ((255 : Int32) + (1 : Int32)) = (256 : Int32) from by decide]
      refine Go.callV (pc' := 295) (u := N_20) (z := N_20) (a := b493) at_292 rfl (w_156 hw) (w_157 hw) (nf (w_159 hw) rfl) (w_159 hw) (w_158 hw) (by decide) E_b493 (argsL := [(.int (256 : Int32))]) (rest := []) (Pays.of_met (W := 0) (len := 3) (m_charAt hw hs b493 b494 q495 (258 : Int32) ((((K ++ [c0]) ++ [c1]) ++ [c2]).map lowV) (256 : Int32) ((((K ++ [c0]) ++ [c1]) ++ [c2]).getD (256 : Int32).toNatClampNeg 0).toInt8.toInt32 h506 E_b493 Fc_b493 Fv_b493 Vt_b493 (by decide) (getD_low (((K ++ [c0]) ++ [c1]) ++ [c2]) _ (by rw [hL3]; decide))) (w_160 hw) (w_4 hw) (by decide) (by decide)) rfl rfl (lenOf pd_34 rfl) rfl (Nat.le_of_eq rfl) mem0 (by decide) (by decide) ?_
      rintro _ _ _ - - ⟨rfl, rfl, rfl⟩
      change Go _ _ _ _ _ _ _ _ _ _ _ _ _ _ [b476, o, ch] h506 15 4468 295 #[.val (.int p1), .val (.int p2), .val (.int p3), .val (.int p4), .val (.int p5), .val (.int (3 : Int32)), .val (.int (1 : Int32)), .val (.int c0), .val (.int c1), .val (.int c2), .val (.int hh), .val (.int tt), .val (.ref pad), .val (.ref ps), .val (.ref o), .val (.int (255 : Int32)), .val (.ref b493), .val (.ref b503)] [(.int (((((K ++ [c0]) ++ [c1]) ++ [c2]).getD (256 : Int32).toNatClampNeg 0).toInt8.toInt32 &&& (255 : Int32)).toUInt32.toUInt16.toUInt32.toInt32)]
      have mm := getD_mem (P := fun x => ¬ x < 0 ∧ ¬ 255 < x) (fun x hx => ⟨(q16_3 x hx).1, hA_b493 x hx⟩) (i := (256 : Int32).toNatClampNeg) (by rw [hL3]; decide)
      rw [own_lowback mm.1 mm.2]
      rw [show (256 : Int32).toNatClampNeg = 256 from by decide, ((own_ap_lt (by rw [hL2]; decide)).trans (own_ap_eq (by rw [hL1])) : (((K ++ [c0]) ++ [c1]) ++ [c2]).getD 256 0 = c1)]
      refine Go.iload (pc' := 297) at_295 rfl rfl ?_
      refine Go.icmpY (pc' := 302) at_297 (by decide) (by decide) (teq (rfl : c1 = c1)).1 ?_
      refine Go.iload (pc' := 304) at_302 rfl rfl ?_
      refine Go.iconst (pc' := 305) at_304 rfl ic_3 ?_
      refine Go.icmpN (pc' := 308) at_305 rfl (flt (by decide : ¬ ((3 : Int32) < (3 : Int32)))).1 ?_
      refine Go.aload (pc' := 310) at_308 rfl rfl rfl ?_
      refine Go.iload (pc' := 312) at_310 rfl rfl ?_
      refine Go.iconst (pc' := 313) at_312 rfl ic_2 ?_
      refine Go.iadd (pc' := 314) at_313 rfl ?_
      rw [show ((255 : Int32) + (2 : Int32)) = (257 : Int32) from by decide]
      refine Go.callV (pc' := 317) (u := N_20) (z := N_20) (a := b493) at_314 rfl (w_156 hw) (w_157 hw) (nf (w_159 hw) rfl) (w_159 hw) (w_158 hw) (by decide) E_b493 (argsL := [(.int (257 : Int32))]) (rest := []) (Pays.of_met (W := 0) (len := 3) (m_charAt hw hs b493 b494 q495 (258 : Int32) ((((K ++ [c0]) ++ [c1]) ++ [c2]).map lowV) (257 : Int32) ((((K ++ [c0]) ++ [c1]) ++ [c2]).getD (257 : Int32).toNatClampNeg 0).toInt8.toInt32 h506 E_b493 Fc_b493 Fv_b493 Vt_b493 (by decide) (getD_low (((K ++ [c0]) ++ [c1]) ++ [c2]) _ (by rw [hL3]; decide))) (w_160 hw) (w_4 hw) (by decide) (by decide)) rfl rfl (lenOf pd_34 rfl) rfl (Nat.le_of_eq rfl) mem0 (by decide) (by decide) ?_
      rintro _ _ _ - - ⟨rfl, rfl, rfl⟩
      change Go _ _ _ _ _ _ _ _ _ _ _ _ _ _ [b476, o, ch] h506 15 4468 317 #[.val (.int p1), .val (.int p2), .val (.int p3), .val (.int p4), .val (.int p5), .val (.int (3 : Int32)), .val (.int (1 : Int32)), .val (.int c0), .val (.int c1), .val (.int c2), .val (.int hh), .val (.int tt), .val (.ref pad), .val (.ref ps), .val (.ref o), .val (.int (255 : Int32)), .val (.ref b493), .val (.ref b503)] [(.int (((((K ++ [c0]) ++ [c1]) ++ [c2]).getD (257 : Int32).toNatClampNeg 0).toInt8.toInt32 &&& (255 : Int32)).toUInt32.toUInt16.toUInt32.toInt32)]
      have mm := getD_mem (P := fun x => ¬ x < 0 ∧ ¬ 255 < x) (fun x hx => ⟨(q16_3 x hx).1, hA_b493 x hx⟩) (i := (257 : Int32).toNatClampNeg) (by rw [hL3]; decide)
      rw [own_lowback mm.1 mm.2]
      rw [show (257 : Int32).toNatClampNeg = 257 from by decide, (own_ap_eq (by rw [hL2]) : (((K ++ [c0]) ++ [c1]) ++ [c2]).getD 257 0 = c2)]
      refine Go.iload (pc' := 319) at_317 rfl rfl ?_
      refine Go.icmpY (pc' := 324) at_319 (by decide) (by decide) (teq (rfl : c2 = c2)).1 ?_
      refine Go.iconst (pc' := 325) at_324 rfl ic_1 ?_
      exact Go.retS (ty := .boolean) at_325 rfl (by simp) rfl (by decide) (by decide) [] sn0 ⟨rfl, rfl⟩
    · skip
      exact False.elim (by obtain ⟨y, y1, y2⟩ := hX_b503; exact hA_b493 y y1 y2)
  · skip
    refine Go.astore (pc' := 171) (Ls' := #[.val (.int p1), .val (.int p2), .val (.int p3), .val (.int p4), .val (.int p5), .val (.int (3 : Int32)), .val (.int (1 : Int32)), .val (.int c0), .val (.int c1), .val (.int c2), .val (.int hh), .val (.int tt), .val (.ref pad), .val (.ref ps), .val (.ref o), .val (.int (255 : Int32)), .val (.ref b493), .unset]) at_169 rfl rfl rfl ?_
    refine Go.aload (pc' := 173) at_171 rfl rfl rfl ?_
    refine Go.callV (pc' := 176) (u := N_41) (z := N_41) (a := o) at_173 rfl (w_43 hw) (w_44 hw) (nf (w_46 hw) rfl) (w_46 hw) (w_45 hw) (by decide) E_o (argsL := []) (rest := []) (Pays.of_met (W := 0) (len := 3) (m_jstr hw hs o b476 q477 (((K ++ [c0]) ++ [c1]) ++ [c2]) (512 : Int32) (258 : Int32) h496 E_o F_o_chars F_o_length V_b476 (by rw [hL3]; decide) (by decide) (by decide) (by decide) (q16_3) (by decide)) (w_47 hw) (w_33 hw) (by decide) (by decide)) rfl rfl (lenOf pd_31 rfl) rfl (Nat.le_of_eq rfl) mem0 (by decide) (by decide) ?_
    rintro _ h516 _ K517 le518 ⟨b513, b514, q515, rfl, rfl, p519, p520, p521, p522⟩
    have o_o_b513 : o ≠ b513 := Nat.ne_of_lt (Nat.lt_of_lt_of_le E_o.lt p520)
    have o_ch_b513 : ch ≠ b513 := Nat.ne_of_lt (Nat.lt_of_lt_of_le V_ch.lt p520)
    have o_b476_b513 : b476 ≠ b513 := Nat.ne_of_lt (Nat.lt_of_lt_of_le V_b476.lt p520)
    have o_b493_b513 : b493 ≠ b513 := Nat.ne_of_lt (Nat.lt_of_lt_of_le E_b493.lt p520)
    have o_b494_b513 : b494 ≠ b513 := Nat.ne_of_lt (Nat.lt_of_lt_of_le Vt_b493.lt p520)
    have ge_b513 := Nat.le_trans le518 p520
    have o_o_b514 : o ≠ b514 := Nat.ne_of_lt (Nat.lt_of_lt_of_le E_o.lt p521)
    have o_ch_b514 : ch ≠ b514 := Nat.ne_of_lt (Nat.lt_of_lt_of_le V_ch.lt p521)
    have o_b476_b514 : b476 ≠ b514 := Nat.ne_of_lt (Nat.lt_of_lt_of_le V_b476.lt p521)
    have o_b493_b514 : b493 ≠ b514 := Nat.ne_of_lt (Nat.lt_of_lt_of_le E_b493.lt p521)
    have o_b494_b514 : b494 ≠ b514 := Nat.ne_of_lt (Nat.lt_of_lt_of_le Vt_b493.lt p521)
    have ge_b514 := Nat.le_trans le518 p521
    replace E_o := E_o.keep K517
    replace V_ch := V_ch.keep K517 nin0
    replace F_o_chars := F_o_chars.keep K517 nin0
    replace F_o_length := F_o_length.keep K517 nin0
    replace V_b476 := V_b476.keep K517 nin0
    replace E_b493 := E_b493.keep K517
    replace Fc_b493 := Fc_b493.keep K517 nin0
    replace Fv_b493 := Fv_b493.keep K517 nin0
    replace Vt_b493 := Vt_b493.keep K517 nin0
    have E_b513 := p519
    change Go _ _ _ _ _ _ _ _ _ _ _ _ _ _ [b476, o, ch] h516 15 4468 176 #[.val (.int p1), .val (.int p2), .val (.int p3), .val (.int p4), .val (.int p5), .val (.int (3 : Int32)), .val (.int (1 : Int32)), .val (.int c0), .val (.int c1), .val (.int c2), .val (.int hh), .val (.int tt), .val (.ref pad), .val (.ref ps), .val (.ref o), .val (.int (255 : Int32)), .val (.ref b493), .unset] [(.ref b513)]
    rcases p522 with ⟨Fc_b513, Fv_b513, Vt_b513, hA_b513⟩ | ⟨Fc_b513, Fv_b513, bs_b513, Vt_b513, hE_b513, hX_b513⟩
    · skip
      exact False.elim (by obtain ⟨y, y1, y2⟩ := hX_b493; exact hA_b513 y y1 y2)
    · skip
      refine Go.astore (pc' := 178) (Ls' := #[.val (.int p1), .val (.int p2), .val (.int p3), .val (.int p4), .val (.int p5), .val (.int (3 : Int32)), .val (.int (1 : Int32)), .val (.int c0), .val (.int c1), .val (.int c2), .val (.int hh), .val (.int tt), .val (.ref pad), .val (.ref ps), .val (.ref o), .val (.int (255 : Int32)), .val (.ref b493), .val (.ref b513)]) at_176 rfl rfl rfl ?_
      refine Go.aload (pc' := 180) at_178 rfl rfl rfl ?_
      refine Go.aload (pc' := 182) at_180 rfl rfl rfl ?_
      refine Go.callV (pc' := 185) (u := N_43) (z := N_43) (a := b493) at_182 rfl (w_68 hw) (w_69 hw) (nf (w_71 hw) rfl) (w_71 hw) (w_70 hw) (by decide) E_b493 (argsL := [(.ref b513)]) (rest := []) (Pays.of_met (W := 0) (len := 3) (m_seq1 hw hs b493 b513 b494 b514 q495 q515 bs_b493 bs_b513 ((258 : Int32) <<< ((1 : Int32) &&& 31)) ((258 : Int32) <<< ((1 : Int32) &&& 31)) h516 E_b493 Fc_b493 Fv_b493 Vt_b493 E_b513 Fc_b513 Fv_b513 Vt_b513 (by rw [hE_b493.1, hL3]; decide) (by rw [hE_b513.1, hL3]; decide)) (w_72 hw) (w_4 hw) (by decide) (by decide)) rfl rfl (lenOf pd_32 rfl) rfl (Nat.le_of_eq rfl) mem0 (by decide) (by decide) ?_
      rintro _ _ _ - - ⟨rfl, rfl, rfl⟩
      change Go _ _ _ _ _ _ _ _ _ _ _ _ _ _ [b476, o, ch] h516 15 4468 185 #[.val (.int p1), .val (.int p2), .val (.int p3), .val (.int p4), .val (.int p5), .val (.int (3 : Int32)), .val (.int (1 : Int32)), .val (.int c0), .val (.int c1), .val (.int c2), .val (.int hh), .val (.int tt), .val (.ref pad), .val (.ref ps), .val (.ref o), .val (.int (255 : Int32)), .val (.ref b493), .val (.ref b513)] [(.int (own_eqb bs_b493 bs_b513))]
      rw [own_eqb_pos (hE_b493.uniq hE_b513)]
      refine Go.ifY (pc' := 190) at_185 (by decide) (by decide) ((if0 _ _).trans (feq (by decide : ¬ ((1 : Int32) = (0 : Int32)))).2) ?_
      refine Go.aload (pc' := 192) at_190 rfl rfl rfl ?_
      refine Go.callV (pc' := 195) (u := N_40) (z := N_40) (a := o) at_192 rfl (w_78 hw) (w_79 hw) (nf (w_81 hw) rfl) (w_81 hw) (w_80 hw) (by decide) E_o (argsL := []) (rest := []) (Pays.of_met (W := 0) (len := 3) (m_jlen hw hs o (258 : Int32) h516 F_o_length) (w_82 hw) (w_33 hw) (by decide) (by decide)) rfl rfl (lenOf pd_19 rfl) rfl (Nat.le_of_eq rfl) mem0 (by decide) (by decide) ?_
      rintro _ _ _ - - ⟨rfl, rfl, rfl⟩
      change Go _ _ _ _ _ _ _ _ _ _ _ _ _ _ [b476, o, ch] h516 15 4468 195 #[.val (.int p1), .val (.int p2), .val (.int p3), .val (.int p4), .val (.int p5), .val (.int (3 : Int32)), .val (.int (1 : Int32)), .val (.int c0), .val (.int c1), .val (.int c2), .val (.int hh), .val (.int tt), .val (.ref pad), .val (.ref ps), .val (.ref o), .val (.int (255 : Int32)), .val (.ref b493), .val (.ref b513)] [(.int (258 : Int32))]
      refine Go.iload (pc' := 197) at_195 rfl rfl ?_
      refine Go.iload (pc' := 199) at_197 rfl rfl ?_
      refine Go.iadd (pc' := 200) at_199 rfl ?_
      rw [show ((255 : Int32) + (3 : Int32)) = (258 : Int32) from by decide]
      refine Go.icmpY (pc' := 205) at_200 (by decide) (by decide) (teq (rfl : (258 : Int32) = (258 : Int32))).1 ?_
      refine Go.aload (pc' := 207) at_205 rfl rfl rfl ?_
      refine Go.callV (pc' := 210) (u := N_16) (z := N_16) (a := b493) at_207 rfl (w_83 hw) (w_84 hw) (nf (w_86 hw) rfl) (w_86 hw) (w_85 hw) (by decide) E_b493 (argsL := []) (rest := []) (Pays.of_met (W := 0) (len := 3) (m_ulen hw hs b493 b494 q495 (258 : Int32) bs_b493 h516 E_b493 Fc_b493 Fv_b493 Vt_b493 (by decide) (by decide)) (w_87 hw) (w_4 hw) (by decide) (by decide)) rfl rfl (lenOf pd_19 rfl) rfl (Nat.le_of_eq rfl) mem0 (by decide) (by decide) ?_
      rintro _ _ _ - - ⟨rfl, rfl, rfl⟩
      change Go _ _ _ _ _ _ _ _ _ _ _ _ _ _ [b476, o, ch] h516 15 4468 210 #[.val (.int p1), .val (.int p2), .val (.int p3), .val (.int p4), .val (.int p5), .val (.int (3 : Int32)), .val (.int (1 : Int32)), .val (.int c0), .val (.int c1), .val (.int c2), .val (.int hh), .val (.int tt), .val (.ref pad), .val (.ref ps), .val (.ref o), .val (.int (255 : Int32)), .val (.ref b493), .val (.ref b513)] [(.int (258 : Int32))]
      refine Go.iload (pc' := 212) at_210 rfl rfl ?_
      refine Go.iload (pc' := 214) at_212 rfl rfl ?_
      refine Go.iadd (pc' := 215) at_214 rfl ?_
      rw [show ((255 : Int32) + (3 : Int32)) = (258 : Int32) from by decide]
      refine Go.icmpY (pc' := 220) at_215 (by decide) (by decide) (teq (rfl : (258 : Int32) = (258 : Int32))).1 ?_
      refine Go.iload (pc' := 222) at_220 rfl rfl ?_
      refine Go.ifN (pc' := 225) at_222 rfl ((if0 _ _).trans (feq (by decide : ¬ ((1 : Int32) = (0 : Int32)))).1) ?_
      refine Go.aload (pc' := 227) at_225 rfl rfl rfl ?_
      refine Go.iconst (pc' := 228) at_227 rfl ic_0 ?_
      refine Go.callV (pc' := 231) (u := N_20) (z := N_20) (a := b493) at_228 rfl (w_156 hw) (w_157 hw) (nf (w_159 hw) rfl) (w_159 hw) (w_158 hw) (by decide) E_b493 (argsL := [(.int (0 : Int32))]) (rest := []) (Pays.of_met (W := 0) (len := 3) (m_ucA hw hs b493 b494 q495 (258 : Int32) bs_b493 (0 : Int32) (((K ++ [c0]) ++ [c1]) ++ [c2]) h516 E_b493 Fc_b493 Fv_b493 Vt_b493 (by decide) (by decide) (by decide) (by rw [hL3]; decide) (hE_b493) (q16_3)) (w_160 hw) (w_4 hw) (by decide) (by decide)) rfl rfl (lenOf pd_34 rfl) rfl (Nat.le_of_eq rfl) mem0 (by decide) (by decide) ?_
      rintro _ _ _ - - ⟨rfl, rfl, rfl⟩
      change Go _ _ _ _ _ _ _ _ _ _ _ _ _ _ [b476, o, ch] h516 15 4468 231 #[.val (.int p1), .val (.int p2), .val (.int p3), .val (.int p4), .val (.int p5), .val (.int (3 : Int32)), .val (.int (1 : Int32)), .val (.int c0), .val (.int c1), .val (.int c2), .val (.int hh), .val (.int tt), .val (.ref pad), .val (.ref ps), .val (.ref o), .val (.int (255 : Int32)), .val (.ref b493), .val (.ref b513)] [(.int ((((K ++ [c0]) ++ [c1]) ++ [c2]).getD (0 : Int32).toNatClampNeg 0))]
      rw [show (0 : Int32).toNatClampNeg = 0 from by decide, ((own_ap_lt (by rw [hL2]; decide)).trans ((own_ap_lt (by rw [hL1]; decide)).trans ((own_ap_lt (by rw [hK0]; decide)).trans (hKa))) : (((K ++ [c0]) ++ [c1]) ++ [c2]).getD 0 0 = hh)]
      refine Go.iload (pc' := 233) at_231 rfl rfl ?_
      refine Go.icmpN (pc' := 236) at_233 rfl (teq (rfl : hh = hh)).2 ?_
      refine Go.aload (pc' := 238) at_236 rfl rfl rfl ?_
      refine Go.iconst (pc' := 239) at_238 rfl ic_1 ?_
      refine Go.callV (pc' := 242) (u := N_20) (z := N_20) (a := b493) at_239 rfl (w_156 hw) (w_157 hw) (nf (w_159 hw) rfl) (w_159 hw) (w_158 hw) (by decide) E_b493 (argsL := [(.int (1 : Int32))]) (rest := []) (Pays.of_met (W := 0) (len := 3) (m_ucA hw hs b493 b494 q495 (258 : Int32) bs_b493 (1 : Int32) (((K ++ [c0]) ++ [c1]) ++ [c2]) h516 E_b493 Fc_b493 Fv_b493 Vt_b493 (by decide) (by decide) (by decide) (by rw [hL3]; decide) (hE_b493) (q16_3)) (w_160 hw) (w_4 hw) (by decide) (by decide)) rfl rfl (lenOf pd_34 rfl) rfl (Nat.le_of_eq rfl) mem0 (by decide) (by decide) ?_
      rintro _ _ _ - - ⟨rfl, rfl, rfl⟩
      change Go _ _ _ _ _ _ _ _ _ _ _ _ _ _ [b476, o, ch] h516 15 4468 242 #[.val (.int p1), .val (.int p2), .val (.int p3), .val (.int p4), .val (.int p5), .val (.int (3 : Int32)), .val (.int (1 : Int32)), .val (.int c0), .val (.int c1), .val (.int c2), .val (.int hh), .val (.int tt), .val (.ref pad), .val (.ref ps), .val (.ref o), .val (.int (255 : Int32)), .val (.ref b493), .val (.ref b513)] [(.int ((((K ++ [c0]) ++ [c1]) ++ [c2]).getD (1 : Int32).toNatClampNeg 0))]
      rw [show (1 : Int32).toNatClampNeg = 1 from by decide, ((own_ap_lt (by rw [hL2]; decide)).trans ((own_ap_lt (by rw [hL1]; decide)).trans ((own_ap_lt (by rw [hK0]; decide)).trans (hKb))) : (((K ++ [c0]) ++ [c1]) ++ [c2]).getD 1 0 = (0 : Int32))]
      refine Go.ifN (pc' := 245) at_242 rfl ((if0 _ _).trans (teq (rfl : (0 : Int32) = (0 : Int32))).2) ?_
      refine Go.aload (pc' := 247) at_245 rfl rfl rfl ?_
      refine Go.sipush (pc' := 250) at_247 rfl ics_254 ?_
      refine Go.callV (pc' := 253) (u := N_20) (z := N_20) (a := b493) at_250 rfl (w_156 hw) (w_157 hw) (nf (w_159 hw) rfl) (w_159 hw) (w_158 hw) (by decide) E_b493 (argsL := [(.int (254 : Int32))]) (rest := []) (Pays.of_met (W := 0) (len := 3) (m_ucA hw hs b493 b494 q495 (258 : Int32) bs_b493 (254 : Int32) (((K ++ [c0]) ++ [c1]) ++ [c2]) h516 E_b493 Fc_b493 Fv_b493 Vt_b493 (by decide) (by decide) (by decide) (by rw [hL3]; decide) (hE_b493) (q16_3)) (w_160 hw) (w_4 hw) (by decide) (by decide)) rfl rfl (lenOf pd_34 rfl) rfl (Nat.le_of_eq rfl) mem0 (by decide) (by decide) ?_
      rintro _ _ _ - - ⟨rfl, rfl, rfl⟩
      change Go _ _ _ _ _ _ _ _ _ _ _ _ _ _ [b476, o, ch] h516 15 4468 253 #[.val (.int p1), .val (.int p2), .val (.int p3), .val (.int p4), .val (.int p5), .val (.int (3 : Int32)), .val (.int (1 : Int32)), .val (.int c0), .val (.int c1), .val (.int c2), .val (.int hh), .val (.int tt), .val (.ref pad), .val (.ref ps), .val (.ref o), .val (.int (255 : Int32)), .val (.ref b493), .val (.ref b513)] [(.int ((((K ++ [c0]) ++ [c1]) ++ [c2]).getD (254 : Int32).toNatClampNeg 0))]
      rw [show (254 : Int32).toNatClampNeg = 254 from by decide, ((own_ap_lt (by rw [hL2]; decide)).trans ((own_ap_lt (by rw [hL1]; decide)).trans ((own_ap_lt (by rw [hK0]; decide)).trans (hKc))) : (((K ++ [c0]) ++ [c1]) ++ [c2]).getD 254 0 = tt)]
      refine Go.iload (pc' := 255) at_253 rfl rfl ?_
      refine Go.icmpY (pc' := 260) at_255 (by decide) (by decide) (teq (rfl : tt = tt)).1 ?_
      refine Go.iload (pc' := 262) at_260 rfl rfl ?_
      refine Go.iconst (pc' := 263) at_262 rfl ic_1 ?_
      refine Go.icmpN (pc' := 266) at_263 rfl (flt (by decide : ¬ ((3 : Int32) < (1 : Int32)))).1 ?_
      refine Go.aload (pc' := 268) at_266 rfl rfl rfl ?_
      refine Go.iload (pc' := 270) at_268 rfl rfl ?_
      refine Go.callV (pc' := 273) (u := N_20) (z := N_20) (a := b493) at_270 rfl (w_156 hw) (w_157 hw) (nf (w_159 hw) rfl) (w_159 hw) (w_158 hw) (by decide) E_b493 (argsL := [(.int (255 : Int32))]) (rest := []) (Pays.of_met (W := 0) (len := 3) (m_ucA hw hs b493 b494 q495 (258 : Int32) bs_b493 (255 : Int32) (((K ++ [c0]) ++ [c1]) ++ [c2]) h516 E_b493 Fc_b493 Fv_b493 Vt_b493 (by decide) (by decide) (by decide) (by rw [hL3]; decide) (hE_b493) (q16_3)) (w_160 hw) (w_4 hw) (by decide) (by decide)) rfl rfl (lenOf pd_34 rfl) rfl (Nat.le_of_eq rfl) mem0 (by decide) (by decide) ?_
      rintro _ _ _ - - ⟨rfl, rfl, rfl⟩
      change Go _ _ _ _ _ _ _ _ _ _ _ _ _ _ [b476, o, ch] h516 15 4468 273 #[.val (.int p1), .val (.int p2), .val (.int p3), .val (.int p4), .val (.int p5), .val (.int (3 : Int32)), .val (.int (1 : Int32)), .val (.int c0), .val (.int c1), .val (.int c2), .val (.int hh), .val (.int tt), .val (.ref pad), .val (.ref ps), .val (.ref o), .val (.int (255 : Int32)), .val (.ref b493), .val (.ref b513)] [(.int ((((K ++ [c0]) ++ [c1]) ++ [c2]).getD (255 : Int32).toNatClampNeg 0))]
      rw [show (255 : Int32).toNatClampNeg = 255 from by decide, ((own_ap_lt (by rw [hL2]; decide)).trans ((own_ap_lt (by rw [hL1]; decide)).trans (own_ap_eq (by rw [hK0]))) : (((K ++ [c0]) ++ [c1]) ++ [c2]).getD 255 0 = c0)]
      refine Go.iload (pc' := 275) at_273 rfl rfl ?_
      refine Go.icmpY (pc' := 280) at_275 (by decide) (by decide) (teq (rfl : c0 = c0)).1 ?_
      refine Go.iload (pc' := 282) at_280 rfl rfl ?_
      refine Go.iconst (pc' := 283) at_282 rfl ic_2 ?_
      refine Go.icmpN (pc' := 286) at_283 rfl (flt (by decide : ¬ ((3 : Int32) < (2 : Int32)))).1 ?_
      refine Go.aload (pc' := 288) at_286 rfl rfl rfl ?_
      refine Go.iload (pc' := 290) at_288 rfl rfl ?_
      refine Go.iconst (pc' := 291) at_290 rfl ic_1 ?_
      refine Go.iadd (pc' := 292) at_291 rfl ?_
      rw [show ((255 : Int32) + (1 : Int32)) = (256 : Int32) from by decide]
      refine Go.callV (pc' := 295) (u := N_20) (z := N_20) (a := b493) at_292 rfl (w_156 hw) (w_157 hw) (nf (w_159 hw) rfl) (w_159 hw) (w_158 hw) (by decide) E_b493 (argsL := [(.int (256 : Int32))]) (rest := []) (Pays.of_met (W := 0) (len := 3) (m_ucA hw hs b493 b494 q495 (258 : Int32) bs_b493 (256 : Int32) (((K ++ [c0]) ++ [c1]) ++ [c2]) h516 E_b493 Fc_b493 Fv_b493 Vt_b493 (by decide) (by decide) (by decide) (by rw [hL3]; decide) (hE_b493) (q16_3)) (w_160 hw) (w_4 hw) (by decide) (by decide)) rfl rfl (lenOf pd_34 rfl) rfl (Nat.le_of_eq rfl) mem0 (by decide) (by decide) ?_
      rintro _ _ _ - - ⟨rfl, rfl, rfl⟩
      change Go _ _ _ _ _ _ _ _ _ _ _ _ _ _ [b476, o, ch] h516 15 4468 295 #[.val (.int p1), .val (.int p2), .val (.int p3), .val (.int p4), .val (.int p5), .val (.int (3 : Int32)), .val (.int (1 : Int32)), .val (.int c0), .val (.int c1), .val (.int c2), .val (.int hh), .val (.int tt), .val (.ref pad), .val (.ref ps), .val (.ref o), .val (.int (255 : Int32)), .val (.ref b493), .val (.ref b513)] [(.int ((((K ++ [c0]) ++ [c1]) ++ [c2]).getD (256 : Int32).toNatClampNeg 0))]
      rw [show (256 : Int32).toNatClampNeg = 256 from by decide, ((own_ap_lt (by rw [hL2]; decide)).trans (own_ap_eq (by rw [hL1])) : (((K ++ [c0]) ++ [c1]) ++ [c2]).getD 256 0 = c1)]
      refine Go.iload (pc' := 297) at_295 rfl rfl ?_
      refine Go.icmpY (pc' := 302) at_297 (by decide) (by decide) (teq (rfl : c1 = c1)).1 ?_
      refine Go.iload (pc' := 304) at_302 rfl rfl ?_
      refine Go.iconst (pc' := 305) at_304 rfl ic_3 ?_
      refine Go.icmpN (pc' := 308) at_305 rfl (flt (by decide : ¬ ((3 : Int32) < (3 : Int32)))).1 ?_
      refine Go.aload (pc' := 310) at_308 rfl rfl rfl ?_
      refine Go.iload (pc' := 312) at_310 rfl rfl ?_
      refine Go.iconst (pc' := 313) at_312 rfl ic_2 ?_
      refine Go.iadd (pc' := 314) at_313 rfl ?_
      rw [show ((255 : Int32) + (2 : Int32)) = (257 : Int32) from by decide]
      refine Go.callV (pc' := 317) (u := N_20) (z := N_20) (a := b493) at_314 rfl (w_156 hw) (w_157 hw) (nf (w_159 hw) rfl) (w_159 hw) (w_158 hw) (by decide) E_b493 (argsL := [(.int (257 : Int32))]) (rest := []) (Pays.of_met (W := 0) (len := 3) (m_ucA hw hs b493 b494 q495 (258 : Int32) bs_b493 (257 : Int32) (((K ++ [c0]) ++ [c1]) ++ [c2]) h516 E_b493 Fc_b493 Fv_b493 Vt_b493 (by decide) (by decide) (by decide) (by rw [hL3]; decide) (hE_b493) (q16_3)) (w_160 hw) (w_4 hw) (by decide) (by decide)) rfl rfl (lenOf pd_34 rfl) rfl (Nat.le_of_eq rfl) mem0 (by decide) (by decide) ?_
      rintro _ _ _ - - ⟨rfl, rfl, rfl⟩
      change Go _ _ _ _ _ _ _ _ _ _ _ _ _ _ [b476, o, ch] h516 15 4468 317 #[.val (.int p1), .val (.int p2), .val (.int p3), .val (.int p4), .val (.int p5), .val (.int (3 : Int32)), .val (.int (1 : Int32)), .val (.int c0), .val (.int c1), .val (.int c2), .val (.int hh), .val (.int tt), .val (.ref pad), .val (.ref ps), .val (.ref o), .val (.int (255 : Int32)), .val (.ref b493), .val (.ref b513)] [(.int ((((K ++ [c0]) ++ [c1]) ++ [c2]).getD (257 : Int32).toNatClampNeg 0))]
      rw [show (257 : Int32).toNatClampNeg = 257 from by decide, (own_ap_eq (by rw [hL2]) : (((K ++ [c0]) ++ [c1]) ++ [c2]).getD 257 0 = c2)]
      refine Go.iload (pc' := 319) at_317 rfl rfl ?_
      refine Go.icmpY (pc' := 324) at_319 (by decide) (by decide) (teq (rfl : c2 = c2)).1 ?_
      refine Go.iconst (pc' := 325) at_324 rfl ic_1 ?_
      exact Go.retS (ty := .boolean) at_325 rfl (by simp) rfl (by decide) (by decide) [] sn0 ⟨rfl, rfl⟩
theorem pn_m_law : plainFor (⟨"com/example/beleg/beleg/JsonOutputToStringPinLaw", "law", "(IIIII)Z"⟩ : MethodName) = true := by first | (refine plainFor_of_name ?_; simp [plainName, overriddenIn]; done) | decide +kernel
theorem ef_m_law (mid : MethodId) (p1 : Int32) (p2 : Int32) (p3 : Int32) (p4 : Int32) (p5 : Int32) : entryFrame mid #[(.int p1), (.int p2), (.int p3), (.int p4), (.int p5)] maxLocals = mkF mid 0 #[.val (.int p1), .val (.int p2), .val (.int p3), .val (.int p4), .val (.int p5), .unset, .unset, .unset, .unset, .unset, .unset, .unset, .unset, .unset, .unset, .unset, .unset, .unset] [] := by first | (simp [entryFrame, mkF, argsToLocals, Value.category, maxLocals]; done) | rfl
set_option maxRecDepth 65536 in
set_option maxHeartbeats 40000000 in
theorem m_law {l : Launch} {Z : State} {a0 : Array Value} {n0 : Nat} (hw : ∀ d ∈ tables_1, d.before a0 Z = true) (hs : Stat Z) (p1 : Int32) (p2 : Int32) (p3 : Int32) (p4 : Int32) (p5 : Int32) (h0 : Heap) :
    Met l Z EL0 n0 NR0 KN0 x code maxLocals ret room_1 [] #[(.int p1), (.int p2), (.int p3), (.int p4), (.int p5)] h0 (Q_m_law Z p1 p2 p3 p4 p5 h0) := by
  refine Met.of_go pn_m_law (fun mid => ef_m_law mid p1 p2 p3 p4 p5 ) ?_
  intro hO hWS
  refine Go.iload (pc' := 2) at_0 rfl rfl ?_
  refine Go.iconst (pc' := 3) at_2 rfl ic_3 ?_
  refine Go.iand (pc' := 4) at_3 rfl ?_
  refine Go.istore (pc' := 6) (Ls' := #[.val (.int p1), .val (.int p2), .val (.int p3), .val (.int p4), .val (.int p5), .val (.int (p5 &&& (3 : Int32))), .unset, .unset, .unset, .unset, .unset, .unset, .unset, .unset, .unset, .unset, .unset, .unset]) at_4 rfl rfl ?_
  refine Go.iload (pc' := 8) at_6 rfl rfl ?_
  refine Go.iconst (pc' := 9) at_8 rfl ic_2 ?_
  refine Go.iushr (pc' := 10) at_9 rfl ?_
  refine Go.iconst (pc' := 11) at_10 rfl ic_1 ?_
  refine Go.iand (pc' := 12) at_11 rfl ?_
  by_cases hbig : (((p5.toUInt32 >>> ((2 : Int32) &&& 31).toUInt32).toInt32) &&& (1 : Int32)) = (0 : Int32)
  · skip
    refine Go.ifY (pc' := 19) at_12 (by decide) (by decide) ((if0 _ _).trans (teq (hbig : (((p5.toUInt32 >>> ((2 : Int32) &&& 31).toUInt32).toInt32) &&& (1 : Int32)) = (0 : Int32))).1) ?_
    refine Go.iconst (pc' := 20) at_19 rfl ic_0 ?_
    refine Go.istore (pc' := 22) (Ls' := #[.val (.int p1), .val (.int p2), .val (.int p3), .val (.int p4), .val (.int p5), .val (.int (p5 &&& (3 : Int32))), .val (.int (0 : Int32)), .unset, .unset, .unset, .unset, .unset, .unset, .unset, .unset, .unset, .unset, .unset]) at_20 rfl rfl ?_
    refine Go.iload_n (pc' := 23) at_22 rfl rfl ?_
    refine Go.ldcInt (pc' := 25) at_23 rfl (w_0 hw) ?_
    refine Go.iand (pc' := 26) at_25 rfl ?_
    refine Go.i2c (pc' := 27) at_26 rfl ?_
    refine Go.istore (pc' := 29) (Ls' := #[.val (.int p1), .val (.int p2), .val (.int p3), .val (.int p4), .val (.int p5), .val (.int (p5 &&& (3 : Int32))), .val (.int (0 : Int32)), .val (.int (p1 &&& (65535 : Int32)).toUInt32.toUInt16.toUInt32.toInt32), .unset, .unset, .unset, .unset, .unset, .unset, .unset, .unset, .unset, .unset]) at_27 rfl rfl ?_
    refine Go.iload_n (pc' := 30) at_29 rfl rfl ?_
    have b_c0 := mask65535 p1
    rw [i2c_in b_c0.1 b_c0.2]
    generalize h_c0 : (p1 &&& (65535 : Int32)) = c0 at b_c0 ⊢
    refine Go.ldcInt (pc' := 32) at_30 rfl (w_0 hw) ?_
    refine Go.iand (pc' := 33) at_32 rfl ?_
    refine Go.i2c (pc' := 34) at_33 rfl ?_
    refine Go.istore (pc' := 36) (Ls' := #[.val (.int p1), .val (.int p2), .val (.int p3), .val (.int p4), .val (.int p5), .val (.int (p5 &&& (3 : Int32))), .val (.int (0 : Int32)), .val (.int c0), .val (.int (p2 &&& (65535 : Int32)).toUInt32.toUInt16.toUInt32.toInt32), .unset, .unset, .unset, .unset, .unset, .unset, .unset, .unset, .unset]) at_34 rfl rfl ?_
    refine Go.iload_n (pc' := 37) at_36 rfl rfl ?_
    have b_c1 := mask65535 p2
    rw [i2c_in b_c1.1 b_c1.2]
    generalize h_c1 : (p2 &&& (65535 : Int32)) = c1 at b_c1 ⊢
    refine Go.ldcInt (pc' := 39) at_37 rfl (w_0 hw) ?_
    refine Go.iand (pc' := 40) at_39 rfl ?_
    refine Go.i2c (pc' := 41) at_40 rfl ?_
    refine Go.istore (pc' := 43) (Ls' := #[.val (.int p1), .val (.int p2), .val (.int p3), .val (.int p4), .val (.int p5), .val (.int (p5 &&& (3 : Int32))), .val (.int (0 : Int32)), .val (.int c0), .val (.int c1), .val (.int (p3 &&& (65535 : Int32)).toUInt32.toUInt16.toUInt32.toInt32), .unset, .unset, .unset, .unset, .unset, .unset, .unset, .unset]) at_41 rfl rfl ?_
    refine Go.iload_n (pc' := 44) at_43 rfl rfl ?_
    have b_c2 := mask65535 p3
    rw [i2c_in b_c2.1 b_c2.2]
    generalize h_c2 : (p3 &&& (65535 : Int32)) = c2 at b_c2 ⊢
    refine Go.ldcInt (pc' := 46) at_44 rfl (w_0 hw) ?_
    refine Go.iand (pc' := 47) at_46 rfl ?_
    refine Go.i2c (pc' := 48) at_47 rfl ?_
    refine Go.istore (pc' := 50) (Ls' := #[.val (.int p1), .val (.int p2), .val (.int p3), .val (.int p4), .val (.int p5), .val (.int (p5 &&& (3 : Int32))), .val (.int (0 : Int32)), .val (.int c0), .val (.int c1), .val (.int c2), .val (.int (p4 &&& (65535 : Int32)).toUInt32.toUInt16.toUInt32.toInt32), .unset, .unset, .unset, .unset, .unset, .unset, .unset]) at_48 rfl rfl ?_
    refine Go.iload_n (pc' := 51) at_50 rfl rfl ?_
    refine Go.bipush (pc' := 53) at_51 rfl icb_16 ?_
    refine Go.iushr (pc' := 54) at_53 rfl ?_
    have b_hh := mask65535 p4
    rw [i2c_in b_hh.1 b_hh.2]
    generalize h_hh : (p4 &&& (65535 : Int32)) = hh at b_hh ⊢
    refine Go.ldcInt (pc' := 56) at_54 rfl (w_0 hw) ?_
    refine Go.iand (pc' := 57) at_56 rfl ?_
    refine Go.i2c (pc' := 58) at_57 rfl ?_
    refine Go.istore (pc' := 60) (Ls' := #[.val (.int p1), .val (.int p2), .val (.int p3), .val (.int p4), .val (.int p5), .val (.int (p5 &&& (3 : Int32))), .val (.int (0 : Int32)), .val (.int c0), .val (.int c1), .val (.int c2), .val (.int hh), .val (.int (((p4.toUInt32 >>> ((16 : Int32) &&& 31).toUInt32).toInt32) &&& (65535 : Int32)).toUInt32.toUInt16.toUInt32.toInt32), .unset, .unset, .unset, .unset, .unset, .unset]) at_58 rfl rfl ?_
    refine Go.sipush (pc' := 63) at_60 rfl ics_255 ?_
    have b_tt := mask65535 ((p4.toUInt32 >>> ((16 : Int32) &&& 31).toUInt32).toInt32)
    rw [i2c_in b_tt.1 b_tt.2]
    generalize h_tt : (((p4.toUInt32 >>> ((16 : Int32) &&& 31).toUInt32).toInt32) &&& (65535 : Int32)) = tt at b_tt ⊢
    refine Go.newP (pc' := 65) (cap := 255) (ad := "[C") at_63 rfl (w_1 hw) (by decide) (by decide) (by decide) (by decide) (by decide) (by decide) ?_
    intro h523 b524 g525 ge_b524 q527 x526 V_b524 E_b524
    replace V_b524 : Arv Z h523 b524 q527 .char (255 : Int32) [] (.int (0 : Int32)) := V_b524
    change Go _ _ _ _ _ _ _ _ _ _ _ _ _ _ [b524] h523 1 255 65 #[.val (.int p1), .val (.int p2), .val (.int p3), .val (.int p4), .val (.int p5), .val (.int (p5 &&& (3 : Int32))), .val (.int (0 : Int32)), .val (.int c0), .val (.int c1), .val (.int c2), .val (.int hh), .val (.int tt), .unset, .unset, .unset, .unset, .unset, .unset] [(.ref b524)]
    replace V_b524 : Arv Z h523 b524 q527 .char (255 : Int32) ((List.replicate 255 (0 : Int32)).map Value.int) (.int (0 : Int32)) := V_b524.pad (own_pad0 255)
    refine Go.astore (pc' := 67) (Ls' := #[.val (.int p1), .val (.int p2), .val (.int p3), .val (.int p4), .val (.int p5), .val (.int (p5 &&& (3 : Int32))), .val (.int (0 : Int32)), .val (.int c0), .val (.int c1), .val (.int c2), .val (.int hh), .val (.int tt), .val (.ref b524), .unset, .unset, .unset, .unset, .unset]) at_65 rfl rfl rfl ?_
    refine Go.aload (pc' := 69) at_67 rfl rfl rfl ?_
    refine Go.iconst (pc' := 70) at_69 rfl ic_0 ?_
    refine Go.iload (pc' := 72) at_70 rfl rfl ?_
    refine Go.castoreV (pc' := 73) (i := 0) at_72 rfl (List.mem_of_getElem? (i := 0) rfl) V_b524 ⟨by decide, by decide⟩ (by decide) (by rw [List.length_map, List.length_replicate]; decide) ?_
    rw [nar_char (b_hh).1 (b_hh).2]
    intro h528 W529 V_b524'
    rw [own_set_map] at V_b524'
    replace E_b524 := E_b524.wr W529
    replace V_b524 : Arv Z h528 b524 q527 .char (255 : Int32) (((List.replicate 255 (0 : Int32)).set 0 hh).map Value.int) (.int (0 : Int32)) := V_b524'
    change Go _ _ _ _ _ _ _ _ _ _ _ _ _ _ [b524] h528 1 255 73 #[.val (.int p1), .val (.int p2), .val (.int p3), .val (.int p4), .val (.int p5), .val (.int (p5 &&& (3 : Int32))), .val (.int (0 : Int32)), .val (.int c0), .val (.int c1), .val (.int c2), .val (.int hh), .val (.int tt), .val (.ref b524), .unset, .unset, .unset, .unset, .unset] []
    refine Go.aload (pc' := 75) at_73 rfl rfl rfl ?_
    refine Go.sipush (pc' := 78) at_75 rfl ics_254 ?_
    refine Go.iload (pc' := 80) at_78 rfl rfl ?_
    refine Go.castoreV (pc' := 81) (i := 254) at_80 rfl (List.mem_of_getElem? (i := 0) rfl) V_b524 ⟨by decide, by decide⟩ (by decide) (by rw [List.length_map, List.length_set, List.length_replicate]; decide) ?_
    rw [nar_char (b_tt).1 (b_tt).2]
    intro h530 W531 V_b524'
    rw [own_set_map] at V_b524'
    replace E_b524 := E_b524.wr W531
    replace V_b524 : Arv Z h530 b524 q527 .char (255 : Int32) ((((List.replicate 255 (0 : Int32)).set 0 hh).set 254 tt).map Value.int) (.int (0 : Int32)) := V_b524'
    change Go _ _ _ _ _ _ _ _ _ _ _ _ _ _ [b524] h530 1 255 81 #[.val (.int p1), .val (.int p2), .val (.int p3), .val (.int p4), .val (.int p5), .val (.int (p5 &&& (3 : Int32))), .val (.int (0 : Int32)), .val (.int c0), .val (.int c1), .val (.int c2), .val (.int hh), .val (.int tt), .val (.ref b524), .unset, .unset, .unset, .unset, .unset] []
    have hD : (((List.replicate 255 (0 : Int32)).set 0 hh).set 254 tt).length = 255 := by rw [List.length_set, List.length_set, List.length_replicate]
    have hD16 := own_set_mem (i := 254) (own_set_mem (i := 0) (P := fun x => ¬ x < 0 ∧ ¬ 65535 < x) (cs := (List.replicate 255 (0 : Int32))) (fun x hx => by rw [List.eq_of_mem_replicate hx]; decide) b_hh) b_tt
    have hDv := own_255D (h := hh) (t := tt)
    generalize hDD : (((List.replicate 255 (0 : Int32)).set 0 hh).set 254 tt) = D at hD hD16 hDv V_b524
    refine Go.newO (pc' := 84) at_81 rfl (w_2 hw) (w_3 hw) (w_4 hw) (by decide) (by decide) ?_
    intro h532 b533 g534 ge_b533 x535 E_b533 D_b533 U_b533
    have o_b524_b533 : b524 ≠ b533 := Nat.ne_of_lt (Nat.lt_of_lt_of_le E_b524.lt (Nat.le_of_eq g534))
    replace E_b524 := E_b524.ext x535
    replace V_b524 := V_b524.ext x535
    have F_b533_coder : Fld Z h532 b533 "java/lang/String" "coder" "B" (.int (0 : Int32)) := D_b533 (Or.inr (w_28 hw)) (ty := .byte) (by decide)
    have F_b533_value : Fld Z h532 b533 "java/lang/String" "value" "[B" .null := D_b533 (Or.inr (w_30 hw)) (ty := (.array .byte)) (by decide)
    change Go _ _ _ _ _ _ _ _ _ _ _ _ _ _ [b533, b524] h532 2 259 84 #[.val (.int p1), .val (.int p2), .val (.int p3), .val (.int p4), .val (.int p5), .val (.int (p5 &&& (3 : Int32))), .val (.int (0 : Int32)), .val (.int c0), .val (.int c1), .val (.int c2), .val (.int hh), .val (.int tt), .val (.ref b524), .unset, .unset, .unset, .unset, .unset] [(.ref b533)]
    refine Go.dup (pc' := 85) at_84 rfl rfl ?_
    refine Go.aload (pc' := 87) at_85 rfl rfl rfl ?_
    refine Go.callI (pc' := 90) (z := N_9) (a := b533) at_87 rfl rfl (w_5 hw) (w_6 hw) (w_7 hw) (by decide) (argsL := [(.ref b524)]) (rest := [(.ref b533)]) (Pays.of_met (W := 1) (len := 3) (m_ustr hw hs b533 b524 q527 D (255 : Int32) h532 E_b533 F_b533_coder F_b533_value V_b524 (by rw [hD]; decide) (by decide) (by decide) (hD16) (by decide) o_b524_b533) (w_7 hw) (w_4 hw) (by decide) (by decide)) rfl rfl (lenOf pd_22 rfl) rfl (Nat.le_of_eq rfl) (memS (List.mem_of_getElem? (i := 0) rfl) mem0) (by decide) (by decide) ?_
    rintro _ h538 _ K539 le540 ⟨b536, q537, rfl, rfl, p541, p542, p543⟩
    have o_b524_b536 : b524 ≠ b536 := Nat.ne_of_lt (Nat.lt_of_lt_of_le E_b524.lt p542)
    have o_b533_b536 : b533 ≠ b536 := Nat.ne_of_lt (Nat.lt_of_lt_of_le E_b533.lt p542)
    have ge_b536 := Nat.le_trans le540 p542
    replace E_b524 := E_b524.keep K539
    replace V_b524 := V_b524.keep K539 (ninS o_b524_b533 nin0)
    replace E_b533 := E_b533.keep K539
    change Go _ _ _ _ _ _ _ _ _ _ _ _ _ _ [b533, b524] h538 4 1033 90 #[.val (.int p1), .val (.int p2), .val (.int p3), .val (.int p4), .val (.int p5), .val (.int (p5 &&& (3 : Int32))), .val (.int (0 : Int32)), .val (.int c0), .val (.int c1), .val (.int c2), .val (.int hh), .val (.int tt), .val (.ref b524), .unset, .unset, .unset, .unset, .unset] [(.ref b533)]
    rcases p543 with ⟨F_c, F_v, V_t, ha⟩ | ⟨F_c, F_v, bs, V_t, hE, hX⟩
    · skip
      refine Go.astore (pc' := 92) (Ls' := #[.val (.int p1), .val (.int p2), .val (.int p3), .val (.int p4), .val (.int p5), .val (.int (p5 &&& (3 : Int32))), .val (.int (0 : Int32)), .val (.int c0), .val (.int c1), .val (.int c2), .val (.int hh), .val (.int tt), .val (.ref b524), .val (.ref b533), .unset, .unset, .unset, .unset]) at_90 rfl rfl rfl ?_
      refine Go.newO (pc' := 95) at_92 rfl (w_31 hw) (w_32 hw) (w_33 hw) (by decide) (by decide) ?_
      intro h544 b545 g546 ge_b545 x547 E_b545 D_b545 U_b545
      have o_b524_b545 : b524 ≠ b545 := Nat.ne_of_lt (Nat.lt_of_lt_of_le E_b524.lt (Nat.le_of_eq g546))
      have o_b533_b545 : b533 ≠ b545 := Nat.ne_of_lt (Nat.lt_of_lt_of_le E_b533.lt (Nat.le_of_eq g546))
      have o_b536_b545 : b536 ≠ b545 := Nat.ne_of_lt (Nat.lt_of_lt_of_le V_t.lt (Nat.le_of_eq g546))
      replace E_b524 := E_b524.ext x547
      replace V_b524 := V_b524.ext x547
      replace E_b533 := E_b533.ext x547
      replace F_c := F_c.ext x547
      replace F_v := F_v.ext x547
      replace V_t := V_t.ext x547
      have F_b545_chars : Fld Z h544 b545 "com/example/beleg/beleg/JsonOutput" "chars" "[C" .null := D_b545 (Or.inl (w_42 hw)) (ty := (.array .char)) (by decide)
      have F_b545_length : Fld Z h544 b545 "com/example/beleg/beleg/JsonOutput" "length" "I" (.int (0 : Int32)) := D_b545 (Or.inl (w_50 hw)) (ty := .int) (by decide)
      change Go _ _ _ _ _ _ _ _ _ _ _ _ _ _ [b545, b533, b524] h544 5 1036 95 #[.val (.int p1), .val (.int p2), .val (.int p3), .val (.int p4), .val (.int p5), .val (.int (p5 &&& (3 : Int32))), .val (.int (0 : Int32)), .val (.int c0), .val (.int c1), .val (.int c2), .val (.int hh), .val (.int tt), .val (.ref b524), .val (.ref b533), .unset, .unset, .unset, .unset] [(.ref b545)]
      refine Go.dup (pc' := 96) at_95 rfl rfl ?_
      refine Go.callI (pc' := 99) (z := N_32) (a := b545) at_96 rfl rfl (w_34 hw) (w_35 hw) (w_36 hw) (by decide) (argsL := []) (rest := [(.ref b545)]) (Pays.of_met (W := 1) (len := 3) (m_jo hw hs b545 h544 E_b545 F_b545_chars F_b545_length) (w_36 hw) (w_33 hw) (by decide) (by decide)) rfl rfl (lenOf pd_35 rfl) rfl (Nat.le_of_eq rfl) (memS (List.mem_of_getElem? (i := 0) rfl) mem0) (by decide) (by decide) ?_
      rintro _ h550 _ K551 le552 ⟨b548, q549, rfl, rfl, p553, p554, p555, p556, p557⟩
      have o_b524_b548 : b524 ≠ b548 := Nat.ne_of_lt (Nat.lt_of_lt_of_le E_b524.lt p556)
      have o_b533_b548 : b533 ≠ b548 := Nat.ne_of_lt (Nat.lt_of_lt_of_le E_b533.lt p556)
      have o_b536_b548 : b536 ≠ b548 := Nat.ne_of_lt (Nat.lt_of_lt_of_le V_t.lt p556)
      have o_b545_b548 : b545 ≠ b548 := Nat.ne_of_lt (Nat.lt_of_lt_of_le E_b545.lt p556)
      have ge_b548 := Nat.le_trans le552 p556
      replace E_b524 := E_b524.keep K551
      replace V_b524 := V_b524.keep K551 (ninS o_b524_b545 nin0)
      replace E_b533 := E_b533.keep K551
      replace F_c := F_c.keep K551 (ninS o_b533_b545 nin0)
      replace F_v := F_v.keep K551 (ninS o_b533_b545 nin0)
      replace V_t := V_t.keep K551 (ninS o_b536_b545 nin0)
      replace E_b545 := E_b545.keep K551
      have F_b545_chars := p554
      have F_b545_length := p555
      have V_b548 := p557
      change Go _ _ _ _ _ _ _ _ _ _ _ _ _ _ [b548, b545, b533, b524] h550 6 1292 99 #[.val (.int p1), .val (.int p2), .val (.int p3), .val (.int p4), .val (.int p5), .val (.int (p5 &&& (3 : Int32))), .val (.int (0 : Int32)), .val (.int c0), .val (.int c1), .val (.int c2), .val (.int hh), .val (.int tt), .val (.ref b524), .val (.ref b533), .unset, .unset, .unset, .unset] [(.ref b545)]
      refine Go.astore (pc' := 101) (Ls' := #[.val (.int p1), .val (.int p2), .val (.int p3), .val (.int p4), .val (.int p5), .val (.int (p5 &&& (3 : Int32))), .val (.int (0 : Int32)), .val (.int c0), .val (.int c1), .val (.int c2), .val (.int hh), .val (.int tt), .val (.ref b524), .val (.ref b533), .val (.ref b545), .unset, .unset, .unset]) at_99 rfl rfl rfl ?_
      refine Go.iconst (pc' := 102) at_101 rfl ic_0 ?_
      refine Go.istore (pc' := 104) (Ls' := #[.val (.int p1), .val (.int p2), .val (.int p3), .val (.int p4), .val (.int p5), .val (.int (p5 &&& (3 : Int32))), .val (.int (0 : Int32)), .val (.int c0), .val (.int c1), .val (.int c2), .val (.int hh), .val (.int tt), .val (.ref b524), .val (.ref b533), .val (.ref b545), .val (.int (0 : Int32)), .unset, .unset]) at_102 rfl rfl ?_
      refine Go.iload (pc' := 106) at_104 rfl rfl ?_
      refine Go.ifY (pc' := 122) at_106 (by decide) (by decide) ((if0 _ _).trans (teq (rfl : (0 : Int32) = (0 : Int32))).1) ?_
      rcases own_and3 p5 with e | e | e | e
      · simp only [e]
        exact Go.more (k' := 8) (n' := 2400) (by decide) (by decide) (Go.fewer (memS (List.mem_of_getElem? (i := 1) rfl) (memS (List.mem_of_getElem? (i := 0) rfl) mem0)) (m_lawS0_0 hw hs p1 p2 p3 p4 p5 c0 c1 c2 hh tt b524 b533 b545 b548 q549 h0 h550 E_b545 F_b545_chars F_b545_length V_b548 (b_c0) (b_c1) (b_c2) (Ne.symm o_b545_b548)))
      · simp only [e]
        exact Go.more (k' := 8) (n' := 2400) (by decide) (by decide) (Go.fewer (memS (List.mem_of_getElem? (i := 1) rfl) (memS (List.mem_of_getElem? (i := 0) rfl) mem0)) (m_lawS0_1 hw hs p1 p2 p3 p4 p5 c0 c1 c2 hh tt b524 b533 b545 b548 q549 h0 h550 E_b545 F_b545_chars F_b545_length V_b548 (b_c0) (b_c1) (b_c2) (Ne.symm o_b545_b548)))
      · simp only [e]
        exact Go.more (k' := 8) (n' := 2400) (by decide) (by decide) (Go.fewer (memS (List.mem_of_getElem? (i := 1) rfl) (memS (List.mem_of_getElem? (i := 0) rfl) mem0)) (m_lawS0_2 hw hs p1 p2 p3 p4 p5 c0 c1 c2 hh tt b524 b533 b545 b548 q549 h0 h550 E_b545 F_b545_chars F_b545_length V_b548 (b_c0) (b_c1) (b_c2) (Ne.symm o_b545_b548)))
      · simp only [e]
        exact Go.more (k' := 8) (n' := 2400) (by decide) (by decide) (Go.fewer (memS (List.mem_of_getElem? (i := 1) rfl) (memS (List.mem_of_getElem? (i := 0) rfl) mem0)) (m_lawS0_3 hw hs p1 p2 p3 p4 p5 c0 c1 c2 hh tt b524 b533 b545 b548 q549 h0 h550 E_b545 F_b545_chars F_b545_length V_b548 (b_c0) (b_c1) (b_c2) (Ne.symm o_b545_b548)))
    · skip
      refine Go.astore (pc' := 92) (Ls' := #[.val (.int p1), .val (.int p2), .val (.int p3), .val (.int p4), .val (.int p5), .val (.int (p5 &&& (3 : Int32))), .val (.int (0 : Int32)), .val (.int c0), .val (.int c1), .val (.int c2), .val (.int hh), .val (.int tt), .val (.ref b524), .val (.ref b533), .unset, .unset, .unset, .unset]) at_90 rfl rfl rfl ?_
      refine Go.newO (pc' := 95) at_92 rfl (w_31 hw) (w_32 hw) (w_33 hw) (by decide) (by decide) ?_
      intro h558 b559 g560 ge_b559 x561 E_b559 D_b559 U_b559
      have o_b524_b559 : b524 ≠ b559 := Nat.ne_of_lt (Nat.lt_of_lt_of_le E_b524.lt (Nat.le_of_eq g560))
      have o_b533_b559 : b533 ≠ b559 := Nat.ne_of_lt (Nat.lt_of_lt_of_le E_b533.lt (Nat.le_of_eq g560))
      have o_b536_b559 : b536 ≠ b559 := Nat.ne_of_lt (Nat.lt_of_lt_of_le V_t.lt (Nat.le_of_eq g560))
      replace E_b524 := E_b524.ext x561
      replace V_b524 := V_b524.ext x561
      replace E_b533 := E_b533.ext x561
      replace F_c := F_c.ext x561
      replace F_v := F_v.ext x561
      replace V_t := V_t.ext x561
      have F_b559_chars : Fld Z h558 b559 "com/example/beleg/beleg/JsonOutput" "chars" "[C" .null := D_b559 (Or.inl (w_42 hw)) (ty := (.array .char)) (by decide)
      have F_b559_length : Fld Z h558 b559 "com/example/beleg/beleg/JsonOutput" "length" "I" (.int (0 : Int32)) := D_b559 (Or.inl (w_50 hw)) (ty := .int) (by decide)
      change Go _ _ _ _ _ _ _ _ _ _ _ _ _ _ [b559, b533, b524] h558 5 1036 95 #[.val (.int p1), .val (.int p2), .val (.int p3), .val (.int p4), .val (.int p5), .val (.int (p5 &&& (3 : Int32))), .val (.int (0 : Int32)), .val (.int c0), .val (.int c1), .val (.int c2), .val (.int hh), .val (.int tt), .val (.ref b524), .val (.ref b533), .unset, .unset, .unset, .unset] [(.ref b559)]
      refine Go.dup (pc' := 96) at_95 rfl rfl ?_
      refine Go.callI (pc' := 99) (z := N_32) (a := b559) at_96 rfl rfl (w_34 hw) (w_35 hw) (w_36 hw) (by decide) (argsL := []) (rest := [(.ref b559)]) (Pays.of_met (W := 1) (len := 3) (m_jo hw hs b559 h558 E_b559 F_b559_chars F_b559_length) (w_36 hw) (w_33 hw) (by decide) (by decide)) rfl rfl (lenOf pd_35 rfl) rfl (Nat.le_of_eq rfl) (memS (List.mem_of_getElem? (i := 0) rfl) mem0) (by decide) (by decide) ?_
      rintro _ h564 _ K565 le566 ⟨b562, q563, rfl, rfl, p567, p568, p569, p570, p571⟩
      have o_b524_b562 : b524 ≠ b562 := Nat.ne_of_lt (Nat.lt_of_lt_of_le E_b524.lt p570)
      have o_b533_b562 : b533 ≠ b562 := Nat.ne_of_lt (Nat.lt_of_lt_of_le E_b533.lt p570)
      have o_b536_b562 : b536 ≠ b562 := Nat.ne_of_lt (Nat.lt_of_lt_of_le V_t.lt p570)
      have o_b559_b562 : b559 ≠ b562 := Nat.ne_of_lt (Nat.lt_of_lt_of_le E_b559.lt p570)
      have ge_b562 := Nat.le_trans le566 p570
      replace E_b524 := E_b524.keep K565
      replace V_b524 := V_b524.keep K565 (ninS o_b524_b559 nin0)
      replace E_b533 := E_b533.keep K565
      replace F_c := F_c.keep K565 (ninS o_b533_b559 nin0)
      replace F_v := F_v.keep K565 (ninS o_b533_b559 nin0)
      replace V_t := V_t.keep K565 (ninS o_b536_b559 nin0)
      replace E_b559 := E_b559.keep K565
      have F_b559_chars := p568
      have F_b559_length := p569
      have V_b562 := p571
      change Go _ _ _ _ _ _ _ _ _ _ _ _ _ _ [b562, b559, b533, b524] h564 6 1292 99 #[.val (.int p1), .val (.int p2), .val (.int p3), .val (.int p4), .val (.int p5), .val (.int (p5 &&& (3 : Int32))), .val (.int (0 : Int32)), .val (.int c0), .val (.int c1), .val (.int c2), .val (.int hh), .val (.int tt), .val (.ref b524), .val (.ref b533), .unset, .unset, .unset, .unset] [(.ref b559)]
      refine Go.astore (pc' := 101) (Ls' := #[.val (.int p1), .val (.int p2), .val (.int p3), .val (.int p4), .val (.int p5), .val (.int (p5 &&& (3 : Int32))), .val (.int (0 : Int32)), .val (.int c0), .val (.int c1), .val (.int c2), .val (.int hh), .val (.int tt), .val (.ref b524), .val (.ref b533), .val (.ref b559), .unset, .unset, .unset]) at_99 rfl rfl rfl ?_
      refine Go.iconst (pc' := 102) at_101 rfl ic_0 ?_
      refine Go.istore (pc' := 104) (Ls' := #[.val (.int p1), .val (.int p2), .val (.int p3), .val (.int p4), .val (.int p5), .val (.int (p5 &&& (3 : Int32))), .val (.int (0 : Int32)), .val (.int c0), .val (.int c1), .val (.int c2), .val (.int hh), .val (.int tt), .val (.ref b524), .val (.ref b533), .val (.ref b559), .val (.int (0 : Int32)), .unset, .unset]) at_102 rfl rfl ?_
      refine Go.iload (pc' := 106) at_104 rfl rfl ?_
      refine Go.ifY (pc' := 122) at_106 (by decide) (by decide) ((if0 _ _).trans (teq (rfl : (0 : Int32) = (0 : Int32))).1) ?_
      rcases own_and3 p5 with e | e | e | e
      · simp only [e]
        exact Go.more (k' := 8) (n' := 2400) (by decide) (by decide) (Go.fewer (memS (List.mem_of_getElem? (i := 1) rfl) (memS (List.mem_of_getElem? (i := 0) rfl) mem0)) (m_lawS0_0 hw hs p1 p2 p3 p4 p5 c0 c1 c2 hh tt b524 b533 b559 b562 q563 h0 h564 E_b559 F_b559_chars F_b559_length V_b562 (b_c0) (b_c1) (b_c2) (Ne.symm o_b559_b562)))
      · simp only [e]
        exact Go.more (k' := 8) (n' := 2400) (by decide) (by decide) (Go.fewer (memS (List.mem_of_getElem? (i := 1) rfl) (memS (List.mem_of_getElem? (i := 0) rfl) mem0)) (m_lawS0_1 hw hs p1 p2 p3 p4 p5 c0 c1 c2 hh tt b524 b533 b559 b562 q563 h0 h564 E_b559 F_b559_chars F_b559_length V_b562 (b_c0) (b_c1) (b_c2) (Ne.symm o_b559_b562)))
      · simp only [e]
        exact Go.more (k' := 8) (n' := 2400) (by decide) (by decide) (Go.fewer (memS (List.mem_of_getElem? (i := 1) rfl) (memS (List.mem_of_getElem? (i := 0) rfl) mem0)) (m_lawS0_2 hw hs p1 p2 p3 p4 p5 c0 c1 c2 hh tt b524 b533 b559 b562 q563 h0 h564 E_b559 F_b559_chars F_b559_length V_b562 (b_c0) (b_c1) (b_c2) (Ne.symm o_b559_b562)))
      · simp only [e]
        exact Go.more (k' := 8) (n' := 2400) (by decide) (by decide) (Go.fewer (memS (List.mem_of_getElem? (i := 1) rfl) (memS (List.mem_of_getElem? (i := 0) rfl) mem0)) (m_lawS0_3 hw hs p1 p2 p3 p4 p5 c0 c1 c2 hh tt b524 b533 b559 b562 q563 h0 h564 E_b559 F_b559_chars F_b559_length V_b562 (b_c0) (b_c1) (b_c2) (Ne.symm o_b559_b562)))
  · skip
    refine Go.ifN (pc' := 15) at_12 rfl ((if0 _ _).trans (feq (hbig : ¬ ((((p5.toUInt32 >>> ((2 : Int32) &&& 31).toUInt32).toInt32) &&& (1 : Int32)) = (0 : Int32)))).1) ?_
    refine Go.iconst (pc' := 16) at_15 rfl ic_1 ?_
    refine Go.goto (pc' := 20) at_16 (by decide) (by decide) ?_
    refine Go.istore (pc' := 22) (Ls' := #[.val (.int p1), .val (.int p2), .val (.int p3), .val (.int p4), .val (.int p5), .val (.int (p5 &&& (3 : Int32))), .val (.int (1 : Int32)), .unset, .unset, .unset, .unset, .unset, .unset, .unset, .unset, .unset, .unset, .unset]) at_20 rfl rfl ?_
    refine Go.iload_n (pc' := 23) at_22 rfl rfl ?_
    refine Go.ldcInt (pc' := 25) at_23 rfl (w_0 hw) ?_
    refine Go.iand (pc' := 26) at_25 rfl ?_
    refine Go.i2c (pc' := 27) at_26 rfl ?_
    refine Go.istore (pc' := 29) (Ls' := #[.val (.int p1), .val (.int p2), .val (.int p3), .val (.int p4), .val (.int p5), .val (.int (p5 &&& (3 : Int32))), .val (.int (1 : Int32)), .val (.int (p1 &&& (65535 : Int32)).toUInt32.toUInt16.toUInt32.toInt32), .unset, .unset, .unset, .unset, .unset, .unset, .unset, .unset, .unset, .unset]) at_27 rfl rfl ?_
    refine Go.iload_n (pc' := 30) at_29 rfl rfl ?_
    have b_c0 := mask65535 p1
    rw [i2c_in b_c0.1 b_c0.2]
    generalize h_c0 : (p1 &&& (65535 : Int32)) = c0 at b_c0 ⊢
    refine Go.ldcInt (pc' := 32) at_30 rfl (w_0 hw) ?_
    refine Go.iand (pc' := 33) at_32 rfl ?_
    refine Go.i2c (pc' := 34) at_33 rfl ?_
    refine Go.istore (pc' := 36) (Ls' := #[.val (.int p1), .val (.int p2), .val (.int p3), .val (.int p4), .val (.int p5), .val (.int (p5 &&& (3 : Int32))), .val (.int (1 : Int32)), .val (.int c0), .val (.int (p2 &&& (65535 : Int32)).toUInt32.toUInt16.toUInt32.toInt32), .unset, .unset, .unset, .unset, .unset, .unset, .unset, .unset, .unset]) at_34 rfl rfl ?_
    refine Go.iload_n (pc' := 37) at_36 rfl rfl ?_
    have b_c1 := mask65535 p2
    rw [i2c_in b_c1.1 b_c1.2]
    generalize h_c1 : (p2 &&& (65535 : Int32)) = c1 at b_c1 ⊢
    refine Go.ldcInt (pc' := 39) at_37 rfl (w_0 hw) ?_
    refine Go.iand (pc' := 40) at_39 rfl ?_
    refine Go.i2c (pc' := 41) at_40 rfl ?_
    refine Go.istore (pc' := 43) (Ls' := #[.val (.int p1), .val (.int p2), .val (.int p3), .val (.int p4), .val (.int p5), .val (.int (p5 &&& (3 : Int32))), .val (.int (1 : Int32)), .val (.int c0), .val (.int c1), .val (.int (p3 &&& (65535 : Int32)).toUInt32.toUInt16.toUInt32.toInt32), .unset, .unset, .unset, .unset, .unset, .unset, .unset, .unset]) at_41 rfl rfl ?_
    refine Go.iload_n (pc' := 44) at_43 rfl rfl ?_
    have b_c2 := mask65535 p3
    rw [i2c_in b_c2.1 b_c2.2]
    generalize h_c2 : (p3 &&& (65535 : Int32)) = c2 at b_c2 ⊢
    refine Go.ldcInt (pc' := 46) at_44 rfl (w_0 hw) ?_
    refine Go.iand (pc' := 47) at_46 rfl ?_
    refine Go.i2c (pc' := 48) at_47 rfl ?_
    refine Go.istore (pc' := 50) (Ls' := #[.val (.int p1), .val (.int p2), .val (.int p3), .val (.int p4), .val (.int p5), .val (.int (p5 &&& (3 : Int32))), .val (.int (1 : Int32)), .val (.int c0), .val (.int c1), .val (.int c2), .val (.int (p4 &&& (65535 : Int32)).toUInt32.toUInt16.toUInt32.toInt32), .unset, .unset, .unset, .unset, .unset, .unset, .unset]) at_48 rfl rfl ?_
    refine Go.iload_n (pc' := 51) at_50 rfl rfl ?_
    refine Go.bipush (pc' := 53) at_51 rfl icb_16 ?_
    refine Go.iushr (pc' := 54) at_53 rfl ?_
    have b_hh := mask65535 p4
    rw [i2c_in b_hh.1 b_hh.2]
    generalize h_hh : (p4 &&& (65535 : Int32)) = hh at b_hh ⊢
    refine Go.ldcInt (pc' := 56) at_54 rfl (w_0 hw) ?_
    refine Go.iand (pc' := 57) at_56 rfl ?_
    refine Go.i2c (pc' := 58) at_57 rfl ?_
    refine Go.istore (pc' := 60) (Ls' := #[.val (.int p1), .val (.int p2), .val (.int p3), .val (.int p4), .val (.int p5), .val (.int (p5 &&& (3 : Int32))), .val (.int (1 : Int32)), .val (.int c0), .val (.int c1), .val (.int c2), .val (.int hh), .val (.int (((p4.toUInt32 >>> ((16 : Int32) &&& 31).toUInt32).toInt32) &&& (65535 : Int32)).toUInt32.toUInt16.toUInt32.toInt32), .unset, .unset, .unset, .unset, .unset, .unset]) at_58 rfl rfl ?_
    refine Go.sipush (pc' := 63) at_60 rfl ics_255 ?_
    have b_tt := mask65535 ((p4.toUInt32 >>> ((16 : Int32) &&& 31).toUInt32).toInt32)
    rw [i2c_in b_tt.1 b_tt.2]
    generalize h_tt : (((p4.toUInt32 >>> ((16 : Int32) &&& 31).toUInt32).toInt32) &&& (65535 : Int32)) = tt at b_tt ⊢
    refine Go.newP (pc' := 65) (cap := 255) (ad := "[C") at_63 rfl (w_1 hw) (by decide) (by decide) (by decide) (by decide) (by decide) (by decide) ?_
    intro h572 b573 g574 ge_b573 q576 x575 V_b573 E_b573
    replace V_b573 : Arv Z h572 b573 q576 .char (255 : Int32) [] (.int (0 : Int32)) := V_b573
    change Go _ _ _ _ _ _ _ _ _ _ _ _ _ _ [b573] h572 1 255 65 #[.val (.int p1), .val (.int p2), .val (.int p3), .val (.int p4), .val (.int p5), .val (.int (p5 &&& (3 : Int32))), .val (.int (1 : Int32)), .val (.int c0), .val (.int c1), .val (.int c2), .val (.int hh), .val (.int tt), .unset, .unset, .unset, .unset, .unset, .unset] [(.ref b573)]
    replace V_b573 : Arv Z h572 b573 q576 .char (255 : Int32) ((List.replicate 255 (0 : Int32)).map Value.int) (.int (0 : Int32)) := V_b573.pad (own_pad0 255)
    refine Go.astore (pc' := 67) (Ls' := #[.val (.int p1), .val (.int p2), .val (.int p3), .val (.int p4), .val (.int p5), .val (.int (p5 &&& (3 : Int32))), .val (.int (1 : Int32)), .val (.int c0), .val (.int c1), .val (.int c2), .val (.int hh), .val (.int tt), .val (.ref b573), .unset, .unset, .unset, .unset, .unset]) at_65 rfl rfl rfl ?_
    refine Go.aload (pc' := 69) at_67 rfl rfl rfl ?_
    refine Go.iconst (pc' := 70) at_69 rfl ic_0 ?_
    refine Go.iload (pc' := 72) at_70 rfl rfl ?_
    refine Go.castoreV (pc' := 73) (i := 0) at_72 rfl (List.mem_of_getElem? (i := 0) rfl) V_b573 ⟨by decide, by decide⟩ (by decide) (by rw [List.length_map, List.length_replicate]; decide) ?_
    rw [nar_char (b_hh).1 (b_hh).2]
    intro h577 W578 V_b573'
    rw [own_set_map] at V_b573'
    replace E_b573 := E_b573.wr W578
    replace V_b573 : Arv Z h577 b573 q576 .char (255 : Int32) (((List.replicate 255 (0 : Int32)).set 0 hh).map Value.int) (.int (0 : Int32)) := V_b573'
    change Go _ _ _ _ _ _ _ _ _ _ _ _ _ _ [b573] h577 1 255 73 #[.val (.int p1), .val (.int p2), .val (.int p3), .val (.int p4), .val (.int p5), .val (.int (p5 &&& (3 : Int32))), .val (.int (1 : Int32)), .val (.int c0), .val (.int c1), .val (.int c2), .val (.int hh), .val (.int tt), .val (.ref b573), .unset, .unset, .unset, .unset, .unset] []
    refine Go.aload (pc' := 75) at_73 rfl rfl rfl ?_
    refine Go.sipush (pc' := 78) at_75 rfl ics_254 ?_
    refine Go.iload (pc' := 80) at_78 rfl rfl ?_
    refine Go.castoreV (pc' := 81) (i := 254) at_80 rfl (List.mem_of_getElem? (i := 0) rfl) V_b573 ⟨by decide, by decide⟩ (by decide) (by rw [List.length_map, List.length_set, List.length_replicate]; decide) ?_
    rw [nar_char (b_tt).1 (b_tt).2]
    intro h579 W580 V_b573'
    rw [own_set_map] at V_b573'
    replace E_b573 := E_b573.wr W580
    replace V_b573 : Arv Z h579 b573 q576 .char (255 : Int32) ((((List.replicate 255 (0 : Int32)).set 0 hh).set 254 tt).map Value.int) (.int (0 : Int32)) := V_b573'
    change Go _ _ _ _ _ _ _ _ _ _ _ _ _ _ [b573] h579 1 255 81 #[.val (.int p1), .val (.int p2), .val (.int p3), .val (.int p4), .val (.int p5), .val (.int (p5 &&& (3 : Int32))), .val (.int (1 : Int32)), .val (.int c0), .val (.int c1), .val (.int c2), .val (.int hh), .val (.int tt), .val (.ref b573), .unset, .unset, .unset, .unset, .unset] []
    have hD : (((List.replicate 255 (0 : Int32)).set 0 hh).set 254 tt).length = 255 := by rw [List.length_set, List.length_set, List.length_replicate]
    have hD16 := own_set_mem (i := 254) (own_set_mem (i := 0) (P := fun x => ¬ x < 0 ∧ ¬ 65535 < x) (cs := (List.replicate 255 (0 : Int32))) (fun x hx => by rw [List.eq_of_mem_replicate hx]; decide) b_hh) b_tt
    have hDv := own_255D (h := hh) (t := tt)
    generalize hDD : (((List.replicate 255 (0 : Int32)).set 0 hh).set 254 tt) = D at hD hD16 hDv V_b573
    refine Go.newO (pc' := 84) at_81 rfl (w_2 hw) (w_3 hw) (w_4 hw) (by decide) (by decide) ?_
    intro h581 b582 g583 ge_b582 x584 E_b582 D_b582 U_b582
    have o_b573_b582 : b573 ≠ b582 := Nat.ne_of_lt (Nat.lt_of_lt_of_le E_b573.lt (Nat.le_of_eq g583))
    replace E_b573 := E_b573.ext x584
    replace V_b573 := V_b573.ext x584
    have F_b582_coder : Fld Z h581 b582 "java/lang/String" "coder" "B" (.int (0 : Int32)) := D_b582 (Or.inr (w_28 hw)) (ty := .byte) (by decide)
    have F_b582_value : Fld Z h581 b582 "java/lang/String" "value" "[B" .null := D_b582 (Or.inr (w_30 hw)) (ty := (.array .byte)) (by decide)
    change Go _ _ _ _ _ _ _ _ _ _ _ _ _ _ [b582, b573] h581 2 259 84 #[.val (.int p1), .val (.int p2), .val (.int p3), .val (.int p4), .val (.int p5), .val (.int (p5 &&& (3 : Int32))), .val (.int (1 : Int32)), .val (.int c0), .val (.int c1), .val (.int c2), .val (.int hh), .val (.int tt), .val (.ref b573), .unset, .unset, .unset, .unset, .unset] [(.ref b582)]
    refine Go.dup (pc' := 85) at_84 rfl rfl ?_
    refine Go.aload (pc' := 87) at_85 rfl rfl rfl ?_
    refine Go.callI (pc' := 90) (z := N_9) (a := b582) at_87 rfl rfl (w_5 hw) (w_6 hw) (w_7 hw) (by decide) (argsL := [(.ref b573)]) (rest := [(.ref b582)]) (Pays.of_met (W := 1) (len := 3) (m_ustr hw hs b582 b573 q576 D (255 : Int32) h581 E_b582 F_b582_coder F_b582_value V_b573 (by rw [hD]; decide) (by decide) (by decide) (hD16) (by decide) o_b573_b582) (w_7 hw) (w_4 hw) (by decide) (by decide)) rfl rfl (lenOf pd_22 rfl) rfl (Nat.le_of_eq rfl) (memS (List.mem_of_getElem? (i := 0) rfl) mem0) (by decide) (by decide) ?_
    rintro _ h587 _ K588 le589 ⟨b585, q586, rfl, rfl, p590, p591, p592⟩
    have o_b573_b585 : b573 ≠ b585 := Nat.ne_of_lt (Nat.lt_of_lt_of_le E_b573.lt p591)
    have o_b582_b585 : b582 ≠ b585 := Nat.ne_of_lt (Nat.lt_of_lt_of_le E_b582.lt p591)
    have ge_b585 := Nat.le_trans le589 p591
    replace E_b573 := E_b573.keep K588
    replace V_b573 := V_b573.keep K588 (ninS o_b573_b582 nin0)
    replace E_b582 := E_b582.keep K588
    change Go _ _ _ _ _ _ _ _ _ _ _ _ _ _ [b582, b573] h587 4 1033 90 #[.val (.int p1), .val (.int p2), .val (.int p3), .val (.int p4), .val (.int p5), .val (.int (p5 &&& (3 : Int32))), .val (.int (1 : Int32)), .val (.int c0), .val (.int c1), .val (.int c2), .val (.int hh), .val (.int tt), .val (.ref b573), .unset, .unset, .unset, .unset, .unset] [(.ref b582)]
    rcases p592 with ⟨F_c, F_v, V_t, ha⟩ | ⟨F_c, F_v, bs, V_t, hE, hX⟩
    · skip
      refine Go.astore (pc' := 92) (Ls' := #[.val (.int p1), .val (.int p2), .val (.int p3), .val (.int p4), .val (.int p5), .val (.int (p5 &&& (3 : Int32))), .val (.int (1 : Int32)), .val (.int c0), .val (.int c1), .val (.int c2), .val (.int hh), .val (.int tt), .val (.ref b573), .val (.ref b582), .unset, .unset, .unset, .unset]) at_90 rfl rfl rfl ?_
      refine Go.newO (pc' := 95) at_92 rfl (w_31 hw) (w_32 hw) (w_33 hw) (by decide) (by decide) ?_
      intro h593 b594 g595 ge_b594 x596 E_b594 D_b594 U_b594
      have o_b573_b594 : b573 ≠ b594 := Nat.ne_of_lt (Nat.lt_of_lt_of_le E_b573.lt (Nat.le_of_eq g595))
      have o_b582_b594 : b582 ≠ b594 := Nat.ne_of_lt (Nat.lt_of_lt_of_le E_b582.lt (Nat.le_of_eq g595))
      have o_b585_b594 : b585 ≠ b594 := Nat.ne_of_lt (Nat.lt_of_lt_of_le V_t.lt (Nat.le_of_eq g595))
      replace E_b573 := E_b573.ext x596
      replace V_b573 := V_b573.ext x596
      replace E_b582 := E_b582.ext x596
      replace F_c := F_c.ext x596
      replace F_v := F_v.ext x596
      replace V_t := V_t.ext x596
      have F_b594_chars : Fld Z h593 b594 "com/example/beleg/beleg/JsonOutput" "chars" "[C" .null := D_b594 (Or.inl (w_42 hw)) (ty := (.array .char)) (by decide)
      have F_b594_length : Fld Z h593 b594 "com/example/beleg/beleg/JsonOutput" "length" "I" (.int (0 : Int32)) := D_b594 (Or.inl (w_50 hw)) (ty := .int) (by decide)
      change Go _ _ _ _ _ _ _ _ _ _ _ _ _ _ [b594, b582, b573] h593 5 1036 95 #[.val (.int p1), .val (.int p2), .val (.int p3), .val (.int p4), .val (.int p5), .val (.int (p5 &&& (3 : Int32))), .val (.int (1 : Int32)), .val (.int c0), .val (.int c1), .val (.int c2), .val (.int hh), .val (.int tt), .val (.ref b573), .val (.ref b582), .unset, .unset, .unset, .unset] [(.ref b594)]
      refine Go.dup (pc' := 96) at_95 rfl rfl ?_
      refine Go.callI (pc' := 99) (z := N_32) (a := b594) at_96 rfl rfl (w_34 hw) (w_35 hw) (w_36 hw) (by decide) (argsL := []) (rest := [(.ref b594)]) (Pays.of_met (W := 1) (len := 3) (m_jo hw hs b594 h593 E_b594 F_b594_chars F_b594_length) (w_36 hw) (w_33 hw) (by decide) (by decide)) rfl rfl (lenOf pd_35 rfl) rfl (Nat.le_of_eq rfl) (memS (List.mem_of_getElem? (i := 0) rfl) mem0) (by decide) (by decide) ?_
      rintro _ h599 _ K600 le601 ⟨b597, q598, rfl, rfl, p602, p603, p604, p605, p606⟩
      have o_b573_b597 : b573 ≠ b597 := Nat.ne_of_lt (Nat.lt_of_lt_of_le E_b573.lt p605)
      have o_b582_b597 : b582 ≠ b597 := Nat.ne_of_lt (Nat.lt_of_lt_of_le E_b582.lt p605)
      have o_b585_b597 : b585 ≠ b597 := Nat.ne_of_lt (Nat.lt_of_lt_of_le V_t.lt p605)
      have o_b594_b597 : b594 ≠ b597 := Nat.ne_of_lt (Nat.lt_of_lt_of_le E_b594.lt p605)
      have ge_b597 := Nat.le_trans le601 p605
      replace E_b573 := E_b573.keep K600
      replace V_b573 := V_b573.keep K600 (ninS o_b573_b594 nin0)
      replace E_b582 := E_b582.keep K600
      replace F_c := F_c.keep K600 (ninS o_b582_b594 nin0)
      replace F_v := F_v.keep K600 (ninS o_b582_b594 nin0)
      replace V_t := V_t.keep K600 (ninS o_b585_b594 nin0)
      replace E_b594 := E_b594.keep K600
      have F_b594_chars := p603
      have F_b594_length := p604
      have V_b597 := p606
      change Go _ _ _ _ _ _ _ _ _ _ _ _ _ _ [b597, b594, b582, b573] h599 6 1292 99 #[.val (.int p1), .val (.int p2), .val (.int p3), .val (.int p4), .val (.int p5), .val (.int (p5 &&& (3 : Int32))), .val (.int (1 : Int32)), .val (.int c0), .val (.int c1), .val (.int c2), .val (.int hh), .val (.int tt), .val (.ref b573), .val (.ref b582), .unset, .unset, .unset, .unset] [(.ref b594)]
      refine Go.astore (pc' := 101) (Ls' := #[.val (.int p1), .val (.int p2), .val (.int p3), .val (.int p4), .val (.int p5), .val (.int (p5 &&& (3 : Int32))), .val (.int (1 : Int32)), .val (.int c0), .val (.int c1), .val (.int c2), .val (.int hh), .val (.int tt), .val (.ref b573), .val (.ref b582), .val (.ref b594), .unset, .unset, .unset]) at_99 rfl rfl rfl ?_
      refine Go.iconst (pc' := 102) at_101 rfl ic_0 ?_
      refine Go.istore (pc' := 104) (Ls' := #[.val (.int p1), .val (.int p2), .val (.int p3), .val (.int p4), .val (.int p5), .val (.int (p5 &&& (3 : Int32))), .val (.int (1 : Int32)), .val (.int c0), .val (.int c1), .val (.int c2), .val (.int hh), .val (.int tt), .val (.ref b573), .val (.ref b582), .val (.ref b594), .val (.int (0 : Int32)), .unset, .unset]) at_102 rfl rfl ?_
      refine Go.iload (pc' := 106) at_104 rfl rfl ?_
      refine Go.ifN (pc' := 109) at_106 rfl ((if0 _ _).trans (feq (by decide : ¬ ((1 : Int32) = (0 : Int32)))).1) ?_
      refine Go.aload (pc' := 111) at_109 rfl rfl rfl ?_
      refine Go.aload (pc' := 113) at_111 rfl rfl rfl ?_
      refine Go.callV (pc' := 116) (u := N_44) (z := N_44) (a := b594) at_113 rfl (w_93 hw) (w_94 hw) (nf (w_96 hw) rfl) (w_96 hw) (w_95 hw) (by decide) E_b594 (argsL := [(.ref b582)]) (rest := []) (Pays.of_met (W := 0) (len := 3) (m_apS0 hw hs b594 b597 q598 b582 b585 q586 D h599 E_b594 F_b594_chars F_b594_length V_b597 E_b582 F_c F_v V_t (hD) (fun x hx => ⟨(hD16 x hx).1, ha x hx⟩) o_b585_b597 (Ne.symm o_b594_b597)) (w_97 hw) (w_33 hw) (by decide) (by decide)) rfl rfl (lenOf pd_36 rfl) rfl (Nat.le_of_eq rfl) (memS (List.mem_of_getElem? (i := 1) rfl) (memS (List.mem_of_getElem? (i := 0) rfl) mem0)) (by decide) (by decide) ?_
      rintro _ h607 _ K608 le609 ⟨rfl, rfl, p610, p611, p612, p613⟩
      replace E_b573 := E_b573.keep K608
      replace V_b573 := V_b573.keep K608 (ninS o_b573_b594 (ninS o_b573_b597 nin0))
      replace E_b582 := E_b582.keep K608
      replace F_c := F_c.keep K608 (ninS o_b582_b594 (ninS o_b582_b597 nin0))
      replace F_v := F_v.keep K608 (ninS o_b582_b594 (ninS o_b582_b597 nin0))
      replace V_t := V_t.keep K608 (ninS o_b585_b594 (ninS o_b585_b597 nin0))
      replace E_b594 := E_b594.keep K608
      have F_b594_chars := p611
      have F_b594_length := p612
      have V_b597 := p613
      change Go _ _ _ _ _ _ _ _ _ _ _ _ _ _ [b597, b594, b582, b573] h607 6 1292 116 #[.val (.int p1), .val (.int p2), .val (.int p3), .val (.int p4), .val (.int p5), .val (.int (p5 &&& (3 : Int32))), .val (.int (1 : Int32)), .val (.int c0), .val (.int c1), .val (.int c2), .val (.int hh), .val (.int tt), .val (.ref b573), .val (.ref b582), .val (.ref b594), .val (.int (0 : Int32)), .unset, .unset] [(.ref b594)]
      refine Go.pop (pc' := 117) at_116 rfl rfl ?_
      refine Go.sipush (pc' := 120) at_117 rfl ics_255 ?_
      refine Go.istore (pc' := 122) (Ls' := #[.val (.int p1), .val (.int p2), .val (.int p3), .val (.int p4), .val (.int p5), .val (.int (p5 &&& (3 : Int32))), .val (.int (1 : Int32)), .val (.int c0), .val (.int c1), .val (.int c2), .val (.int hh), .val (.int tt), .val (.ref b573), .val (.ref b582), .val (.ref b594), .val (.int (255 : Int32)), .unset, .unset]) at_120 rfl rfl ?_
      rcases own_and3 p5 with e | e | e | e
      · simp only [e]
        exact Go.more (k' := 8) (n' := 2400) (by decide) (by decide) (Go.fewer (memS (List.mem_of_getElem? (i := 1) rfl) (memS (List.mem_of_getElem? (i := 0) rfl) mem0)) (m_lawS255_0 hw hs p1 p2 p3 p4 p5 c0 c1 c2 hh tt b573 b582 b594 b597 q598 D h0 h607 E_b594 F_b594_chars F_b594_length V_b597 (hD) (hD16) (hDv.1) (hDv.2.1) (hDv.2.2) (b_c0) (b_c1) (b_c2) (Ne.symm o_b594_b597)))
      · simp only [e]
        exact Go.more (k' := 8) (n' := 2400) (by decide) (by decide) (Go.fewer (memS (List.mem_of_getElem? (i := 1) rfl) (memS (List.mem_of_getElem? (i := 0) rfl) mem0)) (m_lawS255_1 hw hs p1 p2 p3 p4 p5 c0 c1 c2 hh tt b573 b582 b594 b597 q598 D h0 h607 E_b594 F_b594_chars F_b594_length V_b597 (hD) (hD16) (hDv.1) (hDv.2.1) (hDv.2.2) (b_c0) (b_c1) (b_c2) (Ne.symm o_b594_b597)))
      · simp only [e]
        exact Go.more (k' := 8) (n' := 2400) (by decide) (by decide) (Go.fewer (memS (List.mem_of_getElem? (i := 1) rfl) (memS (List.mem_of_getElem? (i := 0) rfl) mem0)) (m_lawS255_2 hw hs p1 p2 p3 p4 p5 c0 c1 c2 hh tt b573 b582 b594 b597 q598 D h0 h607 E_b594 F_b594_chars F_b594_length V_b597 (hD) (hD16) (hDv.1) (hDv.2.1) (hDv.2.2) (b_c0) (b_c1) (b_c2) (Ne.symm o_b594_b597)))
      · simp only [e]
        exact Go.more (k' := 8) (n' := 2400) (by decide) (by decide) (Go.fewer (memS (List.mem_of_getElem? (i := 1) rfl) (memS (List.mem_of_getElem? (i := 0) rfl) mem0)) (m_lawS255_3 hw hs p1 p2 p3 p4 p5 c0 c1 c2 hh tt b573 b582 b594 b597 q598 D h0 h607 E_b594 F_b594_chars F_b594_length V_b597 (hD) (hD16) (hDv.1) (hDv.2.1) (hDv.2.2) (b_c0) (b_c1) (b_c2) (Ne.symm o_b594_b597)))
    · skip
      refine Go.astore (pc' := 92) (Ls' := #[.val (.int p1), .val (.int p2), .val (.int p3), .val (.int p4), .val (.int p5), .val (.int (p5 &&& (3 : Int32))), .val (.int (1 : Int32)), .val (.int c0), .val (.int c1), .val (.int c2), .val (.int hh), .val (.int tt), .val (.ref b573), .val (.ref b582), .unset, .unset, .unset, .unset]) at_90 rfl rfl rfl ?_
      refine Go.newO (pc' := 95) at_92 rfl (w_31 hw) (w_32 hw) (w_33 hw) (by decide) (by decide) ?_
      intro h614 b615 g616 ge_b615 x617 E_b615 D_b615 U_b615
      have o_b573_b615 : b573 ≠ b615 := Nat.ne_of_lt (Nat.lt_of_lt_of_le E_b573.lt (Nat.le_of_eq g616))
      have o_b582_b615 : b582 ≠ b615 := Nat.ne_of_lt (Nat.lt_of_lt_of_le E_b582.lt (Nat.le_of_eq g616))
      have o_b585_b615 : b585 ≠ b615 := Nat.ne_of_lt (Nat.lt_of_lt_of_le V_t.lt (Nat.le_of_eq g616))
      replace E_b573 := E_b573.ext x617
      replace V_b573 := V_b573.ext x617
      replace E_b582 := E_b582.ext x617
      replace F_c := F_c.ext x617
      replace F_v := F_v.ext x617
      replace V_t := V_t.ext x617
      have F_b615_chars : Fld Z h614 b615 "com/example/beleg/beleg/JsonOutput" "chars" "[C" .null := D_b615 (Or.inl (w_42 hw)) (ty := (.array .char)) (by decide)
      have F_b615_length : Fld Z h614 b615 "com/example/beleg/beleg/JsonOutput" "length" "I" (.int (0 : Int32)) := D_b615 (Or.inl (w_50 hw)) (ty := .int) (by decide)
      change Go _ _ _ _ _ _ _ _ _ _ _ _ _ _ [b615, b582, b573] h614 5 1036 95 #[.val (.int p1), .val (.int p2), .val (.int p3), .val (.int p4), .val (.int p5), .val (.int (p5 &&& (3 : Int32))), .val (.int (1 : Int32)), .val (.int c0), .val (.int c1), .val (.int c2), .val (.int hh), .val (.int tt), .val (.ref b573), .val (.ref b582), .unset, .unset, .unset, .unset] [(.ref b615)]
      refine Go.dup (pc' := 96) at_95 rfl rfl ?_
      refine Go.callI (pc' := 99) (z := N_32) (a := b615) at_96 rfl rfl (w_34 hw) (w_35 hw) (w_36 hw) (by decide) (argsL := []) (rest := [(.ref b615)]) (Pays.of_met (W := 1) (len := 3) (m_jo hw hs b615 h614 E_b615 F_b615_chars F_b615_length) (w_36 hw) (w_33 hw) (by decide) (by decide)) rfl rfl (lenOf pd_35 rfl) rfl (Nat.le_of_eq rfl) (memS (List.mem_of_getElem? (i := 0) rfl) mem0) (by decide) (by decide) ?_
      rintro _ h620 _ K621 le622 ⟨b618, q619, rfl, rfl, p623, p624, p625, p626, p627⟩
      have o_b573_b618 : b573 ≠ b618 := Nat.ne_of_lt (Nat.lt_of_lt_of_le E_b573.lt p626)
      have o_b582_b618 : b582 ≠ b618 := Nat.ne_of_lt (Nat.lt_of_lt_of_le E_b582.lt p626)
      have o_b585_b618 : b585 ≠ b618 := Nat.ne_of_lt (Nat.lt_of_lt_of_le V_t.lt p626)
      have o_b615_b618 : b615 ≠ b618 := Nat.ne_of_lt (Nat.lt_of_lt_of_le E_b615.lt p626)
      have ge_b618 := Nat.le_trans le622 p626
      replace E_b573 := E_b573.keep K621
      replace V_b573 := V_b573.keep K621 (ninS o_b573_b615 nin0)
      replace E_b582 := E_b582.keep K621
      replace F_c := F_c.keep K621 (ninS o_b582_b615 nin0)
      replace F_v := F_v.keep K621 (ninS o_b582_b615 nin0)
      replace V_t := V_t.keep K621 (ninS o_b585_b615 nin0)
      replace E_b615 := E_b615.keep K621
      have F_b615_chars := p624
      have F_b615_length := p625
      have V_b618 := p627
      change Go _ _ _ _ _ _ _ _ _ _ _ _ _ _ [b618, b615, b582, b573] h620 6 1292 99 #[.val (.int p1), .val (.int p2), .val (.int p3), .val (.int p4), .val (.int p5), .val (.int (p5 &&& (3 : Int32))), .val (.int (1 : Int32)), .val (.int c0), .val (.int c1), .val (.int c2), .val (.int hh), .val (.int tt), .val (.ref b573), .val (.ref b582), .unset, .unset, .unset, .unset] [(.ref b615)]
      refine Go.astore (pc' := 101) (Ls' := #[.val (.int p1), .val (.int p2), .val (.int p3), .val (.int p4), .val (.int p5), .val (.int (p5 &&& (3 : Int32))), .val (.int (1 : Int32)), .val (.int c0), .val (.int c1), .val (.int c2), .val (.int hh), .val (.int tt), .val (.ref b573), .val (.ref b582), .val (.ref b615), .unset, .unset, .unset]) at_99 rfl rfl rfl ?_
      refine Go.iconst (pc' := 102) at_101 rfl ic_0 ?_
      refine Go.istore (pc' := 104) (Ls' := #[.val (.int p1), .val (.int p2), .val (.int p3), .val (.int p4), .val (.int p5), .val (.int (p5 &&& (3 : Int32))), .val (.int (1 : Int32)), .val (.int c0), .val (.int c1), .val (.int c2), .val (.int hh), .val (.int tt), .val (.ref b573), .val (.ref b582), .val (.ref b615), .val (.int (0 : Int32)), .unset, .unset]) at_102 rfl rfl ?_
      refine Go.iload (pc' := 106) at_104 rfl rfl ?_
      refine Go.ifN (pc' := 109) at_106 rfl ((if0 _ _).trans (feq (by decide : ¬ ((1 : Int32) = (0 : Int32)))).1) ?_
      refine Go.aload (pc' := 111) at_109 rfl rfl rfl ?_
      refine Go.aload (pc' := 113) at_111 rfl rfl rfl ?_
      refine Go.callV (pc' := 116) (u := N_44) (z := N_44) (a := b615) at_113 rfl (w_93 hw) (w_94 hw) (nf (w_96 hw) rfl) (w_96 hw) (w_95 hw) (by decide) E_b615 (argsL := [(.ref b582)]) (rest := []) (Pays.of_met (W := 0) (len := 3) (m_apS1 hw hs b615 b618 q619 b582 b585 q586 bs D h620 E_b615 F_b615_chars F_b615_length V_b618 E_b582 F_c F_v V_t (hD) (hE) (hD16) o_b585_b618 (Ne.symm o_b615_b618)) (w_97 hw) (w_33 hw) (by decide) (by decide)) rfl rfl (lenOf pd_36 rfl) rfl (Nat.le_of_eq rfl) (memS (List.mem_of_getElem? (i := 1) rfl) (memS (List.mem_of_getElem? (i := 0) rfl) mem0)) (by decide) (by decide) ?_
      rintro _ h628 _ K629 le630 ⟨rfl, rfl, p631, p632, p633, p634⟩
      replace E_b573 := E_b573.keep K629
      replace V_b573 := V_b573.keep K629 (ninS o_b573_b615 (ninS o_b573_b618 nin0))
      replace E_b582 := E_b582.keep K629
      replace F_c := F_c.keep K629 (ninS o_b582_b615 (ninS o_b582_b618 nin0))
      replace F_v := F_v.keep K629 (ninS o_b582_b615 (ninS o_b582_b618 nin0))
      replace V_t := V_t.keep K629 (ninS o_b585_b615 (ninS o_b585_b618 nin0))
      replace E_b615 := E_b615.keep K629
      have F_b615_chars := p632
      have F_b615_length := p633
      have V_b618 := p634
      change Go _ _ _ _ _ _ _ _ _ _ _ _ _ _ [b618, b615, b582, b573] h628 6 1292 116 #[.val (.int p1), .val (.int p2), .val (.int p3), .val (.int p4), .val (.int p5), .val (.int (p5 &&& (3 : Int32))), .val (.int (1 : Int32)), .val (.int c0), .val (.int c1), .val (.int c2), .val (.int hh), .val (.int tt), .val (.ref b573), .val (.ref b582), .val (.ref b615), .val (.int (0 : Int32)), .unset, .unset] [(.ref b615)]
      refine Go.pop (pc' := 117) at_116 rfl rfl ?_
      refine Go.sipush (pc' := 120) at_117 rfl ics_255 ?_
      refine Go.istore (pc' := 122) (Ls' := #[.val (.int p1), .val (.int p2), .val (.int p3), .val (.int p4), .val (.int p5), .val (.int (p5 &&& (3 : Int32))), .val (.int (1 : Int32)), .val (.int c0), .val (.int c1), .val (.int c2), .val (.int hh), .val (.int tt), .val (.ref b573), .val (.ref b582), .val (.ref b615), .val (.int (255 : Int32)), .unset, .unset]) at_120 rfl rfl ?_
      rcases own_and3 p5 with e | e | e | e
      · simp only [e]
        exact Go.more (k' := 8) (n' := 2400) (by decide) (by decide) (Go.fewer (memS (List.mem_of_getElem? (i := 1) rfl) (memS (List.mem_of_getElem? (i := 0) rfl) mem0)) (m_lawS255_0 hw hs p1 p2 p3 p4 p5 c0 c1 c2 hh tt b573 b582 b615 b618 q619 D h0 h628 E_b615 F_b615_chars F_b615_length V_b618 (hD) (hD16) (hDv.1) (hDv.2.1) (hDv.2.2) (b_c0) (b_c1) (b_c2) (Ne.symm o_b615_b618)))
      · simp only [e]
        exact Go.more (k' := 8) (n' := 2400) (by decide) (by decide) (Go.fewer (memS (List.mem_of_getElem? (i := 1) rfl) (memS (List.mem_of_getElem? (i := 0) rfl) mem0)) (m_lawS255_1 hw hs p1 p2 p3 p4 p5 c0 c1 c2 hh tt b573 b582 b615 b618 q619 D h0 h628 E_b615 F_b615_chars F_b615_length V_b618 (hD) (hD16) (hDv.1) (hDv.2.1) (hDv.2.2) (b_c0) (b_c1) (b_c2) (Ne.symm o_b615_b618)))
      · simp only [e]
        exact Go.more (k' := 8) (n' := 2400) (by decide) (by decide) (Go.fewer (memS (List.mem_of_getElem? (i := 1) rfl) (memS (List.mem_of_getElem? (i := 0) rfl) mem0)) (m_lawS255_2 hw hs p1 p2 p3 p4 p5 c0 c1 c2 hh tt b573 b582 b615 b618 q619 D h0 h628 E_b615 F_b615_chars F_b615_length V_b618 (hD) (hD16) (hDv.1) (hDv.2.1) (hDv.2.2) (b_c0) (b_c1) (b_c2) (Ne.symm o_b615_b618)))
      · simp only [e]
        exact Go.more (k' := 8) (n' := 2400) (by decide) (by decide) (Go.fewer (memS (List.mem_of_getElem? (i := 1) rfl) (memS (List.mem_of_getElem? (i := 0) rfl) mem0)) (m_lawS255_3 hw hs p1 p2 p3 p4 p5 c0 c1 c2 hh tt b573 b582 b615 b618 q619 D h0 h628 E_b615 F_b615_chars F_b615_length V_b618 (hD) (hD16) (hDv.1) (hDv.2.1) (hDv.2.2) (b_c0) (b_c1) (b_c2) (Ne.symm o_b615_b618)))
set_option maxRecDepth 65536 in
set_option maxHeartbeats 40000000 in
theorem comes_1 {Post : Tables → Env → Array Value → State → Outcome → State → Prop} (hpost : ∀ tb e args s v u, (limb_1_1.after args s (.returned v) u = true ∧ limb_1_2.after args s (.returned v) u = true ∧ True) → Jvm.D.FramedW s (.returned v) u (Jvm.fieldLocs frame_1_writes args s ++ Jvm.arrayLocs frame_1_arrays args s ++ Jvm.staticLocs frame_1_statics s) 40 7808 → Post tb e args s (.returned v) u) :
    ArmFor flags0 classFile x code maxLocals ret World_1 tables_1 room_1 Calls_1 rest_1 Pre_1 Post := by
  intro l hfl _ _ p e ha hc hk s m args below hf hA hF happ hP
  obtain ⟨hcalls, hrest, hpre⟩ := hP
  obtain ⟨-, -, -, hnamed, -, -, -, hat⟩ := (Spec.applies_iff hf).mp happ
  obtain ⟨hg, hn⟩ := and_e (Cond.before_iff.mp (show (Jvm.Cond.and given_1 narrow_1).before args s = true from hpre))
  have hgn := hg
  obtain ⟨h_c, hg⟩ := and_e hg
  obtain ⟨w0, w1, w2, w3, w4, rfl⟩ : ∃ w0 w1 w2 w3 w4 : Value, args = #[w0, w1, w2, w3, w4] := by
    have hs : args.size = 5 := by simpa [Cond.value, given_1] using h_c
    obtain ⟨L⟩ := args
    match L, hs with
    | [w0, w1, w2, w3, w4], _ => exact ⟨w0, w1, w2, w3, w4, rfl⟩
  obtain ⟨h_0, hg⟩ := and_e hg
  obtain ⟨i0, e_0⟩ := is_v h_0
  obtain rfl : w0 = (.int i0) := Option.some.inj e_0
  obtain ⟨h_1, hg⟩ := and_e hg
  obtain ⟨i1, e_1⟩ := is_v h_1
  obtain rfl : w1 = (.int i1) := Option.some.inj e_1
  obtain ⟨h_2, hg⟩ := and_e hg
  obtain ⟨i2, e_2⟩ := is_v h_2
  obtain rfl : w2 = (.int i2) := Option.some.inj e_2
  obtain ⟨h_3, hg⟩ := and_e hg
  obtain ⟨i3, e_3⟩ := is_v h_3
  obtain rfl : w3 = (.int i3) := Option.some.inj e_3
  have h_4 := hg
  obtain ⟨i4, e_4⟩ := is_v h_4
  obtain rfl : w4 = (.int i4) := Option.some.inj e_4
  have hw := fun d (hd : d ∈ tables_1) => atoms_spec (ws := Jvm.Cond.code x code maxLocals ret :: tables_1) hat d (List.mem_cons_of_mem _ hd)
  have hfit : Fit s := fun {y c} hc i hi => by
    obtain ⟨ha, rfl⟩ := Array.getElem?_eq_some_iff.mp hc
    have q := List.all_eq_true.mp ((Array.all_eq_true_iff_forall_mem.mp hF) _ (Array.getElem_mem ha)) i (List.mem_range.mpr hi)
    simpa [Array.getElem?_eq_getElem hi] using q
  have hsets := (atoms_of jdkStatics_1 (show (jdkStatics_1.foldr Jvm.Cond.and restOwn_1).before _ s = true from hrest)).1
  obtain ⟨zc, e_zc⟩ := is_v (Cond.before_iff.mp (hsets _ (List.mem_of_getElem? (i := 1) rfl)))
  have n_zc := gotF (Cond.eq_ints e_zc (Term.int_eval (0))) (not_v (Cond.before_iff.mp (hsets _ (List.mem_of_getElem? (i := 2) rfl))))
  have s_zc := Sta.start e_zc (Or.inl (hsets _ (List.mem_of_getElem? (i := 0) rfl)))
  obtain ⟨fm, e_fm, r_fm⟩ := isR_v (Cond.before_iff.mp (hsets _ (List.mem_of_getElem? (i := 8) rfl)))
  have s_fm := Sta.start e_fm (Or.inl (hsets _ (List.mem_of_getElem? (i := 7) rfl)))
  have s_u1 := Sta.start (eqv_i (Term.int_eval (1)) (Cond.before_iff.mp (hsets _ (List.mem_of_getElem? (i := 12) rfl)))) (Or.inl (hsets _ (List.mem_of_getElem? (i := 11) rfl)))
  have s_u0 := Sta.start (eqv_i (Term.int_eval (0)) (Cond.before_iff.mp (hsets _ (List.mem_of_getElem? (i := 15) rfl)))) (Or.inl (hsets _ (List.mem_of_getElem? (i := 14) rfl)))
  have s_u8 := Sta.start (eqv_i (Term.int_eval (8)) (Cond.before_iff.mp (hsets _ (List.mem_of_getElem? (i := 18) rfl)))) (Or.inl (hsets _ (List.mem_of_getElem? (i := 17) rfl)))
  have hs : Stat s := ⟨⟨zc, s_zc, n_zc⟩, ⟨fm, s_fm, r_fm⟩, ⟨s_u1, s_u0, s_u8⟩, trivial⟩
  have hEL : EW s _ EL0 := (EW.cons (w_65 hw) lit_0.1 EW.nil)
  have hCH : CHv s EL0 s.vm s.heap := CHv.start hEL (fun p hp => hcalls.1 p hp) (hsets _ (List.mem_of_getElem? (i := 2) rfl)) (sA hw _ (by simp [Bundle.stringAtoms])) (sA hw _ (by simp [Bundle.stringAtoms, Bundle.sN]))
  obtain ⟨n, o, h1, h2, h3, v, L, SN, rfl, ⟨rfl, -⟩, hL, -, -, -, hN, hE⟩ := m_law hw hs i0 i1 i2 i3 i4 s.heap tables_1 p e ha hc hk s m _ below hf ((Spec.applies_iff_loose hf).mp happ).1 ⟨rfl, State.Warmed39.refl s, rfl, hCH, (fun x hx => nomatch hx), ⟨rfl, Ext.refl _⟩, _, hEL⟩ (fun q => nomatch q)
  refine ⟨n, _, h1, h2, h3, hpost _ _ _ _ _ _ ⟨Cond.after_iff.mpr rfl, Cond.after_iff.mpr (eq_i res_at (Term.int_eval (1)) rfl), trivial⟩ ⟨hE.1, hE.2.1, hE.2.2.1, (hE.2.2.2.sift fun y hy => Or.inr (hL y hy)).mono (by decide) (by decide)⟩⟩
theorem main_1_1 : Claimed_1_1 := comes_1 fun _ _ _ _ _ _ h hF => ⟨h.1, hF⟩
theorem main_1_2 : Claimed_1_2 := comes_1 fun _ _ _ _ _ _ h hF => ⟨h.2.1, hF⟩
end Jvm.Pilot.@@N@@
namespace Jvm.Pilot.@@N@@
open Jvm Jvm.ClassFile Sem Op Lib Jvm.Free Jvm.Stand Jvm.Pilot.@@N@@.Jvm.D
/-! MADE BY PROGRAM (witnessworld.py) out of the Statement's table words and the real class files: 23 classes; the members and pool entries that the words name. The judged class is class 1, her method 1. -/
namespace start1
open Jvm.ClassFile
def u (s : String) : CpInfo := .utf8 (stringToUtf16 s)
/-- a pool by its gaps: so many unusable entries, then the entry; so many at the end -/
def gap : Nat → List CpInfo → List CpInfo
  | 0, r => r
  | n + 1, r => .unusable :: gap n r
def poolList (es : List (Nat × CpInfo)) (last : Nat) : List CpInfo := es.foldr (fun e r => gap e.1 (e.2 :: r)) (gap last [])
def pool (es : List (Nat × CpInfo)) (last : Nat) : Array CpInfo := ⟨poolList es last⟩
def fileOf (pool : Array CpInfo) (this : Nat) (attrs : Array Attribute := #[]) (ms : Array MethodInfo := #[]) (fl : Nat := 33) (sup : Nat := 0) (ifs : Array Nat := #[]) (fds : Array FieldInfo := #[]) : ClassFile where
  minorVersion := 0
  majorVersion := 65
  constantPool := pool
  accessFlags := fl
  thisClass := this
  superClass := sup
  interfaces := ifs
  fields := fds
  methods := ms
  attributes := attrs
def plain (name : String) (sup : Option ClassId) : Class where
  name := name
  kind := .ordinary
  loader := none
  accessFlags := 33
  super := sup
  interfaces := #[]
  cf := none
  fields := #[]
  methods := #[]
  instanceTypes := #[]
  staticTypes := #[]
  resolved := #[]
  callSites := []
  init := .initialized
  statics := none
  mirror := none

def pool0 : Array CpInfo := pool [(5, u "<init>"), (0, u "()V"), (1, .class_ 10), (1, u "java/lang/Object")] 113

def k0c0 : Code := { maxStack := 0, maxLocals := 1, code := object_method_1_code, exceptionTable := #[], attributes := #[] }
def k0m0 : Method := { name := "<init>", desc := "()V", sig := { parameters := [], returnType := none }, accessFlags := 1, code := some k0c0 }
/-- java/lang/Object -/
def k0 : Class := { plain "java/lang/Object" none with
  accessFlags := 33
  interfaces := #[]
  cf := some (fileOf pool0 8 #[] #[{ accessFlags := 1, nameIndex := 5, descriptorIndex := 6, attributes := #[] }] 33 0 #[] #[])
  fields := #[]
  methods := #[k0m0]
  instanceTypes := #[]
  staticTypes := #[]
  resolved := Array.replicate 124 none
  statics := none }

def pool1 : Array CpInfo := pool [(2, .class_ 4), (0, .nameAndType 5 6), (0, u "java/lang/Object"), (0, u "<init>"), (0, u "()V"), (0, .integer 65535), (0, .class_ 9), (0, u "java/lang/String"), (0, .methodref 8 11), (0, .nameAndType 5 12), (0, u "([C)V"), (0, .class_ 14), (0, u "com/example/beleg/beleg/JsonOutput"), (0, .methodref 13 3), (0, .methodref 13 17), (0, .nameAndType 18 19), (0, u "append"), (0, u "(Ljava/lang/String;)Lcom/example/beleg/beleg/JsonOutput;"), (0, .methodref 13 21), (0, .nameAndType 18 22), (0, u "(C)Lcom/example/beleg/beleg/JsonOutput;"), (0, .methodref 13 24), (0, .nameAndType 25 26), (0, u "toString"), (0, u "()Ljava/lang/String;"), (0, .methodref 8 28), (0, .nameAndType 29 30), (0, u "equals"), (0, u "(Ljava/lang/Object;)Z"), (0, .methodref 13 32), (0, .nameAndType 33 34), (0, u "length"), (0, u "()I"), (0, .methodref 8 32), (0, .methodref 8 37), (0, .nameAndType 38 39), (0, u "charAt"), (0, u "(I)C"), (0, .class_ 41), (0, u "com/example/beleg/beleg/JsonOutputToStringPinLaw"), (2, u "law"), (0, u "(IIIII)Z")] 5

def k1m0 : Method := { name := "<init>", desc := "()V", sig := { parameters := [], returnType := none }, accessFlags := 1, code := none }
def k1c1 : Code := { maxStack := 3, maxLocals := 18, code := code, exceptionTable := #[], attributes := #[] }
def k1m1 : Method := { name := "law", desc := "(IIIII)Z", sig := { parameters := [.int, .int, .int, .int, .int], returnType := some .boolean }, accessFlags := 9, code := some k1c1 }
/-- com/example/beleg/beleg/JsonOutputToStringPinLaw -/
def k1 : Class := { plain "com/example/beleg/beleg/JsonOutputToStringPinLaw" (some 0) with
  accessFlags := 49
  interfaces := #[]
  cf := some (fileOf pool1 40 #[] #[{ accessFlags := 1, nameIndex := 5, descriptorIndex := 6, attributes := #[] }, { accessFlags := 9, nameIndex := 44, descriptorIndex := 45, attributes := #[] }] 49 2 #[] #[])
  fields := #[]
  methods := #[k1m0, k1m1]
  instanceTypes := #[]
  staticTypes := #[]
  resolved := Array.replicate 51 none
  statics := none }

def pool2 : Array CpInfo := pool [(1, .class_ 2), (0, u "java/io/Serializable"), (0, .class_ 4), (0, u "java/lang/Object")] 2

/-- java/io/Serializable -/
def k2 : Class := { plain "java/io/Serializable" (some 0) with
  accessFlags := 1537
  interfaces := #[]
  cf := some (fileOf pool2 1 #[] #[] 1537 3 #[] #[])
  fields := #[]
  methods := #[]
  instanceTypes := #[]
  staticTypes := #[]
  resolved := Array.replicate 7 none
  statics := none }

def pool3 : Array CpInfo := pool [(1, .class_ 2), (0, u "java/lang/Comparable"), (0, .class_ 4), (0, u "java/lang/Object")] 7

/-- java/lang/Comparable -/
def k3 : Class := { plain "java/lang/Comparable" (some 0) with
  accessFlags := 1537
  interfaces := #[]
  cf := some (fileOf pool3 1 #[] #[] 1537 3 #[] #[])
  fields := #[]
  methods := #[]
  instanceTypes := #[]
  staticTypes := #[]
  resolved := Array.replicate 12 none
  statics := none }

def pool4 : Array CpInfo := pool [(2, .class_ 4), (1, u "java/lang/CharSequence"), (42, .class_ 48), (0, u "java/lang/CharSequence$1CodePointIterator"), (10, .class_ 60), (0, u "java/lang/CharSequence$1CharIterator"), (5, .class_ 67), (0, u "java/lang/Object")] 63

/-- java/lang/CharSequence -/
def k4 : Class := { plain "java/lang/CharSequence" (some 0) with
  accessFlags := 1537
  interfaces := #[]
  cf := some (fileOf pool4 2 #[.nestMembers #[47, 59]] #[] 1537 66 #[] #[])
  fields := #[]
  methods := #[]
  instanceTypes := #[]
  staticTypes := #[]
  resolved := Array.replicate 131 none
  statics := none }

def pool5 : Array CpInfo := pool [(1, .class_ 2), (0, u "java/lang/constant/Constable"), (0, .class_ 4), (0, u "java/lang/Object")] 6

/-- java/lang/constant/Constable -/
def k5 : Class := { plain "java/lang/constant/Constable" (some 0) with
  accessFlags := 1537
  interfaces := #[]
  cf := some (fileOf pool5 1 #[] #[] 1537 3 #[] #[])
  fields := #[]
  methods := #[]
  instanceTypes := #[]
  staticTypes := #[]
  resolved := Array.replicate 11 none
  statics := none }

def pool6 : Array CpInfo := pool [(1, .class_ 2), (0, u "java/lang/constant/ConstantDesc"), (0, .class_ 4), (0, u "java/lang/Object")] 32

/-- java/lang/constant/ConstantDesc -/
def k6 : Class := { plain "java/lang/constant/ConstantDesc" (some 0) with
  accessFlags := 1537
  interfaces := #[]
  cf := some (fileOf pool6 1 #[] #[] 1537 3 #[] #[])
  fields := #[]
  methods := #[]
  instanceTypes := #[]
  staticTypes := #[]
  resolved := Array.replicate 37 none
  statics := none }

def pool7 : Array CpInfo := pool [(1, .methodref 2 3), (0, .class_ 4), (0, .nameAndType 5 6), (0, u "java/lang/Object"), (0, u "<init>"), (0, u "()V"), (0, .string 8), (0, u ""), (0, .fieldref 10 11), (0, .class_ 12), (0, .nameAndType 13 14), (0, u "java/lang/String"), (0, u "value"), (0, u "[B"), (0, .fieldref 10 16), (0, .nameAndType 17 18), (0, u "coder"), (0, u "B"), (2, u "hash"), (0, u "I"), (2, u "hashIsZero"), (0, u "Z"), (0, .methodref 10 28), (0, .nameAndType 5 29), (0, u "([CIILjava/lang/Void;)V"), (0, .methodref 10 31), (0, .nameAndType 32 33), (0, u "rangeCheck"), (0, u "([CII)Ljava/lang/Void;"), (0, .methodref 10 35), (0, .nameAndType 36 37), (0, u "checkBoundsOffCount"), (0, u "(III)I"), (0, .fieldref 10 39), (0, .nameAndType 40 26), (0, u "COMPACT_STRINGS"), (1, .class_ 44), (1, u "java/lang/StringUTF16"), (0, u "compress"), (1, .methodref 42 48), (0, .nameAndType 49 50), (0, u "coderFromArrayLen"), (0, u "([BI)B"), (56, .class_ 109), (1, u "java/lang/StringLatin1"), (32, u "()Z"), (34, .methodref 42 178), (0, .nameAndType 45 179), (0, u "([CII)[B"), (154, u "()I"), (0, .methodref 10 336), (0, .nameAndType 17 337), (0, u "()B"), (25, u "([BI)C"), (27, u "(II)V"), (35, u "(I)C"), (64, .methodref 10 493), (0, .nameAndType 494 142), (0, u "isLatin1"), (0, .methodref 107 496), (0, .nameAndType 497 363), (0, u "charAt"), (0, .methodref 42 496), (2, u "checkIndex"), (3, .methodref 10 506), (0, .nameAndType 507 334), (0, u "length"), (5, u "checkFromToIndex"), (7, .methodref 10 522), (0, .nameAndType 523 524), (0, u "checkBoundsBeginEnd"), (0, u "(III)V"), (0, .methodref 107 526), (0, .nameAndType 527 528), (0, u "getChars"), (0, u "([BII[CI)V"), (0, .methodref 42 526), (11, .methodref 107 542), (0, .nameAndType 543 544), (0, u "equals"), (0, u "([B[B)Z"), (28, u "(Ljava/lang/Object;)Z"), (1, .class_ 576), (0, u "java/lang/CharSequence"), (22, u "CASE_INSENSITIVE_ORDER"), (0, u "Ljava/util/Comparator;"), (371, u "([CII)V"), (37, u "([C)V"), (42, .fieldref 1054 1055), (0, .class_ 1056), (0, .nameAndType 1057 1058), (0, u "jdk/internal/util/Preconditions"), (0, u "SIOOBE_FORMATTER"), (0, u "Ljava/util/function/BiFunction;"), (0, .methodref 1054 1060), (0, .nameAndType 501 1061), (0, u "(IILjava/util/function/BiFunction;)I"), (0, .methodref 1054 1063), (0, .nameAndType 513 1064), (0, u "(IIILjava/util/function/BiFunction;)I"), (0, .methodref 1054 1066), (0, .nameAndType 1067 1064), (0, u "checkFromIndexSize"), (33, u "serialPersistentFields"), (0, u "[Ljava/io/ObjectStreamField;"), (0, .class_ 1104), (0, u "java/lang/String$CaseInsensitiveComparator"), (1, .class_ 1107), (0, u "java/io/Serializable"), (0, .class_ 1109), (0, u "java/lang/Comparable"), (0, .class_ 1111), (0, u "java/lang/constant/Constable"), (0, .class_ 1113), (0, u "java/lang/constant/ConstantDesc"), (2, u "serialVersionUID"), (0, u "J"), (3, u "REPL"), (0, u "C"), (2, u "LATIN1"), (1, u "UTF16"), (112, u "(II[CI)V")] 210

def k7m0 : Method := { name := "<init>", desc := "()V", sig := { parameters := [], returnType := none }, accessFlags := 1, code := none }
def k7c1 : Code := { maxStack := 5, maxLocals := 2, code := jdk_42_method_3_code, exceptionTable := #[], attributes := #[] }
def k7m1 : Method := { name := "<init>", desc := "([C)V", sig := { parameters := [(.array .char)], returnType := none }, accessFlags := 1, code := some k7c1 }
def k7c2 : Code := { maxStack := 7, maxLocals := 4, code := jdk_42_method_4_code, exceptionTable := #[], attributes := #[] }
def k7m2 : Method := { name := "<init>", desc := "([CII)V", sig := { parameters := [(.array .char), .int, .int], returnType := none }, accessFlags := 1, code := some k7c2 }
def k7c3 : Code := { maxStack := 3, maxLocals := 3, code := jdk_42_method_5_code, exceptionTable := #[], attributes := #[] }
def k7m3 : Method := { name := "rangeCheck", desc := "([CII)Ljava/lang/Void;", sig := { parameters := [(.array .char), .int, .int], returnType := some (.object "java/lang/Void") }, accessFlags := 10, code := some k7c3 }
def k7c4 : Code := { maxStack := 2, maxLocals := 1, code := jdk_42_method_54_code, exceptionTable := #[], attributes := #[] }
def k7m4 : Method := { name := "length", desc := "()I", sig := { parameters := [], returnType := some .int }, accessFlags := 1, code := some k7c4 }
def k7c5 : Code := { maxStack := 2, maxLocals := 2, code := jdk_42_method_56_code, exceptionTable := #[], attributes := #[] }
def k7m5 : Method := { name := "charAt", desc := "(I)C", sig := { parameters := [.int], returnType := some .char }, accessFlags := 1, code := some k7c5 }
def k7c6 : Code := { maxStack := 5, maxLocals := 5, code := jdk_42_method_61_code, exceptionTable := #[], attributes := #[] }
def k7m6 : Method := { name := "getChars", desc := "(II[CI)V", sig := { parameters := [.int, .int, (.array .char), .int], returnType := none }, accessFlags := 1, code := some k7c6 }
def k7c7 : Code := { maxStack := 2, maxLocals := 3, code := jdk_42_method_66_code, exceptionTable := #[], attributes := #[] }
def k7m7 : Method := { name := "equals", desc := "(Ljava/lang/Object;)Z", sig := { parameters := [(.object "java/lang/Object")], returnType := some .boolean }, accessFlags := 1, code := some k7c7 }
def k7c8 : Code := { maxStack := 4, maxLocals := 6, code := jdk_42_method_149_code, exceptionTable := #[], attributes := #[] }
def k7m8 : Method := { name := "<init>", desc := "([CIILjava/lang/Void;)V", sig := { parameters := [(.array .char), .int, .int, (.object "java/lang/Void")], returnType := none }, accessFlags := 2, code := some k7c8 }
def k7c9 : Code := { maxStack := 1, maxLocals := 1, code := jdk_42_method_152_code, exceptionTable := #[], attributes := #[] }
def k7m9 : Method := { name := "coder", desc := "()B", sig := { parameters := [], returnType := some .byte }, accessFlags := 0, code := some k7c9 }
def k7c10 : Code := { maxStack := 1, maxLocals := 1, code := jdk_42_method_154_code, exceptionTable := #[], attributes := #[] }
def k7m10 : Method := { name := "isLatin1", desc := "()Z", sig := { parameters := [], returnType := some .boolean }, accessFlags := 0, code := some k7c10 }
def k7c11 : Code := { maxStack := 3, maxLocals := 2, code := jdk_42_method_155_code, exceptionTable := #[], attributes := #[] }
def k7m11 : Method := { name := "checkIndex", desc := "(II)V", sig := { parameters := [.int, .int], returnType := none }, accessFlags := 8, code := some k7c11 }
def k7c12 : Code := { maxStack := 4, maxLocals := 3, code := jdk_42_method_157_code, exceptionTable := #[], attributes := #[] }
def k7m12 : Method := { name := "checkBoundsOffCount", desc := "(III)I", sig := { parameters := [.int, .int, .int], returnType := some .int }, accessFlags := 8, code := some k7c12 }
def k7c13 : Code := { maxStack := 4, maxLocals := 3, code := jdk_42_method_158_code, exceptionTable := #[], attributes := #[] }
def k7m13 : Method := { name := "checkBoundsBeginEnd", desc := "(III)V", sig := { parameters := [.int, .int, .int], returnType := none }, accessFlags := 8, code := some k7c13 }
/-- java/lang/String -/
def k7 : Class := { plain "java/lang/String" (some 0) with
  accessFlags := 49
  interfaces := #[2, 3, 4, 5, 6]
  cf := some (fileOf pool7 10 #[.nestMembers #[1103]] #[{ accessFlags := 1, nameIndex := 5, descriptorIndex := 6, attributes := #[] }, { accessFlags := 1, nameIndex := 5, descriptorIndex := 1010, attributes := #[] }, { accessFlags := 1, nameIndex := 5, descriptorIndex := 972, attributes := #[] }, { accessFlags := 10, nameIndex := 32, descriptorIndex := 33, attributes := #[] }, { accessFlags := 1, nameIndex := 507, descriptorIndex := 334, attributes := #[] }, { accessFlags := 1, nameIndex := 497, descriptorIndex := 427, attributes := #[] }, { accessFlags := 1, nameIndex := 527, descriptorIndex := 1240, attributes := #[] }, { accessFlags := 1, nameIndex := 543, descriptorIndex := 573, attributes := #[] }, { accessFlags := 2, nameIndex := 5, descriptorIndex := 29, attributes := #[] }, { accessFlags := 0, nameIndex := 17, descriptorIndex := 337, attributes := #[] }, { accessFlags := 0, nameIndex := 494, descriptorIndex := 142, attributes := #[] }, { accessFlags := 8, nameIndex := 501, descriptorIndex := 391, attributes := #[] }, { accessFlags := 8, nameIndex := 36, descriptorIndex := 37, attributes := #[] }, { accessFlags := 8, nameIndex := 523, descriptorIndex := 524, attributes := #[] }] 49 2 #[1106, 1108, 575, 1110, 1112] #[{ accessFlags := 18, nameIndex := 13, descriptorIndex := 14, attributes := #[] }, { accessFlags := 18, nameIndex := 17, descriptorIndex := 18, attributes := #[] }, { accessFlags := 2, nameIndex := 21, descriptorIndex := 22, attributes := #[] }, { accessFlags := 2, nameIndex := 25, descriptorIndex := 26, attributes := #[] }, { accessFlags := 26, nameIndex := 1116, descriptorIndex := 1117, attributes := #[] }, { accessFlags := 24, nameIndex := 40, descriptorIndex := 26, attributes := #[] }, { accessFlags := 26, nameIndex := 1101, descriptorIndex := 1102, attributes := #[] }, { accessFlags := 26, nameIndex := 1121, descriptorIndex := 1122, attributes := #[] }, { accessFlags := 25, nameIndex := 599, descriptorIndex := 600, attributes := #[] }, { accessFlags := 24, nameIndex := 1125, descriptorIndex := 18, attributes := #[] }, { accessFlags := 24, nameIndex := 1127, descriptorIndex := 18, attributes := #[] }])
  fields := #[{ name := "value", type := (.array .byte), accessFlags := 18, slot := 0, constantValue := 0 }, { name := "coder", type := .byte, accessFlags := 18, slot := 1, constantValue := 0 }, { name := "hash", type := .int, accessFlags := 2, slot := 2, constantValue := 0 }, { name := "hashIsZero", type := .boolean, accessFlags := 2, slot := 3, constantValue := 0 }, { name := "serialVersionUID", type := .long, accessFlags := 26, slot := 0, constantValue := 0 }, { name := "COMPACT_STRINGS", type := .boolean, accessFlags := 24, slot := 1, constantValue := 0 }, { name := "serialPersistentFields", type := (.array (.object "java/io/ObjectStreamField")), accessFlags := 26, slot := 2, constantValue := 0 }, { name := "REPL", type := .char, accessFlags := 26, slot := 3, constantValue := 0 }, { name := "CASE_INSENSITIVE_ORDER", type := (.object "java/util/Comparator"), accessFlags := 25, slot := 4, constantValue := 0 }, { name := "LATIN1", type := .byte, accessFlags := 24, slot := 5, constantValue := 0 }, { name := "UTF16", type := .byte, accessFlags := 24, slot := 6, constantValue := 0 }]
  methods := #[k7m0, k7m1, k7m2, k7m3, k7m4, k7m5, k7m6, k7m7, k7m8, k7m9, k7m10, k7m11, k7m12, k7m13]
  instanceTypes := #[(.array .byte), .byte, .int, .boolean]
  staticTypes := #[.long, .boolean, (.array (.object "java/io/ObjectStreamField")), .char, (.object "java/util/Comparator"), .byte, .byte]
  resolved := Array.replicate 1451 none
  statics := some 0 }

def pool8 : Array CpInfo := pool [(3, .class_ 4), (0, u "java/lang/String"), (1, .class_ 8), (1, u "java/lang/Object"), (0, u "<init>"), (0, u "()V"), (0, .methodref 12 13), (0, .class_ 14), (0, .nameAndType 15 16), (0, u "java/lang/StringUTF16"), (0, u "newBytesLength"), (0, u "(I)I"), (3, .integer 1073741823), (23, .fieldref 12 45), (0, .nameAndType 46 47), (0, u "$assertionsDisabled"), (0, u "Z"), (0, .methodref 12 49), (0, .nameAndType 50 51), (0, u "length"), (0, u "([B)I"), (7, .fieldref 12 60), (0, .nameAndType 61 62), (0, u "HI_BYTE_SHIFT"), (0, u "I"), (0, .fieldref 12 64), (0, .nameAndType 65 62), (0, u "LO_BYTE_SHIFT"), (1, .methodref 12 68), (0, .nameAndType 69 70), (0, u "checkIndex"), (0, u "(I[B)V"), (0, .methodref 12 72), (0, .nameAndType 73 74), (0, u "getChar"), (0, u "([BI)C"), (24, u "(II[B)V"), (5, u "getChars"), (0, u "([BII[CI)V"), (0, .methodref 12 108), (0, .nameAndType 109 110), (0, u "newBytesFor"), (0, u "(I)[B"), (0, .methodref 12 112), (0, .nameAndType 113 114), (0, u "putChar"), (0, u "([BII)V"), (0, .methodref 12 116), (0, .nameAndType 117 118), (0, u "compress"), (0, u "([CI[BII)I"), (0, .methodref 12 120), (0, .nameAndType 121 122), (0, u "toBytes"), (0, u "([CII)[B"), (50, .methodref 12 174), (0, .nameAndType 175 99), (0, u "checkBoundsOffCount"), (85, u "coderFromArrayLen"), (0, u "([BI)B"), (18, u "(III)I"), (87, .class_ 371), (1, u "java/lang/StringUTF16$LinesSpliterator"), (20, u "charAt"), (21, .methodref 3 415), (0, .nameAndType 69 416), (0, u "(II)V"), (2, .methodref 3 420), (0, .nameAndType 175 281), (9, u "MAX_LENGTH"), (196, .class_ 628), (0, u "java/lang/StringUTF16$CodePointsSpliterator"), (0, .class_ 630), (0, u "java/lang/StringUTF16$CharsSpliterator")] 4

def k8m0 : Method := { name := "<init>", desc := "()V", sig := { parameters := [], returnType := none }, accessFlags := 0, code := none }
def k8c1 : Code := { maxStack := 1, maxLocals := 1, code := jdk_52_method_2_code, exceptionTable := #[], attributes := #[] }
def k8m1 : Method := { name := "newBytesFor", desc := "(I)[B", sig := { parameters := [.int], returnType := some (.array .byte) }, accessFlags := 9, code := some k8c1 }
def k8c2 : Code := { maxStack := 4, maxLocals := 1, code := jdk_52_method_3_code, exceptionTable := #[], attributes := #[] }
def k8m2 : Method := { name := "newBytesLength", desc := "(I)I", sig := { parameters := [.int], returnType := some .int }, accessFlags := 9, code := some k8c2 }
def k8c3 : Code := { maxStack := 4, maxLocals := 3, code := jdk_52_method_4_code, exceptionTable := #[], attributes := #[] }
def k8m3 : Method := { name := "putChar", desc := "([BII)V", sig := { parameters := [(.array .byte), .int, .int], returnType := none }, accessFlags := 8, code := some k8c3 }
def k8c4 : Code := { maxStack := 3, maxLocals := 2, code := jdk_52_method_5_code, exceptionTable := #[], attributes := #[] }
def k8m4 : Method := { name := "getChar", desc := "([BI)C", sig := { parameters := [(.array .byte), .int], returnType := some .char }, accessFlags := 8, code := some k8c4 }
def k8c5 : Code := { maxStack := 2, maxLocals := 1, code := jdk_52_method_6_code, exceptionTable := #[], attributes := #[] }
def k8m5 : Method := { name := "length", desc := "([B)I", sig := { parameters := [(.array .byte)], returnType := some .int }, accessFlags := 9, code := some k8c5 }
def k8c6 : Code := { maxStack := 4, maxLocals := 5, code := jdk_52_method_14_code, exceptionTable := #[], attributes := #[] }
def k8m6 : Method := { name := "toBytes", desc := "([CII)[B", sig := { parameters := [(.array .char), .int, .int], returnType := some (.array .byte) }, accessFlags := 9, code := some k8c6 }
def k8c7 : Code := { maxStack := 2, maxLocals := 2, code := jdk_52_method_15_code, exceptionTable := #[], attributes := #[] }
def k8m7 : Method := { name := "coderFromArrayLen", desc := "([BI)B", sig := { parameters := [(.array .byte), .int], returnType := some .byte }, accessFlags := 8, code := some k8c7 }
def k8c8 : Code := { maxStack := 5, maxLocals := 6, code := jdk_52_method_16_code, exceptionTable := #[], attributes := #[] }
def k8m8 : Method := { name := "compress", desc := "([CII)[B", sig := { parameters := [(.array .char), .int, .int], returnType := some (.array .byte) }, accessFlags := 9, code := some k8c8 }
def k8c9 : Code := { maxStack := 3, maxLocals := 7, code := jdk_52_method_21_code, exceptionTable := #[], attributes := #[] }
def k8m9 : Method := { name := "compress", desc := "([CI[BII)I", sig := { parameters := [(.array .char), .int, (.array .byte), .int, .int], returnType := some .int }, accessFlags := 9, code := some k8c9 }
def k8c10 : Code := { maxStack := 4, maxLocals := 6, code := jdk_52_method_26_code, exceptionTable := #[], attributes := #[] }
def k8m10 : Method := { name := "getChars", desc := "([BII[CI)V", sig := { parameters := [(.array .byte), .int, .int, (.array .char), .int], returnType := none }, accessFlags := 9, code := some k8c10 }
def k8c11 : Code := { maxStack := 2, maxLocals := 2, code := jdk_52_method_83_code, exceptionTable := #[], attributes := #[] }
def k8m11 : Method := { name := "charAt", desc := "([BI)C", sig := { parameters := [(.array .byte), .int], returnType := some .char }, accessFlags := 9, code := some k8c11 }
def k8c12 : Code := { maxStack := 2, maxLocals := 2, code := jdk_52_method_91_code, exceptionTable := #[], attributes := #[] }
def k8m12 : Method := { name := "checkIndex", desc := "(I[B)V", sig := { parameters := [.int, (.array .byte)], returnType := none }, accessFlags := 9, code := some k8c12 }
def k8c13 : Code := { maxStack := 3, maxLocals := 3, code := jdk_52_method_94_code, exceptionTable := #[], attributes := #[] }
def k8m13 : Method := { name := "checkBoundsOffCount", desc := "(II[B)V", sig := { parameters := [.int, .int, (.array .byte)], returnType := none }, accessFlags := 9, code := some k8c13 }
/-- java/lang/StringUTF16 -/
def k8 : Class := { plain "java/lang/StringUTF16" (some 0) with
  accessFlags := 48
  interfaces := #[]
  cf := some (fileOf pool8 12 #[.nestMembers #[627, 629, 369]] #[{ accessFlags := 0, nameIndex := 9, descriptorIndex := 10, attributes := #[] }, { accessFlags := 9, nameIndex := 109, descriptorIndex := 110, attributes := #[] }, { accessFlags := 9, nameIndex := 15, descriptorIndex := 16, attributes := #[] }, { accessFlags := 8, nameIndex := 113, descriptorIndex := 114, attributes := #[] }, { accessFlags := 8, nameIndex := 73, descriptorIndex := 74, attributes := #[] }, { accessFlags := 9, nameIndex := 50, descriptorIndex := 51, attributes := #[] }, { accessFlags := 9, nameIndex := 121, descriptorIndex := 122, attributes := #[] }, { accessFlags := 8, nameIndex := 261, descriptorIndex := 262, attributes := #[] }, { accessFlags := 9, nameIndex := 117, descriptorIndex := 122, attributes := #[] }, { accessFlags := 9, nameIndex := 117, descriptorIndex := 118, attributes := #[] }, { accessFlags := 9, nameIndex := 105, descriptorIndex := 106, attributes := #[] }, { accessFlags := 9, nameIndex := 392, descriptorIndex := 74, attributes := #[] }, { accessFlags := 9, nameIndex := 69, descriptorIndex := 70, attributes := #[] }, { accessFlags := 9, nameIndex := 175, descriptorIndex := 99, attributes := #[] }] 48 6 #[] #[{ accessFlags := 26, nameIndex := 61, descriptorIndex := 62, attributes := #[] }, { accessFlags := 26, nameIndex := 65, descriptorIndex := 62, attributes := #[] }, { accessFlags := 24, nameIndex := 430, descriptorIndex := 62, attributes := #[] }, { accessFlags := 4120, nameIndex := 46, descriptorIndex := 47, attributes := #[] }])
  fields := #[{ name := "HI_BYTE_SHIFT", type := .int, accessFlags := 26, slot := 0, constantValue := 0 }, { name := "LO_BYTE_SHIFT", type := .int, accessFlags := 26, slot := 1, constantValue := 0 }, { name := "MAX_LENGTH", type := .int, accessFlags := 24, slot := 2, constantValue := 0 }, { name := "$assertionsDisabled", type := .boolean, accessFlags := 4120, slot := 3, constantValue := 0 }]
  methods := #[k8m0, k8m1, k8m2, k8m3, k8m4, k8m5, k8m6, k8m7, k8m8, k8m9, k8m10, k8m11, k8m12, k8m13]
  instanceTypes := #[]
  staticTypes := #[.int, .int, .int, .boolean]
  resolved := Array.replicate 635 none
  statics := some 1 }

def pool9 : Array CpInfo := pool [(1, .class_ 2), (0, u "com/example/beleg/beleg/JsonOutput"), (0, .methodref 1 4), (0, .nameAndType 5 6), (0, u "<init>"), (0, u "([C)V"), (0, .methodref 8 9), (0, .class_ 10), (0, .nameAndType 5 11), (0, u "java/lang/Object"), (0, u "()V"), (0, .fieldref 1 13), (0, .nameAndType 14 15), (0, u "chars"), (0, u "[C"), (2, u "SPARE"), (0, u "Ljava/lang/ThreadLocal;"), (21, .methodref 1 42), (0, .nameAndType 43 44), (0, u "ensureRoom"), (0, u "(I)V"), (0, .fieldref 1 46), (0, .nameAndType 47 48), (0, u "length"), (0, u "I"), (0, .methodref 50 51), (0, .class_ 52), (0, .nameAndType 47 53), (0, u "java/lang/String"), (0, u "()I"), (0, .methodref 1 55), (0, .nameAndType 56 57), (0, u "append"), (0, u "(Ljava/lang/String;II)Lcom/example/beleg/beleg/JsonOutput;"), (0, .methodref 50 59), (0, .nameAndType 60 61), (0, u "getChars"), (0, u "(II[CI)V"), (10, u "DIGIT_PAIRS"), (2, u "plainNames"), (0, u "[Ljava/lang/String;"), (3, .methodref 50 81), (0, .nameAndType 5 82), (0, u "([CII)V"), (2, .long 2147483639), (10, .long 2), (1, .methodref 99 100), (0, .class_ 101), (0, .nameAndType 102 103), (0, u "java/lang/Math"), (0, u "max"), (0, u "(JJ)J"), (0, .methodref 99 105), (0, .nameAndType 106 103), (0, u "min"), (0, .methodref 108 109), (0, .class_ 110), (0, .nameAndType 111 112), (0, u "java/util/Arrays"), (0, u "copyOf"), (0, u "([CI)[C"), (2, u "NEGATIVE_POWERS"), (0, u "[J"), (13, u "INITIAL_CAPACITY"), (2, u "MAX_SPARE_CAPACITY"), (2, u "PLAIN_NAMES"), (6, u "(C)Lcom/example/beleg/beleg/JsonOutput;"), (0, u "(Ljava/lang/String;)Lcom/example/beleg/beleg/JsonOutput;"), (5, u "toString"), (0, u "()Ljava/lang/String;")] 19

def k9c0 : Code := { maxStack := 2, maxLocals := 1, code := prog_11_method_1_code, exceptionTable := #[], attributes := #[] }
def k9m0 : Method := { name := "<init>", desc := "()V", sig := { parameters := [], returnType := none }, accessFlags := 0, code := some k9c0 }
def k9c1 : Code := { maxStack := 2, maxLocals := 2, code := prog_11_method_2_code, exceptionTable := #[], attributes := #[] }
def k9m1 : Method := { name := "<init>", desc := "([C)V", sig := { parameters := [(.array .char)], returnType := none }, accessFlags := 2, code := some k9c1 }
def k9c2 : Code := { maxStack := 5, maxLocals := 2, code := prog_11_method_5_code, exceptionTable := #[], attributes := #[] }
def k9m2 : Method := { name := "append", desc := "(C)Lcom/example/beleg/beleg/JsonOutput;", sig := { parameters := [.char], returnType := some (.object "com/example/beleg/beleg/JsonOutput") }, accessFlags := 0, code := some k9c2 }
def k9c3 : Code := { maxStack := 4, maxLocals := 2, code := prog_11_method_6_code, exceptionTable := #[], attributes := #[] }
def k9m3 : Method := { name := "append", desc := "(Ljava/lang/String;)Lcom/example/beleg/beleg/JsonOutput;", sig := { parameters := [(.object "java/lang/String")], returnType := some (.object "com/example/beleg/beleg/JsonOutput") }, accessFlags := 0, code := some k9c3 }
def k9c4 : Code := { maxStack := 5, maxLocals := 4, code := prog_11_method_7_code, exceptionTable := #[], attributes := #[] }
def k9m4 : Method := { name := "append", desc := "(Ljava/lang/String;II)Lcom/example/beleg/beleg/JsonOutput;", sig := { parameters := [(.object "java/lang/String"), .int, .int], returnType := some (.object "com/example/beleg/beleg/JsonOutput") }, accessFlags := 0, code := some k9c4 }
def k9c5 : Code := { maxStack := 1, maxLocals := 1, code := prog_11_method_9_code, exceptionTable := #[], attributes := #[] }
def k9m5 : Method := { name := "length", desc := "()I", sig := { parameters := [], returnType := some .int }, accessFlags := 0, code := some k9c5 }
def k9c6 : Code := { maxStack := 5, maxLocals := 1, code := prog_11_method_13_code, exceptionTable := #[], attributes := #[] }
def k9m6 : Method := { name := "toString", desc := "()Ljava/lang/String;", sig := { parameters := [], returnType := some (.object "java/lang/String") }, accessFlags := 1, code := some k9c6 }
def k9c7 : Code := { maxStack := 10, maxLocals := 4, code := prog_11_method_14_code, exceptionTable := #[], attributes := #[] }
def k9m7 : Method := { name := "ensureRoom", desc := "(I)V", sig := { parameters := [.int], returnType := none }, accessFlags := 2, code := some k9c7 }
/-- com/example/beleg/beleg/JsonOutput -/
def k9 : Class := { plain "com/example/beleg/beleg/JsonOutput" (some 0) with
  accessFlags := 48
  interfaces := #[]
  cf := some (fileOf pool9 1 #[] #[{ accessFlags := 0, nameIndex := 5, descriptorIndex := 11, attributes := #[] }, { accessFlags := 2, nameIndex := 5, descriptorIndex := 6, attributes := #[] }, { accessFlags := 0, nameIndex := 56, descriptorIndex := 143, attributes := #[] }, { accessFlags := 0, nameIndex := 56, descriptorIndex := 144, attributes := #[] }, { accessFlags := 0, nameIndex := 56, descriptorIndex := 57, attributes := #[] }, { accessFlags := 0, nameIndex := 47, descriptorIndex := 53, attributes := #[] }, { accessFlags := 1, nameIndex := 150, descriptorIndex := 151, attributes := #[] }, { accessFlags := 2, nameIndex := 43, descriptorIndex := 44, attributes := #[] }] 48 8 #[] #[{ accessFlags := 26, nameIndex := 130, descriptorIndex := 48, attributes := #[] }, { accessFlags := 26, nameIndex := 133, descriptorIndex := 48, attributes := #[] }, { accessFlags := 26, nameIndex := 18, descriptorIndex := 19, attributes := #[] }, { accessFlags := 26, nameIndex := 72, descriptorIndex := 15, attributes := #[] }, { accessFlags := 26, nameIndex := 115, descriptorIndex := 116, attributes := #[] }, { accessFlags := 26, nameIndex := 136, descriptorIndex := 48, attributes := #[] }, { accessFlags := 2, nameIndex := 14, descriptorIndex := 15, attributes := #[] }, { accessFlags := 2, nameIndex := 47, descriptorIndex := 48, attributes := #[] }, { accessFlags := 2, nameIndex := 75, descriptorIndex := 76, attributes := #[] }])
  fields := #[{ name := "INITIAL_CAPACITY", type := .int, accessFlags := 26, slot := 0, constantValue := 0 }, { name := "MAX_SPARE_CAPACITY", type := .int, accessFlags := 26, slot := 1, constantValue := 0 }, { name := "SPARE", type := (.object "java/lang/ThreadLocal"), accessFlags := 26, slot := 2, constantValue := 0 }, { name := "DIGIT_PAIRS", type := (.array .char), accessFlags := 26, slot := 3, constantValue := 0 }, { name := "NEGATIVE_POWERS", type := (.array .long), accessFlags := 26, slot := 4, constantValue := 0 }, { name := "PLAIN_NAMES", type := .int, accessFlags := 26, slot := 5, constantValue := 0 }, { name := "chars", type := (.array .char), accessFlags := 2, slot := 0, constantValue := 0 }, { name := "length", type := .int, accessFlags := 2, slot := 1, constantValue := 0 }, { name := "plainNames", type := (.array (.object "java/lang/String")), accessFlags := 2, slot := 2, constantValue := 0 }]
  methods := #[k9m0, k9m1, k9m2, k9m3, k9m4, k9m5, k9m6, k9m7]
  instanceTypes := #[(.array .char), .int, (.array (.object "java/lang/String"))]
  staticTypes := #[.int, .int, (.object "java/lang/ThreadLocal"), (.array .char), (.array .long), .int]
  resolved := Array.replicate 171 none
  statics := none }

def pool10 : Array CpInfo := pool [(2, .class_ 4), (1, u "java/lang/Object"), (0, u "<init>"), (0, u "()V"), (17, .class_ 26), (1, u "jdk/internal/util/Preconditions"), (6, u "checkIndex"), (13, u "checkFromToIndex"), (1, u "checkFromIndexSize"), (5, .class_ 56), (0, u "jdk/internal/util/Preconditions$4"), (57, .class_ 115), (0, u "jdk/internal/util/Preconditions$1"), (7, u "SIOOBE_FORMATTER"), (0, u "Ljava/util/function/BiFunction;"), (0, .class_ 126), (0, u "jdk/internal/util/Preconditions$2"), (3, u "AIOOBE_FORMATTER"), (0, .class_ 132), (0, u "jdk/internal/util/Preconditions$3"), (3, u "IOOBE_FORMATTER"), (41, u "(IILjava/util/function/BiFunction;)I"), (4, u "(IIILjava/util/function/BiFunction;)I")] 10

def k10m0 : Method := { name := "<init>", desc := "()V", sig := { parameters := [], returnType := none }, accessFlags := 1, code := none }
def k10c1 : Code := { maxStack := 3, maxLocals := 3, code := jdk_41_method_11_code, exceptionTable := #[], attributes := #[] }
def k10m1 : Method := { name := "checkIndex", desc := "(IILjava/util/function/BiFunction;)I", sig := { parameters := [.int, .int, (.object "java/util/function/BiFunction")], returnType := some .int }, accessFlags := 9, code := some k10c1 }
def k10c2 : Code := { maxStack := 4, maxLocals := 4, code := jdk_41_method_12_code, exceptionTable := #[], attributes := #[] }
def k10m2 : Method := { name := "checkFromToIndex", desc := "(IIILjava/util/function/BiFunction;)I", sig := { parameters := [.int, .int, .int, (.object "java/util/function/BiFunction")], returnType := some .int }, accessFlags := 9, code := some k10c2 }
def k10c3 : Code := { maxStack := 4, maxLocals := 4, code := jdk_41_method_13_code, exceptionTable := #[], attributes := #[] }
def k10m3 : Method := { name := "checkFromIndexSize", desc := "(IIILjava/util/function/BiFunction;)I", sig := { parameters := [.int, .int, .int, (.object "java/util/function/BiFunction")], returnType := some .int }, accessFlags := 9, code := some k10c3 }
/-- jdk/internal/util/Preconditions -/
def k10 : Class := { plain "jdk/internal/util/Preconditions" (some 0) with
  accessFlags := 33
  interfaces := #[]
  cf := some (fileOf pool10 24 #[.nestMembers #[55, 131, 125, 114]] #[{ accessFlags := 1, nameIndex := 5, descriptorIndex := 6, attributes := #[] }, { accessFlags := 9, nameIndex := 33, descriptorIndex := 178, attributes := #[] }, { accessFlags := 9, nameIndex := 47, descriptorIndex := 183, attributes := #[] }, { accessFlags := 9, nameIndex := 49, descriptorIndex := 183, attributes := #[] }] 33 2 #[] #[{ accessFlags := 25, nameIndex := 123, descriptorIndex := 124, attributes := #[] }, { accessFlags := 25, nameIndex := 130, descriptorIndex := 124, attributes := #[] }, { accessFlags := 25, nameIndex := 136, descriptorIndex := 124, attributes := #[] }])
  fields := #[{ name := "SIOOBE_FORMATTER", type := (.object "java/util/function/BiFunction"), accessFlags := 25, slot := 0, constantValue := 0 }, { name := "AIOOBE_FORMATTER", type := (.object "java/util/function/BiFunction"), accessFlags := 25, slot := 1, constantValue := 0 }, { name := "IOOBE_FORMATTER", type := (.object "java/util/function/BiFunction"), accessFlags := 25, slot := 2, constantValue := 0 }]
  methods := #[k10m0, k10m1, k10m2, k10m3]
  instanceTypes := #[]
  staticTypes := #[(.object "java/util/function/BiFunction"), (.object "java/util/function/BiFunction"), (.object "java/util/function/BiFunction")]
  resolved := Array.replicate 194 none
  statics := some 2 }

def pool11 : Array CpInfo := pool [(1, .class_ 2), (0, u "java/lang/String"), (1, .class_ 6), (1, u "java/lang/Object"), (0, u "<init>"), (0, u "()V"), (0, .methodref 1 10), (0, .nameAndType 11 12), (0, u "checkIndex"), (0, u "(II)V"), (0, .methodref 14 15), (0, .class_ 16), (0, .nameAndType 17 18), (0, u "java/lang/StringLatin1"), (0, u "inflate"), (0, u "([BI[CII)V"), (34, u "([BI)C"), (67, u "$assertionsDisabled"), (0, u "Z"), (98, .class_ 223), (1, u "java/lang/StringLatin1$LinesSpliterator"), (28, u "charAt"), (21, u "getChars"), (0, u "([BII[CI)V"), (5, u "equals"), (0, u "([B[B)Z"), (107, .class_ 391), (0, u "java/lang/StringLatin1$CharsSpliterator")] 3

def k11m0 : Method := { name := "<init>", desc := "()V", sig := { parameters := [], returnType := none }, accessFlags := 0, code := none }
def k11c1 : Code := { maxStack := 2, maxLocals := 2, code := jdk_43_method_2_code, exceptionTable := #[], attributes := #[] }
def k11m1 : Method := { name := "charAt", desc := "([BI)C", sig := { parameters := [(.array .byte), .int], returnType := some .char }, accessFlags := 9, code := some k11c1 }
def k11c2 : Code := { maxStack := 6, maxLocals := 5, code := jdk_43_method_11_code, exceptionTable := #[], attributes := #[] }
def k11m2 : Method := { name := "getChars", desc := "([BII[CI)V", sig := { parameters := [(.array .byte), .int, .int, (.array .char), .int], returnType := none }, accessFlags := 9, code := some k11c2 }
def k11c3 : Code := { maxStack := 3, maxLocals := 3, code := jdk_43_method_13_code, exceptionTable := #[], attributes := #[] }
def k11m3 : Method := { name := "equals", desc := "([B[B)Z", sig := { parameters := [(.array .byte), (.array .byte)], returnType := some .boolean }, accessFlags := 9, code := some k11c3 }
def k11c4 : Code := { maxStack := 4, maxLocals := 6, code := jdk_43_method_49_code, exceptionTable := #[], attributes := #[] }
def k11m4 : Method := { name := "inflate", desc := "([BI[CII)V", sig := { parameters := [(.array .byte), .int, (.array .char), .int, .int], returnType := none }, accessFlags := 9, code := some k11c4 }
/-- java/lang/StringLatin1 -/
def k11 : Class := { plain "java/lang/StringLatin1" (some 0) with
  accessFlags := 48
  interfaces := #[]
  cf := some (fileOf pool11 14 #[.nestMembers #[390, 221]] #[{ accessFlags := 0, nameIndex := 7, descriptorIndex := 8, attributes := #[] }, { accessFlags := 9, nameIndex := 252, descriptorIndex := 53, attributes := #[] }, { accessFlags := 9, nameIndex := 274, descriptorIndex := 275, attributes := #[] }, { accessFlags := 9, nameIndex := 281, descriptorIndex := 282, attributes := #[] }, { accessFlags := 9, nameIndex := 17, descriptorIndex := 18, attributes := #[] }] 48 4 #[] #[{ accessFlags := 4120, nameIndex := 121, descriptorIndex := 122, attributes := #[] }])
  fields := #[{ name := "$assertionsDisabled", type := .boolean, accessFlags := 4120, slot := 0, constantValue := 0 }]
  methods := #[k11m0, k11m1, k11m2, k11m3, k11m4]
  instanceTypes := #[]
  staticTypes := #[.boolean]
  resolved := Array.replicate 395 none
  statics := none }

def pool12 : Array CpInfo := pool [(1, .class_ 2), (0, u "java/lang/Math"), (1, .class_ 6), (1, u "java/lang/Object"), (0, u "<init>"), (0, u "()V"), (89, .class_ 100), (1, u "java/lang/Math$RandomNumberGeneratorHolder"), (20, u "(JJ)J"), (50, u "negativeZeroFloatBits"), (0, u "J"), (2, u "negativeZeroDoubleBits"), (21, u "max"), (2, u "min"), (43, u "$assertionsDisabled"), (0, u "Z"), (88, u "(II)I"), (2, u "twoToTheDoubleScaleDown"), (0, u "D"), (4, u "twoToTheDoubleScaleUp"), (9, u "E"), (3, u "PI"), (2, u "TAU"), (2, u "DEGREES_TO_RADIANS"), (0, u "RADIANS_TO_DEGREES")] 94

def k12m0 : Method := { name := "<init>", desc := "()V", sig := { parameters := [], returnType := none }, accessFlags := 2, code := none }
def k12c1 : Code := { maxStack := 4, maxLocals := 4, code := jdk_29_method_66_code, exceptionTable := #[], attributes := #[] }
def k12m1 : Method := { name := "max", desc := "(JJ)J", sig := { parameters := [.long, .long], returnType := some .long }, accessFlags := 9, code := some k12c1 }
def k12c2 : Code := { maxStack := 2, maxLocals := 2, code := jdk_29_method_69_code, exceptionTable := #[], attributes := #[] }
def k12m2 : Method := { name := "min", desc := "(II)I", sig := { parameters := [.int, .int], returnType := some .int }, accessFlags := 9, code := some k12c2 }
def k12c3 : Code := { maxStack := 4, maxLocals := 4, code := jdk_29_method_70_code, exceptionTable := #[], attributes := #[] }
def k12m3 : Method := { name := "min", desc := "(JJ)J", sig := { parameters := [.long, .long], returnType := some .long }, accessFlags := 9, code := some k12c3 }
/-- java/lang/Math -/
def k12 : Class := { plain "java/lang/Math" (some 0) with
  accessFlags := 49
  interfaces := #[]
  cf := some (fileOf pool12 1 #[.nestMembers #[98]] #[{ accessFlags := 2, nameIndex := 7, descriptorIndex := 8, attributes := #[] }, { accessFlags := 9, nameIndex := 198, descriptorIndex := 121, attributes := #[] }, { accessFlags := 9, nameIndex := 201, descriptorIndex := 335, attributes := #[] }, { accessFlags := 9, nameIndex := 201, descriptorIndex := 121, attributes := #[] }] 49 4 #[] #[{ accessFlags := 25, nameIndex := 354, descriptorIndex := 339, attributes := #[] }, { accessFlags := 25, nameIndex := 358, descriptorIndex := 339, attributes := #[] }, { accessFlags := 25, nameIndex := 361, descriptorIndex := 339, attributes := #[] }, { accessFlags := 26, nameIndex := 364, descriptorIndex := 339, attributes := #[] }, { accessFlags := 26, nameIndex := 365, descriptorIndex := 339, attributes := #[] }, { accessFlags := 26, nameIndex := 172, descriptorIndex := 173, attributes := #[] }, { accessFlags := 26, nameIndex := 176, descriptorIndex := 173, attributes := #[] }, { accessFlags := 8, nameIndex := 344, descriptorIndex := 339, attributes := #[] }, { accessFlags := 8, nameIndex := 338, descriptorIndex := 339, attributes := #[] }, { accessFlags := 4120, nameIndex := 245, descriptorIndex := 246, attributes := #[] }])
  fields := #[{ name := "E", type := .double, accessFlags := 25, slot := 0, constantValue := 0 }, { name := "PI", type := .double, accessFlags := 25, slot := 1, constantValue := 0 }, { name := "TAU", type := .double, accessFlags := 25, slot := 2, constantValue := 0 }, { name := "DEGREES_TO_RADIANS", type := .double, accessFlags := 26, slot := 3, constantValue := 0 }, { name := "RADIANS_TO_DEGREES", type := .double, accessFlags := 26, slot := 4, constantValue := 0 }, { name := "negativeZeroFloatBits", type := .long, accessFlags := 26, slot := 5, constantValue := 0 }, { name := "negativeZeroDoubleBits", type := .long, accessFlags := 26, slot := 6, constantValue := 0 }, { name := "twoToTheDoubleScaleUp", type := .double, accessFlags := 8, slot := 7, constantValue := 0 }, { name := "twoToTheDoubleScaleDown", type := .double, accessFlags := 8, slot := 8, constantValue := 0 }, { name := "$assertionsDisabled", type := .boolean, accessFlags := 4120, slot := 9, constantValue := 0 }]
  methods := #[k12m0, k12m1, k12m2, k12m3]
  instanceTypes := #[]
  staticTypes := #[.double, .double, .double, .double, .double, .long, .long, .double, .double, .boolean]
  resolved := Array.replicate 460 none
  statics := none }

def pool13 : Array CpInfo := pool [(2, .class_ 4), (1, u "java/lang/Object"), (0, u "<init>"), (0, u "()V"), (7, .class_ 16), (1, u "java/util/Arrays"), (57, .class_ 76), (1, u "java/util/Arrays$NaturalOrder"), (36, .class_ 115), (1, u "java/util/Arrays$LegacyMergeSort"), (1, u "Z"), (32, .methodref 151 152), (0, .class_ 153), (0, .nameAndType 154 155), (0, u "java/lang/System"), (0, u "arraycopy"), (0, u "(Ljava/lang/Object;ILjava/lang/Object;II)V"), (146, u "copyOf"), (1, .methodref 305 306), (0, .class_ 307), (0, .nameAndType 308 309), (0, u "java/lang/Math"), (0, u "min"), (0, u "(II)I"), (65, .class_ 376), (0, u "java/util/Arrays$ArrayList"), (68, u "$assertionsDisabled"), (269, u "MIN_ARRAY_SORT_GRAN"), (0, u "I"), (2, u "INSERTIONSORT_THRESHOLD"), (153, u "([CI)[C"), (101, .class_ 976), (0, u "java/util/Arrays$ArrayItr")] 52

def k13m0 : Method := { name := "<init>", desc := "()V", sig := { parameters := [], returnType := none }, accessFlags := 2, code := none }
def k13c1 : Code := { maxStack := 6, maxLocals := 3, code := jdk_65_method_125_code, exceptionTable := #[], attributes := #[] }
def k13m1 : Method := { name := "copyOf", desc := "([CI)[C", sig := { parameters := [(.array .char), .int], returnType := some (.array .char) }, accessFlags := 9, code := some k13c1 }
/-- java/util/Arrays -/
def k13 : Class := { plain "java/util/Arrays" (some 0) with
  accessFlags := 49
  interfaces := #[]
  cf := some (fileOf pool13 14 #[.nestMembers #[975, 375, 113, 74]] #[{ accessFlags := 2, nameIndex := 5, descriptorIndex := 6, attributes := #[] }, { accessFlags := 9, nameIndex := 302, descriptorIndex := 873, attributes := #[] }] 49 2 #[] #[{ accessFlags := 26, nameIndex := 715, descriptorIndex := 716, attributes := #[] }, { accessFlags := 26, nameIndex := 719, descriptorIndex := 716, attributes := #[] }, { accessFlags := 4120, nameIndex := 445, descriptorIndex := 117, attributes := #[] }])
  fields := #[{ name := "MIN_ARRAY_SORT_GRAN", type := .int, accessFlags := 26, slot := 0, constantValue := 0 }, { name := "INSERTIONSORT_THRESHOLD", type := .int, accessFlags := 26, slot := 1, constantValue := 0 }, { name := "$assertionsDisabled", type := .boolean, accessFlags := 4120, slot := 2, constantValue := 0 }]
  methods := #[k13m0, k13m1]
  instanceTypes := #[]
  staticTypes := #[.int, .int, .boolean]
  resolved := Array.replicate 1029 none
  statics := none }

def pool14 : Array CpInfo := pool [(2, .class_ 4), (1, u "java/lang/Object"), (0, u "<init>"), (0, u "()V"), (1, .class_ 10), (1, u "java/lang/System"), (0, u "allowSecurityManager"), (0, u "I"), (16, u "cons"), (0, u "Ljava/io/Console;"), (77, .class_ 110), (1, u "java/lang/System$CallersHolder"), (43, u "initialErrStream"), (0, u "Ljava/io/PrintStream;"), (19, u "security"), (0, u "Ljava/lang/SecurityManager;"), (31, .class_ 209), (0, u "java/lang/System$1"), (7, u "props"), (0, u "Ljava/util/Properties;"), (2, u "lineSeparator"), (0, u "Ljava/lang/String;"), (96, .class_ 321), (1, u "java/lang/System$LoggerFinder"), (5, .class_ 328), (0, u "java/lang/System$Logger"), (67, u "err"), (2, u "out"), (91, u "notSupportedJnuEncoding"), (15, u "in"), (17, u "initialIn"), (0, u "Ljava/io/InputStream;"), (35, u "bootLayer"), (0, u "Ljava/lang/ModuleLayer;"), (99, .class_ 664), (0, u "java/lang/System$2"), (9, u "NEVER"), (2, u "MAYBE"), (49, u "arraycopy"), (0, u "(Ljava/lang/Object;ILjava/lang/Object;II)V"), (72, .class_ 802), (0, u "java/lang/System$Logger$Level")] 31

def k14m0 : Method := { name := "<init>", desc := "()V", sig := { parameters := [], returnType := none }, accessFlags := 2, code := none }
def k14m1 : Method := { name := "arraycopy", desc := "(Ljava/lang/Object;ILjava/lang/Object;II)V", sig := { parameters := [(.object "java/lang/Object"), .int, (.object "java/lang/Object"), .int, .int], returnType := none }, accessFlags := 265, code := none }
/-- java/lang/System -/
def k14 : Class := { plain "java/lang/System" (some 0) with
  accessFlags := 49
  interfaces := #[]
  cf := some (fileOf pool14 8 #[.nestMembers #[319, 327, 801, 108, 663, 208]] #[{ accessFlags := 2, nameIndex := 5, descriptorIndex := 6, attributes := #[] }, { accessFlags := 265, nameIndex := 727, descriptorIndex := 728, attributes := #[] }] 49 2 #[] #[{ accessFlags := 25, nameIndex := 507, descriptorIndex := 526, attributes := #[] }, { accessFlags := 25, nameIndex := 399, descriptorIndex := 155, attributes := #[] }, { accessFlags := 25, nameIndex := 396, descriptorIndex := 155, attributes := #[] }, { accessFlags := 10, nameIndex := 525, descriptorIndex := 526, attributes := #[] }, { accessFlags := 26, nameIndex := 674, descriptorIndex := 12, attributes := #[] }, { accessFlags := 26, nameIndex := 677, descriptorIndex := 12, attributes := #[] }, { accessFlags := 10, nameIndex := 11, descriptorIndex := 12, attributes := #[] }, { accessFlags := 74, nameIndex := 175, descriptorIndex := 176, attributes := #[] }, { accessFlags := 10, nameIndex := 491, descriptorIndex := 222, attributes := #[] }, { accessFlags := 74, nameIndex := 29, descriptorIndex := 30, attributes := #[] }, { accessFlags := 74, nameIndex := 154, descriptorIndex := 155, attributes := #[] }, { accessFlags := 10, nameIndex := 217, descriptorIndex := 218, attributes := #[] }, { accessFlags := 10, nameIndex := 221, descriptorIndex := 222, attributes := #[] }, { accessFlags := 8, nameIndex := 562, descriptorIndex := 563, attributes := #[] }])
  fields := #[{ name := "in", type := (.object "java/io/InputStream"), accessFlags := 25, slot := 0, constantValue := 0 }, { name := "out", type := (.object "java/io/PrintStream"), accessFlags := 25, slot := 1, constantValue := 0 }, { name := "err", type := (.object "java/io/PrintStream"), accessFlags := 25, slot := 2, constantValue := 0 }, { name := "initialIn", type := (.object "java/io/InputStream"), accessFlags := 10, slot := 3, constantValue := 0 }, { name := "NEVER", type := .int, accessFlags := 26, slot := 4, constantValue := 0 }, { name := "MAYBE", type := .int, accessFlags := 26, slot := 5, constantValue := 0 }, { name := "allowSecurityManager", type := .int, accessFlags := 10, slot := 6, constantValue := 0 }, { name := "security", type := (.object "java/lang/SecurityManager"), accessFlags := 74, slot := 7, constantValue := 0 }, { name := "notSupportedJnuEncoding", type := (.object "java/lang/String"), accessFlags := 10, slot := 8, constantValue := 0 }, { name := "cons", type := (.object "java/io/Console"), accessFlags := 74, slot := 9, constantValue := 0 }, { name := "initialErrStream", type := (.object "java/io/PrintStream"), accessFlags := 74, slot := 10, constantValue := 0 }, { name := "props", type := (.object "java/util/Properties"), accessFlags := 10, slot := 11, constantValue := 0 }, { name := "lineSeparator", type := (.object "java/lang/String"), accessFlags := 10, slot := 12, constantValue := 0 }, { name := "bootLayer", type := (.object "java/lang/ModuleLayer"), accessFlags := 8, slot := 13, constantValue := 0 }]
  methods := #[k14m0, k14m1]
  instanceTypes := #[]
  staticTypes := #[(.object "java/io/InputStream"), (.object "java/io/PrintStream"), (.object "java/io/PrintStream"), (.object "java/io/InputStream"), .int, .int, .int, (.object "java/lang/SecurityManager"), (.object "java/lang/String"), (.object "java/io/Console"), (.object "java/io/PrintStream"), (.object "java/util/Properties"), (.object "java/lang/String"), (.object "java/lang/ModuleLayer")]
  resolved := Array.replicate 834 none
  statics := none }

def pool15 : Array CpInfo := pool [(9, u "<init>"), (6, .class_ 18), (1, u "java/lang/Object"), (0, u "()V"), (1, .class_ 23), (1, u "jdk/internal/util/ArraysSupport"), (0, u "LOG2_ARRAY_LONG_INDEX_SCALE"), (0, u "I"), (2, u "U"), (0, u "Ljdk/internal/misc/Unsafe;"), (8, u "BIG_ENDIAN"), (0, u "Z"), (8, u "LOG2_BYTE_BIT_SIZE"), (4, u "LOG2_ARRAY_INT_INDEX_SCALE"), (54, u "JLA"), (0, u "Ljdk/internal/access/JavaLangAccess;"), (11, u "LOG2_ARRAY_BOOLEAN_INDEX_SCALE"), (9, u "LOG2_ARRAY_BYTE_INDEX_SCALE"), (5, u "LOG2_ARRAY_CHAR_INDEX_SCALE"), (5, u "LOG2_ARRAY_SHORT_INDEX_SCALE"), (18, u "LOG2_ARRAY_FLOAT_INDEX_SCALE"), (24, u "LOG2_ARRAY_DOUBLE_INDEX_SCALE"), (89, u "T_BOOLEAN"), (2, u "T_CHAR"), (1, u "T_FLOAT"), (1, u "T_DOUBLE"), (1, u "T_BYTE"), (1, u "T_SHORT"), (1, u "T_INT"), (1, u "T_LONG"), (1, u "SOFT_MAX_ARRAY_LENGTH")] 83

def k15m0 : Method := { name := "<init>", desc := "()V", sig := { parameters := [], returnType := none }, accessFlags := 2, code := none }
/-- jdk/internal/util/ArraysSupport -/
def k15 : Class := { plain "jdk/internal/util/ArraysSupport" (some 0) with
  accessFlags := 33
  interfaces := #[]
  cf := some (fileOf pool15 21 #[] #[{ accessFlags := 2, nameIndex := 9, descriptorIndex := 19, attributes := #[] }] 33 16 #[] #[{ accessFlags := 24, nameIndex := 28, descriptorIndex := 29, attributes := #[] }, { accessFlags := 26, nameIndex := 38, descriptorIndex := 39, attributes := #[] }, { accessFlags := 25, nameIndex := 121, descriptorIndex := 25, attributes := #[] }, { accessFlags := 25, nameIndex := 131, descriptorIndex := 25, attributes := #[] }, { accessFlags := 25, nameIndex := 137, descriptorIndex := 25, attributes := #[] }, { accessFlags := 25, nameIndex := 143, descriptorIndex := 25, attributes := #[] }, { accessFlags := 25, nameIndex := 53, descriptorIndex := 25, attributes := #[] }, { accessFlags := 25, nameIndex := 24, descriptorIndex := 25, attributes := #[] }, { accessFlags := 25, nameIndex := 162, descriptorIndex := 25, attributes := #[] }, { accessFlags := 25, nameIndex := 187, descriptorIndex := 25, attributes := #[] }, { accessFlags := 26, nameIndex := 48, descriptorIndex := 25, attributes := #[] }, { accessFlags := 25, nameIndex := 277, descriptorIndex := 25, attributes := #[] }, { accessFlags := 25, nameIndex := 280, descriptorIndex := 25, attributes := #[] }, { accessFlags := 25, nameIndex := 282, descriptorIndex := 25, attributes := #[] }, { accessFlags := 25, nameIndex := 284, descriptorIndex := 25, attributes := #[] }, { accessFlags := 25, nameIndex := 286, descriptorIndex := 25, attributes := #[] }, { accessFlags := 25, nameIndex := 288, descriptorIndex := 25, attributes := #[] }, { accessFlags := 25, nameIndex := 290, descriptorIndex := 25, attributes := #[] }, { accessFlags := 25, nameIndex := 292, descriptorIndex := 25, attributes := #[] }, { accessFlags := 26, nameIndex := 108, descriptorIndex := 109, attributes := #[] }, { accessFlags := 25, nameIndex := 294, descriptorIndex := 25, attributes := #[] }])
  fields := #[{ name := "U", type := (.object "jdk/internal/misc/Unsafe"), accessFlags := 24, slot := 0, constantValue := 0 }, { name := "BIG_ENDIAN", type := .boolean, accessFlags := 26, slot := 1, constantValue := 0 }, { name := "LOG2_ARRAY_BOOLEAN_INDEX_SCALE", type := .int, accessFlags := 25, slot := 2, constantValue := 0 }, { name := "LOG2_ARRAY_BYTE_INDEX_SCALE", type := .int, accessFlags := 25, slot := 3, constantValue := 0 }, { name := "LOG2_ARRAY_CHAR_INDEX_SCALE", type := .int, accessFlags := 25, slot := 4, constantValue := 0 }, { name := "LOG2_ARRAY_SHORT_INDEX_SCALE", type := .int, accessFlags := 25, slot := 5, constantValue := 0 }, { name := "LOG2_ARRAY_INT_INDEX_SCALE", type := .int, accessFlags := 25, slot := 6, constantValue := 0 }, { name := "LOG2_ARRAY_LONG_INDEX_SCALE", type := .int, accessFlags := 25, slot := 7, constantValue := 0 }, { name := "LOG2_ARRAY_FLOAT_INDEX_SCALE", type := .int, accessFlags := 25, slot := 8, constantValue := 0 }, { name := "LOG2_ARRAY_DOUBLE_INDEX_SCALE", type := .int, accessFlags := 25, slot := 9, constantValue := 0 }, { name := "LOG2_BYTE_BIT_SIZE", type := .int, accessFlags := 26, slot := 10, constantValue := 0 }, { name := "T_BOOLEAN", type := .int, accessFlags := 25, slot := 11, constantValue := 0 }, { name := "T_CHAR", type := .int, accessFlags := 25, slot := 12, constantValue := 0 }, { name := "T_FLOAT", type := .int, accessFlags := 25, slot := 13, constantValue := 0 }, { name := "T_DOUBLE", type := .int, accessFlags := 25, slot := 14, constantValue := 0 }, { name := "T_BYTE", type := .int, accessFlags := 25, slot := 15, constantValue := 0 }, { name := "T_SHORT", type := .int, accessFlags := 25, slot := 16, constantValue := 0 }, { name := "T_INT", type := .int, accessFlags := 25, slot := 17, constantValue := 0 }, { name := "T_LONG", type := .int, accessFlags := 25, slot := 18, constantValue := 0 }, { name := "JLA", type := (.object "jdk/internal/access/JavaLangAccess"), accessFlags := 26, slot := 19, constantValue := 0 }, { name := "SOFT_MAX_ARRAY_LENGTH", type := .int, accessFlags := 25, slot := 20, constantValue := 0 }]
  methods := #[k15m0]
  instanceTypes := #[]
  staticTypes := #[(.object "jdk/internal/misc/Unsafe"), .boolean, .int, .int, .int, .int, .int, .int, .int, .int, .int, .int, .int, .int, .int, .int, .int, .int, .int, (.object "jdk/internal/access/JavaLangAccess"), .int]
  resolved := Array.replicate 378 none
  statics := none }

def pool16 : Array CpInfo := pool [(1, u "java/lang/Cloneable"), (0, .class_ 1), (0, u "java/lang/Object"), (0, .class_ 3)] 3

/-- java/lang/Cloneable -/
def k16 : Class := { plain "java/lang/Cloneable" (some 0) with
  accessFlags := 1537
  interfaces := #[]
  cf := some (fileOf pool16 2 #[] #[] 1537 4 #[] #[])
  fields := #[]
  methods := #[]
  instanceTypes := #[]
  staticTypes := #[]
  resolved := Array.replicate 8 none
  statics := none }

/-- the primitive byte -/
def k17 : Class := { plain "byte" none with kind := .primitive 'B', accessFlags := 0x411 }
/-- [B -/
def k18 : Class := { plain "[B" (some 0) with kind := .array 17 .byte, interfaces := #[16, 2], accessFlags := 1041 }

/-- the primitive char -/
def k19 : Class := { plain "char" none with kind := .primitive 'C', accessFlags := 0x411 }
/-- [C -/
def k20 : Class := { plain "[C" (some 0) with kind := .array 19 .char, interfaces := #[16, 2], accessFlags := 1041 }

/-- the primitive int -/
def k21 : Class := { plain "int" none with kind := .primitive 'I', accessFlags := 0x411 }
/-- [I -/
def k22 : Class := { plain "[I" (some 0) with kind := .array 21 .int, interfaces := #[16, 2], accessFlags := 1041 }

def heap : Heap := #[{ cls := 7, slots := #[.long 0, .int 1, .null, .int 0, .null, .int 0, .int 0], vm := .statics 7 },
  { cls := 8, slots := #[.int 0, .int 8, .int 0, .int 1], vm := .statics 8 },
  { cls := 10, slots := #[.null, .null, .null], vm := .statics 10 }]
def classes : Array Class := #[k0, k1, k2, k3, k4, k5, k6, k7, k8, k9, k10, k11, k12, k13, k14, k15, k16, k17, k18, k19, k20, k21, k22]
def interned : List (Array UInt16 × Addr) := []
def slotsUsed : Nat := 14
def theMethod : MethodId := ⟨1, 1⟩
def args0 : Array Value := #[.int 5, .int 6, .int 7, .int 2, .int 3]
def aboutOver (below : List Frame) : State where
  vm := { classes := classes, interned := interned.toArray }
  heap := heap
  slotsUsed := slotsUsed
  threads := #[{ frames := .invoking theMethod args0 :: below }]
def below0 : List Frame := [.native { method := ⟨0, 0⟩, args := #[] }]
def about1 : State := aboutOver below0
def p0 : Program := .bare "" "" ""
def e0 : Env := launch0.env 0 0 0
theorem w_frames : about1.frames = Frame.invoking theMethod args0 :: below0 := rfl
set_option maxRecDepth 65536 in
theorem w_args : argsFit about1.vm theMethod args0 = true := by decide +kernel
set_option maxRecDepth 65536 in
theorem w_heap : heapFits about1 = true := by decide +kernel
set_option maxRecDepth 65536 in
theorem w_runnable : about1.curStatus? = some .runnable := by decide +kernel
set_option maxRecDepth 65536 in
theorem w_alone : about1.alone = true := by decide +kernel
set_option maxRecDepth 65536 in
theorem w_named : about1.methodNamed? x = some theMethod := by decide +kernel
set_option maxRecDepth 65536 in
theorem w_hears : about1.hears theMethod below0 = true := by decide +kernel
set_option maxRecDepth 65536 in
theorem w_ripe : about1.ripe theMethod args0 below0 = true := by decide +kernel
theorem w_running : about1.status = .running := rfl
set_option maxRecDepth 65536 in
theorem w_room : about1.hasRoom e0.platform room_1 = true :=
  launch0.hasRoom_least _ room_1 (by decide +kernel) (by decide +kernel) (by decide +kernel) (by decide +kernel) (by decide +kernel) (by decide +kernel)
theorem allAtoms_all (ts : List Jvm.Cond) (a : Array Jvm.Value) (st : Jvm.State) : (allAtoms ts).before a st = ts.all (fun c => c.before a st) := by
  induction ts with
  | nil => rfl
  | cons c t ih =>
    show (Jvm.Cond.and c (allAtoms t)).before a st = _
    rw [Jvm.Cond.before_and, ih, List.all_cons]
def words1 : List Jvm.Cond := Jvm.Cond.code x code maxLocals ret :: tables_1
/-- a 'code' word, met by the world's own term for the bytes: nothing is compared byte by byte -/
theorem code_word {y : MethodName} {bytes : ByteArray} {mx : Nat} {rt : Option FieldType} {a : Array Value} {s : State} {m : MethodId} {meth : Method} {c : Code} (h1 : s.methodNamed? y = some m) (h2 : s.vm.method? m = some meth) (h3 : meth.code = some c) (h4 : c.code = bytes)
    (h5 : (c.maxLocals == mx && c.exceptionTable.isEmpty && decide (c.maxStack ≤ mostOperands) && decide (meth.sig.returnType = rt) && !meth.locks && decide (parseMethodDescriptor y.desc = some meth.sig)) = true) : (Jvm.Cond.code y bytes mx rt).before a s = true := by
  simp only [Bool.and_eq_true, beq_iff_eq, Bool.not_eq_true', decide_eq_true_eq] at h5
  obtain ⟨⟨⟨⟨⟨g1, g2⟩, g3⟩, g4⟩, g5⟩, g6⟩ := h5
  simp [Cond.before, Cond.holds, Cond.value, h1, h2, h3, h4, g1, g2, g3, g4, g5, g6]
def isCode : Jvm.Cond → Bool
  | .code _ _ _ _ => true
  | _ => false
theorem all_split {L : List Jvm.Cond} {P : Jvm.Cond → Bool} (h1 : L.all (fun c => isCode c || P c) = true) (h2 : ∀ c ∈ L.filter isCode, P c = true) : L.all P = true := by
  refine List.all_eq_true.mpr fun c hc => ?_
  have h := List.all_eq_true.mp h1 c hc
  rcases Bool.eq_false_or_eq_true (isCode c) with hi | hi
  · exact h2 c (List.mem_filter.mpr ⟨hc, hi⟩)
  · simpa [hi] using h
set_option maxRecDepth 65536 in
theorem w_c0 : (Jvm.Cond.code x code maxLocals ret).before args0 about1 = true := code_word (m := ⟨1, 1⟩) (meth := k1m1) (c := k1c1) (by decide +kernel) rfl rfl rfl (by decide +kernel)
set_option maxRecDepth 65536 in
theorem w_c1 : (Jvm.Cond.code ({ cls := "java/lang/String", name := "<init>", desc := "([C)V" } : Jvm.MethodName) jdk_42_method_3_code (2 : Nat) (Option.none : Option Jvm.ClassFile.FieldType)).before args0 about1 = true := code_word (m := ⟨7, 1⟩) (meth := k7m1) (c := k7c1) (by decide +kernel) rfl rfl rfl (by decide +kernel)
set_option maxRecDepth 65536 in
theorem w_c2 : (Jvm.Cond.code ({ cls := "java/lang/String", name := "<init>", desc := "([CIILjava/lang/Void;)V" } : Jvm.MethodName) jdk_42_method_149_code (6 : Nat) (Option.none : Option Jvm.ClassFile.FieldType)).before args0 about1 = true := code_word (m := ⟨7, 8⟩) (meth := k7m8) (c := k7c8) (by decide +kernel) rfl rfl rfl (by decide +kernel)
set_option maxRecDepth 65536 in
theorem w_c3 : (Jvm.Cond.code ({ cls := "java/lang/Object", name := "<init>", desc := "()V" } : Jvm.MethodName) object_method_1_code (1 : Nat) (Option.none : Option Jvm.ClassFile.FieldType)).before args0 about1 = true := code_word (m := ⟨0, 0⟩) (meth := k0m0) (c := k0c0) (by decide +kernel) rfl rfl rfl (by decide +kernel)
set_option maxRecDepth 65536 in
theorem w_c4 : (Jvm.Cond.code ({ cls := "java/lang/StringUTF16", name := "compress", desc := "([CII)[B" } : Jvm.MethodName) jdk_52_method_16_code (6 : Nat) (Option.some (Jvm.ClassFile.FieldType.array Jvm.ClassFile.FieldType.byte))).before args0 about1 = true := code_word (m := ⟨8, 8⟩) (meth := k8m8) (c := k8c8) (by decide +kernel) rfl rfl rfl (by decide +kernel)
set_option maxRecDepth 65536 in
theorem w_c5 : (Jvm.Cond.code ({ cls := "java/lang/StringUTF16", name := "compress", desc := "([CI[BII)I" } : Jvm.MethodName) jdk_52_method_21_code (7 : Nat) (Option.some Jvm.ClassFile.FieldType.int)).before args0 about1 = true := code_word (m := ⟨8, 9⟩) (meth := k8m9) (c := k8c9) (by decide +kernel) rfl rfl rfl (by decide +kernel)
set_option maxRecDepth 65536 in
theorem w_c6 : (Jvm.Cond.code ({ cls := "java/lang/StringUTF16", name := "coderFromArrayLen", desc := "([BI)B" } : Jvm.MethodName) jdk_52_method_15_code (2 : Nat) (Option.some Jvm.ClassFile.FieldType.byte)).before args0 about1 = true := code_word (m := ⟨8, 7⟩) (meth := k8m7) (c := k8c7) (by decide +kernel) rfl rfl rfl (by decide +kernel)
set_option maxRecDepth 65536 in
theorem w_c7 : (Jvm.Cond.code ({ cls := "com/example/beleg/beleg/JsonOutput", name := "<init>", desc := "()V" } : Jvm.MethodName) prog_11_method_1_code (1 : Nat) (Option.none : Option Jvm.ClassFile.FieldType)).before args0 about1 = true := code_word (m := ⟨9, 0⟩) (meth := k9m0) (c := k9c0) (by decide +kernel) rfl rfl rfl (by decide +kernel)
set_option maxRecDepth 65536 in
theorem w_c8 : (Jvm.Cond.code ({ cls := "com/example/beleg/beleg/JsonOutput", name := "<init>", desc := "([C)V" } : Jvm.MethodName) prog_11_method_2_code (2 : Nat) (Option.none : Option Jvm.ClassFile.FieldType)).before args0 about1 = true := code_word (m := ⟨9, 1⟩) (meth := k9m1) (c := k9c1) (by decide +kernel) rfl rfl rfl (by decide +kernel)
set_option maxRecDepth 65536 in
theorem w_c9 : (Jvm.Cond.code ({ cls := "com/example/beleg/beleg/JsonOutput", name := "toString", desc := "()Ljava/lang/String;" } : Jvm.MethodName) prog_11_method_13_code (1 : Nat) (Option.some (Jvm.ClassFile.FieldType.object "java/lang/String"))).before args0 about1 = true := code_word (m := ⟨9, 6⟩) (meth := k9m6) (c := k9c6) (by decide +kernel) rfl rfl rfl (by decide +kernel)
set_option maxRecDepth 65536 in
theorem w_c10 : (Jvm.Cond.code ({ cls := "java/lang/String", name := "<init>", desc := "([CII)V" } : Jvm.MethodName) jdk_42_method_4_code (4 : Nat) (Option.none : Option Jvm.ClassFile.FieldType)).before args0 about1 = true := code_word (m := ⟨7, 2⟩) (meth := k7m2) (c := k7c2) (by decide +kernel) rfl rfl rfl (by decide +kernel)
set_option maxRecDepth 65536 in
theorem w_c11 : (Jvm.Cond.code ({ cls := "java/lang/String", name := "rangeCheck", desc := "([CII)Ljava/lang/Void;" } : Jvm.MethodName) jdk_42_method_5_code (3 : Nat) (Option.some (Jvm.ClassFile.FieldType.object "java/lang/Void"))).before args0 about1 = true := code_word (m := ⟨7, 3⟩) (meth := k7m3) (c := k7c3) (by decide +kernel) rfl rfl rfl (by decide +kernel)
set_option maxRecDepth 65536 in
theorem w_c12 : (Jvm.Cond.code ({ cls := "java/lang/String", name := "checkBoundsOffCount", desc := "(III)I" } : Jvm.MethodName) jdk_42_method_157_code (3 : Nat) (Option.some Jvm.ClassFile.FieldType.int)).before args0 about1 = true := code_word (m := ⟨7, 12⟩) (meth := k7m12) (c := k7c12) (by decide +kernel) rfl rfl rfl (by decide +kernel)
set_option maxRecDepth 65536 in
theorem w_c13 : (Jvm.Cond.code ({ cls := "jdk/internal/util/Preconditions", name := "checkFromIndexSize", desc := "(IIILjava/util/function/BiFunction;)I" } : Jvm.MethodName) jdk_41_method_13_code (4 : Nat) (Option.some Jvm.ClassFile.FieldType.int)).before args0 about1 = true := code_word (m := ⟨10, 3⟩) (meth := k10m3) (c := k10c3) (by decide +kernel) rfl rfl rfl (by decide +kernel)
set_option maxRecDepth 65536 in
theorem w_c14 : (Jvm.Cond.code ({ cls := "java/lang/String", name := "equals", desc := "(Ljava/lang/Object;)Z" } : Jvm.MethodName) jdk_42_method_66_code (3 : Nat) (Option.some Jvm.ClassFile.FieldType.boolean)).before args0 about1 = true := code_word (m := ⟨7, 7⟩) (meth := k7m7) (c := k7c7) (by decide +kernel) rfl rfl rfl (by decide +kernel)
set_option maxRecDepth 65536 in
theorem w_c15 : (Jvm.Cond.code ({ cls := "java/lang/StringLatin1", name := "equals", desc := "([B[B)Z" } : Jvm.MethodName) jdk_43_method_13_code (3 : Nat) (Option.some Jvm.ClassFile.FieldType.boolean)).before args0 about1 = true := code_word (m := ⟨11, 3⟩) (meth := k11m3) (c := k11c3) (by decide +kernel) rfl rfl rfl (by decide +kernel)
set_option maxRecDepth 65536 in
theorem w_c16 : (Jvm.Cond.code ({ cls := "com/example/beleg/beleg/JsonOutput", name := "length", desc := "()I" } : Jvm.MethodName) prog_11_method_9_code (1 : Nat) (Option.some Jvm.ClassFile.FieldType.int)).before args0 about1 = true := code_word (m := ⟨9, 5⟩) (meth := k9m5) (c := k9c5) (by decide +kernel) rfl rfl rfl (by decide +kernel)
set_option maxRecDepth 65536 in
theorem w_c17 : (Jvm.Cond.code ({ cls := "java/lang/String", name := "length", desc := "()I" } : Jvm.MethodName) jdk_42_method_54_code (1 : Nat) (Option.some Jvm.ClassFile.FieldType.int)).before args0 about1 = true := code_word (m := ⟨7, 4⟩) (meth := k7m4) (c := k7c4) (by decide +kernel) rfl rfl rfl (by decide +kernel)
set_option maxRecDepth 65536 in
theorem w_c18 : (Jvm.Cond.code ({ cls := "java/lang/String", name := "coder", desc := "()B" } : Jvm.MethodName) jdk_42_method_152_code (1 : Nat) (Option.some Jvm.ClassFile.FieldType.byte)).before args0 about1 = true := code_word (m := ⟨7, 9⟩) (meth := k7m9) (c := k7c9) (by decide +kernel) rfl rfl rfl (by decide +kernel)
set_option maxRecDepth 65536 in
theorem w_c19 : (Jvm.Cond.code ({ cls := "com/example/beleg/beleg/JsonOutput", name := "append", desc := "(Ljava/lang/String;)Lcom/example/beleg/beleg/JsonOutput;" } : Jvm.MethodName) prog_11_method_6_code (2 : Nat) (Option.some (Jvm.ClassFile.FieldType.object "com/example/beleg/beleg/JsonOutput"))).before args0 about1 = true := code_word (m := ⟨9, 3⟩) (meth := k9m3) (c := k9c3) (by decide +kernel) rfl rfl rfl (by decide +kernel)
set_option maxRecDepth 65536 in
theorem w_c20 : (Jvm.Cond.code ({ cls := "com/example/beleg/beleg/JsonOutput", name := "append", desc := "(Ljava/lang/String;II)Lcom/example/beleg/beleg/JsonOutput;" } : Jvm.MethodName) prog_11_method_7_code (4 : Nat) (Option.some (Jvm.ClassFile.FieldType.object "com/example/beleg/beleg/JsonOutput"))).before args0 about1 = true := code_word (m := ⟨9, 4⟩) (meth := k9m4) (c := k9c4) (by decide +kernel) rfl rfl rfl (by decide +kernel)
set_option maxRecDepth 65536 in
theorem w_c21 : (Jvm.Cond.code ({ cls := "com/example/beleg/beleg/JsonOutput", name := "ensureRoom", desc := "(I)V" } : Jvm.MethodName) prog_11_method_14_code (4 : Nat) (Option.none : Option Jvm.ClassFile.FieldType)).before args0 about1 = true := code_word (m := ⟨9, 7⟩) (meth := k9m7) (c := k9c7) (by decide +kernel) rfl rfl rfl (by decide +kernel)
set_option maxRecDepth 65536 in
theorem w_c22 : (Jvm.Cond.code ({ cls := "java/lang/String", name := "getChars", desc := "(II[CI)V" } : Jvm.MethodName) jdk_42_method_61_code (5 : Nat) (Option.none : Option Jvm.ClassFile.FieldType)).before args0 about1 = true := code_word (m := ⟨7, 6⟩) (meth := k7m6) (c := k7c6) (by decide +kernel) rfl rfl rfl (by decide +kernel)
set_option maxRecDepth 65536 in
theorem w_c23 : (Jvm.Cond.code ({ cls := "java/lang/String", name := "checkBoundsBeginEnd", desc := "(III)V" } : Jvm.MethodName) jdk_42_method_158_code (3 : Nat) (Option.none : Option Jvm.ClassFile.FieldType)).before args0 about1 = true := code_word (m := ⟨7, 13⟩) (meth := k7m13) (c := k7c13) (by decide +kernel) rfl rfl rfl (by decide +kernel)
set_option maxRecDepth 65536 in
theorem w_c24 : (Jvm.Cond.code ({ cls := "jdk/internal/util/Preconditions", name := "checkFromToIndex", desc := "(IIILjava/util/function/BiFunction;)I" } : Jvm.MethodName) jdk_41_method_12_code (4 : Nat) (Option.some Jvm.ClassFile.FieldType.int)).before args0 about1 = true := code_word (m := ⟨10, 2⟩) (meth := k10m2) (c := k10c2) (by decide +kernel) rfl rfl rfl (by decide +kernel)
set_option maxRecDepth 65536 in
theorem w_c25 : (Jvm.Cond.code ({ cls := "java/lang/String", name := "isLatin1", desc := "()Z" } : Jvm.MethodName) jdk_42_method_154_code (1 : Nat) (Option.some Jvm.ClassFile.FieldType.boolean)).before args0 about1 = true := code_word (m := ⟨7, 10⟩) (meth := k7m10) (c := k7c10) (by decide +kernel) rfl rfl rfl (by decide +kernel)
set_option maxRecDepth 65536 in
theorem w_c26 : (Jvm.Cond.code ({ cls := "java/lang/StringLatin1", name := "getChars", desc := "([BII[CI)V" } : Jvm.MethodName) jdk_43_method_11_code (5 : Nat) (Option.none : Option Jvm.ClassFile.FieldType)).before args0 about1 = true := code_word (m := ⟨11, 2⟩) (meth := k11m2) (c := k11c2) (by decide +kernel) rfl rfl rfl (by decide +kernel)
set_option maxRecDepth 65536 in
theorem w_c27 : (Jvm.Cond.code ({ cls := "java/lang/StringLatin1", name := "inflate", desc := "([BI[CII)V" } : Jvm.MethodName) jdk_43_method_49_code (6 : Nat) (Option.none : Option Jvm.ClassFile.FieldType)).before args0 about1 = true := code_word (m := ⟨11, 4⟩) (meth := k11m4) (c := k11c4) (by decide +kernel) rfl rfl rfl (by decide +kernel)
set_option maxRecDepth 65536 in
theorem w_c28 : (Jvm.Cond.code ({ cls := "com/example/beleg/beleg/JsonOutput", name := "append", desc := "(C)Lcom/example/beleg/beleg/JsonOutput;" } : Jvm.MethodName) prog_11_method_5_code (2 : Nat) (Option.some (Jvm.ClassFile.FieldType.object "com/example/beleg/beleg/JsonOutput"))).before args0 about1 = true := code_word (m := ⟨9, 2⟩) (meth := k9m2) (c := k9c2) (by decide +kernel) rfl rfl rfl (by decide +kernel)
set_option maxRecDepth 65536 in
theorem w_c29 : (Jvm.Cond.code ({ cls := "java/lang/Math", name := "max", desc := "(JJ)J" } : Jvm.MethodName) jdk_29_method_66_code (4 : Nat) (Option.some Jvm.ClassFile.FieldType.long)).before args0 about1 = true := code_word (m := ⟨12, 1⟩) (meth := k12m1) (c := k12c1) (by decide +kernel) rfl rfl rfl (by decide +kernel)
set_option maxRecDepth 65536 in
theorem w_c30 : (Jvm.Cond.code ({ cls := "java/lang/Math", name := "min", desc := "(JJ)J" } : Jvm.MethodName) jdk_29_method_70_code (4 : Nat) (Option.some Jvm.ClassFile.FieldType.long)).before args0 about1 = true := code_word (m := ⟨12, 3⟩) (meth := k12m3) (c := k12c3) (by decide +kernel) rfl rfl rfl (by decide +kernel)
set_option maxRecDepth 65536 in
theorem w_c31 : (Jvm.Cond.code ({ cls := "java/util/Arrays", name := "copyOf", desc := "([CI)[C" } : Jvm.MethodName) jdk_65_method_125_code (3 : Nat) (Option.some (Jvm.ClassFile.FieldType.array Jvm.ClassFile.FieldType.char))).before args0 about1 = true := code_word (m := ⟨13, 1⟩) (meth := k13m1) (c := k13c1) (by decide +kernel) rfl rfl rfl (by decide +kernel)
set_option maxRecDepth 65536 in
theorem w_c32 : (Jvm.Cond.code ({ cls := "java/lang/Math", name := "min", desc := "(II)I" } : Jvm.MethodName) jdk_29_method_69_code (2 : Nat) (Option.some Jvm.ClassFile.FieldType.int)).before args0 about1 = true := code_word (m := ⟨12, 2⟩) (meth := k12m2) (c := k12c2) (by decide +kernel) rfl rfl rfl (by decide +kernel)
set_option maxRecDepth 65536 in
theorem w_c33 : (Jvm.Cond.code ({ cls := "java/lang/String", name := "charAt", desc := "(I)C" } : Jvm.MethodName) jdk_42_method_56_code (2 : Nat) (Option.some Jvm.ClassFile.FieldType.char)).before args0 about1 = true := code_word (m := ⟨7, 5⟩) (meth := k7m5) (c := k7c5) (by decide +kernel) rfl rfl rfl (by decide +kernel)
set_option maxRecDepth 65536 in
theorem w_c34 : (Jvm.Cond.code ({ cls := "java/lang/StringLatin1", name := "charAt", desc := "([BI)C" } : Jvm.MethodName) jdk_43_method_2_code (2 : Nat) (Option.some Jvm.ClassFile.FieldType.char)).before args0 about1 = true := code_word (m := ⟨11, 1⟩) (meth := k11m1) (c := k11c1) (by decide +kernel) rfl rfl rfl (by decide +kernel)
set_option maxRecDepth 65536 in
theorem w_c35 : (Jvm.Cond.code ({ cls := "java/lang/String", name := "checkIndex", desc := "(II)V" } : Jvm.MethodName) jdk_42_method_155_code (2 : Nat) (Option.none : Option Jvm.ClassFile.FieldType)).before args0 about1 = true := code_word (m := ⟨7, 11⟩) (meth := k7m11) (c := k7c11) (by decide +kernel) rfl rfl rfl (by decide +kernel)
set_option maxRecDepth 65536 in
theorem w_c36 : (Jvm.Cond.code ({ cls := "jdk/internal/util/Preconditions", name := "checkIndex", desc := "(IILjava/util/function/BiFunction;)I" } : Jvm.MethodName) jdk_41_method_11_code (3 : Nat) (Option.some Jvm.ClassFile.FieldType.int)).before args0 about1 = true := code_word (m := ⟨10, 1⟩) (meth := k10m1) (c := k10c1) (by decide +kernel) rfl rfl rfl (by decide +kernel)
set_option maxRecDepth 65536 in
theorem w_c37 : (Jvm.Cond.code ({ cls := "java/lang/StringUTF16", name := "toBytes", desc := "([CII)[B" } : Jvm.MethodName) jdk_52_method_14_code (5 : Nat) (Option.some (Jvm.ClassFile.FieldType.array Jvm.ClassFile.FieldType.byte))).before args0 about1 = true := code_word (m := ⟨8, 6⟩) (meth := k8m6) (c := k8c6) (by decide +kernel) rfl rfl rfl (by decide +kernel)
set_option maxRecDepth 65536 in
theorem w_c38 : (Jvm.Cond.code ({ cls := "java/lang/StringUTF16", name := "newBytesFor", desc := "(I)[B" } : Jvm.MethodName) jdk_52_method_2_code (1 : Nat) (Option.some (Jvm.ClassFile.FieldType.array Jvm.ClassFile.FieldType.byte))).before args0 about1 = true := code_word (m := ⟨8, 1⟩) (meth := k8m1) (c := k8c1) (by decide +kernel) rfl rfl rfl (by decide +kernel)
set_option maxRecDepth 65536 in
theorem w_c39 : (Jvm.Cond.code ({ cls := "java/lang/StringUTF16", name := "newBytesLength", desc := "(I)I" } : Jvm.MethodName) jdk_52_method_3_code (1 : Nat) (Option.some Jvm.ClassFile.FieldType.int)).before args0 about1 = true := code_word (m := ⟨8, 2⟩) (meth := k8m2) (c := k8c2) (by decide +kernel) rfl rfl rfl (by decide +kernel)
set_option maxRecDepth 65536 in
theorem w_c40 : (Jvm.Cond.code ({ cls := "java/lang/StringUTF16", name := "putChar", desc := "([BII)V" } : Jvm.MethodName) jdk_52_method_4_code (3 : Nat) (Option.none : Option Jvm.ClassFile.FieldType)).before args0 about1 = true := code_word (m := ⟨8, 3⟩) (meth := k8m3) (c := k8c3) (by decide +kernel) rfl rfl rfl (by decide +kernel)
set_option maxRecDepth 65536 in
theorem w_c41 : (Jvm.Cond.code ({ cls := "java/lang/StringUTF16", name := "getChar", desc := "([BI)C" } : Jvm.MethodName) jdk_52_method_5_code (2 : Nat) (Option.some Jvm.ClassFile.FieldType.char)).before args0 about1 = true := code_word (m := ⟨8, 4⟩) (meth := k8m4) (c := k8c4) (by decide +kernel) rfl rfl rfl (by decide +kernel)
set_option maxRecDepth 65536 in
theorem w_c42 : (Jvm.Cond.code ({ cls := "java/lang/StringUTF16", name := "charAt", desc := "([BI)C" } : Jvm.MethodName) jdk_52_method_83_code (2 : Nat) (Option.some Jvm.ClassFile.FieldType.char)).before args0 about1 = true := code_word (m := ⟨8, 11⟩) (meth := k8m11) (c := k8c11) (by decide +kernel) rfl rfl rfl (by decide +kernel)
set_option maxRecDepth 65536 in
theorem w_c43 : (Jvm.Cond.code ({ cls := "java/lang/StringUTF16", name := "checkIndex", desc := "(I[B)V" } : Jvm.MethodName) jdk_52_method_91_code (2 : Nat) (Option.none : Option Jvm.ClassFile.FieldType)).before args0 about1 = true := code_word (m := ⟨8, 12⟩) (meth := k8m12) (c := k8c12) (by decide +kernel) rfl rfl rfl (by decide +kernel)
set_option maxRecDepth 65536 in
theorem w_c44 : (Jvm.Cond.code ({ cls := "java/lang/StringUTF16", name := "length", desc := "([B)I" } : Jvm.MethodName) jdk_52_method_6_code (1 : Nat) (Option.some Jvm.ClassFile.FieldType.int)).before args0 about1 = true := code_word (m := ⟨8, 5⟩) (meth := k8m5) (c := k8c5) (by decide +kernel) rfl rfl rfl (by decide +kernel)
set_option maxRecDepth 65536 in
theorem w_c45 : (Jvm.Cond.code ({ cls := "java/lang/StringUTF16", name := "getChars", desc := "([BII[CI)V" } : Jvm.MethodName) jdk_52_method_26_code (6 : Nat) (Option.none : Option Jvm.ClassFile.FieldType)).before args0 about1 = true := code_word (m := ⟨8, 10⟩) (meth := k8m10) (c := k8c10) (by decide +kernel) rfl rfl rfl (by decide +kernel)
set_option maxRecDepth 65536 in
theorem w_c46 : (Jvm.Cond.code ({ cls := "java/lang/StringUTF16", name := "checkBoundsOffCount", desc := "(II[B)V" } : Jvm.MethodName) jdk_52_method_94_code (3 : Nat) (Option.none : Option Jvm.ClassFile.FieldType)).before args0 about1 = true := code_word (m := ⟨8, 13⟩) (meth := k8m13) (c := k8c13) (by decide +kernel) rfl rfl rfl (by decide +kernel)
def codes1 : List Jvm.Cond := [Jvm.Cond.code x code maxLocals ret, Jvm.Cond.code ({ cls := "java/lang/String", name := "<init>", desc := "([C)V" } : Jvm.MethodName) jdk_42_method_3_code (2 : Nat) (Option.none : Option Jvm.ClassFile.FieldType), Jvm.Cond.code ({ cls := "java/lang/String", name := "<init>", desc := "([CIILjava/lang/Void;)V" } : Jvm.MethodName) jdk_42_method_149_code (6 : Nat) (Option.none : Option Jvm.ClassFile.FieldType), Jvm.Cond.code ({ cls := "java/lang/Object", name := "<init>", desc := "()V" } : Jvm.MethodName) object_method_1_code (1 : Nat) (Option.none : Option Jvm.ClassFile.FieldType), Jvm.Cond.code ({ cls := "java/lang/StringUTF16", name := "compress", desc := "([CII)[B" } : Jvm.MethodName) jdk_52_method_16_code (6 : Nat) (Option.some (Jvm.ClassFile.FieldType.array Jvm.ClassFile.FieldType.byte)), Jvm.Cond.code ({ cls := "java/lang/StringUTF16", name := "compress", desc := "([CI[BII)I" } : Jvm.MethodName) jdk_52_method_21_code (7 : Nat) (Option.some Jvm.ClassFile.FieldType.int), Jvm.Cond.code ({ cls := "java/lang/StringUTF16", name := "coderFromArrayLen", desc := "([BI)B" } : Jvm.MethodName) jdk_52_method_15_code (2 : Nat) (Option.some Jvm.ClassFile.FieldType.byte), Jvm.Cond.code ({ cls := "com/example/beleg/beleg/JsonOutput", name := "<init>", desc := "()V" } : Jvm.MethodName) prog_11_method_1_code (1 : Nat) (Option.none : Option Jvm.ClassFile.FieldType), Jvm.Cond.code ({ cls := "com/example/beleg/beleg/JsonOutput", name := "<init>", desc := "([C)V" } : Jvm.MethodName) prog_11_method_2_code (2 : Nat) (Option.none : Option Jvm.ClassFile.FieldType), Jvm.Cond.code ({ cls := "com/example/beleg/beleg/JsonOutput", name := "toString", desc := "()Ljava/lang/String;" } : Jvm.MethodName) prog_11_method_13_code (1 : Nat) (Option.some (Jvm.ClassFile.FieldType.object "java/lang/String")), Jvm.Cond.code ({ cls := "java/lang/String", name := "<init>", desc := "([CII)V" } : Jvm.MethodName) jdk_42_method_4_code (4 : Nat) (Option.none : Option Jvm.ClassFile.FieldType), Jvm.Cond.code ({ cls := "java/lang/String", name := "rangeCheck", desc := "([CII)Ljava/lang/Void;" } : Jvm.MethodName) jdk_42_method_5_code (3 : Nat) (Option.some (Jvm.ClassFile.FieldType.object "java/lang/Void")), Jvm.Cond.code ({ cls := "java/lang/String", name := "checkBoundsOffCount", desc := "(III)I" } : Jvm.MethodName) jdk_42_method_157_code (3 : Nat) (Option.some Jvm.ClassFile.FieldType.int), Jvm.Cond.code ({ cls := "jdk/internal/util/Preconditions", name := "checkFromIndexSize", desc := "(IIILjava/util/function/BiFunction;)I" } : Jvm.MethodName) jdk_41_method_13_code (4 : Nat) (Option.some Jvm.ClassFile.FieldType.int), Jvm.Cond.code ({ cls := "java/lang/String", name := "equals", desc := "(Ljava/lang/Object;)Z" } : Jvm.MethodName) jdk_42_method_66_code (3 : Nat) (Option.some Jvm.ClassFile.FieldType.boolean), Jvm.Cond.code ({ cls := "java/lang/StringLatin1", name := "equals", desc := "([B[B)Z" } : Jvm.MethodName) jdk_43_method_13_code (3 : Nat) (Option.some Jvm.ClassFile.FieldType.boolean), Jvm.Cond.code ({ cls := "com/example/beleg/beleg/JsonOutput", name := "length", desc := "()I" } : Jvm.MethodName) prog_11_method_9_code (1 : Nat) (Option.some Jvm.ClassFile.FieldType.int), Jvm.Cond.code ({ cls := "java/lang/String", name := "length", desc := "()I" } : Jvm.MethodName) jdk_42_method_54_code (1 : Nat) (Option.some Jvm.ClassFile.FieldType.int), Jvm.Cond.code ({ cls := "java/lang/String", name := "coder", desc := "()B" } : Jvm.MethodName) jdk_42_method_152_code (1 : Nat) (Option.some Jvm.ClassFile.FieldType.byte), Jvm.Cond.code ({ cls := "com/example/beleg/beleg/JsonOutput", name := "append", desc := "(Ljava/lang/String;)Lcom/example/beleg/beleg/JsonOutput;" } : Jvm.MethodName) prog_11_method_6_code (2 : Nat) (Option.some (Jvm.ClassFile.FieldType.object "com/example/beleg/beleg/JsonOutput")), Jvm.Cond.code ({ cls := "com/example/beleg/beleg/JsonOutput", name := "append", desc := "(Ljava/lang/String;II)Lcom/example/beleg/beleg/JsonOutput;" } : Jvm.MethodName) prog_11_method_7_code (4 : Nat) (Option.some (Jvm.ClassFile.FieldType.object "com/example/beleg/beleg/JsonOutput")), Jvm.Cond.code ({ cls := "com/example/beleg/beleg/JsonOutput", name := "ensureRoom", desc := "(I)V" } : Jvm.MethodName) prog_11_method_14_code (4 : Nat) (Option.none : Option Jvm.ClassFile.FieldType), Jvm.Cond.code ({ cls := "java/lang/String", name := "getChars", desc := "(II[CI)V" } : Jvm.MethodName) jdk_42_method_61_code (5 : Nat) (Option.none : Option Jvm.ClassFile.FieldType), Jvm.Cond.code ({ cls := "java/lang/String", name := "checkBoundsBeginEnd", desc := "(III)V" } : Jvm.MethodName) jdk_42_method_158_code (3 : Nat) (Option.none : Option Jvm.ClassFile.FieldType), Jvm.Cond.code ({ cls := "jdk/internal/util/Preconditions", name := "checkFromToIndex", desc := "(IIILjava/util/function/BiFunction;)I" } : Jvm.MethodName) jdk_41_method_12_code (4 : Nat) (Option.some Jvm.ClassFile.FieldType.int), Jvm.Cond.code ({ cls := "java/lang/String", name := "isLatin1", desc := "()Z" } : Jvm.MethodName) jdk_42_method_154_code (1 : Nat) (Option.some Jvm.ClassFile.FieldType.boolean), Jvm.Cond.code ({ cls := "java/lang/StringLatin1", name := "getChars", desc := "([BII[CI)V" } : Jvm.MethodName) jdk_43_method_11_code (5 : Nat) (Option.none : Option Jvm.ClassFile.FieldType), Jvm.Cond.code ({ cls := "java/lang/StringLatin1", name := "inflate", desc := "([BI[CII)V" } : Jvm.MethodName) jdk_43_method_49_code (6 : Nat) (Option.none : Option Jvm.ClassFile.FieldType), Jvm.Cond.code ({ cls := "com/example/beleg/beleg/JsonOutput", name := "append", desc := "(C)Lcom/example/beleg/beleg/JsonOutput;" } : Jvm.MethodName) prog_11_method_5_code (2 : Nat) (Option.some (Jvm.ClassFile.FieldType.object "com/example/beleg/beleg/JsonOutput")), Jvm.Cond.code ({ cls := "java/lang/Math", name := "max", desc := "(JJ)J" } : Jvm.MethodName) jdk_29_method_66_code (4 : Nat) (Option.some Jvm.ClassFile.FieldType.long), Jvm.Cond.code ({ cls := "java/lang/Math", name := "min", desc := "(JJ)J" } : Jvm.MethodName) jdk_29_method_70_code (4 : Nat) (Option.some Jvm.ClassFile.FieldType.long), Jvm.Cond.code ({ cls := "java/util/Arrays", name := "copyOf", desc := "([CI)[C" } : Jvm.MethodName) jdk_65_method_125_code (3 : Nat) (Option.some (Jvm.ClassFile.FieldType.array Jvm.ClassFile.FieldType.char)), Jvm.Cond.code ({ cls := "java/lang/Math", name := "min", desc := "(II)I" } : Jvm.MethodName) jdk_29_method_69_code (2 : Nat) (Option.some Jvm.ClassFile.FieldType.int), Jvm.Cond.code ({ cls := "java/lang/String", name := "charAt", desc := "(I)C" } : Jvm.MethodName) jdk_42_method_56_code (2 : Nat) (Option.some Jvm.ClassFile.FieldType.char), Jvm.Cond.code ({ cls := "java/lang/StringLatin1", name := "charAt", desc := "([BI)C" } : Jvm.MethodName) jdk_43_method_2_code (2 : Nat) (Option.some Jvm.ClassFile.FieldType.char), Jvm.Cond.code ({ cls := "java/lang/String", name := "checkIndex", desc := "(II)V" } : Jvm.MethodName) jdk_42_method_155_code (2 : Nat) (Option.none : Option Jvm.ClassFile.FieldType), Jvm.Cond.code ({ cls := "jdk/internal/util/Preconditions", name := "checkIndex", desc := "(IILjava/util/function/BiFunction;)I" } : Jvm.MethodName) jdk_41_method_11_code (3 : Nat) (Option.some Jvm.ClassFile.FieldType.int), Jvm.Cond.code ({ cls := "java/lang/StringUTF16", name := "toBytes", desc := "([CII)[B" } : Jvm.MethodName) jdk_52_method_14_code (5 : Nat) (Option.some (Jvm.ClassFile.FieldType.array Jvm.ClassFile.FieldType.byte)), Jvm.Cond.code ({ cls := "java/lang/StringUTF16", name := "newBytesFor", desc := "(I)[B" } : Jvm.MethodName) jdk_52_method_2_code (1 : Nat) (Option.some (Jvm.ClassFile.FieldType.array Jvm.ClassFile.FieldType.byte)), Jvm.Cond.code ({ cls := "java/lang/StringUTF16", name := "newBytesLength", desc := "(I)I" } : Jvm.MethodName) jdk_52_method_3_code (1 : Nat) (Option.some Jvm.ClassFile.FieldType.int), Jvm.Cond.code ({ cls := "java/lang/StringUTF16", name := "putChar", desc := "([BII)V" } : Jvm.MethodName) jdk_52_method_4_code (3 : Nat) (Option.none : Option Jvm.ClassFile.FieldType), Jvm.Cond.code ({ cls := "java/lang/StringUTF16", name := "getChar", desc := "([BI)C" } : Jvm.MethodName) jdk_52_method_5_code (2 : Nat) (Option.some Jvm.ClassFile.FieldType.char), Jvm.Cond.code ({ cls := "java/lang/StringUTF16", name := "charAt", desc := "([BI)C" } : Jvm.MethodName) jdk_52_method_83_code (2 : Nat) (Option.some Jvm.ClassFile.FieldType.char), Jvm.Cond.code ({ cls := "java/lang/StringUTF16", name := "checkIndex", desc := "(I[B)V" } : Jvm.MethodName) jdk_52_method_91_code (2 : Nat) (Option.none : Option Jvm.ClassFile.FieldType), Jvm.Cond.code ({ cls := "java/lang/StringUTF16", name := "length", desc := "([B)I" } : Jvm.MethodName) jdk_52_method_6_code (1 : Nat) (Option.some Jvm.ClassFile.FieldType.int), Jvm.Cond.code ({ cls := "java/lang/StringUTF16", name := "getChars", desc := "([BII[CI)V" } : Jvm.MethodName) jdk_52_method_26_code (6 : Nat) (Option.none : Option Jvm.ClassFile.FieldType), Jvm.Cond.code ({ cls := "java/lang/StringUTF16", name := "checkBoundsOffCount", desc := "(II[B)V" } : Jvm.MethodName) jdk_52_method_94_code (3 : Nat) (Option.none : Option Jvm.ClassFile.FieldType)]
set_option maxRecDepth 65536 in
theorem codes_eq : words1.filter isCode = codes1 := rfl
theorem w_codes : ∀ c ∈ words1.filter isCode, c.before args0 about1 = true := by
  rw [codes_eq]
  intro c hc
  simp only [codes1, List.mem_cons, List.not_mem_nil, or_false] at hc
  rcases hc with rfl | rfl | rfl | rfl | rfl | rfl | rfl | rfl | rfl | rfl | rfl | rfl | rfl | rfl | rfl | rfl | rfl | rfl | rfl | rfl | rfl | rfl | rfl | rfl | rfl | rfl | rfl | rfl | rfl | rfl | rfl | rfl | rfl | rfl | rfl | rfl | rfl | rfl | rfl | rfl | rfl | rfl | rfl | rfl | rfl | rfl | rfl
  · exact w_c0
  · exact w_c1
  · exact w_c2
  · exact w_c3
  · exact w_c4
  · exact w_c5
  · exact w_c6
  · exact w_c7
  · exact w_c8
  · exact w_c9
  · exact w_c10
  · exact w_c11
  · exact w_c12
  · exact w_c13
  · exact w_c14
  · exact w_c15
  · exact w_c16
  · exact w_c17
  · exact w_c18
  · exact w_c19
  · exact w_c20
  · exact w_c21
  · exact w_c22
  · exact w_c23
  · exact w_c24
  · exact w_c25
  · exact w_c26
  · exact w_c27
  · exact w_c28
  · exact w_c29
  · exact w_c30
  · exact w_c31
  · exact w_c32
  · exact w_c33
  · exact w_c34
  · exact w_c35
  · exact w_c36
  · exact w_c37
  · exact w_c38
  · exact w_c39
  · exact w_c40
  · exact w_c41
  · exact w_c42
  · exact w_c43
  · exact w_c44
  · exact w_c45
  · exact w_c46
set_option maxRecDepth 65536 in
theorem w_t1 : (words1.take 24).all (fun c => isCode c || c.before args0 about1) = true := by decide +kernel
set_option maxRecDepth 65536 in
theorem w_t2 : ((words1.drop 24).take 24).all (fun c => isCode c || c.before args0 about1) = true := by decide +kernel
set_option maxRecDepth 65536 in
theorem w_t3 : (((words1.drop 24).drop 24).take 24).all (fun c => isCode c || c.before args0 about1) = true := by decide +kernel
set_option maxRecDepth 65536 in
theorem w_t4 : ((((words1.drop 24).drop 24).drop 24).take 24).all (fun c => isCode c || c.before args0 about1) = true := by decide +kernel
set_option maxRecDepth 65536 in
theorem w_t5 : (((((words1.drop 24).drop 24).drop 24).drop 24).take 24).all (fun c => isCode c || c.before args0 about1) = true := by decide +kernel
set_option maxRecDepth 65536 in
theorem w_t6 : ((((((words1.drop 24).drop 24).drop 24).drop 24).drop 24).take 24).all (fun c => isCode c || c.before args0 about1) = true := by decide +kernel
set_option maxRecDepth 65536 in
theorem w_t7 : (((((((words1.drop 24).drop 24).drop 24).drop 24).drop 24).drop 24).take 24).all (fun c => isCode c || c.before args0 about1) = true := by decide +kernel
set_option maxRecDepth 65536 in
theorem w_t8 : ((((((((words1.drop 24).drop 24).drop 24).drop 24).drop 24).drop 24).drop 24).take 24).all (fun c => isCode c || c.before args0 about1) = true := by decide +kernel
set_option maxRecDepth 65536 in
theorem w_t9 : ((((((((words1.drop 24).drop 24).drop 24).drop 24).drop 24).drop 24).drop 24).drop 24).all (fun c => isCode c || c.before args0 about1) = true := by decide +kernel
theorem w_tables : (allAtoms (Jvm.Cond.code x code maxLocals ret :: tables_1)).before args0 about1 = true := by
  rw [allAtoms_all]
  show words1.all (fun c => c.before args0 about1) = true
  refine all_split ?_ w_codes
  rw [← List.take_append_drop 24 words1, List.all_append, w_t1, ← List.take_append_drop 24 (words1.drop 24), List.all_append, w_t2, ← List.take_append_drop 24 ((words1.drop 24).drop 24), List.all_append, w_t3, ← List.take_append_drop 24 (((words1.drop 24).drop 24).drop 24), List.all_append, w_t4, ← List.take_append_drop 24 ((((words1.drop 24).drop 24).drop 24).drop 24), List.all_append, w_t5, ← List.take_append_drop 24 (((((words1.drop 24).drop 24).drop 24).drop 24).drop 24), List.all_append, w_t6, ← List.take_append_drop 24 ((((((words1.drop 24).drop 24).drop 24).drop 24).drop 24).drop 24), List.all_append, w_t7, ← List.take_append_drop 24 (((((((words1.drop 24).drop 24).drop 24).drop 24).drop 24).drop 24).drop 24), List.all_append, w_t8, w_t9]
  rfl
set_option maxRecDepth 65536 in
theorem w_rest : rest_1_c.before args0 about1 = true := by decide +kernel
set_option maxRecDepth 65536 in
theorem w_case : (Jvm.Cond.and given_1 narrow_1).before args0 about1 = true := by decide +kernel
set_option maxRecDepth 65536 in
theorem w_consts : constsHeld consts_1 about1 := Jvm.Lit.constsHeldB_iff.mp (by decide +kernel)
theorem w_applies : (headSpec (Jvm.Cond.code x code maxLocals ret :: tables_1) room_1).applies x e0.platform about1 = true :=
  (Spec.applies_iff w_frames).mpr ⟨w_running, w_runnable, w_alone, w_named, w_hears, w_ripe, w_room, w_tables⟩
theorem atStart : AtStart classFile x code maxLocals ret World_1 tables_1 room_1 Calls_1 rest_1 Pre_1 launch0 p0 e0 about1 theMethod args0 below0 :=
  ⟨lists_1, trivial, launch0.admits_env _ _ _, launch0.least_env, fairChoices_fair.cas, fairChoices_fair.clock, w_frames, w_args, w_heap, w_applies, ⟨w_consts, trivial⟩, w_rest, w_case⟩
end start1
theorem witness_1 : WitnessClaimed_1 := ⟨start1.p0, start1.e0, start1.about1, start1.theMethod, start1.args0, start1.below0, start1.atStart⟩
end Jvm.Pilot.@@N@@
