import JvmDerived
import JvmDerived.Pilot.@@N@@Statement
import JvmDerived.Pilot.@@N@@Code
set_option linter.unusedVariables false
set_option linter.unusedSimpArgs false
namespace Jvm.OwnK
open Jvm Sem ClassFile Op Lib Jvm.Free Jvm.Stand Jvm.LawKit Jvm.RoadKit Bundle
/-! OwnK: a body's walk as a judgement. 'Go .. SF h k n pc Ls st': from the place pc, with the locals Ls and the operands st, over the heap h (SF: what this walk may write; k cells and n slots made so far), the body ends, and Q holds of what it returns and of the heap. One rule a step; a callee by 'Met'. -/
def Own (Z : State) (EL : List (String × Nat)) (n0 : Nat) (h0 : Heap) (WS : List Addr) (vm : Vm) (h : Heap) (SF : List Addr) : Prop := ∀ x ∈ SF, (n0 ≤ x ∧ x < h.size ∧ (x ∈ WS ∨ h0.size ≤ x)) ∧ Safe Z EL vm h x
def Cor (Z : State) (EL : List (String × Nat)) (n0 : Nat) (nr : Bool) (h0 : Heap) (WS SF : List Addr) (h : Heap) (s : State) (vm0 : Vm) (k0 : Nat) (locs : List Loc) : Prop :=
  Z.Warmed39 vm0 ∧ (s.Since vm0 k0 ∧ k0 ≤ h.size) ∧ Fr n0 locs ∧ CHr Z EL s.vm h0 vm0 h ∧ Own Z EL n0 h0 WS vm0 h SF ∧ (nr = true → s.WarmedH vm0) ∧ (Z.heap.size = n0 ∧ Ext Z.heap h) ∧ Keep h0 h WS ∧ s.heap = h0 ∧ ∃ a0, EW Z a0 EL
def Pst (Z : State) (EL : List (String × Nat)) (n0 : Nat) (nr : Bool) (R : Room) (h0 : Heap) (WS : List Addr) (Q : Option Value → Heap → List Addr → Prop) (s : State) (o : Outcome) (t : State) : Prop :=
  ∃ v L SN, o = .returned v ∧ Q v t.heap SN ∧ Fr n0 L ∧ Keep h0 t.heap WS ∧ (∀ x ∈ SN, (h0.size ≤ x ∧ x < t.heap.size) ∧ Safe Z EL t.vm t.heap x) ∧ CHr Z EL s.vm h0 t.vm t.heap ∧ (nr = true → s.WarmedH t.vm) ∧ ReturnedEndW s o t L R.cells R.slots
def Run (l : Launch) (Z : State) (EL : List (String × Nat)) (n0 : Nat) (nr kn : Bool) (y : MethodName) (bytes : ByteArray) (mL : Nat) (ret : Option FieldType) (R : Room) (h0 : Heap) (WS SF : List Addr) (h : Heap) (k n : Nat)
    (p : Program) (e : Env) (s : State) (m : MethodId) (args : Array Value) (below : List Frame) (meth : Method) (c : Code) (T : State) : Prop :=
  (p.tables.exec = Jvm.exec ∧ c.code = bytes ∧ c.maxLocals = mL ∧ s.vm.findClass y.cls = some m.cls ∧ meth.name = y.name ∧ meth.sig.returnType = ret ∧ meth.locks = false ∧ (kn = true → s.vm.MethodsKnown ∧ s.vm.FramesKnown below)) ∧
  ∃ vm0 k0 locs, Stand p l e R (s.setVm vm0) m args below meth c T locs k n ∧ T.heap = h ∧ Cor Z EL n0 nr h0 WS SF h s vm0 k0 locs
def Go (l : Launch) (Z : State) (EL : List (String × Nat)) (n0 : Nat) (nr kn : Bool) (y : MethodName) (bytes : ByteArray) (mL : Nat) (ret : Option FieldType) (R : Room) (h0 : Heap) (WS : List Addr) (Q : Option Value → Heap → List Addr → Prop)
    (SF : List Addr) (h : Heap) (k n : Nat) (pc : Nat) (Ls : Array Slot) (st : List Value) : Prop :=
  ∀ (p : Program) (e : Env) (s : State) (m : MethodId) (args : Array Value) (below : List Frame) (meth : Method) (c : Code) (T : State), Run l Z EL n0 nr kn y bytes mL ret R h0 WS SF h k n p e s m args below meth c T →
    ∃ t o, Steps p.tables e below (T.setTop (mkF m pc Ls st)) t ∧ t.status = .running ∧ Ended t below o ∧ Pst Z EL n0 nr R h0 WS Q s o t
def Met (l : Launch) (Z : State) (EL : List (String × Nat)) (n0 : Nat) (nr kn : Bool) (y : MethodName) (bytes : ByteArray) (mL : Nat) (ret : Option FieldType) (R : Room) (WS : List Addr) (as' : Array Value) (h : Heap) (Q : Option Value → Heap → List Addr → Prop) : Prop :=
  ∀ ws : List Jvm.Cond, MetFree l y (head1 (Jvm.Cond.code y bytes mL ret :: ws) R)
    (fun a U => a = as' ∧ Z.Warmed39 U.vm ∧ U.heap = h ∧ CHv Z EL U.vm h ∧ (∀ x ∈ WS, (n0 ≤ x ∧ x < h.size) ∧ Safe Z EL U.vm h x) ∧ (Z.heap.size = n0 ∧ Ext Z.heap h) ∧ ∃ a0, EW Z a0 EL)
    (fun _ _ bl s _ => kn = true → s.vm.MethodsKnown ∧ s.vm.FramesKnown bl) (fun _ U o U' => Pst Z EL n0 nr R h WS Q U o U')
def Pays (l : Launch) (Z : State) (EL : List (String × Nat)) (n0 : Nat) (nr kn : Bool) (R : Room) (len : Nat) (z : MethodName) (W ck cn : Nat) (ws : List Addr) (as' : Array Value) (h : Heap) (Q : Option Value → Heap → List Addr → Prop) : Prop :=
  ∀ (p : Program) (e : Env) (below : List Frame) (s : State) (args : Array Value) (vm0 : Vm), p.tables.exec = Jvm.exec → Z.Warmed39 vm0 → CHv Z EL vm0 h → (∀ x ∈ ws, (n0 ≤ x ∧ x < h.size) ∧ Safe Z EL vm0 h x) → (Z.heap.size = n0 ∧ Ext Z.heap h) → (∃ a0, EW Z a0 EL) →
    (kn = true → vm0.MethodsKnown ∧ vm0.FramesKnown below) →
    BackS l R p e below (s.setVm vm0) args z len W (fun A a => a = as' ∧ A.U.heap = h ∧ A.cells + ck ≤ R.cells ∧ A.slots + cn ≤ R.slots)
      (fun A _ v B => ∃ L SN, Q v B.U.heap SN ∧ Fr n0 L ∧ Keep h B.U.heap ws ∧ (∀ x ∈ SN, (h.size ≤ x ∧ x < B.U.heap.size) ∧ Safe Z EL B.U.vm B.U.heap x) ∧ CHr Z EL vm0 h B.U.vm B.U.heap ∧ (nr = true → (s.setVm vm0).WarmedH B.U.vm) ∧ B.locs = A.locs ++ L ∧ B.cells = A.cells + ck ∧ B.slots = A.slots + cn)
def Mr (Z : State) (CC : String) (m : Addr) : Prop := ∃ (c : ClassId) (k : Class), Z.vm.findClass CC = some c ∧ Z.vm.classes[c]? = some k ∧ k.mirror = some m
section Rules
variable {l : Launch} {Z : State} {EL : List (String × Nat)} {n0 : Nat} {nr kn : Bool} {y : MethodName} {bytes : ByteArray} {mL : Nat} {ret : Option FieldType} {R : Room} {h0 : Heap} {WS : List Addr} {Q : Option Value → Heap → List Addr → Prop} {SF : List Addr} {h h' : Heap} {k n : Nat} {pc pc' : Nat} {Ls Ls' : Array Slot} {st rest : List Value} {a0 : Array Value} {s : State} {vm0 vm1 : Vm} {k0 : Nat} {locs : List Loc}
theorem Cor.ext (C : Cor Z EL n0 nr h0 WS SF h s vm0 k0 locs) (E : Ext h h') : Cor Z EL n0 nr h0 WS SF h' s vm0 k0 locs := by
  obtain ⟨c1, ⟨c2, c2'⟩, c3, c4, c5, c6, ⟨c7, c7'⟩, c8, c9, c10⟩ := C
  exact ⟨c1, ⟨c2, Nat.le_trans c2' E.1⟩, c3, c4.trans (CHr.ext E c4.1), fun x hx => ⟨⟨(c5 x hx).1.1, Nat.lt_of_lt_of_le (c5 x hx).1.2.1 E.1, (c5 x hx).1.2.2⟩, Safe.ext E c4.1 (c5 x hx).2⟩, c6, ⟨c7, Nat.le_trans c7'.1 E.1, fun a c q => E.2 a c (c7'.2 a c q)⟩, c8.ext E, c9, c10⟩
theorem Cor.push (C : Cor Z EL n0 nr h0 WS SF h s vm0 k0 locs) (E : Ext h h') (hlt : h.size < h'.size) : Cor Z EL n0 nr h0 WS (h.size :: SF) h' s vm0 k0 locs := by
  have D := C.ext E
  obtain ⟨c1, c2, c3, c4, c5, c6, ⟨c7, c7'⟩, c8, c9, c10⟩ := C
  obtain ⟨d1, d2, d3, d4, d5, d6, d7, d8, d9, d10⟩ := D
  refine ⟨d1, d2, d3, d4, fun x hx => ?_, d6, d7, d8, d9, d10⟩
  rcases List.mem_cons.mp hx with rfl | hx
  · exact ⟨⟨c7 ▸ c7'.1, hlt, Or.inr c8.1⟩, Safe.ext E c4.1 (Safe.new (Nat.le_refl _))⟩
  · exact d5 x hx
theorem Cor.wr {a : Addr} {sl : Nat} {v : Value} (C : Cor Z EL n0 nr h0 WS SF h s vm0 k0 locs) (W : Wr h h' a sl v) (ha : a ∈ SF) : Cor Z EL n0 nr h0 WS SF h' s vm0 k0 (locs ++ [⟨a, sl⟩]) := by
  obtain ⟨c1, ⟨c2, c2'⟩, c3, c4, c5, c6, ⟨c7, c7'⟩, c8, c9, c10⟩ := C
  have S := (c5 a ha).2
  have O : Old Z n0 h := ⟨c7, c7'⟩
  refine ⟨c1, ⟨c2, by rw [W.size]; exact c2'⟩, c3.app fun z hz => by cases List.mem_singleton.mp hz; exact (c5 a ha).1.1, c4.trans (CHr.wr W S c4.1), fun x hx => ⟨⟨(c5 x hx).1.1, by rw [W.size]; exact (c5 x hx).1.2.1, (c5 x hx).1.2.2⟩, Safe.wr W S c4.1 (c5 x hx).2⟩, c6, O.wr W (c5 a ha).1.1, c8.wr W (c5 a ha).1.2.2, c9, c10⟩
theorem Cor.keep {ws SN : List Addr} {L : List Loc} {k1 : Nat} (C : Cor Z EL n0 nr h0 WS SF h s vm0 k0 locs) (K : Keep h h' ws) (hws : ∀ x ∈ ws, x ∈ SF) (hL : Fr n0 L) (hC : CHr Z EL vm0 h vm1 h') (hZ : Z.Warmed39 vm1) (hS : s.Since vm1 k1) (hk : k1 ≤ h'.size) (hN : nr = true → s.WarmedH vm1)
    (hSN : ∀ x ∈ SN, (h.size ≤ x ∧ x < h'.size) ∧ Safe Z EL vm1 h' x) : Cor Z EL n0 nr h0 WS (SN ++ SF) h' s vm1 k1 (locs ++ L) := by
  obtain ⟨c1, ⟨c2, c2'⟩, c3, c4, c5, c6, ⟨c7, c7'⟩, c8, c9, c10⟩ := C
  have O : Old Z n0 h := ⟨c7, c7'⟩
  refine ⟨hZ, ⟨hS, hk⟩, c3.app hL, c4.trans hC, fun x hx => ?_, hN, O.keep K fun x hx => (c5 x (hws x hx)).1.1, c8.trans K fun x hx => (c5 x (hws x hx)).1.2.2, c9, c10⟩
  rcases List.mem_append.mp hx with hx | hx
  · obtain ⟨⟨q1, q2⟩, q3⟩ := hSN x hx
    exact ⟨⟨Nat.le_trans (c7 ▸ c7'.1) q1, q2, Or.inr (Nat.le_trans c8.1 q1)⟩, q3⟩
  · exact ⟨⟨(c5 x hx).1.1, Nat.lt_of_lt_of_le (c5 x hx).1.2.1 K.1, (c5 x hx).1.2.2⟩, hC.safe (c5 x hx).1.2.1 (c5 x hx).2⟩
theorem Go.inv (K : (Z.heap.size = n0 ∧ Ext Z.heap h) → Keep h0 h WS → (∀ x ∈ SF, n0 ≤ x ∧ x < h.size ∧ (x ∈ WS ∨ h0.size ≤ x)) → Go l Z EL n0 nr kn y bytes mL ret R h0 WS Q SF h k n pc Ls st) : Go l Z EL n0 nr kn y bytes mL ret R h0 WS Q SF h k n pc Ls st := by
  intro p e s m args below meth c T hR
  obtain ⟨hA, vm0, k0, locs, X, e0, C⟩ := hR
  exact K C.2.2.2.2.2.2.1 C.2.2.2.2.2.2.2.1 (fun x hx => (C.2.2.2.2.1 x hx).1) p e s m args below meth c T ⟨hA, vm0, k0, locs, X, e0, C⟩
theorem Go.more {k' n' : Nat} (hk : k ≤ k') (hn : n ≤ n') (K : Go l Z EL n0 nr kn y bytes mL ret R h0 WS Q SF h k' n' pc Ls st) : Go l Z EL n0 nr kn y bytes mL ret R h0 WS Q SF h k n pc Ls st := by
  intro p e s m args below meth c T hR
  obtain ⟨hA, vm0, k0, locs, X, e0, C⟩ := hR
  exact K p e s m args below meth c T ⟨hA, vm0, k0, locs, X.more hk hn, e0, C⟩
theorem Go.fewer {SF' : List Addr} (hs : ∀ x ∈ SF', x ∈ SF) (K : Go l Z EL n0 nr kn y bytes mL ret R h0 WS Q SF' h k n pc Ls st) : Go l Z EL n0 nr kn y bytes mL ret R h0 WS Q SF h k n pc Ls st := by
  intro p e s m args below meth c T hR
  obtain ⟨hA, vm0, k0, locs, X, e0, c1, c2, c3, c4, c5, r⟩ := hR
  exact K p e s m args below meth c T ⟨hA, vm0, k0, locs, X, e0, c1, c2, c3, c4, fun x hx => c5 x (hs x hx), r⟩
theorem Go.plain {st' : List Value} (H : ∀ (p : Program) (e : Env) (below : List Frame) (T : State) (m : MethodId) (c : Code) (target : State), At T m c below → p.tables.exec = Jvm.exec → c.code = bytes → Steps p.tables e below (T.setTop (mkF m pc' Ls' st')) target → Steps p.tables e below (T.setTop (mkF m pc Ls st)) target)
    (K : Go l Z EL n0 nr kn y bytes mL ret R h0 WS Q SF h k n pc' Ls' st') : Go l Z EL n0 nr kn y bytes mL ret R h0 WS Q SF h k n pc Ls st := by
  intro p e s m args below meth c T hR
  obtain ⟨t, o, hs, r⟩ := K p e s m args below meth c T hR
  obtain ⟨⟨hx, hb, -⟩, vm0, k0, locs, X, -⟩ := hR
  exact ⟨t, o, H p e below T m c t X.here hx hb hs, r⟩

theorem Go.aload_n {i : Fin 4} {v : Value} (hd : decode bytes pc = .ok (.aload_n i, 1)) (hq : pc + 1 = pc') (hl : Ls[i.val]? = some (.val v)) (hv : v.isRef = true) (K : Go l Z EL n0 nr kn y bytes mL ret R h0 WS Q SF h k n pc' Ls (v :: st)) : Go l Z EL n0 nr kn y bytes mL ret R h0 WS Q SF h k n pc Ls st :=
  Go.plain (fun p e below T m c target hA hx hb hk => XS.aloadN hA hx rfl (hb ▸ hd) hl hv (by subst hq; exact hk)) K
theorem Go.aload {i : Nat} {v : Value} (hd : decode bytes pc = .ok (.aload i, 2)) (hq : pc + 2 = pc') (hl : Ls[i]? = some (.val v)) (hv : v.isRef = true) (K : Go l Z EL n0 nr kn y bytes mL ret R h0 WS Q SF h k n pc' Ls (v :: st)) : Go l Z EL n0 nr kn y bytes mL ret R h0 WS Q SF h k n pc Ls st :=
  Go.plain (fun p e below T m c target hA hx hb hk => XS.aload hA hx rfl (hb ▸ hd) hl hv (by subst hq; exact hk)) K
theorem Go.iload_n {i : Fin 4} {v : Int32} (hd : decode bytes pc = .ok (.iload_n i, 1)) (hq : pc + 1 = pc') (hl : Ls[i.val]? = some (.val (.int v))) (K : Go l Z EL n0 nr kn y bytes mL ret R h0 WS Q SF h k n pc' Ls (.int v :: st)) : Go l Z EL n0 nr kn y bytes mL ret R h0 WS Q SF h k n pc Ls st :=
  Go.plain (fun p e below T m c target hA hx hb hk => XS.iloadN hA hx rfl (hb ▸ hd) hl (by subst hq; exact hk)) K
theorem Go.iload {i : Nat} {v : Int32} (hd : decode bytes pc = .ok (.iload i, 2)) (hq : pc + 2 = pc') (hl : Ls[i]? = some (.val (.int v))) (K : Go l Z EL n0 nr kn y bytes mL ret R h0 WS Q SF h k n pc' Ls (.int v :: st)) : Go l Z EL n0 nr kn y bytes mL ret R h0 WS Q SF h k n pc Ls st :=
  Go.plain (fun p e below T m c target hA hx hb hk => XS.iload hA hx rfl (hb ▸ hd) hl (by subst hq; exact hk)) K
theorem Go.lload_n {i : Fin 4} {v : Int64} (hd : decode bytes pc = .ok (.lload_n i, 1)) (hq : pc + 1 = pc') (hl : Ls[i.val]? = some (.val (.long v))) (K : Go l Z EL n0 nr kn y bytes mL ret R h0 WS Q SF h k n pc' Ls (.long v :: st)) : Go l Z EL n0 nr kn y bytes mL ret R h0 WS Q SF h k n pc Ls st :=
  Go.plain (fun p e below T m c target hA hx hb hk => XS.lloadN hA hx rfl (hb ▸ hd) hl (by subst hq; exact hk)) K
theorem Go.iconst {i : Int} {v : Int32} (hd : decode bytes pc = .ok (.iconst i, 1)) (hq : pc + 1 = pc') (hv : Int32.ofInt i = v) (K : Go l Z EL n0 nr kn y bytes mL ret R h0 WS Q SF h k n pc' Ls (.int v :: st)) : Go l Z EL n0 nr kn y bytes mL ret R h0 WS Q SF h k n pc Ls st :=
  Go.plain (fun p e below T m c target hA hx hb hk => XS.iconst hA hx rfl (hb ▸ hd) (by subst hq; subst hv; exact hk)) K
theorem Go.bipush {i : Int} {v : Int32} (hd : decode bytes pc = .ok (.bipush i, 2)) (hq : pc + 2 = pc') (hv : (Int8.ofInt i).toInt32 = v) (K : Go l Z EL n0 nr kn y bytes mL ret R h0 WS Q SF h k n pc' Ls (.int v :: st)) : Go l Z EL n0 nr kn y bytes mL ret R h0 WS Q SF h k n pc Ls st :=
  Go.plain (fun p e below T m c target hA hx hb hk => XS.bipush hA hx rfl (hb ▸ hd) (by subst hq; subst hv; exact hk)) K
theorem Go.sipush {i : Int} {v : Int32} (hd : decode bytes pc = .ok (.sipush i, 3)) (hq : pc + 3 = pc') (hv : (Int16.ofInt i).toInt32 = v) (K : Go l Z EL n0 nr kn y bytes mL ret R h0 WS Q SF h k n pc' Ls (.int v :: st)) : Go l Z EL n0 nr kn y bytes mL ret R h0 WS Q SF h k n pc Ls st :=
  Go.plain (fun p e below T m c target hA hx hb hk => XS.sipush hA hx rfl (hb ▸ hd) (by subst hq; subst hv; exact hk)) K
theorem Go.aconst_null (hd : decode bytes pc = .ok (.aconst_null, 1)) (hq : pc + 1 = pc') (K : Go l Z EL n0 nr kn y bytes mL ret R h0 WS Q SF h k n pc' Ls (.null :: st)) : Go l Z EL n0 nr kn y bytes mL ret R h0 WS Q SF h k n pc Ls st :=
  Go.plain (fun p e below T m c target hA hx hb hk => XS.aconstNull hA hx rfl (hb ▸ hd) (by subst hq; exact hk)) K
theorem Go.iadd {x z : Int32} (hd : decode bytes pc = .ok (.iadd, 1)) (hq : pc + 1 = pc') (K : Go l Z EL n0 nr kn y bytes mL ret R h0 WS Q SF h k n pc' Ls (.int (x + z) :: st)) : Go l Z EL n0 nr kn y bytes mL ret R h0 WS Q SF h k n pc Ls (.int z :: .int x :: st) :=
  Go.plain (fun p e below T m c target hA hx hb hk => XS.iadd hA hx rfl (hb ▸ hd) rfl (by subst hq; exact hk)) K
theorem Go.isub {x z : Int32} (hd : decode bytes pc = .ok (.isub, 1)) (hq : pc + 1 = pc') (K : Go l Z EL n0 nr kn y bytes mL ret R h0 WS Q SF h k n pc' Ls (.int (x - z) :: st)) : Go l Z EL n0 nr kn y bytes mL ret R h0 WS Q SF h k n pc Ls (.int z :: .int x :: st) :=
  Go.plain (fun p e below T m c target hA hx hb hk => XS.isub hA hx rfl (hb ▸ hd) rfl (by subst hq; exact hk)) K
theorem Go.iand {x z : Int32} (hd : decode bytes pc = .ok (.iand, 1)) (hq : pc + 1 = pc') (K : Go l Z EL n0 nr kn y bytes mL ret R h0 WS Q SF h k n pc' Ls (.int (x &&& z) :: st)) : Go l Z EL n0 nr kn y bytes mL ret R h0 WS Q SF h k n pc Ls (.int z :: .int x :: st) :=
  Go.plain (fun p e below T m c target hA hx hb hk => XS.iand hA hx rfl (hb ▸ hd) rfl (by subst hq; exact hk)) K
theorem Go.imul {x z : Int32} (hd : decode bytes pc = .ok (.imul, 1)) (hq : pc + 1 = pc') (K : Go l Z EL n0 nr kn y bytes mL ret R h0 WS Q SF h k n pc' Ls (.int (x * z) :: st)) : Go l Z EL n0 nr kn y bytes mL ret R h0 WS Q SF h k n pc Ls (.int z :: .int x :: st) :=
  Go.plain (fun p e below T m c target hA hx hb hk => XS.imul hA hx rfl (hb ▸ hd) rfl (by subst hq; exact hk)) K
theorem Go.ior {x z : Int32} (hd : decode bytes pc = .ok (.ior, 1)) (hq : pc + 1 = pc') (K : Go l Z EL n0 nr kn y bytes mL ret R h0 WS Q SF h k n pc' Ls (.int (x ||| z) :: st)) : Go l Z EL n0 nr kn y bytes mL ret R h0 WS Q SF h k n pc Ls (.int z :: .int x :: st) :=
  Go.plain (fun p e below T m c target hA hx hb hk => XS.ior hA hx rfl (hb ▸ hd) rfl (by subst hq; exact hk)) K
theorem Go.ixor {x z : Int32} (hd : decode bytes pc = .ok (.ixor, 1)) (hq : pc + 1 = pc') (K : Go l Z EL n0 nr kn y bytes mL ret R h0 WS Q SF h k n pc' Ls (.int (x ^^^ z) :: st)) : Go l Z EL n0 nr kn y bytes mL ret R h0 WS Q SF h k n pc Ls (.int z :: .int x :: st) :=
  Go.plain (fun p e below T m c target hA hx hb hk => XS.ixor hA hx rfl (hb ▸ hd) rfl (by subst hq; exact hk)) K
theorem Go.ishl {x z : Int32} (hd : decode bytes pc = .ok (.ishl, 1)) (hq : pc + 1 = pc') (K : Go l Z EL n0 nr kn y bytes mL ret R h0 WS Q SF h k n pc' Ls (.int (x <<< (z &&& 31)) :: st)) : Go l Z EL n0 nr kn y bytes mL ret R h0 WS Q SF h k n pc Ls (.int z :: .int x :: st) :=
  Go.plain (fun p e below T m c target hA hx hb hk => XS.ishl hA hx rfl (hb ▸ hd) rfl (by subst hq; exact hk)) K
theorem Go.ishr {x z : Int32} (hd : decode bytes pc = .ok (.ishr, 1)) (hq : pc + 1 = pc') (K : Go l Z EL n0 nr kn y bytes mL ret R h0 WS Q SF h k n pc' Ls (.int (x >>> (z &&& 31)) :: st)) : Go l Z EL n0 nr kn y bytes mL ret R h0 WS Q SF h k n pc Ls (.int z :: .int x :: st) :=
  Go.plain (fun p e below T m c target hA hx hb hk => XS.ishr hA hx rfl (hb ▸ hd) rfl (by subst hq; exact hk)) K
theorem Go.iushr {x z : Int32} (hd : decode bytes pc = .ok (.iushr, 1)) (hq : pc + 1 = pc') (K : Go l Z EL n0 nr kn y bytes mL ret R h0 WS Q SF h k n pc' Ls (.int ((x.toUInt32 >>> (z &&& 31).toUInt32).toInt32) :: st)) : Go l Z EL n0 nr kn y bytes mL ret R h0 WS Q SF h k n pc Ls (.int z :: .int x :: st) :=
  Go.plain (fun p e below T m c target hA hx hb hk => XS.iushr hA hx rfl (hb ▸ hd) rfl (by subst hq; exact hk)) K
theorem Go.ineg {x : Int32} (hd : decode bytes pc = .ok (.ineg, 1)) (hq : pc + 1 = pc') (K : Go l Z EL n0 nr kn y bytes mL ret R h0 WS Q SF h k n pc' Ls (.int (-x) :: st)) : Go l Z EL n0 nr kn y bytes mL ret R h0 WS Q SF h k n pc Ls (.int x :: st) :=
  Go.plain (fun p e below T m c target hA hx hb hk => XS.ineg hA hx rfl (hb ▸ hd) rfl (by subst hq; exact hk)) K
theorem Go.i2b {x : Int32} (hd : decode bytes pc = .ok (.i2b, 1)) (hq : pc + 1 = pc') (K : Go l Z EL n0 nr kn y bytes mL ret R h0 WS Q SF h k n pc' Ls (.int x.toInt8.toInt32 :: st)) : Go l Z EL n0 nr kn y bytes mL ret R h0 WS Q SF h k n pc Ls (.int x :: st) :=
  Go.plain (fun p e below T m c target hA hx hb hk => XS.i2b hA hx rfl (hb ▸ hd) rfl (by subst hq; exact hk)) K
theorem Go.i2c {x : Int32} (hd : decode bytes pc = .ok (.i2c, 1)) (hq : pc + 1 = pc') (K : Go l Z EL n0 nr kn y bytes mL ret R h0 WS Q SF h k n pc' Ls (.int x.toUInt32.toUInt16.toUInt32.toInt32 :: st)) : Go l Z EL n0 nr kn y bytes mL ret R h0 WS Q SF h k n pc Ls (.int x :: st) :=
  Go.plain (fun p e below T m c target hA hx hb hk => XS.i2c hA hx rfl (hb ▸ hd) rfl (by subst hq; exact hk)) K
theorem Go.i2l {x : Int32} (hd : decode bytes pc = .ok (.i2l, 1)) (hq : pc + 1 = pc') (K : Go l Z EL n0 nr kn y bytes mL ret R h0 WS Q SF h k n pc' Ls (.long x.toInt64 :: st)) : Go l Z EL n0 nr kn y bytes mL ret R h0 WS Q SF h k n pc Ls (.int x :: st) :=
  Go.plain (fun p e below T m c target hA hx hb hk => XS.i2l hA hx rfl (hb ▸ hd) rfl (by subst hq; exact hk)) K
theorem Go.l2i {x : Int64} (hd : decode bytes pc = .ok (.l2i, 1)) (hq : pc + 1 = pc') (K : Go l Z EL n0 nr kn y bytes mL ret R h0 WS Q SF h k n pc' Ls (.int x.toInt32 :: st)) : Go l Z EL n0 nr kn y bytes mL ret R h0 WS Q SF h k n pc Ls (.long x :: st) :=
  Go.plain (fun p e below T m c target hA hx hb hk => XS.l2i hA hx rfl (hb ▸ hd) rfl (by subst hq; exact hk)) K
theorem Go.ladd {x z : Int64} (hd : decode bytes pc = .ok (.ladd, 1)) (hq : pc + 1 = pc') (K : Go l Z EL n0 nr kn y bytes mL ret R h0 WS Q SF h k n pc' Ls (.long (x + z) :: st)) : Go l Z EL n0 nr kn y bytes mL ret R h0 WS Q SF h k n pc Ls (.long z :: .long x :: st) :=
  Go.plain (fun p e below T m c target hA hx hb hk => XS.ladd hA hx rfl (hb ▸ hd) rfl (by subst hq; exact hk)) K
theorem Go.lsub {x z : Int64} (hd : decode bytes pc = .ok (.lsub, 1)) (hq : pc + 1 = pc') (K : Go l Z EL n0 nr kn y bytes mL ret R h0 WS Q SF h k n pc' Ls (.long (x - z) :: st)) : Go l Z EL n0 nr kn y bytes mL ret R h0 WS Q SF h k n pc Ls (.long z :: .long x :: st) :=
  Go.plain (fun p e below T m c target hA hx hb hk => XS.lsub hA hx rfl (hb ▸ hd) rfl (by subst hq; exact hk)) K
theorem Go.lmul {x z : Int64} (hd : decode bytes pc = .ok (.lmul, 1)) (hq : pc + 1 = pc') (K : Go l Z EL n0 nr kn y bytes mL ret R h0 WS Q SF h k n pc' Ls (.long (x * z) :: st)) : Go l Z EL n0 nr kn y bytes mL ret R h0 WS Q SF h k n pc Ls (.long z :: .long x :: st) :=
  Go.plain (fun p e below T m c target hA hx hb hk => XS.lmul hA hx rfl (hb ▸ hd) rfl (by subst hq; exact hk)) K
theorem Go.lcmp {x z : Int64} (hd : decode bytes pc = .ok (.lcmp, 1)) (hq : pc + 1 = pc') (K : Go l Z EL n0 nr kn y bytes mL ret R h0 WS Q SF h k n pc' Ls (.int (lcmpW x z) :: st)) : Go l Z EL n0 nr kn y bytes mL ret R h0 WS Q SF h k n pc Ls (.long z :: .long x :: st) :=
  Go.plain (fun p e below T m c target hA hx hb hk => XS.lcmp hA hx rfl (hb ▸ hd) rfl (by subst hq; exact hk)) K
theorem Go.dup {v : Value} (hd : decode bytes pc = .ok (.dup, 1)) (hq : pc + 1 = pc') (hc : v.category = 1) (K : Go l Z EL n0 nr kn y bytes mL ret R h0 WS Q SF h k n pc' Ls (v :: v :: st)) : Go l Z EL n0 nr kn y bytes mL ret R h0 WS Q SF h k n pc Ls (v :: st) :=
  Go.plain (fun p e below T m c target hA hx hb hk => XS.dup hA hx rfl (hb ▸ hd) rfl hc (by subst hq; exact hk)) K
theorem Go.pop {v : Value} (hd : decode bytes pc = .ok (.pop, 1)) (hq : pc + 1 = pc') (hc : v.category = 1) (K : Go l Z EL n0 nr kn y bytes mL ret R h0 WS Q SF h k n pc' Ls st) : Go l Z EL n0 nr kn y bytes mL ret R h0 WS Q SF h k n pc Ls (v :: st) :=
  Go.plain (fun p e below T m c target hA hx hb hk => XS.pop hA hx rfl (hb ▸ hd) rfl hc (by subst hq; exact hk)) K
theorem Go.dup_x1 {v u : Value} (hd : decode bytes pc = .ok (.dup_x1, 1)) (hq : pc + 1 = pc') (hc : v.category = 1) (hc' : u.category = 1) (K : Go l Z EL n0 nr kn y bytes mL ret R h0 WS Q SF h k n pc' Ls (v :: u :: v :: st)) : Go l Z EL n0 nr kn y bytes mL ret R h0 WS Q SF h k n pc Ls (v :: u :: st) :=
  Go.plain (fun p e below T m c target hA hx hb hk => XS.dupX1 hA hx rfl (hb ▸ hd) rfl hc hc' (by subst hq; exact hk)) K
theorem Go.istore_n {i : Fin 4} {x : Int32} (hd : decode bytes pc = .ok (.istore_n i, 1)) (hq : pc + 1 = pc') (hl : storeLocals Ls i.val (.int x) = some Ls') (K : Go l Z EL n0 nr kn y bytes mL ret R h0 WS Q SF h k n pc' Ls' st) : Go l Z EL n0 nr kn y bytes mL ret R h0 WS Q SF h k n pc Ls (.int x :: st) :=
  Go.plain (fun p e below T m c target hA hx hb hk => XS.istoreN hA hx rfl (hb ▸ hd) rfl hl (by subst hq; exact hk)) K
theorem Go.istore {i : Nat} {x : Int32} (hd : decode bytes pc = .ok (.istore i, 2)) (hq : pc + 2 = pc') (hl : storeLocals Ls i (.int x) = some Ls') (K : Go l Z EL n0 nr kn y bytes mL ret R h0 WS Q SF h k n pc' Ls' st) : Go l Z EL n0 nr kn y bytes mL ret R h0 WS Q SF h k n pc Ls (.int x :: st) :=
  Go.plain (fun p e below T m c target hA hx hb hk => XS.istore hA hx rfl (hb ▸ hd) rfl hl (by subst hq; exact hk)) K
theorem Go.istoreS {i : Nat} {x : Int32} {o : Slot} (hd : decode bytes pc = .ok (.istore i, 2)) (hq : pc + 2 = pc') (hold : Ls[i]? = some o) (ho : One o) (hl : Ls.setIfInBounds i (.val (.int x)) = Ls') (K : Go l Z EL n0 nr kn y bytes mL ret R h0 WS Q SF h k n pc' Ls' st) : Go l Z EL n0 nr kn y bytes mL ret R h0 WS Q SF h k n pc Ls (.int x :: st) :=
  Go.plain (fun p e below T m c target hA hx hb hk => XS.istoreS hA hx rfl (hb ▸ hd) rfl hold ho (by subst hq; subst hl; exact hk)) K
theorem Go.lstore_n {i : Fin 4} {x : Int64} (hd : decode bytes pc = .ok (.lstore_n i, 1)) (hq : pc + 1 = pc') (hl : storeLocals Ls i.val (.long x) = some Ls') (K : Go l Z EL n0 nr kn y bytes mL ret R h0 WS Q SF h k n pc' Ls' st) : Go l Z EL n0 nr kn y bytes mL ret R h0 WS Q SF h k n pc Ls (.long x :: st) :=
  Go.plain (fun p e below T m c target hA hx hb hk => XS.lstoreN hA hx rfl (hb ▸ hd) rfl hl (by subst hq; exact hk)) K
theorem Go.astore_n {i : Fin 4} {v : Value} (hd : decode bytes pc = .ok (.astore_n i, 1)) (hq : pc + 1 = pc') (hv : v.isRef = true) (hl : storeLocals Ls i.val v = some Ls') (K : Go l Z EL n0 nr kn y bytes mL ret R h0 WS Q SF h k n pc' Ls' st) : Go l Z EL n0 nr kn y bytes mL ret R h0 WS Q SF h k n pc Ls (v :: st) :=
  Go.plain (fun p e below T m c target hA hx hb hk => XS.astoreN hA hx rfl (hb ▸ hd) rfl hv hl (by subst hq; exact hk)) K
theorem Go.astore {i : Nat} {v : Value} (hd : decode bytes pc = .ok (.astore i, 2)) (hq : pc + 2 = pc') (hv : v.isRef = true) (hl : storeLocals Ls i v = some Ls') (K : Go l Z EL n0 nr kn y bytes mL ret R h0 WS Q SF h k n pc' Ls' st) : Go l Z EL n0 nr kn y bytes mL ret R h0 WS Q SF h k n pc Ls (v :: st) :=
  Go.plain (fun p e below T m c target hA hx hb hk => XS.astore hA hx rfl (hb ▸ hd) rfl hv hl (by subst hq; exact hk)) K
theorem Go.iinc {i : Nat} {cst : Int} {x cv : Int32} (hd : decode bytes pc = .ok (.iinc i cst, 3)) (hq : pc + 3 = pc') (hv : Int32.ofInt cst = cv) (hl : Ls[i]? = some (.val (.int x))) (hl' : storeLocals Ls i (.int (x + cv)) = some Ls') (K : Go l Z EL n0 nr kn y bytes mL ret R h0 WS Q SF h k n pc' Ls' st) : Go l Z EL n0 nr kn y bytes mL ret R h0 WS Q SF h k n pc Ls st :=
  Go.plain (fun p e below T m c target hA hx hb hk => XS.iinc hA hx rfl (hb ▸ hd) hl (by subst hv; exact hl') (by subst hq; exact hk)) K
theorem Go.irem {x z : Int32} (hd : decode bytes pc = .ok (.irem, 1)) (hq : pc + 1 = pc') (hz : z ≠ 0) (K : Go l Z EL n0 nr kn y bytes mL ret R h0 WS Q SF h k n pc' Ls (.int (x % z) :: st)) : Go l Z EL n0 nr kn y bytes mL ret R h0 WS Q SF h k n pc Ls (.int z :: .int x :: st) :=
  Go.plain (fun p e below T m c target hA hx hb hk => XS.irem hA hx rfl (hb ▸ hd) rfl hz (by rw [show x - x / z * z = x % z from irem_eq_mod x z]; subst hq; exact hk)) K
theorem Go.idiv {x z : Int32} (hd : decode bytes pc = .ok (.idiv, 1)) (hq : pc + 1 = pc') (hz : z ≠ 0) (K : Go l Z EL n0 nr kn y bytes mL ret R h0 WS Q SF h k n pc' Ls (.int (x / z) :: st)) : Go l Z EL n0 nr kn y bytes mL ret R h0 WS Q SF h k n pc Ls (.int z :: .int x :: st) :=
  Go.plain (fun p e below T m c target hA hx hb hk => XS.idiv hA hx rfl (hb ▸ hd) rfl hz (by subst hq; exact hk)) K
theorem Go.goto {o : Int} (hd : decode bytes pc = .ok (.goto o, 3)) (ho : 0 ≤ (pc : Int) + o) (hq : ((pc : Int) + o).toNat = pc') (K : Go l Z EL n0 nr kn y bytes mL ret R h0 WS Q SF h k n pc' Ls st) : Go l Z EL n0 nr kn y bytes mL ret R h0 WS Q SF h k n pc Ls st :=
  Go.plain (fun p e below T m c target hA hx hb hk => XS.goto hA hx rfl (pc0 := pc) (pc' := pc') rfl (hb ▸ hd) ho hq hk) K
theorem Go.ifY {cd : ClassFile.Cond} {x : Int32} {o : Int} (hd : decode bytes pc = .ok (.ifCond cd o, 3)) (ho : 0 ≤ (pc : Int) + o) (hq : ((pc : Int) + o).toNat = pc') (hc : ifCond.holds cd x = true) (K : Go l Z EL n0 nr kn y bytes mL ret R h0 WS Q SF h k n pc' Ls st) : Go l Z EL n0 nr kn y bytes mL ret R h0 WS Q SF h k n pc Ls (.int x :: st) :=
  Go.plain (fun p e below T m c target hA hx hb hk => XS.ifYes hA hx rfl (pc0 := pc) (pc' := pc') rfl (hb ▸ hd) rfl hc ho hq hk) K
theorem Go.icmpY {cd : ClassFile.Cond} {x z : Int32} {o : Int} (hd : decode bytes pc = .ok (.if_icmp cd o, 3)) (ho : 0 ≤ (pc : Int) + o) (hq : ((pc : Int) + o).toNat = pc') (hc : if_icmp.holds cd x z = true) (K : Go l Z EL n0 nr kn y bytes mL ret R h0 WS Q SF h k n pc' Ls st) : Go l Z EL n0 nr kn y bytes mL ret R h0 WS Q SF h k n pc Ls (.int z :: .int x :: st) :=
  Go.plain (fun p e below T m c target hA hx hb hk => XS.icmpYes hA hx rfl (pc0 := pc) (pc' := pc') rfl (hb ▸ hd) rfl hc ho hq hk) K
theorem Go.ifnullY {o : Int} (hd : decode bytes pc = .ok (.ifnull o, 3)) (ho : 0 ≤ (pc : Int) + o) (hq : ((pc : Int) + o).toNat = pc') (K : Go l Z EL n0 nr kn y bytes mL ret R h0 WS Q SF h k n pc' Ls st) : Go l Z EL n0 nr kn y bytes mL ret R h0 WS Q SF h k n pc Ls (.null :: st) :=
  Go.plain (fun p e below T m c target hA hx hb hk => XS.ifnullYes hA hx rfl (pc0 := pc) (pc' := pc') rfl (hb ▸ hd) rfl ho hq hk) K
theorem Go.ifnonnullY {b : Addr} {o : Int} (hd : decode bytes pc = .ok (.ifnonnull o, 3)) (ho : 0 ≤ (pc : Int) + o) (hq : ((pc : Int) + o).toNat = pc') (K : Go l Z EL n0 nr kn y bytes mL ret R h0 WS Q SF h k n pc' Ls st) : Go l Z EL n0 nr kn y bytes mL ret R h0 WS Q SF h k n pc Ls (.ref b :: st) :=
  Go.plain (fun p e below T m c target hA hx hb hk => XS.ifnonnullYes hA hx rfl (pc0 := pc) (pc' := pc') rfl (hb ▸ hd) rfl ho hq hk) K
theorem Go.ifN {cd : ClassFile.Cond} {o : Int} {x : Int32} (hd : decode bytes pc = .ok (.ifCond cd o, 3)) (hq : pc + 3 = pc') (hc : ifCond.holds cd x = false) (K : Go l Z EL n0 nr kn y bytes mL ret R h0 WS Q SF h k n pc' Ls st) : Go l Z EL n0 nr kn y bytes mL ret R h0 WS Q SF h k n pc Ls (.int x :: st) :=
  Go.plain (fun p e below T m c target hA hx hb hk => XS.ifNo hA hx rfl (hb ▸ hd) rfl hc (by subst hq; exact hk)) K
theorem Go.icmpN {cd : ClassFile.Cond} {o : Int} {x z : Int32} (hd : decode bytes pc = .ok (.if_icmp cd o, 3)) (hq : pc + 3 = pc') (hc : if_icmp.holds cd x z = false) (K : Go l Z EL n0 nr kn y bytes mL ret R h0 WS Q SF h k n pc' Ls st) : Go l Z EL n0 nr kn y bytes mL ret R h0 WS Q SF h k n pc Ls (.int z :: .int x :: st) :=
  Go.plain (fun p e below T m c target hA hx hb hk => XS.icmpNo hA hx rfl (hb ▸ hd) rfl hc (by subst hq; exact hk)) K
theorem Go.ifnullN {o : Int} {b : Addr} (hd : decode bytes pc = .ok (.ifnull o, 3)) (hq : pc + 3 = pc') (K : Go l Z EL n0 nr kn y bytes mL ret R h0 WS Q SF h k n pc' Ls st) : Go l Z EL n0 nr kn y bytes mL ret R h0 WS Q SF h k n pc Ls (.ref b :: st) :=
  Go.plain (fun p e below T m c target hA hx hb hk => XS.ifnullNo hA hx rfl (hb ▸ hd) rfl (by subst hq; exact hk)) K
theorem Go.ifnonnullN {o : Int} (hd : decode bytes pc = .ok (.ifnonnull o, 3)) (hq : pc + 3 = pc') (K : Go l Z EL n0 nr kn y bytes mL ret R h0 WS Q SF h k n pc' Ls st) : Go l Z EL n0 nr kn y bytes mL ret R h0 WS Q SF h k n pc Ls (.null :: st) :=
  Go.plain (fun p e below T m c target hA hx hb hk => XS.ifnonnullNo hA hx rfl (hb ▸ hd) rfl (by subst hq; exact hk)) K
theorem Go.acmp {cd : ACond} {v u : Value} {o : Int} {same : Bool} (hd : decode bytes pc = .ok (.if_acmp cd o, 3)) (hv : v.isRef = true) (hu : u.isRef = true) (hs : decide (v = u) = same) (ho : 0 ≤ (pc : Int) + o) (hq : pc' = if acV cd same = true then ((pc : Int) + o).toNat else pc + 3) (K : Go l Z EL n0 nr kn y bytes mL ret R h0 WS Q SF h k n pc' Ls st) : Go l Z EL n0 nr kn y bytes mL ret R h0 WS Q SF h k n pc Ls (u :: v :: st) := by
  intro p e s m args below meth c T hR
  obtain ⟨t, o, hs', r⟩ := K p e s m args below meth c T hR
  obtain ⟨⟨hx, hb, -⟩, vm0, k0, locs, X, -⟩ := hR
  exact ⟨t, o, Jvm.RoadKit.acmp (g := mkF m pc Ls (u :: v :: st)) X hx rfl hv hu (pc0 := pc) (pc' := pc') (same := same) rfl (hb ▸ hd) rfl hs ho hq hs', r⟩
theorem Go.getF {R0 O nf d host : String} {index : Nat} {a : Addr} {v : Value} (hd : decode bytes pc = .ok (.getfield index, 3)) (hq : pc + 3 = pc') (w : (Jvm.Cond.fieldLink y.cls index R0 nf d).before a0 Z = true ∨ (Jvm.Cond.fieldLinkNest y.cls index R0 nf d host).before a0 Z = true) (via : Via Z R0 O nf d) (F : Fld Z h a O nf d v) (K : Go l Z EL n0 nr kn y bytes mL ret R h0 WS Q SF h k n pc' Ls (v :: st)) : Go l Z EL n0 nr kn y bytes mL ret R h0 WS Q SF h k n pc Ls (.ref a :: st) := by
  intro p e s m args below meth c T hR
  obtain ⟨⟨hx, hby, hml, hown, hnm, hret, hlk, hkn⟩, vm0, k0, locs, X, e0, C⟩ := hR
  have hZ : Z.Warmed39 (s.setVm vm0).vm := C.1
  have hown' : (s.setVm vm0).vm.findClass y.cls = some m.cls := by rw [show (s.setVm vm0).vm = vm0 from rfl, C.2.1.1.1.alike.findClass]; exact hown
  obtain ⟨T', X', e', st'⟩ := Jvm.RoadKit.getF X hx hZ hown' w via e0 F (g := mkF m pc Ls (.ref a :: st)) rfl rfl (hb hby hd)
  obtain ⟨t, o, hs, r⟩ := K p e s m args below meth c T' ⟨⟨hx, hby, hml, hown, hnm, hret, hlk, hkn⟩, vm0, k0, locs, X', e', C⟩
  exact ⟨t, o, st' _ (by subst hq; exact hs), r⟩
theorem Go.getS {R0 O nf d host : String} {index : Nat} {v : Value} (hd : decode bytes pc = .ok (.getstatic index, 3)) (hq : pc + 3 = pc') (w : (Jvm.Cond.fieldLink y.cls index R0 nf d).before a0 Z = true ∨ (Jvm.Cond.fieldLinkNest y.cls index R0 nf d host).before a0 Z = true) (via : Via Z R0 O nf d) (F : Sta Z Z.heap O nf d v) (K : Go l Z EL n0 nr kn y bytes mL ret R h0 WS Q SF h k n pc' Ls (v :: st)) : Go l Z EL n0 nr kn y bytes mL ret R h0 WS Q SF h k n pc Ls st := by
  intro p e s m args below meth c T hR
  obtain ⟨⟨hx, hby, hml, hown, hnm, hret, hlk, hkn⟩, vm0, k0, locs, X, e0, C⟩ := hR
  have hZ : Z.Warmed39 (s.setVm vm0).vm := C.1
  have hown' : (s.setVm vm0).vm.findClass y.cls = some m.cls := by rw [show (s.setVm vm0).vm = vm0 from rfl, C.2.1.1.1.alike.findClass]; exact hown
  obtain ⟨T', X', e', st'⟩ := Jvm.RoadKit.getS2 X hx hZ hown' w via e0 (F.ext C.2.2.2.2.2.2.1.2) (g := mkF m pc Ls st) rfl (hb hby hd)
  obtain ⟨t, o, hs, r⟩ := K p e s m args below meth c T' ⟨⟨hx, hby, hml, hown, hnm, hret, hlk, hkn⟩, vm0, k0, locs, X', e', C⟩
  exact ⟨t, o, st' _ (by subst hq; exact hs), r⟩
theorem Go.castY {D : String} {index : Nat} {a : Addr} (hd : decode bytes pc = .ok (.checkcast index, 3)) (hq : pc + 3 = pc') (w : (Jvm.Cond.classLink y.cls index D).before a0 Z = true) (F : Ins Z h a D true) (K : Go l Z EL n0 nr kn y bytes mL ret R h0 WS Q SF h k n pc' Ls (.ref a :: st)) : Go l Z EL n0 nr kn y bytes mL ret R h0 WS Q SF h k n pc Ls (.ref a :: st) := by
  intro p e s m args below meth c T hR
  obtain ⟨⟨hx, hby, hml, hown, hnm, hret, hlk, hkn⟩, vm0, k0, locs, X, e0, C⟩ := hR
  have hZ : Z.Warmed39 (s.setVm vm0).vm := C.1
  have hown' : (s.setVm vm0).vm.findClass y.cls = some m.cls := by rw [show (s.setVm vm0).vm = vm0 from rfl, C.2.1.1.1.alike.findClass]; exact hown
  obtain ⟨T', X', e', st'⟩ := Jvm.RoadKit.castY X hx hZ hown' w e0 F (g := mkF m pc Ls (.ref a :: st)) rfl rfl (hb hby hd)
  obtain ⟨t, o, hs, r⟩ := K p e s m args below meth c T' ⟨⟨hx, hby, hml, hown, hnm, hret, hlk, hkn⟩, vm0, k0, locs, X', e', C⟩
  exact ⟨t, o, st' _ (by subst hq; exact hs), r⟩
theorem Go.instY {D : String} {index : Nat} {a : Addr} (hd : decode bytes pc = .ok (.instanceof index, 3)) (hq : pc + 3 = pc') (w : (Jvm.Cond.classLink y.cls index D).before a0 Z = true) (F : Ins Z h a D true) (K : Go l Z EL n0 nr kn y bytes mL ret R h0 WS Q SF h k n pc' Ls (.int 1 :: st)) : Go l Z EL n0 nr kn y bytes mL ret R h0 WS Q SF h k n pc Ls (.ref a :: st) := by
  intro p e s m args below meth c T hR
  obtain ⟨⟨hx, hby, hml, hown, hnm, hret, hlk, hkn⟩, vm0, k0, locs, X, e0, C⟩ := hR
  have hZ : Z.Warmed39 (s.setVm vm0).vm := C.1
  have hown' : (s.setVm vm0).vm.findClass y.cls = some m.cls := by rw [show (s.setVm vm0).vm = vm0 from rfl, C.2.1.1.1.alike.findClass]; exact hown
  obtain ⟨T', X', e', st'⟩ := Jvm.RoadKit.instY X hx hZ hown' w e0 F (g := mkF m pc Ls (.ref a :: st)) rfl rfl (hb hby hd)
  obtain ⟨t, o, hs, r⟩ := K p e s m args below meth c T' ⟨⟨hx, hby, hml, hown, hnm, hret, hlk, hkn⟩, vm0, k0, locs, X', e', C⟩
  exact ⟨t, o, st' _ (by subst hq; exact hs), r⟩
theorem Go.instNo {D CC : String} {index : Nat} {a : Addr} (hd : decode bytes pc = .ok (.instanceof index, 3)) (hq : pc + 3 = pc') (w : (Jvm.Cond.classLink y.cls index D).before a0 Z = true) (E : Exa Z h a CC) (F : ∃ c t, Z.vm.findClass CC = some c ∧ Z.vm.findClass D = some t ∧ Z.vm.assignable c t = false) (K : Go l Z EL n0 nr kn y bytes mL ret R h0 WS Q SF h k n pc' Ls (.int 0 :: st)) : Go l Z EL n0 nr kn y bytes mL ret R h0 WS Q SF h k n pc Ls (.ref a :: st) := by
  intro p e s m args below meth c T hR
  obtain ⟨⟨hx, hby, hml, hown, hnm, hret, hlk, hkn⟩, vm0, k0, locs, X, e0, C⟩ := hR
  have hZ : Z.Warmed39 (s.setVm vm0).vm := C.1
  have hown' : (s.setVm vm0).vm.findClass y.cls = some m.cls := by rw [show (s.setVm vm0).vm = vm0 from rfl, C.2.1.1.1.alike.findClass]; exact hown
  obtain ⟨T', X', e', st'⟩ := Jvm.RoadKit.instNo X hx hZ hown' w e0 E F (g := mkF m pc Ls (.ref a :: st)) rfl rfl (hb hby hd)
  obtain ⟨t, o, hs, r⟩ := K p e s m args below meth c T' ⟨⟨hx, hby, hml, hown, hnm, hret, hlk, hkn⟩, vm0, k0, locs, X', e', C⟩
  exact ⟨t, o, st' _ (by subst hq; exact hs), r⟩
theorem Go.initO {index W : Nat} {a : Addr} (hd : decode bytes pc = .ok (.invokespecial index, 3)) (hq : pc + 3 = pc') (w1 : (Jvm.Cond.methodLink y.cls index Lib.objectInit).before a0 Z = true) (w2 : (Jvm.Cond.instanceMethod Lib.objectInit).before a0 Z = true) (w3 : (Jvm.Cond.code Lib.objectInit ⟨#[0xb1]⟩ 1 none).before a0 Z = true) (hsz : Ls.size = mL) (hf : 1 ≤ R.frames) (hW : (st.map fun v => v.category).sum ≤ W) (hl : W + 12 ≤ R.locals) (K : Go l Z EL n0 nr kn y bytes mL ret R h0 WS Q SF h k n pc' Ls st) : Go l Z EL n0 nr kn y bytes mL ret R h0 WS Q SF h k n pc Ls (.ref a :: st) := by
  intro p e s m args below meth c T hR
  obtain ⟨⟨hx, hby, hml, hown, hnm, hret, hlk, hkn⟩, vm0, k0, locs, X, e0, C⟩ := hR
  have hZ : Z.Warmed39 (s.setVm vm0).vm := C.1
  have hown' : (s.setVm vm0).vm.findClass y.cls = some m.cls := by rw [show (s.setVm vm0).vm = vm0 from rfl, C.2.1.1.1.alike.findClass]; exact hown
  obtain ⟨T', X', e', st'⟩ := Jvm.RoadKit.initO X hx hZ hown' w1 w2 w3 e0 (g := mkF m pc Ls (.ref a :: st)) rfl (by rw [hml]; exact hsz) rfl (hb hby hd) hf (W := W) (by show 2 * 0 + _ ≤ _; rw [Nat.mul_zero, Nat.zero_add]; exact hW) hl
  obtain ⟨t, o, hs, r⟩ := K p e s m args below meth c T' ⟨⟨hx, hby, hml, hown, hnm, hret, hlk, hkn⟩, vm0, k0, locs, X', e', C⟩
  exact ⟨t, o, st' _ (by subst hq; exact hs), r⟩
theorem Go.gcls {index W : Nat} {CC : String} {a mr : Addr} (hd : decode bytes pc = .ok (.invokevirtual index, 3)) (hq : pc + 3 = pc') (w1 : (Jvm.Cond.methodLink y.cls index ⟨"java/lang/Object", "getClass", "()Ljava/lang/Class;"⟩).before a0 Z = true) (w2 : (Jvm.Cond.declares ⟨"java/lang/Object", "getClass", "()Ljava/lang/Class;"⟩).before a0 Z = true) (w3 : (Jvm.Cond.noSuperclass "java/lang/Object").before a0 Z = true) (w4 : (Jvm.Cond.selects CC ⟨"java/lang/Object", "getClass", "()Ljava/lang/Class;"⟩ ⟨"java/lang/Object", "getClass", "()Ljava/lang/Class;"⟩).before a0 Z = true)
    (w5 : (Jvm.Cond.instanceMethod ⟨"java/lang/Object", "getClass", "()Ljava/lang/Class;"⟩).before a0 Z = true) (w6 : (Jvm.Cond.native ⟨"java/lang/Object", "getClass", "()Ljava/lang/Class;"⟩).before a0 Z = true) (E : Exa Z h a CC) (M : Mr Z CC mr) (hsz : Ls.size = mL) (hf : 1 ≤ R.frames) (hW : (st.map fun v => v.category).sum ≤ W) (hl : W + (nativeFrameWords "java/lang/Object" "getClass" 1 + 11) ≤ R.locals) (K : Go l Z EL n0 nr kn y bytes mL ret R h0 WS Q SF h k n pc' Ls (.ref mr :: st)) : Go l Z EL n0 nr kn y bytes mL ret R h0 WS Q SF h k n pc Ls (.ref a :: st) := by
  intro p e s m args below meth c T hR
  obtain ⟨⟨hx, hby, hml, hown, hnm, hret, hlk, hkn⟩, vm0, k0, locs, X, e0, C⟩ := hR
  have hZ : Z.Warmed39 (s.setVm vm0).vm := C.1
  have hown' : (s.setVm vm0).vm.findClass y.cls = some m.cls := by rw [show (s.setVm vm0).vm = vm0 from rfl, C.2.1.1.1.alike.findClass]; exact hown
  obtain ⟨cB, kB, i1, i2, i3⟩ := isOf hZ e0 E
  obtain ⟨cc, kc, m1, m2, m3⟩ := M
  rw [hZ.alike.findClass] at i1
  cases i1.symm.trans m1
  obtain ⟨k', q, ek⟩ := hZ.alike.2.2 _ _ m2
  obtain ⟨vm', X', st'⟩ := X.getClassOf hx hown' (mvT hZ w1) (mvT hZ w2) (nf_top (args := #[]) (mvT hZ w3)) (mvT hZ w4) (mvT hZ w5) (mvT hZ w6) (by rw [hZ.alike.findClass]; exact m1) i3 q (by rw [ek]; exact m3) (g := mkF m pc Ls (.ref a :: st)) rfl (by rw [hml]; exact hsz) rfl (hb hby hd) hf (by show 2 * 0 + _ + _ ≤ _; omega)
  obtain ⟨t, o, hs, r⟩ := K p e s m args below meth c _ ⟨⟨hx, hby, hml, hown, hnm, hret, hlk, hkn⟩, vm0, k0, locs, X', e0, C⟩
  exact ⟨t, o, st' _ (by subst hq; exact hs), r⟩
theorem Go.ldcM {index : Nat} {CC : String} {mr : Addr} (hd : decode bytes pc = .ok (.ldc index, 2)) (hq : pc + 2 = pc') (w : (Jvm.Cond.classLink y.cls index CC).before a0 Z = true) (M : Mr Z CC mr) (K : Go l Z EL n0 nr kn y bytes mL ret R h0 WS Q SF h k n pc' Ls (.ref mr :: st)) : Go l Z EL n0 nr kn y bytes mL ret R h0 WS Q SF h k n pc Ls st := by
  intro p e s m args below meth c T hR
  obtain ⟨⟨hx, hby, hml, hown, hnm, hret, hlk, hkn⟩, vm0, k0, locs, X, e0, C⟩ := hR
  have hZ : Z.Warmed39 (s.setVm vm0).vm := C.1
  have hown' : (s.setVm vm0).vm.findClass y.cls = some m.cls := by rw [show (s.setVm vm0).vm = vm0 from rfl, C.2.1.1.1.alike.findClass]; exact hown
  obtain ⟨cc, kc, m1, m2, m3⟩ := M
  obtain ⟨k', q, ek⟩ := hZ.alike.2.2 _ _ m2
  have hev : (Term.mirror CC).eval args (s.setVm vm0) none [] (s.setVm vm0) = some (.ref mr) := by
    have q1 : (s.setVm vm0).vm.findClass CC = some cc := by rw [hZ.alike.findClass]; exact m1
    have q2 : k'.mirror = some mr := by rw [ek]; exact m3
    simp only [Term.eval, q1, q, q2, Option.bind_eq_bind, Option.bind_some, Option.pure_def]
  obtain ⟨vm', X', st'⟩ := X.ldcMirror hx hown' (mvT hZ w) hev (g := mkF m pc Ls st) rfl (hb hby hd)
  obtain ⟨t, o, hs, r⟩ := K p e s m args below meth c _ ⟨⟨hx, hby, hml, hown, hnm, hret, hlk, hkn⟩, vm0, k0, locs, X', e0, C⟩
  exact ⟨t, o, st' _ (by subst hq; exact hs), r⟩
theorem Go.ldcInt {index : Nat} {v : Int32} (hd : decode bytes pc = .ok (.ldc index, 2)) (hq : pc + 2 = pc') (w : (Jvm.Cond.constant y.cls index v).before a0 Z = true) (K : Go l Z EL n0 nr kn y bytes mL ret R h0 WS Q SF h k n pc' Ls (.int v :: st)) : Go l Z EL n0 nr kn y bytes mL ret R h0 WS Q SF h k n pc Ls st := by
  intro p e s m args below meth c T hR
  obtain ⟨⟨hx, hby, hml, hown, hnm, hret, hlk, hkn⟩, vm0, k0, locs, X, e0, C⟩ := hR
  have hZ : Z.Warmed39 (s.setVm vm0).vm := C.1
  have hown' : (s.setVm vm0).vm.findClass y.cls = some m.cls := by rw [show (s.setVm vm0).vm = vm0 from rfl, C.2.1.1.1.alike.findClass]; exact hown
  obtain ⟨t, o, hs, r⟩ := K p e s m args below meth c T ⟨⟨hx, hby, hml, hown, hnm, hret, hlk, hkn⟩, vm0, k0, locs, X, e0, C⟩
  exact ⟨t, o, X.ldcInt hx hown' (mvT hZ w) (g := mkF m pc Ls st) rfl (hb hby hd) _ (by subst hq; exact hs), r⟩
theorem Go.ldc2Long {index : Nat} {v : Int64} (hd : decode bytes pc = .ok (.ldc2_w index, 3)) (hq : pc + 3 = pc') (w : (Jvm.Cond.constantLong y.cls index v).before a0 Z = true) (K : Go l Z EL n0 nr kn y bytes mL ret R h0 WS Q SF h k n pc' Ls (.long v :: st)) : Go l Z EL n0 nr kn y bytes mL ret R h0 WS Q SF h k n pc Ls st := by
  intro p e s m args below meth c T hR
  obtain ⟨⟨hx, hby, hml, hown, hnm, hret, hlk, hkn⟩, vm0, k0, locs, X, e0, C⟩ := hR
  have hZ : Z.Warmed39 (s.setVm vm0).vm := C.1
  have hown' : (s.setVm vm0).vm.findClass y.cls = some m.cls := by rw [show (s.setVm vm0).vm = vm0 from rfl, C.2.1.1.1.alike.findClass]; exact hown
  obtain ⟨t, o, hs, r⟩ := K p e s m args below meth c T ⟨⟨hx, hby, hml, hown, hnm, hret, hlk, hkn⟩, vm0, k0, locs, X, e0, C⟩
  exact ⟨t, o, X.ldc2Long hx hown' (mvT hZ w) (g := mkF m pc Ls st) rfl (hb hby hd) _ (by subst hq; exact hs), r⟩
theorem Go.arraylength {a : Addr} {cl : Cell} {ty : FieldType} {z : Int32} (hd : decode bytes pc = .ok (.arraylength, 1)) (hq : pc + 1 = pc') (F : Arr Z h a cl ty) (hz : cl.slots.size.toInt32 = z) (K : Go l Z EL n0 nr kn y bytes mL ret R h0 WS Q SF h k n pc' Ls (.int z :: st)) : Go l Z EL n0 nr kn y bytes mL ret R h0 WS Q SF h k n pc Ls (.ref a :: st) := by
  intro p e s m args below meth c T hR
  obtain ⟨⟨hx, hby, hml, hown, hnm, hret, hlk, hkn⟩, vm0, k0, locs, X, e0, C⟩ := hR
  have hZ : Z.Warmed39 (s.setVm vm0).vm := C.1
  have hown' : (s.setVm vm0).vm.findClass y.cls = some m.cls := by rw [show (s.setVm vm0).vm = vm0 from rfl, C.2.1.1.1.alike.findClass]; exact hown
  obtain ⟨t, o, hs, r⟩ := K p e s m args below meth c T ⟨⟨hx, hby, hml, hown, hnm, hret, hlk, hkn⟩, vm0, k0, locs, X, e0, C⟩
  exact ⟨t, o, X.arraylength hx (by rw [e0]; exact F.1) (State.isArrayOf_alike hZ.alike F.2.1) (g := mkF m pc Ls (.ref a :: st)) rfl rfl (hb hby hd) _ (by subst hq; rw [hz]; exact hs), r⟩
theorem Go.lenV {a : Addr} {kk : ClassId} {ty : FieldType} {z : Int32} {vs : List Value} {dv : Value} (hd : decode bytes pc = .ok (.arraylength, 1)) (hq : pc + 1 = pc') (F : Arv Z h a kk ty z vs dv) (K : Go l Z EL n0 nr kn y bytes mL ret R h0 WS Q SF h k n pc' Ls (.int z :: st)) : Go l Z EL n0 nr kn y bytes mL ret R h0 WS Q SF h k n pc Ls (.ref a :: st) := by
  intro p e s m args below meth c T hR
  obtain ⟨⟨hx, hby, hml, hown, hnm, hret, hlk, hkn⟩, vm0, k0, locs, X, e0, C⟩ := hR
  have hZ : Z.Warmed39 (s.setVm vm0).vm := C.1
  have hown' : (s.setVm vm0).vm.findClass y.cls = some m.cls := by rw [show (s.setVm vm0).vm = vm0 from rfl, C.2.1.1.1.alike.findClass]; exact hown
  obtain ⟨cl, F, -, S, N, -, -⟩ := F
  obtain ⟨t, o, hs, r⟩ := K p e s m args below meth c T ⟨⟨hx, hby, hml, hown, hnm, hret, hlk, hkn⟩, vm0, k0, locs, X, e0, C⟩
  exact ⟨t, o, X.arraylength hx (by rw [e0]; exact F.1) (State.isArrayOf_alike hZ.alike F.2.1) (g := mkF m pc Ls (.ref a :: st)) rfl rfl (hb hby hd) _ (by subst hq; rw [len_of S N]; exact hs), r⟩
theorem Go.caload {a : Addr} {cl : Cell} {j : Int32} {v : Value} (hd : decode bytes pc = .ok (.caload, 1)) (hq : pc + 1 = pc') (F : Arr Z h a cl .char) (hin : ¬ (j < 0 ∨ cl.slots.size ≤ j.toNatClampNeg)) (hv : cl.slots[j.toNatClampNeg]? = some v) (K : Go l Z EL n0 nr kn y bytes mL ret R h0 WS Q SF h k n pc' Ls (v :: st)) : Go l Z EL n0 nr kn y bytes mL ret R h0 WS Q SF h k n pc Ls (.int j :: .ref a :: st) := by
  intro p e s m args below meth c T hR
  obtain ⟨⟨hx, hby, hml, hown, hnm, hret, hlk, hkn⟩, vm0, k0, locs, X, e0, C⟩ := hR
  have hZ : Z.Warmed39 (s.setVm vm0).vm := C.1
  have hown' : (s.setVm vm0).vm.findClass y.cls = some m.cls := by rw [show (s.setVm vm0).vm = vm0 from rfl, C.2.1.1.1.alike.findClass]; exact hown
  obtain ⟨t, o, hs, r⟩ := K p e s m args below meth c T ⟨⟨hx, hby, hml, hown, hnm, hret, hlk, hkn⟩, vm0, k0, locs, X, e0, C⟩
  exact ⟨t, o, X.caload hx (by rw [e0]; exact F.1) (State.isArrayOf_alike hZ.alike F.2.1) F.2.2 hin hv (g := mkF m pc Ls (.int j :: .ref a :: st)) rfl rfl (hb hby hd) _ (by subst hq; exact hs), r⟩
theorem Go.caloadV {a : Addr} {kk : ClassId} {z j : Int32} {vs : List Value} {v dv : Value} (hd : decode bytes pc = .ok (.caload, 1)) (hq : pc + 1 = pc') (F : Arv Z h a kk .char z vs dv) (hj : ¬ j < 0 ∧ j < z) (hv : vs.getD j.toNatClampNeg dv = v) (K : Go l Z EL n0 nr kn y bytes mL ret R h0 WS Q SF h k n pc' Ls (v :: st)) : Go l Z EL n0 nr kn y bytes mL ret R h0 WS Q SF h k n pc Ls (.int j :: .ref a :: st) := by
  intro p e s m args below meth c T hR
  obtain ⟨⟨hx, hby, hml, hown, hnm, hret, hlk, hkn⟩, vm0, k0, locs, X, e0, C⟩ := hR
  have hZ : Z.Warmed39 (s.setVm vm0).vm := C.1
  have hown' : (s.setVm vm0).vm.findClass y.cls = some m.cls := by rw [show (s.setVm vm0).vm = vm0 from rfl, C.2.1.1.1.alike.findClass]; exact hown
  obtain ⟨cl, F, -, S, N, H, -⟩ := F
  have hin := inb_of S hj
  have hv := Has.at H hin hv
  obtain ⟨t, o, hs, r⟩ := K p e s m args below meth c T ⟨⟨hx, hby, hml, hown, hnm, hret, hlk, hkn⟩, vm0, k0, locs, X, e0, C⟩
  exact ⟨t, o, X.caload hx (by rw [e0]; exact F.1) (State.isArrayOf_alike hZ.alike F.2.1) F.2.2 hin hv (g := mkF m pc Ls (.int j :: .ref a :: st)) rfl rfl (hb hby hd) _ (by subst hq; exact hs), r⟩
theorem Go.baload {a : Addr} {cl : Cell} {j : Int32} {v : Value} (hd : decode bytes pc = .ok (.baload, 1)) (hq : pc + 1 = pc') (F : Arr Z h a cl .byte) (hin : ¬ (j < 0 ∨ cl.slots.size ≤ j.toNatClampNeg)) (hv : cl.slots[j.toNatClampNeg]? = some v) (K : Go l Z EL n0 nr kn y bytes mL ret R h0 WS Q SF h k n pc' Ls (v :: st)) : Go l Z EL n0 nr kn y bytes mL ret R h0 WS Q SF h k n pc Ls (.int j :: .ref a :: st) := by
  intro p e s m args below meth c T hR
  obtain ⟨⟨hx, hby, hml, hown, hnm, hret, hlk, hkn⟩, vm0, k0, locs, X, e0, C⟩ := hR
  have hZ : Z.Warmed39 (s.setVm vm0).vm := C.1
  have hown' : (s.setVm vm0).vm.findClass y.cls = some m.cls := by rw [show (s.setVm vm0).vm = vm0 from rfl, C.2.1.1.1.alike.findClass]; exact hown
  obtain ⟨t, o, hs, r⟩ := K p e s m args below meth c T ⟨⟨hx, hby, hml, hown, hnm, hret, hlk, hkn⟩, vm0, k0, locs, X, e0, C⟩
  exact ⟨t, o, X.baloadBytes hx (by rw [e0]; exact F.1) (State.isArrayOf_alike hZ.alike F.2.1) F.2.2 hin hv (g := mkF m pc Ls (.int j :: .ref a :: st)) rfl rfl (hb hby hd) _ (by subst hq; exact hs), r⟩
theorem Go.baloadV {a : Addr} {kk : ClassId} {z j : Int32} {vs : List Value} {v dv : Value} (hd : decode bytes pc = .ok (.baload, 1)) (hq : pc + 1 = pc') (F : Arv Z h a kk .byte z vs dv) (hj : ¬ j < 0 ∧ j < z) (hv : vs.getD j.toNatClampNeg dv = v) (K : Go l Z EL n0 nr kn y bytes mL ret R h0 WS Q SF h k n pc' Ls (v :: st)) : Go l Z EL n0 nr kn y bytes mL ret R h0 WS Q SF h k n pc Ls (.int j :: .ref a :: st) := by
  intro p e s m args below meth c T hR
  obtain ⟨⟨hx, hby, hml, hown, hnm, hret, hlk, hkn⟩, vm0, k0, locs, X, e0, C⟩ := hR
  have hZ : Z.Warmed39 (s.setVm vm0).vm := C.1
  have hown' : (s.setVm vm0).vm.findClass y.cls = some m.cls := by rw [show (s.setVm vm0).vm = vm0 from rfl, C.2.1.1.1.alike.findClass]; exact hown
  obtain ⟨cl, F, -, S, N, H, -⟩ := F
  have hin := inb_of S hj
  have hv := Has.at H hin hv
  obtain ⟨t, o, hs, r⟩ := K p e s m args below meth c T ⟨⟨hx, hby, hml, hown, hnm, hret, hlk, hkn⟩, vm0, k0, locs, X, e0, C⟩
  exact ⟨t, o, X.baloadBytes hx (by rw [e0]; exact F.1) (State.isArrayOf_alike hZ.alike F.2.1) F.2.2 hin hv (g := mkF m pc Ls (.int j :: .ref a :: st)) rfl rfl (hb hby hd) _ (by subst hq; exact hs), r⟩
theorem Go.iaload {a : Addr} {cl : Cell} {j : Int32} {v : Value} (hd : decode bytes pc = .ok (.iaload, 1)) (hq : pc + 1 = pc') (F : Arr Z h a cl .int) (hin : ¬ (j < 0 ∨ cl.slots.size ≤ j.toNatClampNeg)) (hv : cl.slots[j.toNatClampNeg]? = some v) (K : Go l Z EL n0 nr kn y bytes mL ret R h0 WS Q SF h k n pc' Ls (v :: st)) : Go l Z EL n0 nr kn y bytes mL ret R h0 WS Q SF h k n pc Ls (.int j :: .ref a :: st) := by
  intro p e s m args below meth c T hR
  obtain ⟨⟨hx, hby, hml, hown, hnm, hret, hlk, hkn⟩, vm0, k0, locs, X, e0, C⟩ := hR
  have hZ : Z.Warmed39 (s.setVm vm0).vm := C.1
  have hown' : (s.setVm vm0).vm.findClass y.cls = some m.cls := by rw [show (s.setVm vm0).vm = vm0 from rfl, C.2.1.1.1.alike.findClass]; exact hown
  obtain ⟨t, o, hs, r⟩ := K p e s m args below meth c T ⟨⟨hx, hby, hml, hown, hnm, hret, hlk, hkn⟩, vm0, k0, locs, X, e0, C⟩
  exact ⟨t, o, X.iaload hx (by rw [e0]; exact F.1) (State.isArrayOf_alike hZ.alike F.2.1) F.2.2 hin hv (g := mkF m pc Ls (.int j :: .ref a :: st)) rfl rfl (hb hby hd) _ (by subst hq; exact hs), r⟩
theorem Go.ialoadV {a : Addr} {kk : ClassId} {z j : Int32} {vs : List Value} {v dv : Value} (hd : decode bytes pc = .ok (.iaload, 1)) (hq : pc + 1 = pc') (F : Arv Z h a kk .int z vs dv) (hj : ¬ j < 0 ∧ j < z) (hv : vs.getD j.toNatClampNeg dv = v) (K : Go l Z EL n0 nr kn y bytes mL ret R h0 WS Q SF h k n pc' Ls (v :: st)) : Go l Z EL n0 nr kn y bytes mL ret R h0 WS Q SF h k n pc Ls (.int j :: .ref a :: st) := by
  intro p e s m args below meth c T hR
  obtain ⟨⟨hx, hby, hml, hown, hnm, hret, hlk, hkn⟩, vm0, k0, locs, X, e0, C⟩ := hR
  have hZ : Z.Warmed39 (s.setVm vm0).vm := C.1
  have hown' : (s.setVm vm0).vm.findClass y.cls = some m.cls := by rw [show (s.setVm vm0).vm = vm0 from rfl, C.2.1.1.1.alike.findClass]; exact hown
  obtain ⟨cl, F, -, S, N, H, -⟩ := F
  have hin := inb_of S hj
  have hv := Has.at H hin hv
  obtain ⟨t, o, hs, r⟩ := K p e s m args below meth c T ⟨⟨hx, hby, hml, hown, hnm, hret, hlk, hkn⟩, vm0, k0, locs, X, e0, C⟩
  exact ⟨t, o, X.iaload hx (by rw [e0]; exact F.1) (State.isArrayOf_alike hZ.alike F.2.1) F.2.2 hin hv (g := mkF m pc Ls (.int j :: .ref a :: st)) rfl rfl (hb hby hd) _ (by subst hq; exact hs), r⟩
theorem Go.aaload {ty : FieldType} {a : Addr} {cl : Cell} {j : Int32} {v : Value} (hd : decode bytes pc = .ok (.aaload, 1)) (hq : pc + 1 = pc') (F : Arr Z h a cl ty) (hty : ty.isReference = true) (hin : ¬ (j < 0 ∨ cl.slots.size ≤ j.toNatClampNeg)) (hv : cl.slots[j.toNatClampNeg]? = some v) (K : Go l Z EL n0 nr kn y bytes mL ret R h0 WS Q SF h k n pc' Ls (v :: st)) : Go l Z EL n0 nr kn y bytes mL ret R h0 WS Q SF h k n pc Ls (.int j :: .ref a :: st) := by
  intro p e s m args below meth c T hR
  obtain ⟨⟨hx, hby, hml, hown, hnm, hret, hlk, hkn⟩, vm0, k0, locs, X, e0, C⟩ := hR
  have hZ : Z.Warmed39 (s.setVm vm0).vm := C.1
  have hown' : (s.setVm vm0).vm.findClass y.cls = some m.cls := by rw [show (s.setVm vm0).vm = vm0 from rfl, C.2.1.1.1.alike.findClass]; exact hown
  obtain ⟨t, o, hs, r⟩ := K p e s m args below meth c T ⟨⟨hx, hby, hml, hown, hnm, hret, hlk, hkn⟩, vm0, k0, locs, X, e0, C⟩
  exact ⟨t, o, X.aaload hx (by rw [e0]; exact F.1) (State.isArrayOf_alike hZ.alike F.2.1) hty F.2.2 hin hv (g := mkF m pc Ls (.int j :: .ref a :: st)) rfl rfl (hb hby hd) _ (by subst hq; exact hs), r⟩
theorem Go.aaloadV {ty : FieldType} {a : Addr} {kk : ClassId} {z j : Int32} {vs : List Value} {v dv : Value} (hd : decode bytes pc = .ok (.aaload, 1)) (hq : pc + 1 = pc') (F : Arv Z h a kk ty z vs dv) (hty : ty.isReference = true) (hj : ¬ j < 0 ∧ j < z) (hv : vs.getD j.toNatClampNeg dv = v) (K : Go l Z EL n0 nr kn y bytes mL ret R h0 WS Q SF h k n pc' Ls (v :: st)) : Go l Z EL n0 nr kn y bytes mL ret R h0 WS Q SF h k n pc Ls (.int j :: .ref a :: st) := by
  intro p e s m args below meth c T hR
  obtain ⟨⟨hx, hby, hml, hown, hnm, hret, hlk, hkn⟩, vm0, k0, locs, X, e0, C⟩ := hR
  have hZ : Z.Warmed39 (s.setVm vm0).vm := C.1
  have hown' : (s.setVm vm0).vm.findClass y.cls = some m.cls := by rw [show (s.setVm vm0).vm = vm0 from rfl, C.2.1.1.1.alike.findClass]; exact hown
  obtain ⟨cl, F, -, S, N, H, -⟩ := F
  have hin := inb_of S hj
  have hv := Has.at H hin hv
  obtain ⟨t, o, hs, r⟩ := K p e s m args below meth c T ⟨⟨hx, hby, hml, hown, hnm, hret, hlk, hkn⟩, vm0, k0, locs, X, e0, C⟩
  exact ⟨t, o, X.aaload hx (by rw [e0]; exact F.1) (State.isArrayOf_alike hZ.alike F.2.1) hty F.2.2 hin hv (g := mkF m pc Ls (.int j :: .ref a :: st)) rfl rfl (hb hby hd) _ (by subst hq; exact hs), r⟩
theorem Go.newO {CC : String} {index nn : Nat} (hd : decode bytes pc = .ok (.new index, 3)) (hq : pc + 3 = pc') (w : (Jvm.Cond.classLink y.cls index CC).before a0 Z = true) (wi : (Jvm.Cond.instantiable CC nn).before a0 Z = true) (wz : (Jvm.Cond.initialized CC).before a0 Z = true) (hc : k + 1 ≤ R.cells) (hl : n + nn ≤ R.slots)
    (K : ∀ h' a, h.size = a → h0.size ≤ a → Ext h h' → Exa Z h' a CC → (∀ {O nm d : String} {ty : FieldType}, Laid Z a0 CC O nm d → parseFieldDescriptor d = some ty → Fld Z h' a O nm d (defaultValue ty)) → Unt h' a → Go l Z EL n0 nr kn y bytes mL ret R h0 WS Q (a :: SF) h' (k + 1) (n + nn) pc' Ls (.ref a :: st)) : Go l Z EL n0 nr kn y bytes mL ret R h0 WS Q SF h k n pc Ls st := by
  intro p e s m args below meth c T hR
  obtain ⟨⟨hx, hby, hml, hown, hnm, hret, hlk, hkn⟩, vm0, k0, locs, X, e0, C⟩ := hR
  have hZ : Z.Warmed39 (s.setVm vm0).vm := C.1
  have hown' : (s.setVm vm0).vm.findClass y.cls = some m.cls := by rw [show (s.setVm vm0).vm = vm0 from rfl, C.2.1.1.1.alike.findClass]; exact hown
  obtain ⟨T', h', X', e', E, AA, D, U, st'⟩ := Jvm.RoadKit.newO X hx hZ hown' w wi wz e0 (g := mkF m pc Ls st) rfl (hb hby hd) hc hl
  have hlt : h.size < h'.size := AA.lt
  obtain ⟨t, o, hs, r⟩ := K h' h.size rfl C.2.2.2.2.2.2.2.1.1 E AA D U p e s m args below meth c T' ⟨⟨hx, hby, hml, hown, hnm, hret, hlk, hkn⟩, vm0, k0, locs, X', e', C.push E hlt⟩
  exact ⟨t, o, st' _ (by subst hq; exact hs), r⟩
theorem Go.newP {aty : ArrayType} {z : Int32} {cap : Nat} {ad : String} (hd : decode bytes pc = .ok (.newarray aty, 2)) (hq : pc + 2 = pc') (w : (Jvm.Cond.arrayClass (newarray.typeOf aty)).before a0 Z = true) (had : "[" ++ (newarray.typeOf aty).toString = ad) (hz : ¬ z < 0) (hcap : z.toNatClampNeg ≤ cap) (hbig : cap * 8 ≤ 536870912) (hc : k + 1 ≤ R.cells) (hl : n + cap ≤ R.slots)
    (K : ∀ h' a, h.size = a → h0.size ≤ a → ∀ cA, Ext h h' → Arv Z h' a cA (newarray.typeOf aty) z [] (defaultValue (newarray.typeOf aty)) → Exa Z h' a ad → Go l Z EL n0 nr kn y bytes mL ret R h0 WS Q (a :: SF) h' (k + 1) (n + cap) pc' Ls (.ref a :: st)) : Go l Z EL n0 nr kn y bytes mL ret R h0 WS Q SF h k n pc Ls (.int z :: st) := by
  intro p e s m args below meth c T hR
  obtain ⟨⟨hx, hby, hml, hown, hnm, hret, hlk, hkn⟩, vm0, k0, locs, X, e0, C⟩ := hR
  have hZ : Z.Warmed39 (s.setVm vm0).vm := C.1
  have hown' : (s.setVm vm0).vm.findClass y.cls = some m.cls := by rw [show (s.setVm vm0).vm = vm0 from rfl, C.2.1.1.1.alike.findClass]; exact hown
  obtain ⟨T', h', cA, X', e', E, AA, EE, st'⟩ := Jvm.RoadKit.newPE X hx hZ w e0 (g := mkF m pc Ls (.int z :: st)) rfl (hb hby hd) rfl hz hcap hbig hc hl had
  have hlt : h.size < h'.size := AA.lt
  obtain ⟨t, o, hs, r⟩ := K h' h.size rfl C.2.2.2.2.2.2.2.1.1 cA E (Arv.new AA hz) EE p e s m args below meth c T' ⟨⟨hx, hby, hml, hown, hnm, hret, hlk, hkn⟩, vm0, k0, locs, X', e', C.push E hlt⟩
  exact ⟨t, o, st' _ (by subst hq; exact hs), r⟩
theorem Go.newR {CC : String} {index : Nat} {z : Int32} {cap : Nat} {ad : String} (hd : decode bytes pc = .ok (.anewarray index, 3)) (hq : pc + 3 = pc') (w1 : (Jvm.Cond.classLink y.cls index CC).before a0 Z = true) (w2 : (Jvm.Cond.arrayOver (.object CC)).before a0 Z = true) (had : "[" ++ (FieldType.object CC).toString = ad) (hz : ¬ z < 0) (hcap : z.toNatClampNeg ≤ cap) (hbig : cap * 8 ≤ 536870912) (hc : k + 1 ≤ R.cells) (hl : n + cap ≤ R.slots)
    (K : ∀ h' a, h.size = a → h0.size ≤ a → ∀ cA, Ext h h' → Arv Z h' a cA (.object CC) z [] .null → Exa Z h' a ad → Ovr Z cA CC → Go l Z EL n0 nr kn y bytes mL ret R h0 WS Q (a :: SF) h' (k + 1) (n + cap) pc' Ls (.ref a :: st)) : Go l Z EL n0 nr kn y bytes mL ret R h0 WS Q SF h k n pc Ls (.int z :: st) := by
  intro p e s m args below meth c T hR
  obtain ⟨⟨hx, hby, hml, hown, hnm, hret, hlk, hkn⟩, vm0, k0, locs, X, e0, C⟩ := hR
  have hZ : Z.Warmed39 (s.setVm vm0).vm := C.1
  have hown' : (s.setVm vm0).vm.findClass y.cls = some m.cls := by rw [show (s.setVm vm0).vm = vm0 from rfl, C.2.1.1.1.alike.findClass]; exact hown
  obtain ⟨T', h', cA, X', e', E, AA, EE, OO, st'⟩ := Jvm.RoadKit.newRE X hx hZ hown' w1 w2 e0 (g := mkF m pc Ls (.int z :: st)) rfl (hb hby hd) rfl hz hcap hbig hc hl had
  have hlt : h.size < h'.size := AA.lt
  obtain ⟨t, o, hs, r⟩ := K h' h.size rfl C.2.2.2.2.2.2.2.1.1 cA E (Arv.new AA hz) EE OO p e s m args below meth c T' ⟨⟨hx, hby, hml, hown, hnm, hret, hlk, hkn⟩, vm0, k0, locs, X', e', C.push E hlt⟩
  exact ⟨t, o, st' _ (by subst hq; exact hs), r⟩
theorem Go.clone {index W : Nat} {ad : String} {a : Addr} {ty : FieldType} {kk : ClassId} {z : Int32} {hs0 : List (Int32 × Value)} {vs : List Value} {dv : Value} {cap : Nat} (hd : decode bytes pc = .ok (.invokevirtual index, 3)) (hq : pc + 3 = pc') (w1 : (Jvm.Cond.methodLink y.cls index ⟨ad, "clone", "()Ljava/lang/Object;"⟩).before a0 Z = true) (w2 : (Jvm.Cond.sameMethod ad "java/lang/Object" "clone" "()Ljava/lang/Object;").before a0 Z = true) (w3 : (Jvm.Cond.native ⟨"java/lang/Object", "clone", "()Ljava/lang/Object;"⟩).before a0 Z = true)
    (w4 : (Jvm.Cond.instanceMethod ⟨"java/lang/Object", "clone", "()Ljava/lang/Object;"⟩).before a0 Z = true) (w5 : (Jvm.Cond.selects ad ⟨ad, "clone", "()Ljava/lang/Object;"⟩ ⟨"java/lang/Object", "clone", "()Ljava/lang/Object;"⟩).before a0 Z = true) (w6 : (Jvm.Cond.castable ad "java/lang/Cloneable").before a0 Z = true) (F : Arh Z h a kk ty z hs0 vs dv) (E0 : Exa Z h a ad) (hsz : Ls.size = mL) (hf : 1 ≤ R.frames) (hW : (st.map fun v => v.category).sum ≤ W) (hl : W + 14 ≤ R.locals) (hcap : z.toNatClampNeg ≤ cap) (hc : k + 1 ≤ R.cells) (hsl : n + cap ≤ R.slots)
    (K : ∀ h' a, h.size = a → h0.size ≤ a → Ext h h' → Arh Z h' a kk ty z hs0 vs dv → Exa Z h' a ad → Go l Z EL n0 nr kn y bytes mL ret R h0 WS Q (a :: SF) h' (k + 1) (n + cap) pc' Ls (.ref a :: st)) : Go l Z EL n0 nr kn y bytes mL ret R h0 WS Q SF h k n pc Ls (.ref a :: st) := by
  intro p e s m args below meth c T hR
  obtain ⟨⟨hx, hby, hml, hown, hnm, hret, hlk, hkn⟩, vm0, k0, locs, X, e0, C⟩ := hR
  have hZ : Z.Warmed39 (s.setVm vm0).vm := C.1
  have hown' : (s.setVm vm0).vm.findClass y.cls = some m.cls := by rw [show (s.setVm vm0).vm = vm0 from rfl, C.2.1.1.1.alike.findClass]; exact hown
  obtain ⟨T', h', X', e', E, AA, EE, st'⟩ := Jvm.RoadKit.cloneH X hx hZ hown' w1 w2 w3 w4 w5 w6 e0 F E0 (g := mkF m pc Ls (.ref a :: st)) rfl (by rw [hml]; exact hsz) rfl (hb hby hd) hf (W := W) (cap := cap) (by show 2 * 0 + _ ≤ _; rw [Nat.mul_zero, Nat.zero_add]; exact hW) hl hcap hc hsl
  have hlt : h.size < h'.size := EE.lt
  obtain ⟨t, o, hs, r⟩ := K h' h.size rfl C.2.2.2.2.2.2.2.1.1 E AA EE p e s m args below meth c T' ⟨⟨hx, hby, hml, hown, hnm, hret, hlk, hkn⟩, vm0, k0, locs, X', e', C.push E hlt⟩
  exact ⟨t, o, st' _ (by subst hq; exact hs), r⟩
theorem Go.putF {R0 O nf d host CC : String} {index kk : Nat} {ty : FieldType} {a : Addr} {v old : Value} (hd : decode bytes pc = .ok (.putfield index, 3)) (hq : pc + 3 = pc') (ha : a ∈ SF) (w : (Jvm.Cond.fieldLink y.cls index R0 nf d).before a0 Z = true ∨ (Jvm.Cond.fieldLinkNest y.cls index R0 nf d host).before a0 Z = true) (via : Via Z R0 O nf d) (F : Fld Z h a O nf d old) (E : Exa Z h a CC) (L : (Jvm.Cond.lays CC O nf d).before a0 Z = true ∨ ((Jvm.Cond.laysFinal CC O nf d).before a0 Z = true ∧ y.cls = O ∧ y.name = "<init>")) (wi : (Jvm.Cond.instantiable CC kk).before a0 Z = true) (hty : parseFieldDescriptor d = some ty) (hn : narrow ty v = v) (hf : fits ty v = true)
    (K : ∀ h', Wr h h' a (Jvm.RoadKit.slotOf Z O nf d) v → Go l Z EL n0 nr kn y bytes mL ret R h0 WS Q SF h' k n pc' Ls st) : Go l Z EL n0 nr kn y bytes mL ret R h0 WS Q SF h k n pc Ls (v :: .ref a :: st) := by
  intro p e s m args below meth c T hR
  obtain ⟨⟨hx, hby, hml, hown, hnm, hret, hlk, hkn⟩, vm0, k0, locs, X, e0, C⟩ := hR
  have hZ : Z.Warmed39 (s.setVm vm0).vm := C.1
  have hown' : (s.setVm vm0).vm.findClass y.cls = some m.cls := by rw [show (s.setVm vm0).vm = vm0 from rfl, C.2.1.1.1.alike.findClass]; exact hown
  have L' := L.imp id (fun q => (⟨q.1, q.2.1, hnm.trans q.2.2⟩ : _ ∧ _ ∧ meth.name = "<init>"))
  obtain ⟨T', h', X', e', W', st'⟩ := Jvm.RoadKit.putF X hx hZ hown' w via e0 F E L' wi hty hn hf (g := mkF m pc Ls (v :: .ref a :: st)) rfl rfl (hb hby hd)
  obtain ⟨t, o, hs, r⟩ := K h' W' p e s m args below meth c T' ⟨⟨hx, hby, hml, hown, hnm, hret, hlk, hkn⟩, vm0, k0, _, X', e', C.wr W' ha⟩
  exact ⟨t, o, st' _ (by subst hq; exact hs), r⟩
theorem Go.putFN {R0 O nf d CC : String} {index kk : Nat} {ty : FieldType} {a : Addr} {v v' old : Value} (hd : decode bytes pc = .ok (.putfield index, 3)) (hq : pc + 3 = pc') (ha : a ∈ SF) (w : (Jvm.Cond.fieldLink y.cls index R0 nf d).before a0 Z = true) (via : Via Z R0 O nf d) (F : Fld Z h a O nf d old) (E : Exa Z h a CC) (L : (Jvm.Cond.lays CC O nf d).before a0 Z = true ∨ ((Jvm.Cond.laysFinal CC O nf d).before a0 Z = true ∧ y.cls = O ∧ y.name = "<init>")) (wi : (Jvm.Cond.instantiable CC kk).before a0 Z = true) (hty : parseFieldDescriptor d = some ty) (hn : narrow ty v = v') (hf : fits ty v' = true)
    (K : ∀ h', Wr h h' a (Jvm.RoadKit.slotOf Z O nf d) v' → Go l Z EL n0 nr kn y bytes mL ret R h0 WS Q SF h' k n pc' Ls st) : Go l Z EL n0 nr kn y bytes mL ret R h0 WS Q SF h k n pc Ls (v :: .ref a :: st) := by
  intro p e s m args below meth c T hR
  obtain ⟨⟨hx, hby, hml, hown, hnm, hret, hlk, hkn⟩, vm0, k0, locs, X, e0, C⟩ := hR
  have hZ : Z.Warmed39 (s.setVm vm0).vm := C.1
  have hown' : (s.setVm vm0).vm.findClass y.cls = some m.cls := by rw [show (s.setVm vm0).vm = vm0 from rfl, C.2.1.1.1.alike.findClass]; exact hown
  have L' := L.imp id (fun q => (⟨q.1, q.2.1, hnm.trans q.2.2⟩ : _ ∧ _ ∧ meth.name = "<init>"))
  obtain ⟨T', h', X', e', W', st'⟩ := Jvm.RoadKit.putFN X hx hZ hown' w via e0 F E L' wi hty hn hf (g := mkF m pc Ls (v :: .ref a :: st)) rfl rfl (hb hby hd)
  obtain ⟨t, o, hs, r⟩ := K h' W' p e s m args below meth c T' ⟨⟨hx, hby, hml, hown, hnm, hret, hlk, hkn⟩, vm0, k0, _, X', e', C.wr W' ha⟩
  exact ⟨t, o, st' _ (by subst hq; exact hs), r⟩
theorem Go.castore {a : Addr} {cl : Cell} {j x : Int32} (hd : decode bytes pc = .ok (.castore, 1)) (hq : pc + 1 = pc') (ha : a ∈ SF) (F : Arr Z h a cl .char) (hj : ¬ (j < 0 ∨ cl.slots.size ≤ j.toNatClampNeg))
    (K : ∀ h', Wr h h' a j.toNatClampNeg (.int (nar .char x)) → Go l Z EL n0 nr kn y bytes mL ret R h0 WS Q SF h' k n pc' Ls st) : Go l Z EL n0 nr kn y bytes mL ret R h0 WS Q SF h k n pc Ls (.int x :: .int j :: .ref a :: st) := by
  intro p e s m args below meth c T hR
  obtain ⟨⟨hx, hby, hml, hown, hnm, hret, hlk, hkn⟩, vm0, k0, locs, X, e0, C⟩ := hR
  have hZ : Z.Warmed39 (s.setVm vm0).vm := C.1
  have hown' : (s.setVm vm0).vm.findClass y.cls = some m.cls := by rw [show (s.setVm vm0).vm = vm0 from rfl, C.2.1.1.1.alike.findClass]; exact hown
  obtain ⟨T', h', X', e', W', st'⟩ := Jvm.RoadKit.stC X hx hZ e0 F hj (g := mkF m pc Ls (.int x :: .int j :: .ref a :: st)) rfl rfl (hb hby hd)
  obtain ⟨t, o, hs, r⟩ := K h' W' p e s m args below meth c T' ⟨⟨hx, hby, hml, hown, hnm, hret, hlk, hkn⟩, vm0, k0, _, X', e', C.wr W' ha⟩
  exact ⟨t, o, st' _ (by subst hq; exact hs), r⟩
theorem Go.castoreV {a : Addr} {cA : ClassId} {z j x : Int32} {vs : List Value} {dv : Value} {i : Nat} (hd : decode bytes pc = .ok (.castore, 1)) (hq : pc + 1 = pc') (ha : a ∈ SF) (F : Arv Z h a cA .char z vs dv) (hj : ¬ j < 0 ∧ j < z) (hji : j.toNatClampNeg = i) (hi : i < vs.length)
    (K : ∀ h', Wr h h' a j.toNatClampNeg (.int (nar .char x)) → Arv Z h' a cA .char z (vs.set i (.int (nar .char x))) dv → Go l Z EL n0 nr kn y bytes mL ret R h0 WS Q SF h' k n pc' Ls st) : Go l Z EL n0 nr kn y bytes mL ret R h0 WS Q SF h k n pc Ls (.int x :: .int j :: .ref a :: st) := by
  intro p e s m args below meth c T hR
  obtain ⟨⟨hx, hby, hml, hown, hnm, hret, hlk, hkn⟩, vm0, k0, locs, X, e0, C⟩ := hR
  have hZ : Z.Warmed39 (s.setVm vm0).vm := C.1
  have hown' : (s.setVm vm0).vm.findClass y.cls = some m.cls := by rw [show (s.setVm vm0).vm = vm0 from rfl, C.2.1.1.1.alike.findClass]; exact hown
  obtain ⟨cl, F, q1, S, q3, H, G⟩ := F
  obtain ⟨T', h', X', e', W', st'⟩ := Jvm.RoadKit.stC X hx hZ e0 F (inb_of S hj) (g := mkF m pc Ls (.int x :: .int j :: .ref a :: st)) rfl rfl (hb hby hd)
  obtain ⟨t, o, hs, r⟩ := K h' W' (Arv.set F q1 S q3 H G (fits_nar_char x) W' i hji hi) p e s m args below meth c T' ⟨⟨hx, hby, hml, hown, hnm, hret, hlk, hkn⟩, vm0, k0, _, X', e', C.wr W' ha⟩
  exact ⟨t, o, st' _ (by subst hq; exact hs), r⟩
theorem Go.bastore {a : Addr} {cl : Cell} {j x : Int32} (hd : decode bytes pc = .ok (.bastore, 1)) (hq : pc + 1 = pc') (ha : a ∈ SF) (F : Arr Z h a cl .byte) (hj : ¬ (j < 0 ∨ cl.slots.size ≤ j.toNatClampNeg))
    (K : ∀ h', Wr h h' a j.toNatClampNeg (.int (nar .byte x)) → Go l Z EL n0 nr kn y bytes mL ret R h0 WS Q SF h' k n pc' Ls st) : Go l Z EL n0 nr kn y bytes mL ret R h0 WS Q SF h k n pc Ls (.int x :: .int j :: .ref a :: st) := by
  intro p e s m args below meth c T hR
  obtain ⟨⟨hx, hby, hml, hown, hnm, hret, hlk, hkn⟩, vm0, k0, locs, X, e0, C⟩ := hR
  have hZ : Z.Warmed39 (s.setVm vm0).vm := C.1
  have hown' : (s.setVm vm0).vm.findClass y.cls = some m.cls := by rw [show (s.setVm vm0).vm = vm0 from rfl, C.2.1.1.1.alike.findClass]; exact hown
  obtain ⟨T', h', X', e', W', st'⟩ := Jvm.RoadKit.stB X hx hZ e0 F hj (g := mkF m pc Ls (.int x :: .int j :: .ref a :: st)) rfl rfl (hb hby hd)
  obtain ⟨t, o, hs, r⟩ := K h' W' p e s m args below meth c T' ⟨⟨hx, hby, hml, hown, hnm, hret, hlk, hkn⟩, vm0, k0, _, X', e', C.wr W' ha⟩
  exact ⟨t, o, st' _ (by subst hq; exact hs), r⟩
theorem Go.bastoreV {a : Addr} {cA : ClassId} {z j x : Int32} {vs : List Value} {dv : Value} {i : Nat} (hd : decode bytes pc = .ok (.bastore, 1)) (hq : pc + 1 = pc') (ha : a ∈ SF) (F : Arv Z h a cA .byte z vs dv) (hj : ¬ j < 0 ∧ j < z) (hji : j.toNatClampNeg = i) (hi : i < vs.length)
    (K : ∀ h', Wr h h' a j.toNatClampNeg (.int (nar .byte x)) → Arv Z h' a cA .byte z (vs.set i (.int (nar .byte x))) dv → Go l Z EL n0 nr kn y bytes mL ret R h0 WS Q SF h' k n pc' Ls st) : Go l Z EL n0 nr kn y bytes mL ret R h0 WS Q SF h k n pc Ls (.int x :: .int j :: .ref a :: st) := by
  intro p e s m args below meth c T hR
  obtain ⟨⟨hx, hby, hml, hown, hnm, hret, hlk, hkn⟩, vm0, k0, locs, X, e0, C⟩ := hR
  have hZ : Z.Warmed39 (s.setVm vm0).vm := C.1
  have hown' : (s.setVm vm0).vm.findClass y.cls = some m.cls := by rw [show (s.setVm vm0).vm = vm0 from rfl, C.2.1.1.1.alike.findClass]; exact hown
  obtain ⟨cl, F, q1, S, q3, H, G⟩ := F
  obtain ⟨T', h', X', e', W', st'⟩ := Jvm.RoadKit.stB X hx hZ e0 F (inb_of S hj) (g := mkF m pc Ls (.int x :: .int j :: .ref a :: st)) rfl rfl (hb hby hd)
  obtain ⟨t, o, hs, r⟩ := K h' W' (Arv.set F q1 S q3 H G (fits_nar_byte x) W' i hji hi) p e s m args below meth c T' ⟨⟨hx, hby, hml, hown, hnm, hret, hlk, hkn⟩, vm0, k0, _, X', e', C.wr W' ha⟩
  exact ⟨t, o, st' _ (by subst hq; exact hs), r⟩
theorem Go.aastore {a : Addr} {cl : Cell} {ty : FieldType} {j : Int32} {v : Value} (hd : decode bytes pc = .ok (.aastore, 1)) (hq : pc + 1 = pc') (ha : a ∈ SF) (F : Arr Z h a cl ty) (hj : ¬ (j < 0 ∨ cl.slots.size ≤ j.toNatClampNeg)) (hty : ty.isReference = true) (S : Sto Z h a v)
    (K : ∀ h', Wr h h' a j.toNatClampNeg v → Go l Z EL n0 nr kn y bytes mL ret R h0 WS Q SF h' k n pc' Ls st) : Go l Z EL n0 nr kn y bytes mL ret R h0 WS Q SF h k n pc Ls (v :: .int j :: .ref a :: st) := by
  intro p e s m args below meth c T hR
  obtain ⟨⟨hx, hby, hml, hown, hnm, hret, hlk, hkn⟩, vm0, k0, locs, X, e0, C⟩ := hR
  have hZ : Z.Warmed39 (s.setVm vm0).vm := C.1
  have hown' : (s.setVm vm0).vm.findClass y.cls = some m.cls := by rw [show (s.setVm vm0).vm = vm0 from rfl, C.2.1.1.1.alike.findClass]; exact hown
  obtain ⟨T', h', X', e', W', st'⟩ := Jvm.RoadKit.stR X hx hZ e0 F hj hty S (g := mkF m pc Ls (v :: .int j :: .ref a :: st)) rfl rfl (hb hby hd)
  obtain ⟨t, o, hs, r⟩ := K h' W' p e s m args below meth c T' ⟨⟨hx, hby, hml, hown, hnm, hret, hlk, hkn⟩, vm0, k0, _, X', e', C.wr W' ha⟩
  exact ⟨t, o, st' _ (by subst hq; exact hs), r⟩
theorem Go.aastoreV {a : Addr} {cA : ClassId} {ty : FieldType} {z j : Int32} {v : Value} {vs : List Value} {dv : Value} {i : Nat} (hd : decode bytes pc = .ok (.aastore, 1)) (hq : pc + 1 = pc') (ha : a ∈ SF) (F : Arv Z h a cA ty z vs dv) (hty : ty.isReference = true) (hft : fits ty v = true) (S : ∀ cl, Arr Z h a cl ty → cl.cls = cA → Sto Z h a v) (hj : ¬ j < 0 ∧ j < z) (hji : j.toNatClampNeg = i) (hi : i < vs.length)
    (K : ∀ h', Wr h h' a j.toNatClampNeg v → Arv Z h' a cA ty z (vs.set i v) dv → Go l Z EL n0 nr kn y bytes mL ret R h0 WS Q SF h' k n pc' Ls st) : Go l Z EL n0 nr kn y bytes mL ret R h0 WS Q SF h k n pc Ls (v :: .int j :: .ref a :: st) := by
  intro p e s m args below meth c T hR
  obtain ⟨⟨hx, hby, hml, hown, hnm, hret, hlk, hkn⟩, vm0, k0, locs, X, e0, C⟩ := hR
  have hZ : Z.Warmed39 (s.setVm vm0).vm := C.1
  have hown' : (s.setVm vm0).vm.findClass y.cls = some m.cls := by rw [show (s.setVm vm0).vm = vm0 from rfl, C.2.1.1.1.alike.findClass]; exact hown
  obtain ⟨cl, F, q1, S0, q3, H, G⟩ := F
  obtain ⟨T', h', X', e', W', st'⟩ := Jvm.RoadKit.stR X hx hZ e0 F (inb_of S0 hj) hty (S cl F q1) (g := mkF m pc Ls (v :: .int j :: .ref a :: st)) rfl rfl (hb hby hd)
  obtain ⟨t, o, hs, r⟩ := K h' W' (Arv.set F q1 S0 q3 H G hft W' i hji hi) p e s m args below meth c T' ⟨⟨hx, hby, hml, hown, hnm, hret, hlk, hkn⟩, vm0, k0, _, X', e', C.wr W' ha⟩
  exact ⟨t, o, st' _ (by subst hq; exact hs), r⟩
theorem Go.cpA {index W : Nat} {a b : Addr} {kk k' : ClassId} {ty ty' : FieldType} {z z' sp dp nn : Int32} {vs vd us : List Value} {dv dd : Value} (hd : decode bytes pc = .ok (.invokestatic index, 3)) (hq : pc + 3 = pc') (hb' : b ∈ SF) (w1 : (Jvm.Cond.methodLink y.cls index Jvm.Stand.acN).before a0 Z = true) (w2 : (Jvm.Cond.native Jvm.Stand.acN).before a0 Z = true) (w3 : (Jvm.Cond.static Jvm.Stand.acN).before a0 Z = true) (w4 : (Jvm.Cond.initialized "java/lang/System").before a0 Z = true)
    (AA : Arv Z h a kk ty z vs dv) (BB : Arv Z h b k' ty' z' vd dd) (hty : (ty = ty' ∧ refKind ty = false) ∨ (refKind ty = true ∧ refKind ty' = true ∧ StoL Z h b us)) (h1 : ¬ sp < 0) (h2 : ¬ dp < 0) (h3 : ¬ nn < 0) (h4 : sp.toNatClampNeg + nn.toNatClampNeg ≤ z.toNatClampNeg) (h5 : dp.toNatClampNeg + nn.toNatClampNeg ≤ z'.toNatClampNeg)
    (hus : us = (List.range nn.toNatClampNeg).map fun i => vs.getD (sp.toNatClampNeg + i) dv) (hvl : dp.toNatClampNeg + nn.toNatClampNeg ≤ vd.length) (hsz : Ls.size = mL) (hf : 1 ≤ R.frames) (hW : (st.map fun v => v.category).sum ≤ W) (hl : W + (nativeFrameWords "java/lang/System" "arraycopy" 5 + 11) ≤ R.locals)
    (K : ∀ h', Keep h h' [b] → Arv Z h' b k' ty' z' (vd.take dp.toNatClampNeg ++ us ++ vd.drop (dp.toNatClampNeg + nn.toNatClampNeg)) dd → Go l Z EL n0 nr kn y bytes mL ret R h0 WS Q SF h' k n pc' Ls st) : Go l Z EL n0 nr kn y bytes mL ret R h0 WS Q SF h k n pc Ls (.int nn :: .int dp :: .ref b :: .int sp :: .ref a :: st) := by
  intro p e s m args below meth c T hR
  obtain ⟨⟨hx, hby, hml, hown, hnm, hret, hlk, hkn⟩, vm0, k0, locs, X, e0, C⟩ := hR
  have hZ : Z.Warmed39 (s.setVm vm0).vm := C.1
  have hown' : (s.setVm vm0).vm.findClass y.cls = some m.cls := by rw [show (s.setVm vm0).vm = vm0 from rfl, C.2.1.1.1.alike.findClass]; exact hown
  have N := C.2.2.1
  have ge := (C.2.2.2.2.1 b hb').1.1
  obtain ⟨T', h', L, X', e', FL, KK, BB', st'⟩ := Jvm.RoadKit.cpA X hx hZ hown' w1 w2 w3 w4 e0 AA BB hty h1 h2 h3 h4 h5 hus hvl N ge (g := mkF m pc Ls (.int nn :: .int dp :: .ref b :: .int sp :: .ref a :: st)) rfl (by rw [hml]; exact hsz) rfl (hb hby hd) hf (W := W) (by show 2 * 0 + _ ≤ _; rw [Nat.mul_zero, Nat.zero_add]; exact hW) hl
  have hSb := (C.2.2.2.2.1 b hb').2
  have C' : Cor Z EL n0 nr h0 WS SF h' s vm0 k0 L := by
    have q := C.keep (SN := []) (L := []) KK (fun x hx => by cases List.mem_singleton.mp hx; exact hb') (Fr.nil n0) (CHr.keep KK (fun x hx => by cases List.mem_singleton.mp hx; exact hSb) C.2.2.2.1.1) C.1 C.2.1.1 (Nat.le_trans C.2.1.2 KK.1) C.2.2.2.2.2.1 (fun x hx => nomatch hx)
    exact ⟨q.1, q.2.1, FL, q.2.2.2⟩
  obtain ⟨t, o, hs, r⟩ := K h' KK BB' p e s m args below meth c T' ⟨⟨hx, hby, hml, hown, hnm, hret, hlk, hkn⟩, vm0, k0, L, X', e', C'⟩
  exact ⟨t, o, st' _ (by subst hq; exact hs), r⟩
theorem Go.ldcS {text : String} {index nn : Nat} {vs : List Value} {z : Int32} (hnr : nr = false) (hd : decode bytes pc = .ok (.ldc index, 2)) (hq : pc + 2 = pc') (w : (Jvm.Cond.stringLink y.cls index text).before a0 Z = true) (wS : ∀ a ∈ Bundle.stringAtoms, a.before a0 Z = true) (hmem : (y.cls, index) ∈ EL) (ht : (∀ c ∈ text.toList, c.toNat < 256) ∧ text.toList.map (fun c => Value.int (Jvm.Lit.byteI c.toNat.toUInt16)) = vs) (hz : ¬ z < 0) (hzl : z.toNatClampNeg = vs.length) (hn : 4 * text.toList.length ≤ nn) (hbig : nn ≤ 536870912) (hc : k + 2 ≤ R.cells) (hl : n + (nn + 4) ≤ R.slots)
    (K : ∀ h' a b kb, Ext h h' → Exa Z h' a "java/lang/String" → Fld Z h' a "java/lang/String" "coder" "B" (.int 0) → Fld Z h' a "java/lang/String" "value" "[B" (.ref b) → Arv Z h' b kb .byte z vs (.int 0) → (∀ x ∈ SF, x ≠ a ∧ x ≠ b) → Go l Z EL n0 nr kn y bytes mL ret R h0 WS Q SF h' (k + 2) (n + (nn + 4)) pc' Ls (.ref a :: st)) : Go l Z EL n0 nr kn y bytes mL ret R h0 WS Q SF h k n pc Ls st := by
  intro p e s m args below meth c T hR
  obtain ⟨⟨hx, hby, hml, hown, hnm, hret, hlk, hkn⟩, vm0, k0, locs, X, e0, C⟩ := hR
  have hZ : Z.Warmed39 (s.setVm vm0).vm := C.1
  have hown' : (s.setVm vm0).vm.findClass y.cls = some m.cls := by rw [show (s.setVm vm0).vm = vm0 from rfl, C.2.1.1.1.alike.findClass]; exact hown
  obtain ⟨c1, ⟨c2, c2'⟩, c3, c4, c5, c6, c7, c8, c9, a1, hEL⟩ := C
  have hEL' : EW Z a0 EL := fun q hq => by
    obtain ⟨tx, hx1, hx2⟩ := hEL q hq
    exact ⟨tx, (by simpa [Jvm.Cond.before, Jvm.Cond.holds, Jvm.Cond.value] using hx1), hx2⟩
  obtain ⟨a, T', h', k1, b, kb, X', e', E, hS, hk, hW, hf, E1, E2, E3, E4, -, -, hC, -, hne, st'⟩ := Jvm.RoadKit.ldcCH X hx c1 hown' w wS e0 c2 c2' hEL' hmem c4.1 ht hz hzl (g := mkF m pc Ls st) rfl (hb hby hd) hn hbig hc hl
  have C' : Cor Z EL n0 nr h0 WS SF h' s T'.vm k1 locs := by
    refine ⟨hW, ⟨hS, hk⟩, c3, c4.trans hC, fun x hx => ⟨⟨(c5 x hx).1.1, Nat.lt_of_lt_of_le (c5 x hx).1.2.1 E.1, (c5 x hx).1.2.2⟩, hC.safe (c5 x hx).1.2.1 (c5 x hx).2⟩, (fun q => by rw [hnr] at q; cases q), ⟨c7.1, Nat.le_trans c7.2.1 E.1, fun a c q => E.2 a c (c7.2.2 a c q)⟩, c8.ext E, c9, a1, hEL⟩
  obtain ⟨t, o, hs, r⟩ := K h' a b kb E E1 E2 E3 E4 (fun x hx => hne x (C'.2.2.2.2.1 x hx).2) p e s m args below meth c T' ⟨⟨hx, hby, hml, hown, hnm, hret, hlk, hkn⟩, T'.vm, k1, locs, X', e', C'⟩
  exact ⟨t, o, st' _ (by subst hq; exact hs), r⟩
theorem Go.ldcO {text : String} {index nn : Nat} (hnr : nr = false) (hd : decode bytes pc = .ok (.ldc index, 2)) (hq : pc + 2 = pc') (w : (Jvm.Cond.stringLink y.cls index text).before a0 Z = true) (wS : ∀ a ∈ Bundle.stringAtoms, a.before a0 Z = true) (hn : 4 * text.toList.length ≤ nn) (hbig : nn ≤ 536870912) (hc : k + 2 ≤ R.cells) (hl : n + (nn + 4) ≤ R.slots)
    (K : ∀ h' a, Ext h h' → Go l Z EL n0 nr kn y bytes mL ret R h0 WS Q SF h' (k + 2) (n + (nn + 4)) pc' Ls (.ref a :: st)) : Go l Z EL n0 nr kn y bytes mL ret R h0 WS Q SF h k n pc Ls st := by
  intro p e s m args below meth c T hR
  obtain ⟨⟨hx, hby, hml, hown, hnm, hret, hlk, hkn⟩, vm0, k0, locs, X, e0, C⟩ := hR
  have hZ : Z.Warmed39 (s.setVm vm0).vm := C.1
  have hown' : (s.setVm vm0).vm.findClass y.cls = some m.cls := by rw [show (s.setVm vm0).vm = vm0 from rfl, C.2.1.1.1.alike.findClass]; exact hown
  obtain ⟨c1, ⟨c2, c2'⟩, c3, c4, c5, c6, c7, c8, c9, a1, hEL⟩ := C
  have hEL' : EW Z a0 EL := fun q hq => by
    obtain ⟨tx, hx1, hx2⟩ := hEL q hq
    exact ⟨tx, (by simpa [Jvm.Cond.before, Jvm.Cond.holds, Jvm.Cond.value] using hx1), hx2⟩
  obtain ⟨a, T', h', k1, X', e', E, hS, hk, hW, hf, hC, -, st'⟩ := Jvm.RoadKit.ldcOH X hx c1 hown' w wS e0 c2 c2' hEL' c4.1 (g := mkF m pc Ls st) rfl (hb hby hd) hn hbig hc hl
  have C' : Cor Z EL n0 nr h0 WS SF h' s T'.vm k1 locs := by
    refine ⟨hW, ⟨hS, hk⟩, c3, c4.trans hC, fun x hx => ⟨⟨(c5 x hx).1.1, Nat.lt_of_lt_of_le (c5 x hx).1.2.1 E.1, (c5 x hx).1.2.2⟩, hC.safe (c5 x hx).1.2.1 (c5 x hx).2⟩, (fun q => by rw [hnr] at q; cases q), ⟨c7.1, Nat.le_trans c7.2.1 E.1, fun a c q => E.2 a c (c7.2.2 a c q)⟩, c8.ext E, c9, a1, hEL⟩
  obtain ⟨t, o, hs, r⟩ := K h' a E p e s m args below meth c T' ⟨⟨hx, hby, hml, hown, hnm, hret, hlk, hkn⟩, T'.vm, k1, locs, X', e', C'⟩
  exact ⟨t, o, st' _ (by subst hq; exact hs), r⟩
theorem Go.tsw {i : Int32} {dflt low high : Int} {offs : Array Int} {len : Nat} {o : Int} (hd : decode bytes pc = .ok (.tableswitch dflt low high offs, len)) (hin : ¬ (i.toInt < low ∨ i.toInt > high)) (hoff : offs[(i.toInt - low).toNat]? = some o) (ho : 0 ≤ (pc : Int) + o) (hq : ((pc : Int) + o).toNat = pc') (K : Go l Z EL n0 nr kn y bytes mL ret R h0 WS Q SF h k n pc' Ls st) : Go l Z EL n0 nr kn y bytes mL ret R h0 WS Q SF h k n pc Ls (.int i :: st) :=
  Go.plain (fun p e below T m c target hA hx hb hk => XS.tswIn hA hx rfl (pc0 := pc) (pc' := pc') rfl (hb ▸ hd) rfl hin hoff ho hq hk) K
theorem Go.retV (hd : decode bytes pc = .ok (.return_, 1)) (hr0 : ret = none) (hk : k ≤ R.cells) (hn : n ≤ R.slots) (SN : List Addr) (hSN : ∀ x ∈ SN, x ∈ SF ∧ h0.size ≤ x) (hQ : Q none h SN) : Go l Z EL n0 nr kn y bytes mL ret R h0 WS Q SF h k n pc Ls [] := by
  intro p e s m args below meth c T hR
  obtain ⟨⟨hx, hby, hml, hown, hnm, hret, hlk, hkn⟩, vm0, k0, locs, X, e0, C⟩ := hR
  have hZ : Z.Warmed39 (s.setVm vm0).vm := C.1
  have hown' : (s.setVm vm0).vm.findClass y.cls = some m.cls := by rw [show (s.setVm vm0).vm = vm0 from rfl, C.2.1.1.1.alike.findClass]; exact hown
  obtain ⟨c1, ⟨c2, c2'⟩, c3, c4, c5, c6, c7, c8, c9, a1, hEL⟩ := C
  obtain ⟨fs, hr, hrun, hended, hE⟩ := X.leaveW c2 (by rw [e0]; exact c2') (v := none) (fun _ => rfl) hlk
  have A1 := CHv.at X c1 hEL c4.1
  refine ⟨_, _, X.returnOut hx (hret.trans hr0) (hb hby hd) hr, hrun, hended, _, locs, SN, rfl, by show Q _ T.heap SN; rw [e0]; exact hQ, c3, by show Keep h0 T.heap WS; rw [e0]; exact c8, fun x hx => ?_, ?_, fun q => State.WarmedH.trans (t := s.setVm vm0) (c6 q) X.warmed, ⟨hE.1, hE.2.1, hE.2.2.1, hE.2.2.2.mono hk hn⟩⟩
  · show (h0.size ≤ x ∧ x < T.heap.size) ∧ Safe Z EL T.vm T.heap x
    rw [e0]
    exact ⟨⟨(hSN x hx).2, (c5 x (hSN x hx).1).1.2.1⟩, A1.safe (c5 x (hSN x hx).1).1.2.1 (c5 x (hSN x hx).1).2⟩
  · show CHr Z EL s.vm h0 T.vm T.heap
    rw [e0]
    exact c4.trans A1
theorem Go.retW {v : Value} {ty : FieldType} {i : Instr} (hd : decode bytes pc = .ok (i, 1)) (hr0 : ret = some ty) (hnw : narrow ty v = v) (hi : (i = .ireturn ∧ (ty = .int ∨ ty = .boolean ∨ ty = .byte ∨ ty = .char ∨ ty = .short) ∧ ∃ z, v = .int z) ∨ (i = .lreturn ∧ ty = .long ∧ ∃ z, v = .long z) ∨ (i = .dreturn ∧ ty = .double ∧ ∃ z, v = .double z) ∨ (i = .freturn ∧ ty = .float ∧ ∃ z, v = .float z) ∨ (i = .areturn ∧ ty.isReference = true ∧ v.isRef = true)) (hk : k ≤ R.cells) (hn : n ≤ R.slots) (SN : List Addr) (hSN : ∀ x ∈ SN, x ∈ SF ∧ h0.size ≤ x) (hQ : Q (some v) h SN) : Go l Z EL n0 nr kn y bytes mL ret R h0 WS Q SF h k n pc Ls (v :: st) := by
  intro p e s m args below meth c T hR
  obtain ⟨⟨hx, hby, hml, hown, hnm, hret, hlk, hkn⟩, vm0, k0, locs, X, e0, C⟩ := hR
  have hZ : Z.Warmed39 (s.setVm vm0).vm := C.1
  have hown' : (s.setVm vm0).vm.findClass y.cls = some m.cls := by rw [show (s.setVm vm0).vm = vm0 from rfl, C.2.1.1.1.alike.findClass]; exact hown
  obtain ⟨c1, ⟨c2, c2'⟩, c3, c4, c5, c6, c7, c8, c9, a1, hEL⟩ := C
  obtain ⟨fs, hr, hrun, hended, hE⟩ := X.leaveW c2 (by rw [e0]; exact c2') (v := some v) (fun q => by rw [hret, hr0] at q; cases q) hlk
  have A1 := CHv.at X c1 hEL c4.1
  refine ⟨_, _, Jvm.RoadKit.retOut X hx (hret.trans hr0) hnw hi (hb hby hd) hr, hrun, hended, _, locs, SN, rfl, by show Q _ T.heap SN; rw [e0]; exact hQ, c3, by show Keep h0 T.heap WS; rw [e0]; exact c8, fun x hx => ?_, ?_, fun q => State.WarmedH.trans (t := s.setVm vm0) (c6 q) X.warmed, ⟨hE.1, hE.2.1, hE.2.2.1, hE.2.2.2.mono hk hn⟩⟩
  · show (h0.size ≤ x ∧ x < T.heap.size) ∧ Safe Z EL T.vm T.heap x
    rw [e0]
    exact ⟨⟨(hSN x hx).2, (c5 x (hSN x hx).1).1.2.1⟩, A1.safe (c5 x (hSN x hx).1).1.2.1 (c5 x (hSN x hx).1).2⟩
  · show CHr Z EL s.vm h0 T.vm T.heap
    rw [e0]
    exact c4.trans A1
theorem Go.retI {z : Int32} (hd : decode bytes pc = .ok (.ireturn, 1)) (hr0 : ret = some .int) (hk : k ≤ R.cells) (hn : n ≤ R.slots) (SN : List Addr) (hSN : ∀ x ∈ SN, x ∈ SF ∧ h0.size ≤ x) (hQ : Q (some (.int z)) h SN) : Go l Z EL n0 nr kn y bytes mL ret R h0 WS Q SF h k n pc Ls (.int z :: st) :=
  Go.retW hd hr0 rfl (Or.inl ⟨rfl, Or.inl rfl, z, rfl⟩) hk hn SN hSN hQ
theorem Go.retA {v : Value} {ty : FieldType} (hd : decode bytes pc = .ok (.areturn, 1)) (hr0 : ret = some ty) (hty : ty.isReference = true) (hv : v.isRef = true) (hk : k ≤ R.cells) (hn : n ≤ R.slots) (SN : List Addr) (hSN : ∀ x ∈ SN, x ∈ SF ∧ h0.size ≤ x) (hQ : Q (some v) h SN) : Go l Z EL n0 nr kn y bytes mL ret R h0 WS Q SF h k n pc Ls (v :: st) :=
  Go.retW hd hr0 (by cases ty <;> first | (cases hty; done) | (rcases ref_cases hv with rfl | ⟨a, rfl⟩ <;> rfl)) (Or.inr (Or.inr (Or.inr (Or.inr ⟨rfl, hty, hv⟩)))) hk hn SN hSN hQ
theorem Go.retS {z : Int32} {ty : FieldType} (hd : decode bytes pc = .ok (.ireturn, 1)) (hr0 : ret = some ty) (hty : ty = .boolean ∨ ty = .byte ∨ ty = .char ∨ ty = .short) (hnw : narrow ty (.int z) = .int z) (hk : k ≤ R.cells) (hn : n ≤ R.slots) (SN : List Addr) (hSN : ∀ x ∈ SN, x ∈ SF ∧ h0.size ≤ x) (hQ : Q (some (.int z)) h SN) : Go l Z EL n0 nr kn y bytes mL ret R h0 WS Q SF h k n pc Ls (.int z :: st) :=
  Go.retW hd hr0 hnw (Or.inl ⟨rfl, Or.inr hty, z, rfl⟩) hk hn SN hSN hQ
theorem Met.of_go {as' : Array Value} (hpl : plainFor y = true) (hef : ∀ m, entryFrame m as' mL = mkF m 0 Ls []) (G : (Z.heap.size = n0 ∧ Ext Z.heap h0) → (∀ x ∈ WS, n0 ≤ x ∧ x < h0.size) → Go l Z EL n0 nr kn y bytes mL ret R h0 WS Q WS h0 0 0 0 Ls []) : Met l Z EL n0 nr kn y bytes mL ret R WS as' h0 Q := by
  intro ws
  refine MetFree.of_bodySF hpl hisR ?_
  intro p e s m args below meth c s₁ Bd hml0 hP hK
  obtain ⟨rfl, hZ, hh, hC, hS, hO, hEL⟩ := hP
  have X0 : Stand p l e R s m args below meth c s₁ [] 0 0 := Stand.of_body Bd
  have e0 : s₁.heap = h0 := by rw [← hh, Bd.state]; rfl
  have hnm := (name_of_methodNamed Bd.named Bd.method).1
  rw [hef m]
  exact G hO (fun x hx => (hS x hx).1) p e s m args below meth c s₁ ⟨⟨Bd.exec, Bd.bytes, hml0, findClass_of_methodNamed Bd.named, hnm, Bd.returns, BodyLoose.notSynchronized Bd, hK⟩, s.vm, 0, [], X0, e0,
    hZ, ⟨(State.WarmedH.refl s).since 0, Nat.zero_le _⟩, Fr.nil n0, CHr.refl hC, fun x hx => ⟨⟨(hS x hx).1.1, (hS x hx).1.2, Or.inl hx⟩, (hS x hx).2⟩, fun _ => State.WarmedH.refl s, hO, Keep.refl _ _, hh, hEL⟩
theorem Pays.of_met {z : MethodName} {zb : ByteArray} {zL : Nat} {zr : Option FieldType} {rm : Room} {len W : Nat} {ws : List Addr} {as' : Array Value} {Q' : Option Value → Heap → List Addr → Prop} (M : Met l Z EL n0 nr kn z zb zL zr rm ws as' h Q') (wc : (Jvm.Cond.code z zb zL zr).before a0 Z = true) (wz : (Jvm.Cond.initialized z.cls).before a0 Z = true) (hf : rm.frames + 1 ≤ R.frames) (hl : W + (zL + 11) + rm.locals ≤ R.locals) :
    Pays l Z EL n0 nr kn R len z W rm.cells rm.slots ws as' h Q' := by
  intro p e below s args vm0 hx hZ hC hS hO hEL hkn
  obtain ⟨a1, hE1⟩ := hEL
  refine BackS.of_freeWG (bytes := zb) (maxL := zL) (ret := zr) (E := fun _ first o t L kk nn => kk = rm.cells ∧ nn = rm.slots ∧ ∃ v SN, o = .returned v ∧ Q' v t.heap SN ∧ Fr n0 L ∧ Keep h t.heap ws ∧ (∀ x ∈ SN, (h.size ≤ x ∧ x < t.heap.size) ∧ Safe Z EL t.vm t.heap x) ∧ CHr Z EL first.vm h t.vm t.heap ∧ (nr = true → first.WarmedH t.vm)) (M []) hf hl ?_ ?_ ?_ ?_ ?_
  · intro m meth c A a Y hp
    have hU : Z.Warmed39 A.U.vm := wtrans (s := s.setVm vm0) hZ Y.warmed
    exact ⟨by show (Jvm.Cond.and _ .tt).before a A.U = true; rw [Cond.before_and, mv hU wc]; rfl, mv hU wc, mv hU wz, hp.2.2.1, hp.2.2.2⟩
  · intro m meth c A a g mk Y hp
    have A1 := CHv.at Y hZ hE1 hC
    exact ⟨hp.1, wtrans (s := s.setVm vm0) hZ Y.warmed, hp.2.1, A1.1, fun x hx => ⟨(hS x hx).1, A1.safe (hS x hx).1.2 (hS x hx).2⟩, hO, a1, hE1⟩
  · intro m meth c A a g mk Y hp hg q
    exact known_frames Y hg (hkn q).1 (hkn q).2
  · rintro a first o t ⟨v, L, SN, h1, h2, h3, h4, h5, h6, h7, h8⟩
    exact ⟨L, _, _, h8, rfl, rfl, v, SN, h1, h2, h3, h4, h5, h6, h7⟩
  · rintro m meth c A a g mk v t L kk nn Y hp - - ⟨e1, e2, v', SN, e3, e4, e5, e6, e7, e8, e9⟩
    cases e3
    subst e1 e2
    exact ⟨L, SN, e4, e5, e6, e7, (CHv.at Y hZ hE1 hC).trans e8, fun q => State.WarmedH.trans (t := A.U) Y.warmed (e9 q), rfl, rfl, rfl⟩
theorem Pays.of_back {z : MethodName} {len W ck cn : Nat} {ws : List Addr} {as' : Array Value} {Q' : Option Value → Heap → List Addr → Prop}
    (B : ∀ (p : Program) (e : Env) (below : List Frame) (s : State) (args : Array Value), p.tables.exec = Jvm.exec → Z.Warmed39 s.vm → (Z.heap.size = n0 ∧ Ext Z.heap h) → (∀ x ∈ ws, n0 ≤ x ∧ x < h.size) → Back l R p e below s args z len W (fun A a => a = as' ∧ A.U.heap = h ∧ A.cells + ck ≤ R.cells ∧ A.slots + cn ≤ R.slots) (fun A _ v B => ∃ L, Q' v B.U.heap [] ∧ Fr n0 L ∧ Keep h B.U.heap ws ∧ B.locs = A.locs ++ L ∧ B.cells = A.cells + ck ∧ B.slots = A.slots + cn)) :
    Pays l Z EL n0 nr kn R len z W ck cn ws as' h Q' := by
  intro p e below s args vm0 hx hZ hC hS hO hEL hkn
  obtain ⟨a1, hE1⟩ := hEL
  intro m meth c A g ig mk a X hg hsize hdg hW hn hp
  obtain ⟨v, B', X', ⟨L, q1, q2, q3, q4, q5, q6⟩, hst⟩ := B p e below (s.setVm vm0) args hx hZ hO (fun x hx => (hS x hx).1) m meth c A g ig mk a X hg hsize hdg hW hn hp
  have A1 : CHr Z EL vm0 h vm0 B'.U.heap := CHr.keep q3 (fun x hx => (hS x hx).2) hC
  have A2 := CHv.at X' hZ hE1 A1.1
  exact ⟨v, B', X'.retabled X'.warmed.wide, X'.warmed.since _, by rw [hp.2.1]; exact q3.1, ⟨L, [], q1, q2, q3, fun x hx => (nomatch hx), A1.trans A2, fun _ => X'.warmed, q4, q5, q6⟩, hst⟩
theorem Go.after {p : Program} {e : Env} {m : MethodId} {args : Array Value} {below : List Frame} {meth : Method} {c : Code} {T : State} {len ck cn : Nat} {ws : List Addr} {as' : Array Value} {Q' : Option Value → Heap → List Addr → Prop} {s₀ : State}
    (hA : p.tables.exec = Jvm.exec ∧ c.code = bytes ∧ c.maxLocals = mL ∧ s.vm.findClass y.cls = some m.cls ∧ meth.name = y.name ∧ meth.sig.returnType = ret ∧ meth.locks = false ∧ (kn = true → s.vm.MethodsKnown ∧ s.vm.FramesKnown below)) (e0 : T.heap = h) (C : Cor Z EL n0 nr h0 WS SF h s vm0 k0 locs) (hws : ∀ x ∈ ws, x ∈ SF)
    (H : ∃ (v : Option Value) (vm₁ : Vm) (B : Pt), (s.setVm vm0).WarmedH vm₁ ∧ Stand p l e R ((s.setVm vm0).setVm B.U.vm) m args below meth c B.U B.locs B.cells B.slots ∧ (s.setVm vm0).Since B.U.vm B.U.heap.size ∧ T.heap.size ≤ B.U.heap.size ∧ (∃ L SN, Q' v B.U.heap SN ∧ Fr n0 L ∧ Keep h B.U.heap ws ∧ (∀ x ∈ SN, (h.size ≤ x ∧ x < B.U.heap.size) ∧ Safe Z EL B.U.vm B.U.heap x) ∧ CHr Z EL vm0 h B.U.vm B.U.heap ∧ (nr = true → (s.setVm vm0).WarmedH B.U.vm) ∧ B.locs = locs ++ L ∧ B.cells = k + ck ∧ B.slots = n + cn) ∧
      Steps p.tables e below s₀ (B.U.setTop { mkF m pc Ls st with pc := pc + len, stack := v.toList ++ rest }))
    (hq : pc + len = pc') (K : ∀ v h' SN, Keep h h' ws → h0.size ≤ h.size → Q' v h' SN → Go l Z EL n0 nr kn y bytes mL ret R h0 WS Q (SN ++ SF) h' (k + ck) (n + cn) pc' Ls (v.toList ++ rest)) : ∃ t o, Steps p.tables e below s₀ t ∧ t.status = .running ∧ Ended t below o ∧ Pst Z EL n0 nr R h0 WS Q s o t := by
  obtain ⟨v, vm₁, ⟨T', L', kk, nn⟩, -, X', hS, hle, ⟨L, SN, h1, h2, h3, h4, h5, h6, h7, h8, h9⟩, hst⟩ := H
  dsimp only [Pt.U, Pt.locs, Pt.cells, Pt.slots] at X' hS hle h1 h3 h4 h5 h6 h7 h8 h9 hst
  subst h7 h8 h9 hq
  obtain ⟨t, o, hs, r⟩ := K v T'.heap SN h3 C.2.2.2.2.2.2.2.1.1 h1 p e s m args below meth c T' ⟨hA, T'.vm, T'.heap.size, _, X', rfl, C.keep h3 hws h2 h5 (State.Warmed39.trans (t := s.setVm vm0) C.1 hS.1) (C.2.1.1.trans hS (Nat.le_trans C.2.1.2 h3.1)) (Nat.le_refl _) (fun q => State.WarmedH.trans (t := s.setVm vm0) (C.2.2.2.2.2.1 q) (h6 q)) h4⟩
  exact ⟨t, o, hst.trans hs, r⟩
theorem Go.callS {ck cn W : Nat} {ws : List Addr} {as' : Array Value} {Q' : Option Value → Heap → List Addr → Prop} {index : Nat} {z : MethodName} {zb : ByteArray} {zL : Nat} {zr : Option FieldType} {argsL : List Value} (hd : decode bytes pc = .ok (.invokestatic index, 3)) (hq : pc + 3 = pc') (w1 : (Jvm.Cond.methodLink y.cls index z).before a0 Z = true) (w2 : (Jvm.Cond.static z).before a0 Z = true) (w3 : (Jvm.Cond.initialized z.cls).before a0 Z = true) (w4 : (Jvm.Cond.code z zb zL zr).before a0 Z = true) (hy : z.cls ≠ "java/lang/invoke/MethodHandle" ∧ z.cls ≠ "java/lang/invoke/VarHandle") (PP : Pays l Z EL n0 nr kn R 3 z W ck cn ws as' h Q') (hsz : Ls.size = mL) (hst : st = argsL.reverse ++ rest) (hlen : ∀ sig, parseMethodDescriptor z.desc = some sig → argsL.length = sig.parameters.length) (has : argsL.toArray = as') (hW : (rest.map fun v => v.category).sum ≤ W) (hws : ∀ x ∈ ws, x ∈ SF) (hc : k + ck ≤ R.cells) (hl : n + cn ≤ R.slots)
    (K : ∀ v h' SN, Keep h h' ws → h0.size ≤ h.size → Q' v h' SN → Go l Z EL n0 nr kn y bytes mL ret R h0 WS Q (SN ++ SF) h' (k + ck) (n + cn) pc' Ls (v.toList ++ rest)) : Go l Z EL n0 nr kn y bytes mL ret R h0 WS Q SF h k n pc Ls st := by
  intro p e s m args below meth c T hR
  obtain ⟨⟨hx, hby, hml, hown, hnm, hret, hlk, hkn⟩, vm0, k0, locs, X, e0, C⟩ := hR
  have hZ : Z.Warmed39 (s.setVm vm0).vm := C.1
  have hown' : (s.setVm vm0).vm.findClass y.cls = some m.cls := by rw [show (s.setVm vm0).vm = vm0 from rfl, C.2.1.1.1.alike.findClass]; exact hown
  have hBK := PP p e below s args vm0 hx C.1 C.2.2.2.1.1 (fun x hx => ⟨⟨(C.2.2.2.2.1 x (hws x hx)).1.1, (C.2.2.2.2.1 x (hws x hx)).1.2.1⟩, (C.2.2.2.2.1 x (hws x hx)).2⟩) C.2.2.2.2.2.2.1 C.2.2.2.2.2.2.2.2.2 (fun q => ⟨Vm.MethodsKnown.alikeC C.2.1.1.1.alike (hkn q).1, Vm.FramesKnown.alikeC C.2.1.1.1.alike (hkn q).2⟩)
  refine Go.after (st := st) (args := args) (ck := ck) (cn := cn) (ws := ws) (as' := as') (Q' := Q') (rest := rest) ⟨hx, hby, hml, hown, hnm, hret, hlk, hkn⟩ e0 C hws ?_ hq K
  exact callSS X hx (y := z) hown' (mvT hZ w1) (mvT hZ w2) (mvT hZ w3) (mvT hZ w4) hy hBK (g := mkF m pc Ls st) rfl (by rw [hml]; exact hsz) (argsL := argsL) (rest := rest) hlen hst (by show 2 * 0 + _ ≤ _; rw [Nat.mul_zero, Nat.zero_add]; exact hW) (hb hby hd) (fun _ _ => ⟨has, e0, hc, hl⟩)
theorem Go.callI {ck cn W : Nat} {ws : List Addr} {as' : Array Value} {Q' : Option Value → Heap → List Addr → Prop} {index : Nat} {z : MethodName} {zb : ByteArray} {zL : Nat} {a : Addr} {argsL : List Value} (hd : decode bytes pc = .ok (.invokespecial index, 3)) (hq : pc + 3 = pc') (hi : z.name = "<init>") (w1 : (Jvm.Cond.methodLink y.cls index z).before a0 Z = true) (w2 : (Jvm.Cond.instanceMethod z).before a0 Z = true) (w4 : (Jvm.Cond.code z zb zL none).before a0 Z = true) (hy : z.cls ≠ "java/lang/invoke/MethodHandle" ∧ z.cls ≠ "java/lang/invoke/VarHandle") (PP : Pays l Z EL n0 nr kn R 3 z W ck cn ws as' h Q') (hsz : Ls.size = mL) (hst : st = argsL.reverse ++ .ref a :: rest) (hlen : ∀ sig, parseMethodDescriptor z.desc = some sig → argsL.length = sig.parameters.length) (has : (.ref a :: argsL).toArray = as') (hW : (rest.map fun v => v.category).sum ≤ W) (hws : ∀ x ∈ ws, x ∈ SF) (hc : k + ck ≤ R.cells) (hl : n + cn ≤ R.slots)
    (K : ∀ v h' SN, Keep h h' ws → h0.size ≤ h.size → Q' v h' SN → Go l Z EL n0 nr kn y bytes mL ret R h0 WS Q (SN ++ SF) h' (k + ck) (n + cn) pc' Ls (v.toList ++ rest)) : Go l Z EL n0 nr kn y bytes mL ret R h0 WS Q SF h k n pc Ls st := by
  intro p e s m args below meth c T hR
  obtain ⟨⟨hx, hby, hml, hown, hnm, hret, hlk, hkn⟩, vm0, k0, locs, X, e0, C⟩ := hR
  have hZ : Z.Warmed39 (s.setVm vm0).vm := C.1
  have hown' : (s.setVm vm0).vm.findClass y.cls = some m.cls := by rw [show (s.setVm vm0).vm = vm0 from rfl, C.2.1.1.1.alike.findClass]; exact hown
  have hBK := PP p e below s args vm0 hx C.1 C.2.2.2.1.1 (fun x hx => ⟨⟨(C.2.2.2.2.1 x (hws x hx)).1.1, (C.2.2.2.2.1 x (hws x hx)).1.2.1⟩, (C.2.2.2.2.1 x (hws x hx)).2⟩) C.2.2.2.2.2.2.1 C.2.2.2.2.2.2.2.2.2 (fun q => ⟨Vm.MethodsKnown.alikeC C.2.1.1.1.alike (hkn q).1, Vm.FramesKnown.alikeC C.2.1.1.1.alike (hkn q).2⟩)
  refine Go.after (st := st) (args := args) (ck := ck) (cn := cn) (ws := ws) (as' := as') (Q' := Q') (rest := rest) ⟨hx, hby, hml, hown, hnm, hret, hlk, hkn⟩ e0 C hws ?_ hq K
  exact X.specialBackS hx (y := z) hi hown' (mvT hZ w1) (mvT hZ w2) (mvT hZ w4) hy hBK (g := mkF m pc Ls st) rfl (by rw [hml]; exact hsz) (Steps.refl _) (a := a) (argsL := argsL) (rest := rest) hlen hst (by show 2 * 0 + _ ≤ _; rw [Nat.mul_zero, Nat.zero_add]; exact hW) (hb hby hd) (fun _ _ => ⟨has, e0, hc, hl⟩)
theorem Go.callV {ck cn W : Nat} {ws : List Addr} {as' : Array Value} {Q' : Option Value → Heap → List Addr → Prop} {index : Nat} {u z : MethodName} {CC : String} {a : Addr} {argsL : List Value} (hd : decode bytes pc = .ok (.invokevirtual index, 3)) (hq : pc + 3 = pc') (w1 : (Jvm.Cond.methodLink y.cls index u).before a0 Z = true) (w2 : (Jvm.Cond.declares u).before a0 Z = true) (hnf : ∀ (s : State), Z.Warmed39 s.vm → NotFace s u) (w3 : (Jvm.Cond.selects CC u z).before a0 Z = true) (w4 : (Jvm.Cond.instanceMethod z).before a0 Z = true) (hy : u.cls ≠ "java/lang/invoke/MethodHandle" ∧ u.cls ≠ "java/lang/invoke/VarHandle") (E : Exa Z h a CC) (PP : Pays l Z EL n0 nr kn R 3 z W ck cn ws as' h Q') (hsz : Ls.size = mL) (hst : st = argsL.reverse ++ .ref a :: rest) (hlen : ∀ sig, parseMethodDescriptor u.desc = some sig → argsL.length = sig.parameters.length) (has : (.ref a :: argsL).toArray = as') (hW : (rest.map fun v => v.category).sum ≤ W) (hws : ∀ x ∈ ws, x ∈ SF) (hc : k + ck ≤ R.cells) (hl : n + cn ≤ R.slots)
    (K : ∀ v h' SN, Keep h h' ws → h0.size ≤ h.size → Q' v h' SN → Go l Z EL n0 nr kn y bytes mL ret R h0 WS Q (SN ++ SF) h' (k + ck) (n + cn) pc' Ls (v.toList ++ rest)) : Go l Z EL n0 nr kn y bytes mL ret R h0 WS Q SF h k n pc Ls st := by
  intro p e s m args below meth c T hR
  obtain ⟨⟨hx, hby, hml, hown, hnm, hret, hlk, hkn⟩, vm0, k0, locs, X, e0, C⟩ := hR
  have hZ : Z.Warmed39 (s.setVm vm0).vm := C.1
  have hown' : (s.setVm vm0).vm.findClass y.cls = some m.cls := by rw [show (s.setVm vm0).vm = vm0 from rfl, C.2.1.1.1.alike.findClass]; exact hown
  have hBK := PP p e below s args vm0 hx C.1 C.2.2.2.1.1 (fun x hx => ⟨⟨(C.2.2.2.2.1 x (hws x hx)).1.1, (C.2.2.2.2.1 x (hws x hx)).1.2.1⟩, (C.2.2.2.2.1 x (hws x hx)).2⟩) C.2.2.2.2.2.2.1 C.2.2.2.2.2.2.2.2.2 (fun q => ⟨Vm.MethodsKnown.alikeC C.2.1.1.1.alike (hkn q).1, Vm.FramesKnown.alikeC C.2.1.1.1.alike (hkn q).2⟩)
  obtain ⟨cB, kB, qa, qb, qc⟩ := isOf hZ e0 E
  refine Go.after (st := st) (args := args) (ck := ck) (cn := cn) (ws := ws) (as' := as') (Q' := Q') (rest := rest) ⟨hx, hby, hml, hown, hnm, hret, hlk, hkn⟩ e0 C hws ?_ hq K
  exact X.virtualBackS hx (y := u) (z := z) hown' (mvT hZ w1) (mvT hZ w2) (hnf _ hZ) (mvT hZ w3) (mvT hZ w4) hy hBK qa qc (g := mkF m pc Ls st) rfl (by rw [hml]; exact hsz) (Steps.refl _) (argsL := argsL) (rest := rest) hlen hst (by show 2 * 0 + _ ≤ _; rw [Nat.mul_zero, Nat.zero_add]; exact hW) (hb hby hd) (fun _ _ => ⟨has, e0, hc, hl⟩)
theorem Go.callU {ck cn W : Nat} {ws : List Addr} {as' : Array Value} {Q' : Option Value → Heap → List Addr → Prop} {index : Nat} {u z : MethodName} {CC owner : String} {a : Addr} {argsL : List Value} (hd : decode bytes pc = .ok (.invokevirtual index, 3)) (hq : pc + 3 = pc') (w1 : (Jvm.Cond.methodLink y.cls index u).before a0 Z = true) (w5 : (Jvm.Cond.sameMethod u.cls owner u.name u.desc).before a0 Z = true) (w2 : (Jvm.Cond.declares ⟨owner, u.name, u.desc⟩).before a0 Z = true) (ho : owner ≠ "java/lang/invoke/MethodHandle" ∧ owner ≠ "java/lang/invoke/VarHandle") (w3 : (Jvm.Cond.selects CC u z).before a0 Z = true) (w4 : (Jvm.Cond.instanceMethod z).before a0 Z = true) (E : Exa Z h a CC) (PP : Pays l Z EL n0 nr kn R 3 z W ck cn ws as' h Q') (hsz : Ls.size = mL) (hst : st = argsL.reverse ++ .ref a :: rest) (hlen : ∀ sig, parseMethodDescriptor u.desc = some sig → argsL.length = sig.parameters.length) (has : (.ref a :: argsL).toArray = as') (hW : (rest.map fun v => v.category).sum ≤ W) (hws : ∀ x ∈ ws, x ∈ SF) (hc : k + ck ≤ R.cells) (hl : n + cn ≤ R.slots)
    (K : ∀ v h' SN, Keep h h' ws → h0.size ≤ h.size → Q' v h' SN → Go l Z EL n0 nr kn y bytes mL ret R h0 WS Q (SN ++ SF) h' (k + ck) (n + cn) pc' Ls (v.toList ++ rest)) : Go l Z EL n0 nr kn y bytes mL ret R h0 WS Q SF h k n pc Ls st := by
  intro p e s m args below meth c T hR
  obtain ⟨⟨hx, hby, hml, hown, hnm, hret, hlk, hkn⟩, vm0, k0, locs, X, e0, C⟩ := hR
  have hZ : Z.Warmed39 (s.setVm vm0).vm := C.1
  have hown' : (s.setVm vm0).vm.findClass y.cls = some m.cls := by rw [show (s.setVm vm0).vm = vm0 from rfl, C.2.1.1.1.alike.findClass]; exact hown
  have hBK := PP p e below s args vm0 hx C.1 C.2.2.2.1.1 (fun x hx => ⟨⟨(C.2.2.2.2.1 x (hws x hx)).1.1, (C.2.2.2.2.1 x (hws x hx)).1.2.1⟩, (C.2.2.2.2.1 x (hws x hx)).2⟩) C.2.2.2.2.2.2.1 C.2.2.2.2.2.2.2.2.2 (fun q => ⟨Vm.MethodsKnown.alikeC C.2.1.1.1.alike (hkn q).1, Vm.FramesKnown.alikeC C.2.1.1.1.alike (hkn q).2⟩)
  obtain ⟨cB, kB, qa, qb, qc⟩ := isOf hZ e0 E
  refine Go.after (st := st) (args := args) (ck := ck) (cn := cn) (ws := ws) (as' := as') (Q' := Q') (rest := rest) ⟨hx, hby, hml, hown, hnm, hret, hlk, hkn⟩ e0 C hws ?_ hq K
  exact X.virtualBackUpS hx (x := u) (y := z) (owner := owner) hown' (mvT hZ w1) (mvT hZ w5) (mvT hZ w2) ho (mvT hZ w3) (mvT hZ w4) hBK qa qc (g := mkF m pc Ls st) rfl (by rw [hml]; exact hsz) (Steps.refl _) (argsL := argsL) (rest := rest) hlen hst (by show 2 * 0 + _ ≤ _; rw [Nat.mul_zero, Nat.zero_add]; exact hW) (hb hby hd) (fun _ _ => ⟨has, e0, hc, hl⟩)
theorem Go.callF {ck cn W : Nat} {ws : List Addr} {as' : Array Value} {Q' : Option Value → Heap → List Addr → Prop} {index count : Nat} {u z : MethodName} {CC : String} {a : Addr} {argsL : List Value} (hd : decode bytes pc = .ok (.invokeinterface index count, 5)) (hq : pc + 5 = pc') (w1 : (Jvm.Cond.methodLink y.cls index u).before a0 Z = true) (w2 : (Jvm.Cond.declares u).before a0 Z = true) (w5 : (Jvm.Cond.interfaceMethod u.cls u.cls u.name u.desc).before a0 Z = true) (w3 : (Jvm.Cond.selects CC u z).before a0 Z = true) (w4 : (Jvm.Cond.instanceMethod z).before a0 Z = true) (w6 : (Jvm.Cond.publicMethod z).before a0 Z = true) (w7 : (Jvm.Cond.unhidden CC u.name u.desc).before a0 Z = true) (w8 : (Jvm.Cond.castable CC u.cls).before a0 Z = true) (hy : u.cls ≠ "java/lang/invoke/MethodHandle" ∧ u.cls ≠ "java/lang/invoke/VarHandle") (E : Exa Z h a CC) (PP : Pays l Z EL n0 nr kn R 5 z W ck cn ws as' h Q') (hsz : Ls.size = mL) (hst : st = argsL.reverse ++ .ref a :: rest) (hlen : ∀ sig, parseMethodDescriptor u.desc = some sig → argsL.length = sig.parameters.length) (has : (.ref a :: argsL).toArray = as') (hW : (rest.map fun v => v.category).sum ≤ W) (hws : ∀ x ∈ ws, x ∈ SF) (hc : k + ck ≤ R.cells) (hl : n + cn ≤ R.slots)
    (K : ∀ v h' SN, Keep h h' ws → h0.size ≤ h.size → Q' v h' SN → Go l Z EL n0 nr kn y bytes mL ret R h0 WS Q (SN ++ SF) h' (k + ck) (n + cn) pc' Ls (v.toList ++ rest)) : Go l Z EL n0 nr kn y bytes mL ret R h0 WS Q SF h k n pc Ls st := by
  intro p e s m args below meth c T hR
  obtain ⟨⟨hx, hby, hml, hown, hnm, hret, hlk, hkn⟩, vm0, k0, locs, X, e0, C⟩ := hR
  have hZ : Z.Warmed39 (s.setVm vm0).vm := C.1
  have hown' : (s.setVm vm0).vm.findClass y.cls = some m.cls := by rw [show (s.setVm vm0).vm = vm0 from rfl, C.2.1.1.1.alike.findClass]; exact hown
  have hBK := PP p e below s args vm0 hx C.1 C.2.2.2.1.1 (fun x hx => ⟨⟨(C.2.2.2.2.1 x (hws x hx)).1.1, (C.2.2.2.2.1 x (hws x hx)).1.2.1⟩, (C.2.2.2.2.1 x (hws x hx)).2⟩) C.2.2.2.2.2.2.1 C.2.2.2.2.2.2.2.2.2 (fun q => ⟨Vm.MethodsKnown.alikeC C.2.1.1.1.alike (hkn q).1, Vm.FramesKnown.alikeC C.2.1.1.1.alike (hkn q).2⟩)
  obtain ⟨cB, kB, qa, qb, qc⟩ := isOf hZ e0 E
  refine Go.after (st := st) (args := args) (ck := ck) (cn := cn) (ws := ws) (as' := as') (Q' := Q') (rest := rest) ⟨hx, hby, hml, hown, hnm, hret, hlk, hkn⟩ e0 C hws ?_ hq K
  exact X.interfaceBackS hx (xi := u) (y := z) hown' (mvT hZ w1) (mvT hZ w2) (mvT hZ w5 (by simp [Cond.onTables, Cond.keepsFace, Cond.keeps, Cond.steady, Cond.faceAtom]; exact hy)) (mvT hZ w3) (mvT hZ w4) (mvT hZ w6) (mvT hZ w7) (mvT hZ w8) hy hBK qa qb qc (g := mkF m pc Ls st) rfl (by rw [hml]; exact hsz) (Steps.refl _) (argsL := argsL) (rest := rest) hlen hst (by show 2 * 0 + _ ≤ _; rw [Nat.mul_zero, Nat.zero_add]; exact hW) (hb hby hd) (fun _ _ => ⟨has, e0, hc, hl⟩)
theorem Go.callP {ck cn W : Nat} {ws : List Addr} {as' : Array Value} {Q' : Option Value → Heap → List Addr → Prop} {index : Nat} {z : MethodName} {zb : ByteArray} {zL : Nat} {zr : Option FieldType} {CC : String} {a : Addr} {argsL : List Value} (hd : decode bytes pc = .ok (.invokevirtual index, 3)) (hq : pc + 3 = pc') (w1 : (Jvm.Cond.methodLink y.cls index z).before a0 Z = true) (w2 : (Jvm.Cond.instanceMethod z).before a0 Z = true) (w3 : (Jvm.Cond.selects z.cls z z).before a0 Z = true) (w5 : (Jvm.Cond.privateMethod z).before a0 Z = true) (w4 : (Jvm.Cond.code z zb zL zr).before a0 Z = true) (hy : z.cls ≠ "java/lang/invoke/MethodHandle" ∧ z.cls ≠ "java/lang/invoke/VarHandle") (E : Exa Z h a CC) (PP : Pays l Z EL n0 nr kn R 3 z W ck cn ws as' h Q') (hsz : Ls.size = mL) (hst : st = argsL.reverse ++ .ref a :: rest) (hlen : ∀ sig, parseMethodDescriptor z.desc = some sig → argsL.length = sig.parameters.length) (has : (.ref a :: argsL).toArray = as') (hW : (rest.map fun v => v.category).sum ≤ W) (hws : ∀ x ∈ ws, x ∈ SF) (hc : k + ck ≤ R.cells) (hl : n + cn ≤ R.slots)
    (K : ∀ v h' SN, Keep h h' ws → h0.size ≤ h.size → Q' v h' SN → Go l Z EL n0 nr kn y bytes mL ret R h0 WS Q (SN ++ SF) h' (k + ck) (n + cn) pc' Ls (v.toList ++ rest)) : Go l Z EL n0 nr kn y bytes mL ret R h0 WS Q SF h k n pc Ls st := by
  intro p e s m args below meth c T hR
  obtain ⟨⟨hx, hby, hml, hown, hnm, hret, hlk, hkn⟩, vm0, k0, locs, X, e0, C⟩ := hR
  have hZ : Z.Warmed39 (s.setVm vm0).vm := C.1
  have hown' : (s.setVm vm0).vm.findClass y.cls = some m.cls := by rw [show (s.setVm vm0).vm = vm0 from rfl, C.2.1.1.1.alike.findClass]; exact hown
  have hBK := PP p e below s args vm0 hx C.1 C.2.2.2.1.1 (fun x hx => ⟨⟨(C.2.2.2.2.1 x (hws x hx)).1.1, (C.2.2.2.2.1 x (hws x hx)).1.2.1⟩, (C.2.2.2.2.1 x (hws x hx)).2⟩) C.2.2.2.2.2.2.1 C.2.2.2.2.2.2.2.2.2 (fun q => ⟨Vm.MethodsKnown.alikeC C.2.1.1.1.alike (hkn q).1, Vm.FramesKnown.alikeC C.2.1.1.1.alike (hkn q).2⟩)
  obtain ⟨cq, q1, q2⟩ := E.cell
  refine Go.after (st := st) (args := args) (ck := ck) (cn := cn) (ws := ws) (as' := as') (Q' := Q') (rest := rest) ⟨hx, hby, hml, hown, hnm, hret, hlk, hkn⟩ e0 C hws ?_ hq K
  exact X.privateBackS hx (y := z) hown' (mvT hZ w1) (mvT hZ w2) (mvT hZ w3) (Cond.privateMethod_at (mvP hZ w5 (args := #[]))) (mvT hZ w4) hy hBK (g := mkF m pc Ls st) rfl (by rw [hml]; exact hsz) (Steps.refl _) (a := a) (by rw [e0]; exact q1) q2 (argsL := argsL) (rest := rest) hlen hst (by show 2 * 0 + _ ≤ _; rw [Nat.mul_zero, Nat.zero_add]; exact hW) (hb hby hd) (fun _ _ => ⟨has, e0, hc, hl⟩)
theorem nf {u z : MethodName} {CC : String} (w : (Jvm.Cond.selects CC u z).before a0 Z = true) (e : u = z) : ∀ (s : State), Z.Warmed39 s.vm → NotFace s u := fun s hZ => by
  subst e
  exact notFace_of_selects (args := #[]) (mvT hZ w)
theorem mem0 {SF : List Addr} : ∀ x ∈ ([] : List Addr), x ∈ SF := fun _ q => nomatch q
theorem memS {SF L : List Addr} {a : Addr} (q : a ∈ SF) (r : ∀ x ∈ L, x ∈ SF) : ∀ x ∈ a :: L, x ∈ SF := fun x z => (List.mem_cons.mp z).elim (fun u => u ▸ q) (r x)
theorem sn0 {SF : List Addr} {h0 : Heap} : ∀ x ∈ ([] : List Addr), x ∈ SF ∧ h0.size ≤ x := fun _ q => nomatch q
theorem snS {SF L : List Addr} {h0 : Heap} {a : Addr} (q : a ∈ SF ∧ h0.size ≤ a) (r : ∀ x ∈ L, x ∈ SF ∧ h0.size ≤ x) : ∀ x ∈ a :: L, x ∈ SF ∧ h0.size ≤ x := fun x z => (List.mem_cons.mp z).elim (fun u => u ▸ q) (r x)
theorem Ext.refl (h : Heap) : Ext h h := ⟨Nat.le_refl _, fun _ _ q => q⟩
theorem Ext.trans {h1 h2 h3 : Heap} (E : Ext h1 h2) (F : Ext h2 h3) : Ext h1 h3 := ⟨Nat.le_trans E.1 F.1, fun a c q => F.2 a c (E.2 a c q)⟩
theorem Keep.toExt {h1 h2 : Heap} (K : Keep h1 h2 []) : Ext h1 h2 := ⟨K.1, fun a c q => K.2.1 a c q (fun z => nomatch z)⟩
end Rules
end Jvm.OwnK
namespace Jvm.OwnK
open Jvm Sem ClassFile Op Lib Jvm.Free Jvm.Stand Jvm.LawKit Jvm.RoadKit Bundle
/-! plain facts on numbers and lists -/
def lowV (c : Int32) : Value := .int c.toInt8.toInt32
theorem byte_idem (c : Int32) : c.toInt8.toInt32.toInt8.toInt32 = c.toInt8.toInt32 := by
  rw [Int8.toInt8_toInt32]
theorem nar_byte (c : Int32) : nar .byte c.toInt8.toInt32 = c.toInt8.toInt32 := byte_idem c
theorem shr0 (x : Int32) : x >>> ((0 : Int32) &&& 31) = x := by
  apply Int32.toInt_inj.mp
  rw [c_ishr x 0 0 (by decide)]
  simp
theorem mask255 (x : Int32) : ¬ (x &&& 255) < 0 ∧ ¬ 255 < (x &&& 255) := by
  have h := c_and x 255 (by decide)
  rw [Int32.lt_iff_toInt_lt, Int32.lt_iff_toInt_lt]
  have e1 : (255 : Int32).toInt = 255 := by decide
  have e0 : (0 : Int32).toInt = 0 := by decide
  omega
theorem i2c_in {x : Int32} (h1 : ¬ x < 0) (h2 : ¬ 65535 < x) : x.toUInt32.toUInt16.toUInt32.toInt32 = x := by
  apply Int32.toInt_inj.mp
  have h := c_i2c x
  rw [Int32.lt_iff_toInt_lt] at h1 h2
  have e1 : (65535 : Int32).toInt = 65535 := by decide
  have e0 : (0 : Int32).toInt = 0 := by decide
  omega
theorem nar_char {x : Int32} (h1 : ¬ x < 0) (h2 : ¬ 65535 < x) : nar .char x = x := i2c_in h1 h2
theorem le255 {x : Int32} (h : ¬ 255 < x) : ¬ 65535 < x := by
  rw [Int32.lt_iff_toInt_lt] at h ⊢
  have e1 : (65535 : Int32).toInt = 65535 := by decide
  have e0 : (255 : Int32).toInt = 255 := by decide
  omega
theorem own_lowback {c : Int32} (h1 : ¬ c < 0) (h2 : ¬ 255 < c) : (c.toInt8.toInt32 &&& 255).toUInt32.toUInt16.toUInt32.toInt32 = c := by
  have m := mask255 c.toInt8.toInt32
  rw [i2c_in m.1 (le255 m.2)]
  apply Int32.toInt_inj.mp
  have e := c_mask c.toInt8.toInt32 255 8 (by decide) (by decide)
  have b := c_i2b c
  rw [Int32.lt_iff_toInt_lt] at h1 h2
  have e1 : (255 : Int32).toInt = 255 := by decide
  have e0 : (0 : Int32).toInt = 0 := by decide
  have e2 : ((2 ^ 8 : Nat) : Int) = 256 := by decide
  rw [e, e2]
  omega
theorem ofNat_succ (i : Nat) : Int32.ofNat i + 1 = Int32.ofNat (i + 1) := by
  rw [Int32.ofNat_add]; rfl
theorem ofNat_toInt {i : Nat} (h : i < 2 ^ 31) : (Int32.ofNat i).toInt = i := Int32.toInt_ofNat_small h
theorem ofNat_clamp {i : Nat} (h : i < 2 ^ 31) : (Int32.ofNat i).toNatClampNeg = i := by
  simp only [Int32.toNatClampNeg, ofNat_toInt h, Int.toNat_natCast]
theorem ofNat_nn {i : Nat} (h : i < 2 ^ 31) : ¬ Int32.ofNat i < 0 := by
  rw [Int32.lt_iff_toInt_lt, ofNat_toInt h]
  have e0 : (0 : Int32).toInt = 0 := by decide
  omega
theorem clamp_toInt {z : Int32} (h : ¬ z < 0) : z.toInt = z.toNatClampNeg := nat_of h
theorem ofNat_lt {i : Nat} {z : Int32} (hz : ¬ z < 0) (h : i < z.toNatClampNeg) : Int32.ofNat i < z := by
  have q := (back32 hz).2
  rw [Int32.lt_iff_toInt_lt, ofNat_toInt (by omega), clamp_toInt hz]
  omega
theorem ofNat_ge {i : Nat} {z : Int32} (hz : ¬ z < 0) (hi : i < 2 ^ 31) (h : z.toNatClampNeg ≤ i) : ¬ Int32.ofNat i < z := by
  rw [Int32.lt_iff_toInt_lt, ofNat_toInt hi, clamp_toInt hz]
  omega
theorem arv_nn {Z : State} {h : Heap} {a : Addr} {k : ClassId} {ty : FieldType} {z : Int32} {vs : List Value} {d : Value} (F : Arv Z h a k ty z vs d) : ¬ z < 0 := by obtain ⟨_, _, _, _, q, _⟩ := F; exact q
theorem getD_int (cs : List Int32) (i : Nat) : (cs.map Value.int).getD i (.int 0) = .int (cs.getD i 0) := by
  simp only [List.getD_eq_getElem?_getD, List.getElem?_map]
  cases cs[i]? <;> rfl
theorem getD_low (cs : List Int32) (i : Nat) (h : i < cs.length) : (cs.map lowV).getD i (.int 0) = .int (cs.getD i 0).toInt8.toInt32 := by
  simp only [List.getD_eq_getElem?_getD, List.getElem?_map, List.getElem?_eq_getElem h]
  rfl
theorem set_low (cs : List Int32) (i m : Nat) (h : i < cs.length) (z : Value) : ((cs.take i).map lowV ++ List.replicate (m + 1) z).set i (lowV (cs.getD i 0)) = (cs.take (i + 1)).map lowV ++ List.replicate m z := by
  have hl : ((cs.take i).map lowV).length = i := by simp; omega
  have e : cs.getD i 0 = cs[i] := by simp [List.getD_eq_getElem?_getD, List.getElem?_eq_getElem h]
  rw [List.set_append_right _ _ (by omega), hl, Nat.sub_self, List.replicate_succ, List.set_cons_zero, List.take_succ_eq_append_getElem h, List.map_append, List.append_assoc, e]
  rfl
theorem getD_mem {cs : List Int32} {P : Int32 → Prop} (h : ∀ x ∈ cs, P x) {i : Nat} (hi : i < cs.length) : P (cs.getD i 0) := by
  have e : cs.getD i 0 = cs[i] := by simp [List.getD_eq_getElem?_getD, List.getElem?_eq_getElem hi]
  rw [e]; exact h _ (List.getElem_mem hi)
theorem own_back (x : Int32) : x + (128 : Int32) - (128 : Int32) = x := Int32.add_sub_cancel x 128
theorem own_cache {x : Int32} {n : Nat} (h1 : ¬ x < (-128 : Int32)) (h2 : ¬ (127 : Int32) < x) (hn : n = (256 : Int32).toNatClampNeg) : ¬ (x + (128 : Int32) < 0 ∨ n ≤ (x + (128 : Int32)).toNatClampNeg) := by
  have c := c_iadd x 128
  have r := rng32 (x + 128)
  rw [Int32.lt_iff_toInt_lt] at h1 h2 ⊢
  have e1 : (-128 : Int32).toInt = -128 := by decide
  have e2 : (127 : Int32).toInt = 127 := by decide
  have e3 : (128 : Int32).toInt = 128 := by decide
  have e0 : (0 : Int32).toInt = 0 := by decide
  have e4 : (256 : Int32).toNatClampNeg = 256 := by decide
  simp only [Int32.toNatClampNeg] at hn e4 ⊢
  omega
theorem own_coder0 {z : Int32} : ((z - z).toUInt32 >>> ((31 : Int32) &&& 31).toUInt32).toInt32.toInt8.toInt32 = (0 : Int32) := by
  rw [Int32.sub_self]; decide
theorem own_nz {z : Int32} {cs : List Int32} (hz : z.toNatClampNeg = cs.length) (h : cs ≠ []) : ¬ z = (0 : Int32) := fun e => by
  subst e
  have : (0 : Int32).toNatClampNeg = 0 := by decide
  rw [this] at hz
  exact h (List.length_eq_zero_iff.mp hz.symm)
theorem own_narc (u : Int32) : narrow .char (.int (u &&& (255 : Int32)).toUInt32.toUInt16.toUInt32.toInt32) = .int (u &&& (255 : Int32)).toUInt32.toUInt16.toUInt32.toInt32 := by
  show Value.int _ = _
  have m := mask255 u
  rw [i2c_in m.1 (le255 m.2), i2c_in m.1 (le255 m.2)]
theorem own_one {P : Int32 → Prop} {a : Int32} (h : P a) : ∀ x ∈ [a], P x := fun x hx => by cases List.mem_singleton.mp hx; exact h
theorem own_cons {P : Int32 → Prop} {a : Int32} {L : List Int32} (h : P a) (r : ∀ x ∈ L, P x) : ∀ x ∈ a :: L, P x := fun x hx => (List.mem_cons.mp hx).elim (fun e => e ▸ h) (r x)
theorem own_two {P : Int32 → Prop} {a b : Int32} (h : P a) (h' : P b) : ∀ x ∈ [a, b], P x := own_cons h (own_one h')
def stRef (Z : State) (C n d : String) : Addr := match (Term.static C n d).eval #[] Z none [] Z with
  | some (.ref a) => a
  | _ => 0
theorem stRef_of {Z : State} {args : Array Value} {C n d : String} {a : Addr} (h : (Term.static C n d).eval args Z none [] Z = some (.ref a)) : stRef Z C n d = a := by
  have q : (Term.static C n d).eval #[] Z none [] Z = some (.ref a) := h
  simp only [stRef, q]
theorem arv_of_arr {Z : State} {h : Heap} {a : Addr} {cl : Cell} {ty : FieldType} {z : Int32} {vs : List Value} {d : Value} (A : Arr Z h a cl ty) (hz : ¬ z < 0) (hs : cl.slots.size = z.toNatClampNeg) (H : ∀ i, i < cl.slots.size → cl.slots[i]? = some (vs.getD i d) ∧ fits ty (vs.getD i d) = true) : Arv Z h a cl.cls ty z vs d :=
  ⟨cl, A, rfl, hs, hz, fun i hi => (H i hi).1, fun i hi => (H i hi).2⟩
theorem arv_ext {Z : State} {h h' : Heap} {a : Addr} {k : ClassId} {ty : FieldType} {z : Int32} {vs : List Value} {d : Value} (F : Arv Z h a k ty z vs d) (E : Ext h h') : Arv Z h' a k ty z vs d := F.ext E
theorem own_len {Z : State} {args : Array Value} {t : Term} {a : Addr} {cl : Cell} {ty : FieldType} {z : Int32} (e : t.eval args Z none [] Z = some (.ref a)) (A : Arr Z Z.heap a cl ty) (h : (Term.length t).eval args Z none [] Z = some (.int z)) : cl.slots.size < 2 ^ 31 ∧ cl.slots.size.toInt32 = z := by
  have q := A.fin (Vm.Alike.refl _)
  simp only [Term.eval, e, q, Option.bind_eq_bind, Option.bind_some] at h
  split at h
  · rename_i hl
    exact ⟨hl, by simpa using h⟩
  · cases h
theorem own_sto {Z : State} {h : Heap} {a y : Addr} {k : ClassId} {ty : FieldType} {z : Int32} {vs : List Value} {d : Value} {C : String} (F : Arv Z h a k ty z vs d) (O : Ovr Z k C) (I : Ins Z h y C true) : Sto Z h a (.ref y) := by
  obtain ⟨cl, A, q, -⟩ := F
  exact Sto.ofV A q O I
def NFc (Z : State) (K : String) : Prop := ∃ t kt, Z.vm.findClass K = some t ∧ Z.vm.classes[t]? = some kt ∧ kt.isInterface = false
theorem own_face_inst {Z : State} {a0 : Array Value} {K : String} {n : Nat} (w : (Jvm.Cond.instantiable K n).before a0 Z = true) : NFc Z K := by
  obtain ⟨c, k, h1, h2, -, h4, -⟩ := Cond.instantiable_spec w
  exact ⟨c, k, h1, h2, by simpa using (Bool.or_eq_false_iff.mp h4).1⟩
theorem own_face_sel {Z : State} {a0 : Array Value} {K : String} {u z : MethodName} (w : (Jvm.Cond.selects K u z).before a0 Z = true) : NFc Z z.cls := by
  obtain ⟨c, r, m, -, -, h3, -, mk, h5, h6⟩ := Cond.selects_spec w
  exact ⟨m.cls, mk, findClass_of_methodNamed h3, h5, h6⟩
theorem own_root {Z : State} {a0 : Array Value} {O K : String} (w : (Jvm.Cond.noSuperclass O).before a0 Z = true) (hk : NFc Z K) (hn : O ≠ K) : NS Z O K := by
  obtain ⟨c, k, h1, h2, h3, -, -⟩ := Cond.noSuperclass_spec w
  obtain ⟨t, kt, g1, -⟩ := hk
  have ne := ids_ne h1 g1 hn
  refine ⟨c, t, h1, g1, fun fuel => ?_⟩
  cases fuel with
  | zero => rfl
  | succ f => simp [Vm.isSubclassAux, ne, h2, h3]
theorem own_nsno {Z : State} {a0 : Array Value} {C K : String} {n : Nat} (w : (Jvm.Cond.instantiable C n).before a0 Z = true) (hk : NFc Z K) (ns : NS Z C K) (hn : C ≠ K) : ∃ c t, Z.vm.findClass C = some c ∧ Z.vm.findClass K = some t ∧ Z.vm.assignable c t = false := by
  obtain ⟨c, t, h0, g0, n3⟩ := ns
  obtain ⟨c', k, h1, h2, h5, -⟩ := Cond.instantiable_spec w
  cases h0.symm.trans h1
  obtain ⟨t', kt, g1, g2, g7⟩ := hk
  cases g0.symm.trans g1
  have ne := ids_ne h0 g0 hn
  refine ⟨c, t, h0, g0, ?_⟩
  show Z.vm.assignableAux (255 + 1) c t = false
  cases hkk : kt.kind <;> simp [Vm.assignableAux, ne, h2, g2, h5, hkk, g7, Vm.isSubclass, n3]
theorem own_arv0 {Z : State} {h : Heap} {a : Addr} {cl : Cell} {ty : FieldType} {d : Value} (A : Arr Z h a cl ty) (l : cl.slots.size < 2 ^ 31 ∧ cl.slots.size.toInt32 = (0 : Int32)) : Arv Z h a cl.cls ty (0 : Int32) [] d := by
  have e : cl.slots.size = 0 := by
    have q := len_toInt l.1
    rw [l.2] at q
    have : (0 : Int32).toInt = 0 := by decide
    omega
  refine ⟨cl, A, rfl, by rw [e]; decide, by decide, fun i hi => ?_, fun i hi => ?_⟩ <;> (rw [e] at hi; exact absurd hi (Nat.not_lt_zero _))
theorem own_cat {v : Value} (h : v.isRef = true) : v.category = 1 := by rcases ref_cases h with rfl | ⟨_, rfl⟩ <;> rfl
theorem unt_ext {h h' : Heap} {a : Addr} (E : Ext h h') (U : Unt h a) : Unt h' a := by obtain ⟨c, q, r⟩ := U; exact ⟨c, E.2 _ _ q, r⟩
theorem own_selP {Z : State} {a0 : Array Value} {z u : MethodName} (w3 : (Jvm.Cond.selects u.cls u u).before a0 Z = true) (he : u.cls = z.cls) (hx : z.cls ≠ "java/lang/invoke/MethodHandle" ∧ z.cls ≠ "java/lang/invoke/VarHandle") (w2 : (Jvm.Cond.instanceMethod z).before a0 Z = true) (w5 : (Jvm.Cond.privateMethod z).before a0 Z = true) : (Jvm.Cond.selects z.cls z z).before a0 Z = true := by
  obtain ⟨mk, methM, hnamed, hmethM, hstM, habM⟩ := Cond.instanceMethod_spec w2
  obtain ⟨c2, r2, m2, q1, q2, q3, q4, kP, hkP, hkPi⟩ := Cond.selects_spec w3
  have e1 := findClass_of_methodNamed hnamed
  have e3 := findClass_of_methodNamed q3
  have hp := Cond.privateMethod_at w5 mk methM hnamed hmethM
  rw [he, e1] at e3
  have e4 := Option.some.inj e3
  rw [← e4] at hkP
  have hf := State.methodFound?_of_named hnamed hx
  have hs : selectMethod {} Z.vm mk.cls mk = .method mk := selectMethod_private hmethM hp
  show Cond.holds _ _ _ _ _ _ = true
  simp [Cond.holds, Cond.value, e1, hf, hnamed, hs, hkP, hkPi]
theorem own_elem {Z : State} {args : Array Value} {t : Term} {a : Addr} {cl : Cell} {ty : FieldType} {j : Int32} {v : Value} (e : t.eval args Z none [] Z = some (.ref a)) (A : Arr Z Z.heap a cl ty) (h : (Term.elem t (Term.int j)).eval args Z none [] Z = some v) : cl.slots[j.toNatClampNeg]? = some v := by
  have q := A.fin (Vm.Alike.refl _)
  simp only [Term.eval, e, q, Option.bind_eq_bind, Option.bind_some] at h
  split at h
  · cases h
  · exact h
theorem own_eqr {Z : State} {args : Array Value} {X F : Term} {y : Addr} (hF : F.eval args Z none [] Z = some (.ref y)) (h : (Cond.eq X F).value args Z none Z [] = some true) : X.eval args Z none [] Z = some (.ref y) := by
  simp only [Cond.value, hF] at h
  cases hX : X.eval args Z none [] Z with
  | none => simp [hX] at h
  | some x => cases x <;> simp [hX] at h ⊢; exact h
theorem own_eqn {Z : State} {args : Array Value} {X : Term} (h : (Cond.eq X Term.null).value args Z none Z [] = some true) : X.eval args Z none [] Z = some .null := by
  simp only [Cond.value, Term.eval] at h
  cases hX : X.eval args Z none [] Z with
  | none => simp [hX] at h
  | some x => cases x <;> simp [hX] at h ⊢
def own_eqb (us ws : List Int32) : Int32 := if us = ws then 1 else 0
theorem own_take_succ {us ws : List Int32} {i : Nat} (hu : i < us.length) (hw : i < ws.length) (h : us.take i = ws.take i) (e : us.getD i 0 = ws.getD i 0) : us.take (i + 1) = ws.take (i + 1) := by
  rw [List.take_succ_eq_append_getElem hu, List.take_succ_eq_append_getElem hw, h]
  simp [List.getD_eq_getElem?_getD, List.getElem?_eq_getElem hu, List.getElem?_eq_getElem hw] at e
  rw [e]
theorem own_low_map (cs : List Int32) : cs.map lowV = (cs.map (fun c => c.toInt8.toInt32)).map Value.int := by simp [lowV]
theorem own_eqb_pos {us ws : List Int32} (h : us = ws) : own_eqb us ws = 1 := if_pos h
theorem own_eqb_neg {us ws : List Int32} (h : ¬ us = ws) : own_eqb us ws = 0 := if_neg h
theorem own_eqb0 {us ws : List Int32} (h : own_eqb us ws = 0) : ¬ us = ws := fun e => by rw [own_eqb_pos e] at h; exact absurd h (by decide)
theorem own_eqb1 {us ws : List Int32} (h : ¬ own_eqb us ws = 0) : us = ws := Classical.byContradiction fun e => h (own_eqb_neg e)
theorem own_eqb0' {us ws : List Int32} (h : own_eqb ws us = 0) : ¬ us = ws := fun e => own_eqb0 h e.symm
theorem own_eqb_nar (us ws : List Int32) : narrow .boolean (.int (own_eqb us ws)) = .int (own_eqb us ws) := by
  by_cases h : us = ws
  · rw [own_eqb_pos h]; rfl
  · rw [own_eqb_neg h]; rfl
theorem own_idx {j z : Int32} (h1 : ¬ j < 0) (h2 : j < z) : j.toNatClampNeg < z.toNatClampNeg := by
  have e := clamp_toInt h1
  rw [Int32.lt_iff_toInt_lt] at h2
  simp only [Int32.toNatClampNeg] at e ⊢
  omega
theorem own_clamp_inj {x z : Int32} (h1 : ¬ x < 0) (h2 : ¬ z < 0) (h : x.toNatClampNeg = z.toNatClampNeg) : x = z := by
  have e1 := clamp_toInt h1
  have e2 := clamp_toInt h2
  apply Int32.toInt_inj.mp
  omega
theorem own_pad0 (m i : Nat) : ((List.replicate m (0 : Int32)).map Value.int).getD i (.int (0 : Int32)) = ([] : List Value).getD i (.int (0 : Int32)) := by
  simp only [List.map_replicate, List.getD_eq_getElem?_getD, List.getElem?_replicate]
  split <;> rfl
theorem own_set_mem {cs : List Int32} {P : Int32 → Prop} {i : Nat} {x : Int32} (h : ∀ y ∈ cs, P y) (hx : P x) : ∀ y ∈ cs.set i x, P y := fun y hy => by
  rcases List.mem_or_eq_of_mem_set hy with q | q
  · exact h y q
  · rw [q]; exact hx
theorem own_set_map (cs : List Int32) (i : Nat) (x : Int32) : (cs.map Value.int).set i (.int x) = (cs.set i x).map Value.int := by rw [List.map_set]
theorem own_arv_uniq {Z : State} {h : Heap} {t : Addr} {k k' : ClassId} {ty ty' : FieldType} {z z' : Int32} {us ws : List Int32} {d d' : Value} (A : Arv Z h t k ty z (us.map Value.int) d) (B : Arv Z h t k' ty' z' (ws.map Value.int) d') (hu : z.toNatClampNeg = us.length) (hw : z'.toNatClampNeg = ws.length) : us = ws := by
  obtain ⟨c, A1, -, A2, -, A3, -⟩ := A
  obtain ⟨c', B1, -, B2, -, B3, -⟩ := B
  cases A1.1.symm.trans B1.1
  apply List.ext_getElem (by omega)
  intro i h1 h2
  have q1 := A3 i (by omega)
  have q2 := B3 i (by omega)
  have q := Option.some.inj (q1.symm.trans q2)
  simp [List.getD_eq_getElem?_getD, List.getElem?_map, List.getElem?_eq_getElem h1, List.getElem?_eq_getElem h2] at q
  exact q
theorem own_fld_uniq {Z : State} {h : Heap} {a : Addr} {C n d : String} {x y : Addr} (F : Fld Z h a C n d (.ref x)) (G : Fld Z h a C n d (.ref y)) : x = y := Classical.byContradiction fun q => Fld.ne F G (fun e => q (Value.ref.inj e)) rfl
theorem own_rem {x : Int32} {m : Int32} (h : ¬ x < 0) (hm : (0 : Int32) < m) : ¬ x % m < 0 ∧ x % m < m := by
  have e := (c_iremV x m).1
  rw [Int32.lt_iff_toInt_lt] at h hm ⊢
  rw [Int32.lt_iff_toInt_lt]
  have e0 : (0 : Int32).toInt = 0 := by decide
  rw [e0] at h hm ⊢
  have := e (by omega) hm
  omega
theorem own_maskn (x m : Int32) (h : ¬ m < 0) : ¬ (x &&& m) < 0 := by
  have e0 : (0 : Int32).toInt = 0 := by decide
  rw [Int32.lt_iff_toInt_lt, e0] at h ⊢
  have q := c_and x m (by omega)
  omega
theorem own_remcap {x m : Int32} {c : Nat} (h : ¬ x < 0) (hm : (0 : Int32) < m) (hc : m.toNatClampNeg ≤ c + 1) : (x % m).toNatClampNeg ≤ c := by
  have q := own_rem h hm
  have r := own_idx q.1 q.2
  omega
end Jvm.OwnK
namespace Jvm.OwnK
open Jvm Sem ClassFile Op Lib Jvm.Free Jvm.Stand Jvm.LawKit Jvm.RoadKit Bundle
/-! plain facts on UTF16 bytes -/
def ub0 (c : Int32) : Int32 := (c >>> ((0 : Int32) &&& 31)).toInt8.toInt32
def ub1 (c : Int32) : Int32 := (c >>> ((8 : Int32) &&& 31)).toInt8.toInt32
def udec (x y : Int32) : Int32 := (((x &&& (255 : Int32)) <<< ((0 : Int32) &&& 31)) ||| ((y &&& (255 : Int32)) <<< ((8 : Int32) &&& 31))).toUInt32.toUInt16.toUInt32.toInt32
theorem own_udec {c : Int32} (h1 : ¬ c < 0) (h2 : ¬ 65535 < c) : udec (ub0 c) (ub1 c) = c := by
  have e0 : (0 : Int32).toInt = 0 := by decide
  have e1 : (65535 : Int32).toInt = 65535 := by decide
  rw [Int32.lt_iff_toInt_lt] at h1 h2
  rw [e0] at h1
  rw [e1] at h2
  apply Int32.toInt_inj.mp
  have s0 := c_ishr c 0 0 (by decide)
  have s8 := c_ishr c 8 8 (by decide)
  have p0 : ((2 ^ 0 : Nat) : Int) = 1 := by decide
  have p8 : ((2 ^ 8 : Nat) : Int) = 256 := by decide
  rw [p0] at s0
  rw [p8] at s8
  have i0 := c_i2b (c >>> ((0 : Int32) &&& 31))
  have i8 := c_i2b (c >>> ((8 : Int32) &&& 31))
  have m0 := c_mask (ub0 c) 255 8 (by decide) (by decide)
  have m8 := c_mask (ub1 c) 255 8 (by decide) (by decide)
  rw [p8] at m0 m8
  have l0 := c_ishl (ub0 c &&& 255) 0 0 (by decide)
  have l8 := c_ishl (ub1 c &&& 255) 8 8 (by decide)
  rw [p0] at l0
  rw [p8] at l8
  have r0 := rng32 ((ub0 c &&& 255) <<< ((0 : Int32) &&& 31))
  have r8 := rng32 ((ub1 c &&& 255) <<< ((8 : Int32) &&& 31))
  have q0 : (ub0 c).toInt = (c >>> ((0 : Int32) &&& 31)).toInt8.toInt32.toInt := rfl
  have q8 : (ub1 c).toInt = (c >>> ((8 : Int32) &&& 31)).toInt8.toInt32.toInt := rfl
  have v0 : ((ub0 c &&& 255) <<< ((0 : Int32) &&& 31)).toInt = c.toInt % 256 := by omega
  have v8 : ((ub1 c &&& 255) <<< ((8 : Int32) &&& 31)).toInt = (c.toInt / 256) * 256 := by omega
  have o := c_or' ((ub0 c &&& 255) <<< ((0 : Int32) &&& 31)) ((ub1 c &&& 255) <<< ((8 : Int32) &&& 31)) 8 (by decide) 256 (by decide) (by omega) (by omega) (by omega)
  have ro := rng32 (((ub0 c &&& 255) <<< ((0 : Int32) &&& 31)) ||| ((ub1 c &&& 255) <<< ((8 : Int32) &&& 31)))
  have cc := c_i2c (((ub0 c &&& 255) <<< ((0 : Int32) &&& 31)) ||| ((ub1 c &&& 255) <<< ((8 : Int32) &&& 31)))
  show (udec (ub0 c) (ub1 c)).toInt = c.toInt
  unfold udec
  omega
def Enc (bs cs : List Int32) (n : Nat) : Prop := bs.length = 2 * cs.length ∧ ∀ j, j < n → bs.getD (2 * j) 0 = ub0 (cs.getD j 0) ∧ bs.getD (2 * j + 1) 0 = ub1 (cs.getD j 0)
theorem own_getD_set (bs : List Int32) (i j : Nat) (x : Int32) (hi : i < bs.length) : (bs.set i x).getD j 0 = if i = j then x else bs.getD j 0 := by
  simp only [List.getD_eq_getElem?_getD, List.getElem?_set]
  by_cases h : i = j
  · subst h; simp [hi]
  · simp [h]
theorem Enc.step {bs cs : List Int32} {i : Nat} (h : Enc bs cs i) (hi : i < cs.length) : Enc ((bs.set (2 * i) (ub0 (cs.getD i 0))).set (2 * i + 1) (ub1 (cs.getD i 0))) cs (i + 1) := by
  refine ⟨by simp only [List.length_set]; exact h.1, fun j hj => ?_⟩
  have hl := h.1
  have A := fun k => own_getD_set (bs.set (2 * i) (ub0 (cs.getD i 0))) (2 * i + 1) k (ub1 (cs.getD i 0)) (by rw [List.length_set]; omega)
  have B := fun k => own_getD_set bs (2 * i) k (ub0 (cs.getD i 0)) (by omega)
  rw [A, A, B, B]
  by_cases e : j = i
  · subst e
    simp
  · have hj2 : j < i := by omega
    obtain ⟨q1, q2⟩ := h.2 j hj2
    rw [if_neg (by omega), if_neg (by omega), if_neg (by omega), if_neg (by omega)]
    exact ⟨q1, q2⟩
theorem own_shl1 {j : Int32} (h1 : ¬ j < 0) (h2 : j.toNatClampNeg < 1073741824) : ¬ (j <<< ((1 : Int32) &&& 31)) < 0 ∧ (j <<< ((1 : Int32) &&& 31)).toNatClampNeg = 2 * j.toNatClampNeg := by
  have e0 : (0 : Int32).toInt = 0 := by decide
  have n := clamp_toInt h1
  have l := c_ishl j 1 1 (by decide)
  have p1 : ((2 ^ 1 : Nat) : Int) = 2 := by decide
  rw [p1] at l
  have r := rng32 (j <<< ((1 : Int32) &&& 31))
  have v : (j <<< ((1 : Int32) &&& 31)).toInt = 2 * j.toInt := by omega
  rw [Int32.lt_iff_toInt_lt, e0, v]
  refine ⟨by omega, ?_⟩
  simp only [Int32.toNatClampNeg] at n h2 ⊢
  rw [v]
  omega
theorem own_shr1 {z : Int32} (h1 : ¬ z < 0) (h2 : z.toNatClampNeg < 1073741824) : ((z <<< ((1 : Int32) &&& 31)) >>> ((1 : Int32) &&& 31)) = z := by
  have n := clamp_toInt h1
  have q := own_shl1 h1 h2
  have n2 := clamp_toInt q.1
  apply Int32.toInt_inj.mp
  have s := c_ishr (z <<< ((1 : Int32) &&& 31)) 1 1 (by decide)
  have p1 : ((2 ^ 1 : Nat) : Int) = 2 := by decide
  rw [p1] at s
  omega
theorem own_coder1 {z : Int32} (h1 : ¬ z < 0) (h0 : ¬ z = 0) (h2 : z.toNatClampNeg < 1073741824) : ((z - (z <<< ((1 : Int32) &&& 31))).toUInt32 >>> ((31 : Int32) &&& 31).toUInt32).toInt32.toInt8.toInt32 = (1 : Int32) := by
  have n := clamp_toInt h1
  have q := own_shl1 h1 h2
  have n2 := clamp_toInt q.1
  have sb := c_isub z (z <<< ((1 : Int32) &&& 31))
  have r := rng32 (z - (z <<< ((1 : Int32) &&& 31)))
  have u := c_iushr (z - (z <<< ((1 : Int32) &&& 31))) 31 31 (by decide) (by decide)
  have p31 : ((2 ^ 31 : Nat) : Int) = 2147483648 := by decide
  rw [p31] at u
  have zn : z.toInt ≠ 0 := fun e => h0 (Int32.toInt_inj.mp (e.trans (by decide)))
  have v : ((z - (z <<< ((1 : Int32) &&& 31))).toUInt32 >>> ((31 : Int32) &&& 31).toUInt32).toInt32 = 1 := by
    apply Int32.toInt_inj.mp
    rw [u]
    have e1 : (1 : Int32).toInt = 1 := by decide
    rw [e1]
    omega
  rw [v]
  decide
theorem own_succ {j z : Int32} (h1 : ¬ j < 0) (h : j.toNatClampNeg + 1 < 2147483648) : ¬ (j + 1) < 0 ∧ (j + 1).toNatClampNeg = j.toNatClampNeg + 1 := by
  have e0 : (0 : Int32).toInt = 0 := by decide
  have e1 : (1 : Int32).toInt = 1 := by decide
  have n := clamp_toInt h1
  have a := c_iadd j 1
  have r := rng32 (j + 1)
  have v : (j + 1).toInt = j.toInt + 1 := by omega
  rw [Int32.lt_iff_toInt_lt, e0, v]
  refine ⟨by omega, ?_⟩
  simp only [Int32.toNatClampNeg] at n h ⊢
  rw [v]
  omega
theorem own_ltc {j z : Int32} (h1 : ¬ j < 0) (h2 : ¬ z < 0) (h : j.toNatClampNeg < z.toNatClampNeg) : j < z := by
  rw [Int32.lt_iff_toInt_lt, clamp_toInt h1, clamp_toInt h2]; omega
theorem own_gec {j z : Int32} (h1 : ¬ j < 0) (h2 : ¬ z < 0) (h : z.toNatClampNeg ≤ j.toNatClampNeg) : ¬ j < z := by
  rw [Int32.lt_iff_toInt_lt, clamp_toInt h1, clamp_toInt h2]; omega
end Jvm.OwnK
namespace Jvm.OwnK
open Jvm Sem ClassFile Op Lib Jvm.Free Jvm.Stand Jvm.LawKit Jvm.RoadKit Bundle
theorem own_ltle {i z zc : Int32} (h : i < z) (hle : ¬ zc < z) : i < zc := by
  rw [Int32.lt_iff_toInt_lt] at *; omega
theorem own_take_all {cs : List Int32} {P : Int32 → Prop} {i : Nat} (hi : i < cs.length) (h : ∀ x ∈ cs.take i, P x) (hp : P (cs.getD i 0)) : ∀ x ∈ cs.take (i + 1), P x := fun x hx => by
  rw [List.take_succ_eq_append_getElem hi] at hx
  have e : cs.getD i 0 = cs[i] := by simp [List.getD_eq_getElem?_getD, List.getElem?_eq_getElem hi]
  rcases List.mem_append.mp hx with q | q
  · exact h x q
  · rw [List.mem_singleton.mp q, ← e]; exact hp
theorem own_nar_i2c (x : Int32) : narrow .char (.int x.toUInt32.toUInt16.toUInt32.toInt32) = .int x.toUInt32.toUInt16.toUInt32.toInt32 := by
  show Value.int _ = _
  have h := c_i2c x
  have e0 : (0 : Int32).toInt = 0 := by decide
  have e1 : (65535 : Int32).toInt = 65535 := by decide
  rw [i2c_in (by rw [Int32.lt_iff_toInt_lt, e0]; omega) (by rw [Int32.lt_iff_toInt_lt, e1]; omega)]
theorem arv_nnz {z : Int32} (h : ¬ z < 0) : ¬ z < 0 := h
end Jvm.OwnK
namespace Jvm.OwnK
open Jvm Sem ClassFile Op Lib Jvm.Free Jvm.Stand Jvm.LawKit Jvm.RoadKit Bundle
theorem own_lt_ne {r z : Int32} (h : r < z) : ¬ r = z := fun e => by subst e; rw [Int32.lt_iff_toInt_lt] at h; omega
theorem own_enc_at {bs cs : List Int32} {r : Nat} (hE : Enc bs cs cs.length) (hr : r < cs.length) (h16 : ∀ x ∈ cs, ¬ x < 0 ∧ ¬ 65535 < x) : udec (bs.getD (2 * r) 0) (bs.getD (2 * r + 1) 0) = cs.getD r 0 := by
  obtain ⟨q1, q2⟩ := hE.2 r hr
  have m := getD_mem h16 hr
  rw [q1, q2, own_udec m.1 m.2]
theorem own_nar16 {cs : List Int32} {r : Nat} (h16 : ∀ x ∈ cs, ¬ x < 0 ∧ ¬ 65535 < x) (hr : r < cs.length) : narrow .char (.int (cs.getD r 0)) = .int (cs.getD r 0) := by
  have m := getD_mem h16 hr
  show Value.int _ = _
  rw [i2c_in m.1 m.2]
theorem own_or3 {z zc : Int32} (h1 : ¬ z < 0) (h2 : ¬ zc < 0) : ¬ ((zc ||| (0 : Int32)) ||| z) < 0 := by
  have e0 : (0 : Int32).toInt = 0 := by decide
  rw [Int32.lt_iff_toInt_lt, e0] at h1 h2 ⊢
  have a := (c_orS zc 0).1 (by omega) (by rw [e0]; omega)
  have b := (c_orS (zc ||| 0) z).1 a (by omega)
  omega
theorem own_lt_irr (z : Int32) : ¬ z < z := by rw [Int32.lt_iff_toInt_lt]; omega
theorem own_sub0 {z : Int32} : z - (0 : Int32) = z := Int32.sub_zero z
end Jvm.OwnK
namespace Jvm.OwnK
open Jvm Sem ClassFile Op Lib Jvm.Free Jvm.Stand Jvm.LawKit Jvm.RoadKit Bundle
theorem own_fill {cs : List Int32} {i M : Nat} (hi : i < cs.length) (hM : i < M) : (cs.take i ++ List.replicate (M - i) (0 : Int32)).set i (cs.getD i 0) = cs.take (i + 1) ++ List.replicate (M - (i + 1)) (0 : Int32) := by
  have hl : (cs.take i).length = i := by rw [List.length_take]; omega
  have e : cs.getD i 0 = cs[i] := by simp [List.getD_eq_getElem?_getD, List.getElem?_eq_getElem hi]
  obtain ⟨k, hk⟩ : ∃ k, M - i = k + 1 := ⟨M - i - 1, by omega⟩
  have hk2 : M - (i + 1) = k := by omega
  rw [hk, hk2, List.set_append_right _ _ (by omega), hl, Nat.sub_self, List.replicate_succ, List.set_cons_zero, List.take_succ_eq_append_getElem hi, List.append_assoc, e]
  rfl
theorem own_padr (l : List Int32) (k i : Nat) : (l.map Value.int).getD i (.int (0 : Int32)) = ((l ++ List.replicate k (0 : Int32)).map Value.int).getD i (.int (0 : Int32)) := by
  rw [List.map_append, List.map_replicate]
  exact (pad_rep _ _ k i).symm
end Jvm.OwnK
namespace Jvm.OwnK
open Jvm Sem ClassFile Op Lib Jvm.Free Jvm.Stand Jvm.LawKit Jvm.RoadKit Bundle
theorem own_range_all (cs : List Int32) (k : Nat) (hl : cs.length = k) : cs.map Value.int = (List.range k).map fun i => (cs.map Value.int).getD (0 + i) (.int (0 : Int32)) := by
  subst hl
  apply List.ext_getElem (by simp)
  intro i h1 h2
  simp at h1 h2
  simp [List.getD_eq_getElem?_getD, h2]
theorem own_room1 {len zc : Int32} (h0 : ¬ len < 0) (hc : ¬ zc < 0) (h : len < zc) : ¬ (zc - len) < (1 : Int32) := by
  have e0 : (0 : Int32).toInt = 0 := by decide
  have e1 : (1 : Int32).toInt = 1 := by decide
  have r1 := rng32 zc
  have r2 := rng32 len
  have s := c_isub zc len
  have r := rng32 (zc - len)
  rw [Int32.lt_iff_toInt_lt] at h0 hc h ⊢
  omega
theorem own_push {cs : List Int32} {d : Int32} {m : Nat} (h : 0 < m) : (cs ++ List.replicate m (0 : Int32)).set cs.length d = (cs ++ [d]) ++ List.replicate (m - 1) (0 : Int32) := by
  obtain ⟨k, rfl⟩ : ∃ k, m = k + 1 := ⟨m - 1, by omega⟩
  rw [List.set_append_right _ _ (Nat.le_refl _), Nat.sub_self, List.replicate_succ, List.set_cons_zero, List.append_assoc]
  rfl
theorem own_0add {n : Int32} : (0 : Int32) + (n - (0 : Int32)) = n := by rw [own_sub0, Int32.zero_add]
end Jvm.OwnK
namespace Jvm.OwnK
open Jvm Sem ClassFile Op Lib Jvm.Free Jvm.Stand Jvm.LawKit Jvm.RoadKit Bundle
theorem own_addn {n k : Int32} (h0 : ¬ n < 0) (h : n.toNatClampNeg ≤ 256) (hk : ¬ k < 0) (hk2 : k.toNatClampNeg ≤ 2) : ¬ (n + k) < 0 ∧ (n + k).toNatClampNeg = n.toNatClampNeg + k.toNatClampNeg := by
  have e0 : (0 : Int32).toInt = 0 := by decide
  have n1 := clamp_toInt h0
  have n2 := clamp_toInt hk
  have a := c_iadd n k
  have r := rng32 (n + k)
  have v : (n + k).toInt = n.toInt + k.toInt := by omega
  rw [Int32.lt_iff_toInt_lt, e0, v]
  refine ⟨by omega, ?_⟩
  simp only [Int32.toNatClampNeg] at n1 n2 h hk2 ⊢
  rw [v]
  omega
theorem own_add1 {n : Int32} (h0 : ¬ n < 0) (h : n.toNatClampNeg ≤ 256) : ¬ (n + (1 : Int32)) < 0 ∧ (n + (1 : Int32)).toNatClampNeg = n.toNatClampNeg + 1 := own_addn (k := 1) h0 h (by decide) (by decide)
theorem own_add2 {n : Int32} (h0 : ¬ n < 0) (h : n.toNatClampNeg ≤ 256) : ¬ (n + (2 : Int32)) < 0 ∧ (n + (2 : Int32)).toNatClampNeg = n.toNatClampNeg + 2 := own_addn (k := 2) h0 h (by decide) (by decide)
theorem own_pos {n : Int32} (p : (0 : Int32) < n) : 0 < n.toNatClampNeg := by
  have e0 : (0 : Int32).toInt = 0 := by decide
  rw [Int32.lt_iff_toInt_lt, e0] at p
  simp only [Int32.toNatClampNeg]
  omega
theorem own_subn {n : Int32} (p : (0 : Int32) < n) (h : n.toNatClampNeg ≤ 256) : ¬ (n - (1 : Int32)) < 0 ∧ (n - (1 : Int32)).toNatClampNeg = n.toNatClampNeg - 1 := by
  have e0 : (0 : Int32).toInt = 0 := by decide
  have e1 : (1 : Int32).toInt = 1 := by decide
  have q := own_pos p
  rw [Int32.lt_iff_toInt_lt, e0] at p
  have a := c_isub n 1
  have r := rng32 (n - 1)
  have rn := rng32 n
  have v : (n - 1).toInt = n.toInt - 1 := by omega
  rw [Int32.lt_iff_toInt_lt, e0, v]
  refine ⟨by omega, ?_⟩
  simp only [Int32.toNatClampNeg]
  rw [v]
  omega
theorem own_add11 (n : Int32) : n + (1 : Int32) + (1 : Int32) = n + (2 : Int32) := by rw [Int32.add_assoc]; rfl
theorem own_all2 {K : List Int32} {P : Int32 → Prop} {c d : Int32} (h : ∀ x ∈ K, P x) (hc : P c) (hd : P d) : ∀ x ∈ (K ++ [c]) ++ [d], P x := fun x hx => by
  rcases List.mem_append.mp hx with q | q
  · rcases List.mem_append.mp q with q | q
    · exact h x q
    · rw [List.mem_singleton.mp q]; exact hc
  · rw [List.mem_singleton.mp q]; exact hd
theorem own_cases256 {n : Int32} (h0 : ¬ n < 0) (h : n.toNatClampNeg ≤ 256) : n.toNatClampNeg < 255 ∨ n.toNatClampNeg = 255 ∨ n.toNatClampNeg = 256 := by omega
theorem own_ne0 {x : Int32} {k : Nat} (h : x.toNatClampNeg = k + 2) : ¬ x = 0 := fun e => by
  rw [e] at h
  have e0 : (0 : Int32).toNatClampNeg = 0 := by decide
  omega
theorem own_T1 {K : List Int32} {k : Nat} {c d : Int32} (h : k = K.length) : ((K ++ [c]) ++ [d]).getD k 0 = c := by
  subst h; simp [List.getD_eq_getElem?_getD]
theorem own_T2 {K : List Int32} {k : Nat} {c d : Int32} (h : k = K.length) : ((K ++ [c]) ++ [d]).getD (k + 1) 0 = d := by
  subst h; simp [List.getD_eq_getElem?_getD]
theorem own_Tlt {K : List Int32} {j : Nat} {c d : Int32} (h : j < K.length) : ((K ++ [c]) ++ [d]).getD j 0 = K.getD j 0 := by
  simp only [List.getD_eq_getElem?_getD]
  rw [List.getElem?_append_left (by simp; omega), List.getElem?_append_left h]
theorem own_T3 {K : List Int32} {k : Nat} {c d : Int32} (h : k = K.length) (hp : 0 < k) : ((K ++ [c]) ++ [d]).getD (k - 1) 0 = K.getD (k - 1) 0 := own_Tlt (by omega)
theorem own_T4 {K : List Int32} {k : Nat} {c d : Int32} (h : k = K.length) (hp : 0 < k) : ((K ++ [c]) ++ [d]).getD 0 0 = K.getD 0 0 := own_Tlt (by omega)
theorem own_takeD {D : List Int32} {j k : Nat} (h : j < k) : (D.take k).getD j 0 = D.getD j 0 := by
  simp only [List.getD_eq_getElem?_getD, List.getElem?_take, h, if_true]
theorem own_D3 {k : Nat} {fi la : Int32} (hp : 0 < k) (h : k ≤ 256) : (((List.replicate 256 (0 : Int32)).set 0 fi).set (k - 1) la).getD (k - 1) 0 = la := by
  rw [own_getD_set _ _ _ _ (by rw [List.length_set, List.length_replicate]; omega), if_pos rfl]
theorem own_D4 {n : Int32} {fi la : Int32} (h0 : ¬ n < 0) (hp : 0 < n.toNatClampNeg) (h : n.toNatClampNeg ≤ 256) : (((List.replicate 256 (0 : Int32)).set 0 fi).set (n.toNatClampNeg - 1) la).getD 0 0 = if n = (1 : Int32) then la else fi := by
  rw [own_getD_set _ _ _ _ (by rw [List.length_set, List.length_replicate]; omega), own_getD_set _ _ _ _ (by rw [List.length_replicate]; decide)]
  have e1 : (1 : Int32).toNatClampNeg = 1 := by decide
  by_cases e : n = (1 : Int32)
  · subst e
    rw [if_pos (show (1 : Int32).toNatClampNeg - 1 = 0 by rw [e1]), if_pos rfl]
  · have : ¬ n.toNatClampNeg - 1 = 0 := fun q => e (own_clamp_inj h0 (by decide) (by rw [e1]; omega))
    rw [if_neg this, if_pos rfl, if_neg e]
theorem mask65535 (x : Int32) : ¬ (x &&& 65535) < 0 ∧ ¬ 65535 < (x &&& 65535) := by
  have h := c_and x 65535 (by decide)
  rw [Int32.lt_iff_toInt_lt, Int32.lt_iff_toInt_lt]
  have e1 : (65535 : Int32).toInt = 65535 := by decide
  have e0 : (0 : Int32).toInt = 0 := by decide
  omega
end Jvm.OwnK

namespace Jvm.Pilot.@@N@@
open Jvm Jvm.ClassFile Sem Op Lib Jvm.Free Jvm.Stand Jvm.LawKit Jvm.RoadKit Bundle Jvm.OwnK Jvm.Pilot.@@N@@.Jvm.D
abbrev EL0 : List (String × Nat) := []
abbrev NR0 : Bool := true
abbrev KN0 : Bool := false
abbrev CAP : Nat := 258
abbrev LatS (Z : State) (h : Heap) (a t : Addr) (kt : ClassId) (z : Int32) (cs : List Int32) : Prop := Fld Z h a "java/lang/String" "coder" "B" (.int (0 : Int32)) ∧ Fld Z h a "java/lang/String" "value" "[B" (.ref t) ∧ Arv Z h t kt .byte z (cs.map lowV) (.int (0 : Int32)) ∧ ∀ x ∈ cs, ¬ 255 < x
abbrev U16S (Z : State) (h : Heap) (a t : Addr) (kt : ClassId) (z : Int32) (cs : List Int32) : Prop := Fld Z h a "java/lang/String" "coder" "B" (.int (1 : Int32)) ∧ Fld Z h a "java/lang/String" "value" "[B" (.ref t) ∧ ∃ bs : List Int32, Arv Z h t kt .byte (z <<< ((1 : Int32) &&& 31)) (bs.map Value.int) (.int (0 : Int32)) ∧ Enc bs cs cs.length
def Stat (Z : State) : Prop := (∃ zc : Int32, Sta Z Z.heap "java/lang/String" "COMPACT_STRINGS" "Z" (.int zc) ∧ ¬ zc = 0) ∧ (∃ fm : Value, Sta Z Z.heap "jdk/internal/util/Preconditions" "SIOOBE_FORMATTER" "Ljava/util/function/BiFunction;" fm ∧ fm.isRef = true) ∧ (Sta Z Z.heap "java/lang/StringUTF16" "$assertionsDisabled" "Z" (.int (1 : Int32)) ∧ Sta Z Z.heap "java/lang/StringUTF16" "HI_BYTE_SHIFT" "I" (.int (0 : Int32)) ∧ Sta Z Z.heap "java/lang/StringUTF16" "LO_BYTE_SHIFT" "I" (.int (8 : Int32))) ∧ True
theorem hs_c {Z : State} (h : Stat Z) : (∃ zc : Int32, Sta Z Z.heap "java/lang/String" "COMPACT_STRINGS" "Z" (.int zc) ∧ ¬ zc = 0) := h.1
theorem hs_f {Z : State} (h : Stat Z) : (∃ fm : Value, Sta Z Z.heap "jdk/internal/util/Preconditions" "SIOOBE_FORMATTER" "Ljava/util/function/BiFunction;" fm ∧ fm.isRef = true) := h.2.1
theorem hs_u {Z : State} (h : Stat Z) : (Sta Z Z.heap "java/lang/StringUTF16" "$assertionsDisabled" "Z" (.int (1 : Int32)) ∧ Sta Z Z.heap "java/lang/StringUTF16" "HI_BYTE_SHIFT" "I" (.int (0 : Int32)) ∧ Sta Z Z.heap "java/lang/StringUTF16" "LO_BYTE_SHIFT" "I" (.int (8 : Int32))) := h.2.2.1
abbrev N_0 : MethodName := ⟨"java/lang/StringUTF16", "compress", "([CI[BII)I"⟩
abbrev N_1 : MethodName := ⟨"java/lang/StringUTF16", "putChar", "([BII)V"⟩
abbrev N_2 : MethodName := ⟨"java/lang/StringUTF16", "newBytesLength", "(I)I"⟩
abbrev N_3 : MethodName := ⟨"java/lang/StringUTF16", "newBytesFor", "(I)[B"⟩
abbrev N_4 : MethodName := ⟨"java/lang/StringUTF16", "getChar", "([BI)C"⟩
abbrev N_5 : MethodName := ⟨"java/lang/StringUTF16", "toBytes", "([CII)[B"⟩
abbrev N_6 : MethodName := ⟨"java/lang/StringUTF16", "compress", "([CII)[B"⟩
abbrev N_7 : MethodName := ⟨"java/lang/StringUTF16", "coderFromArrayLen", "([BI)B"⟩
abbrev N_8 : MethodName := ⟨"java/lang/String", "<init>", "([CIILjava/lang/Void;)V"⟩
abbrev N_9 : MethodName := ⟨"java/lang/String", "<init>", "([C)V"⟩
abbrev N_10 : MethodName := ⟨"jdk/internal/util/Preconditions", "checkFromIndexSize", "(IIILjava/util/function/BiFunction;)I"⟩
abbrev N_11 : MethodName := ⟨"java/lang/String", "checkBoundsOffCount", "(III)I"⟩
abbrev N_12 : MethodName := ⟨"java/lang/String", "rangeCheck", "([CII)Ljava/lang/Void;"⟩
abbrev N_13 : MethodName := ⟨"java/lang/String", "<init>", "([CII)V"⟩
abbrev N_14 : MethodName := ⟨"java/lang/String", "coder", "()B"⟩
abbrev N_15 : MethodName := ⟨"java/lang/String", "isLatin1", "()Z"⟩
abbrev N_16 : MethodName := ⟨"java/lang/String", "length", "()I"⟩
abbrev N_17 : MethodName := ⟨"jdk/internal/util/Preconditions", "checkIndex", "(IILjava/util/function/BiFunction;)I"⟩
abbrev N_18 : MethodName := ⟨"java/lang/String", "checkIndex", "(II)V"⟩
abbrev N_19 : MethodName := ⟨"java/lang/StringLatin1", "charAt", "([BI)C"⟩
abbrev N_20 : MethodName := ⟨"java/lang/String", "charAt", "(I)C"⟩
abbrev N_21 : MethodName := ⟨"java/lang/StringUTF16", "length", "([B)I"⟩
abbrev N_22 : MethodName := ⟨"java/lang/StringUTF16", "checkIndex", "(I[B)V"⟩
abbrev N_23 : MethodName := ⟨"java/lang/StringUTF16", "charAt", "([BI)C"⟩
abbrev N_24 : MethodName := ⟨"java/lang/StringLatin1", "inflate", "([BI[CII)V"⟩
abbrev N_25 : MethodName := ⟨"java/lang/StringLatin1", "getChars", "([BII[CI)V"⟩
abbrev N_26 : MethodName := ⟨"java/lang/StringUTF16", "checkBoundsOffCount", "(II[B)V"⟩
abbrev N_27 : MethodName := ⟨"java/lang/StringUTF16", "getChars", "([BII[CI)V"⟩
abbrev N_28 : MethodName := ⟨"jdk/internal/util/Preconditions", "checkFromToIndex", "(IIILjava/util/function/BiFunction;)I"⟩
abbrev N_29 : MethodName := ⟨"java/lang/String", "checkBoundsBeginEnd", "(III)V"⟩
abbrev N_30 : MethodName := ⟨"java/lang/String", "getChars", "(II[CI)V"⟩
abbrev N_31 : MethodName := ⟨"com/example/beleg/beleg/JsonOutput", "<init>", "([C)V"⟩
abbrev N_32 : MethodName := ⟨"com/example/beleg/beleg/JsonOutput", "<init>", "()V"⟩
abbrev N_33 : MethodName := ⟨"com/example/beleg/beleg/JsonOutput", "ensureRoom", "(I)V"⟩
abbrev N_34 : MethodName := ⟨"java/lang/Math", "min", "(II)I"⟩
abbrev N_35 : MethodName := ⟨"java/util/Arrays", "copyOf", "([CI)[C"⟩
abbrev N_36 : MethodName := ⟨"java/lang/Math", "max", "(JJ)J"⟩
abbrev N_37 : MethodName := ⟨"java/lang/Math", "min", "(JJ)J"⟩
abbrev N_38 : MethodName := ⟨"com/example/beleg/beleg/JsonOutput", "append", "(C)Lcom/example/beleg/beleg/JsonOutput;"⟩
abbrev N_39 : MethodName := ⟨"com/example/beleg/beleg/JsonOutput", "append", "(Ljava/lang/String;II)Lcom/example/beleg/beleg/JsonOutput;"⟩
abbrev N_40 : MethodName := ⟨"com/example/beleg/beleg/JsonOutput", "length", "()I"⟩
abbrev N_41 : MethodName := ⟨"com/example/beleg/beleg/JsonOutput", "toString", "()Ljava/lang/String;"⟩
theorem pd_0 : parseMethodDescriptor "(I)I" = some ⟨[.int], some .int⟩ := by decide +kernel
theorem pd_1 : parseMethodDescriptor "([BII)V" = some ⟨[(.array .byte), .int, .int], none⟩ := by decide +kernel
theorem pd_2 : parseMethodDescriptor "(I)[B" = some ⟨[.int], some (.array .byte)⟩ := by decide +kernel
theorem pd_3 : parseMethodDescriptor "([CI[BII)I" = some ⟨[(.array .char), .int, (.array .byte), .int, .int], some .int⟩ := by decide +kernel
theorem pd_4 : parseMethodDescriptor "([CII)[B" = some ⟨[(.array .char), .int, .int], some (.array .byte)⟩ := by decide +kernel
theorem pd_5 : parseMethodDescriptor "([BI)C" = some ⟨[(.array .byte), .int], some .char⟩ := by decide +kernel
theorem pd_6 : parseMethodDescriptor "([BI)B" = some ⟨[(.array .byte), .int], some .byte⟩ := by decide +kernel
theorem pd_7 : parseMethodDescriptor "([CIILjava/lang/Void;)V" = some ⟨[(.array .char), .int, .int, (.object "java/lang/Void")], none⟩ := by decide +kernel
theorem pd_8 : parseMethodDescriptor "(IIILjava/util/function/BiFunction;)I" = some ⟨[.int, .int, .int, (.object "java/util/function/BiFunction")], some .int⟩ := by decide +kernel
theorem pd_9 : parseMethodDescriptor "(III)I" = some ⟨[.int, .int, .int], some .int⟩ := by decide +kernel
theorem pd_10 : parseMethodDescriptor "([CII)Ljava/lang/Void;" = some ⟨[(.array .char), .int, .int], some (.object "java/lang/Void")⟩ := by decide +kernel
theorem pd_11 : parseMethodDescriptor "()B" = some ⟨[], some .byte⟩ := by decide +kernel
theorem pd_12 : parseMethodDescriptor "(IILjava/util/function/BiFunction;)I" = some ⟨[.int, .int, (.object "java/util/function/BiFunction")], some .int⟩ := by decide +kernel
theorem pd_13 : parseMethodDescriptor "(II)V" = some ⟨[.int, .int], none⟩ := by decide +kernel
theorem pd_14 : parseMethodDescriptor "()Z" = some ⟨[], some .boolean⟩ := by decide +kernel
theorem pd_15 : parseMethodDescriptor "([B)I" = some ⟨[(.array .byte)], some .int⟩ := by decide +kernel
theorem pd_16 : parseMethodDescriptor "(I[B)V" = some ⟨[.int, (.array .byte)], none⟩ := by decide +kernel
theorem pd_17 : parseMethodDescriptor "([BI[CII)V" = some ⟨[(.array .byte), .int, (.array .char), .int, .int], none⟩ := by decide +kernel
theorem pd_18 : parseMethodDescriptor "(II[B)V" = some ⟨[.int, .int, (.array .byte)], none⟩ := by decide +kernel
theorem pd_19 : parseMethodDescriptor "()I" = some ⟨[], some .int⟩ := by decide +kernel
theorem pd_20 : parseMethodDescriptor "(III)V" = some ⟨[.int, .int, .int], none⟩ := by decide +kernel
theorem pd_21 : parseMethodDescriptor "([BII[CI)V" = some ⟨[(.array .byte), .int, .int, (.array .char), .int], none⟩ := by decide +kernel
theorem pd_22 : parseMethodDescriptor "([C)V" = some ⟨[(.array .char)], none⟩ := by decide +kernel
theorem pd_23 : parseMethodDescriptor "(II)I" = some ⟨[.int, .int], some .int⟩ := by decide +kernel
theorem pd_24 : parseMethodDescriptor "(JJ)J" = some ⟨[.long, .long], some .long⟩ := by decide +kernel
theorem pd_25 : parseMethodDescriptor "([CI)[C" = some ⟨[(.array .char), .int], some (.array .char)⟩ := by decide +kernel
theorem pd_26 : parseMethodDescriptor "(I)V" = some ⟨[.int], none⟩ := by decide +kernel
theorem pd_27 : parseMethodDescriptor "(II[CI)V" = some ⟨[.int, .int, (.array .char), .int], none⟩ := by decide +kernel
theorem pd_28 : parseMethodDescriptor "([CII)V" = some ⟨[(.array .char), .int, .int], none⟩ := by decide +kernel
theorem pd_29 : parseMethodDescriptor "(I)C" = some ⟨[.int], some .char⟩ := by decide +kernel
theorem pd_30 : parseMethodDescriptor "(C)Lcom/example/beleg/beleg/JsonOutput;" = some ⟨[.char], some (.object "com/example/beleg/beleg/JsonOutput")⟩ := by decide +kernel
theorem pd_31 : parseMethodDescriptor "()Ljava/lang/String;" = some ⟨[], some (.object "java/lang/String")⟩ := by decide +kernel
theorem pd_32 : parseMethodDescriptor "()V" = some ⟨[], none⟩ := by decide +kernel
theorem pd_33 : parseMethodDescriptor "(Ljava/lang/String;II)Lcom/example/beleg/beleg/JsonOutput;" = some ⟨[(.object "java/lang/String"), .int, .int], some (.object "com/example/beleg/beleg/JsonOutput")⟩ := by decide +kernel
theorem ic_0 : Int32.ofInt (0) = (0 : Int32) := by decide
theorem ic_1 : Int32.ofInt (1) = (1 : Int32) := by decide
theorem ic_2 : Int32.ofInt (2) = (2 : Int32) := by decide
theorem icb_31 : (Int8.ofInt (31)).toInt32 = (31 : Int32) := by decide
theorem ics_255 : (Int16.ofInt (255)).toInt32 = (255 : Int32) := by decide
theorem ics_256 : (Int16.ofInt (256)).toInt32 = (256 : Int32) := by decide
theorem ics_257 : (Int16.ofInt (257)).toInt32 = (257 : Int32) := by decide
theorem ics_511 : (Int16.ofInt (511)).toInt32 = (511 : Int32) := by decide
theorem d_prog_11_method_1_0 : decode prog_11_method_1_code 0 = .ok (.aload_n 0, 1) := by decide +kernel
theorem d_prog_11_method_1_1 : decode prog_11_method_1_code 1 = .ok (.sipush 256, 3) := by decide +kernel
theorem d_prog_11_method_1_4 : decode prog_11_method_1_code 4 = .ok (.newarray .char, 2) := by decide +kernel
theorem d_prog_11_method_1_6 : decode prog_11_method_1_code 6 = .ok (.invokespecial 3, 3) := by decide +kernel
theorem d_prog_11_method_1_9 : decode prog_11_method_1_code 9 = .ok (.return_, 1) := by decide +kernel
theorem d_prog_11_method_2_0 : decode prog_11_method_2_code 0 = .ok (.aload_n 0, 1) := by decide +kernel
theorem d_prog_11_method_2_1 : decode prog_11_method_2_code 1 = .ok (.invokespecial 7, 3) := by decide +kernel
theorem d_prog_11_method_2_4 : decode prog_11_method_2_code 4 = .ok (.aload_n 0, 1) := by decide +kernel
theorem d_prog_11_method_2_5 : decode prog_11_method_2_code 5 = .ok (.aload_n 1, 1) := by decide +kernel
theorem d_prog_11_method_2_6 : decode prog_11_method_2_code 6 = .ok (.putfield 12, 3) := by decide +kernel
theorem d_prog_11_method_2_9 : decode prog_11_method_2_code 9 = .ok (.return_, 1) := by decide +kernel
theorem d_prog_11_method_5_0 : decode prog_11_method_5_code 0 = .ok (.aload_n 0, 1) := by decide +kernel
theorem d_prog_11_method_5_1 : decode prog_11_method_5_code 1 = .ok (.iconst 1, 1) := by decide +kernel
theorem d_prog_11_method_5_2 : decode prog_11_method_5_code 2 = .ok (.invokevirtual 41, 3) := by decide +kernel
theorem d_prog_11_method_5_5 : decode prog_11_method_5_code 5 = .ok (.aload_n 0, 1) := by decide +kernel
theorem d_prog_11_method_5_6 : decode prog_11_method_5_code 6 = .ok (.getfield 12, 3) := by decide +kernel
theorem d_prog_11_method_5_9 : decode prog_11_method_5_code 9 = .ok (.aload_n 0, 1) := by decide +kernel
theorem d_prog_11_method_5_10 : decode prog_11_method_5_code 10 = .ok (.dup, 1) := by decide +kernel
theorem d_prog_11_method_5_11 : decode prog_11_method_5_code 11 = .ok (.getfield 45, 3) := by decide +kernel
theorem d_prog_11_method_5_14 : decode prog_11_method_5_code 14 = .ok (.dup_x1, 1) := by decide +kernel
theorem d_prog_11_method_5_15 : decode prog_11_method_5_code 15 = .ok (.iconst 1, 1) := by decide +kernel
theorem d_prog_11_method_5_16 : decode prog_11_method_5_code 16 = .ok (.iadd, 1) := by decide +kernel
theorem d_prog_11_method_5_17 : decode prog_11_method_5_code 17 = .ok (.putfield 45, 3) := by decide +kernel
theorem d_prog_11_method_5_20 : decode prog_11_method_5_code 20 = .ok (.iload_n 1, 1) := by decide +kernel
theorem d_prog_11_method_5_21 : decode prog_11_method_5_code 21 = .ok (.castore, 1) := by decide +kernel
theorem d_prog_11_method_5_22 : decode prog_11_method_5_code 22 = .ok (.aload_n 0, 1) := by decide +kernel
theorem d_prog_11_method_5_23 : decode prog_11_method_5_code 23 = .ok (.areturn, 1) := by decide +kernel
theorem d_prog_11_method_7_0 : decode prog_11_method_7_code 0 = .ok (.aload_n 0, 1) := by decide +kernel
theorem d_prog_11_method_7_1 : decode prog_11_method_7_code 1 = .ok (.iload_n 3, 1) := by decide +kernel
theorem d_prog_11_method_7_2 : decode prog_11_method_7_code 2 = .ok (.iload_n 2, 1) := by decide +kernel
theorem d_prog_11_method_7_3 : decode prog_11_method_7_code 3 = .ok (.isub, 1) := by decide +kernel
theorem d_prog_11_method_7_4 : decode prog_11_method_7_code 4 = .ok (.invokevirtual 41, 3) := by decide +kernel
theorem d_prog_11_method_7_7 : decode prog_11_method_7_code 7 = .ok (.aload_n 1, 1) := by decide +kernel
theorem d_prog_11_method_7_8 : decode prog_11_method_7_code 8 = .ok (.iload_n 2, 1) := by decide +kernel
theorem d_prog_11_method_7_9 : decode prog_11_method_7_code 9 = .ok (.iload_n 3, 1) := by decide +kernel
theorem d_prog_11_method_7_10 : decode prog_11_method_7_code 10 = .ok (.aload_n 0, 1) := by decide +kernel
theorem d_prog_11_method_7_11 : decode prog_11_method_7_code 11 = .ok (.getfield 12, 3) := by decide +kernel
theorem d_prog_11_method_7_14 : decode prog_11_method_7_code 14 = .ok (.aload_n 0, 1) := by decide +kernel
theorem d_prog_11_method_7_15 : decode prog_11_method_7_code 15 = .ok (.getfield 45, 3) := by decide +kernel
theorem d_prog_11_method_7_18 : decode prog_11_method_7_code 18 = .ok (.invokevirtual 58, 3) := by decide +kernel
theorem d_prog_11_method_7_21 : decode prog_11_method_7_code 21 = .ok (.aload_n 0, 1) := by decide +kernel
theorem d_prog_11_method_7_22 : decode prog_11_method_7_code 22 = .ok (.dup, 1) := by decide +kernel
theorem d_prog_11_method_7_23 : decode prog_11_method_7_code 23 = .ok (.getfield 45, 3) := by decide +kernel
theorem d_prog_11_method_7_26 : decode prog_11_method_7_code 26 = .ok (.iload_n 3, 1) := by decide +kernel
theorem d_prog_11_method_7_27 : decode prog_11_method_7_code 27 = .ok (.iload_n 2, 1) := by decide +kernel
theorem d_prog_11_method_7_28 : decode prog_11_method_7_code 28 = .ok (.isub, 1) := by decide +kernel
theorem d_prog_11_method_7_29 : decode prog_11_method_7_code 29 = .ok (.iadd, 1) := by decide +kernel
theorem d_prog_11_method_7_30 : decode prog_11_method_7_code 30 = .ok (.putfield 45, 3) := by decide +kernel
theorem d_prog_11_method_7_33 : decode prog_11_method_7_code 33 = .ok (.aload_n 0, 1) := by decide +kernel
theorem d_prog_11_method_7_34 : decode prog_11_method_7_code 34 = .ok (.areturn, 1) := by decide +kernel
theorem d_prog_11_method_14_0 : decode prog_11_method_14_code 0 = .ok (.iload_n 1, 1) := by decide +kernel
theorem d_prog_11_method_14_1 : decode prog_11_method_14_code 1 = .ok (.aload_n 0, 1) := by decide +kernel
theorem d_prog_11_method_14_2 : decode prog_11_method_14_code 2 = .ok (.getfield 12, 3) := by decide +kernel
theorem d_prog_11_method_14_5 : decode prog_11_method_14_code 5 = .ok (.arraylength, 1) := by decide +kernel
theorem d_prog_11_method_14_6 : decode prog_11_method_14_code 6 = .ok (.aload_n 0, 1) := by decide +kernel
theorem d_prog_11_method_14_7 : decode prog_11_method_14_code 7 = .ok (.getfield 45, 3) := by decide +kernel
theorem d_prog_11_method_14_10 : decode prog_11_method_14_code 10 = .ok (.isub, 1) := by decide +kernel
theorem d_prog_11_method_14_11 : decode prog_11_method_14_code 11 = .ok (.if_icmp .le 66, 3) := by decide +kernel
theorem d_prog_11_method_14_14 : decode prog_11_method_14_code 14 = .ok (.aload_n 0, 1) := by decide +kernel
theorem d_prog_11_method_14_15 : decode prog_11_method_14_code 15 = .ok (.getfield 45, 3) := by decide +kernel
theorem d_prog_11_method_14_18 : decode prog_11_method_14_code 18 = .ok (.i2l, 1) := by decide +kernel
theorem d_prog_11_method_14_19 : decode prog_11_method_14_code 19 = .ok (.iload_n 1, 1) := by decide +kernel
theorem d_prog_11_method_14_20 : decode prog_11_method_14_code 20 = .ok (.i2l, 1) := by decide +kernel
theorem d_prog_11_method_14_21 : decode prog_11_method_14_code 21 = .ok (.ladd, 1) := by decide +kernel
theorem d_prog_11_method_14_22 : decode prog_11_method_14_code 22 = .ok (.lstore_n 2, 1) := by decide +kernel
theorem d_prog_11_method_14_23 : decode prog_11_method_14_code 23 = .ok (.lload_n 2, 1) := by decide +kernel
theorem d_prog_11_method_14_24 : decode prog_11_method_14_code 24 = .ok (.ldc2_w 85, 3) := by decide +kernel
theorem d_prog_11_method_14_27 : decode prog_11_method_14_code 27 = .ok (.lcmp, 1) := by decide +kernel
theorem d_prog_11_method_14_28 : decode prog_11_method_14_code 28 = .ok (.ifCond .le 17, 3) := by decide +kernel
theorem d_prog_11_method_14_45 : decode prog_11_method_14_code 45 = .ok (.aload_n 0, 1) := by decide +kernel
theorem d_prog_11_method_14_46 : decode prog_11_method_14_code 46 = .ok (.aload_n 0, 1) := by decide +kernel
theorem d_prog_11_method_14_47 : decode prog_11_method_14_code 47 = .ok (.getfield 12, 3) := by decide +kernel
theorem d_prog_11_method_14_50 : decode prog_11_method_14_code 50 = .ok (.ldc2_w 85, 3) := by decide +kernel
theorem d_prog_11_method_14_53 : decode prog_11_method_14_code 53 = .ok (.lload_n 2, 1) := by decide +kernel
theorem d_prog_11_method_14_54 : decode prog_11_method_14_code 54 = .ok (.ldc2_w 96, 3) := by decide +kernel
theorem d_prog_11_method_14_57 : decode prog_11_method_14_code 57 = .ok (.aload_n 0, 1) := by decide +kernel
theorem d_prog_11_method_14_58 : decode prog_11_method_14_code 58 = .ok (.getfield 12, 3) := by decide +kernel
theorem d_prog_11_method_14_61 : decode prog_11_method_14_code 61 = .ok (.arraylength, 1) := by decide +kernel
theorem d_prog_11_method_14_62 : decode prog_11_method_14_code 62 = .ok (.i2l, 1) := by decide +kernel
theorem d_prog_11_method_14_63 : decode prog_11_method_14_code 63 = .ok (.lmul, 1) := by decide +kernel
theorem d_prog_11_method_14_64 : decode prog_11_method_14_code 64 = .ok (.invokestatic 98, 3) := by decide +kernel
theorem d_prog_11_method_14_67 : decode prog_11_method_14_code 67 = .ok (.invokestatic 104, 3) := by decide +kernel
theorem d_prog_11_method_14_70 : decode prog_11_method_14_code 70 = .ok (.l2i, 1) := by decide +kernel
theorem d_prog_11_method_14_71 : decode prog_11_method_14_code 71 = .ok (.invokestatic 107, 3) := by decide +kernel
theorem d_prog_11_method_14_74 : decode prog_11_method_14_code 74 = .ok (.putfield 12, 3) := by decide +kernel
theorem d_prog_11_method_14_77 : decode prog_11_method_14_code 77 = .ok (.return_, 1) := by decide +kernel
theorem d_prog_11_method_9_0 : decode prog_11_method_9_code 0 = .ok (.aload_n 0, 1) := by decide +kernel
theorem d_prog_11_method_9_1 : decode prog_11_method_9_code 1 = .ok (.getfield 45, 3) := by decide +kernel
theorem d_prog_11_method_9_4 : decode prog_11_method_9_code 4 = .ok (.ireturn, 1) := by decide +kernel
theorem d_prog_11_method_13_0 : decode prog_11_method_13_code 0 = .ok (.new 50, 3) := by decide +kernel
theorem d_prog_11_method_13_3 : decode prog_11_method_13_code 3 = .ok (.dup, 1) := by decide +kernel
theorem d_prog_11_method_13_4 : decode prog_11_method_13_code 4 = .ok (.aload_n 0, 1) := by decide +kernel
theorem d_prog_11_method_13_5 : decode prog_11_method_13_code 5 = .ok (.getfield 12, 3) := by decide +kernel
theorem d_prog_11_method_13_8 : decode prog_11_method_13_code 8 = .ok (.iconst 0, 1) := by decide +kernel
theorem d_prog_11_method_13_9 : decode prog_11_method_13_code 9 = .ok (.aload_n 0, 1) := by decide +kernel
theorem d_prog_11_method_13_10 : decode prog_11_method_13_code 10 = .ok (.getfield 45, 3) := by decide +kernel
theorem d_prog_11_method_13_13 : decode prog_11_method_13_code 13 = .ok (.invokespecial 80, 3) := by decide +kernel
theorem d_prog_11_method_13_16 : decode prog_11_method_13_code 16 = .ok (.areturn, 1) := by decide +kernel
theorem d_jdk_29_method_66_0 : decode jdk_29_method_66_code 0 = .ok (.lload_n 0, 1) := by decide +kernel
theorem d_jdk_29_method_66_1 : decode jdk_29_method_66_code 1 = .ok (.lload_n 2, 1) := by decide +kernel
theorem d_jdk_29_method_66_2 : decode jdk_29_method_66_code 2 = .ok (.lcmp, 1) := by decide +kernel
theorem d_jdk_29_method_66_3 : decode jdk_29_method_66_code 3 = .ok (.ifCond .lt 7, 3) := by decide +kernel
theorem d_jdk_29_method_66_10 : decode jdk_29_method_66_code 10 = .ok (.lload_n 2, 1) := by decide +kernel
theorem d_jdk_29_method_66_11 : decode jdk_29_method_66_code 11 = .ok (.lreturn, 1) := by decide +kernel
theorem d_jdk_29_method_69_0 : decode jdk_29_method_69_code 0 = .ok (.iload_n 0, 1) := by decide +kernel
theorem d_jdk_29_method_69_1 : decode jdk_29_method_69_code 1 = .ok (.iload_n 1, 1) := by decide +kernel
theorem d_jdk_29_method_69_2 : decode jdk_29_method_69_code 2 = .ok (.if_icmp .gt 7, 3) := by decide +kernel
theorem d_jdk_29_method_69_5 : decode jdk_29_method_69_code 5 = .ok (.iload_n 0, 1) := by decide +kernel
theorem d_jdk_29_method_69_6 : decode jdk_29_method_69_code 6 = .ok (.goto 4, 3) := by decide +kernel
theorem d_jdk_29_method_69_9 : decode jdk_29_method_69_code 9 = .ok (.iload_n 1, 1) := by decide +kernel
theorem d_jdk_29_method_69_10 : decode jdk_29_method_69_code 10 = .ok (.ireturn, 1) := by decide +kernel
theorem d_jdk_29_method_70_0 : decode jdk_29_method_70_code 0 = .ok (.lload_n 0, 1) := by decide +kernel
theorem d_jdk_29_method_70_1 : decode jdk_29_method_70_code 1 = .ok (.lload_n 2, 1) := by decide +kernel
theorem d_jdk_29_method_70_2 : decode jdk_29_method_70_code 2 = .ok (.lcmp, 1) := by decide +kernel
theorem d_jdk_29_method_70_3 : decode jdk_29_method_70_code 3 = .ok (.ifCond .gt 7, 3) := by decide +kernel
theorem d_jdk_29_method_70_10 : decode jdk_29_method_70_code 10 = .ok (.lload_n 2, 1) := by decide +kernel
theorem d_jdk_29_method_70_11 : decode jdk_29_method_70_code 11 = .ok (.lreturn, 1) := by decide +kernel
theorem d_jdk_42_method_3_0 : decode jdk_42_method_3_code 0 = .ok (.aload_n 0, 1) := by decide +kernel
theorem d_jdk_42_method_3_1 : decode jdk_42_method_3_code 1 = .ok (.aload_n 1, 1) := by decide +kernel
theorem d_jdk_42_method_3_2 : decode jdk_42_method_3_code 2 = .ok (.iconst 0, 1) := by decide +kernel
theorem d_jdk_42_method_3_3 : decode jdk_42_method_3_code 3 = .ok (.aload_n 1, 1) := by decide +kernel
theorem d_jdk_42_method_3_4 : decode jdk_42_method_3_code 4 = .ok (.arraylength, 1) := by decide +kernel
theorem d_jdk_42_method_3_5 : decode jdk_42_method_3_code 5 = .ok (.aconst_null, 1) := by decide +kernel
theorem d_jdk_42_method_3_6 : decode jdk_42_method_3_code 6 = .ok (.invokespecial 27, 3) := by decide +kernel
theorem d_jdk_42_method_3_9 : decode jdk_42_method_3_code 9 = .ok (.return_, 1) := by decide +kernel
theorem d_jdk_42_method_4_0 : decode jdk_42_method_4_code 0 = .ok (.aload_n 0, 1) := by decide +kernel
theorem d_jdk_42_method_4_1 : decode jdk_42_method_4_code 1 = .ok (.aload_n 1, 1) := by decide +kernel
theorem d_jdk_42_method_4_2 : decode jdk_42_method_4_code 2 = .ok (.iload_n 2, 1) := by decide +kernel
theorem d_jdk_42_method_4_3 : decode jdk_42_method_4_code 3 = .ok (.iload_n 3, 1) := by decide +kernel
theorem d_jdk_42_method_4_4 : decode jdk_42_method_4_code 4 = .ok (.aload_n 1, 1) := by decide +kernel
theorem d_jdk_42_method_4_5 : decode jdk_42_method_4_code 5 = .ok (.iload_n 2, 1) := by decide +kernel
theorem d_jdk_42_method_4_6 : decode jdk_42_method_4_code 6 = .ok (.iload_n 3, 1) := by decide +kernel
theorem d_jdk_42_method_4_7 : decode jdk_42_method_4_code 7 = .ok (.invokestatic 30, 3) := by decide +kernel
theorem d_jdk_42_method_4_10 : decode jdk_42_method_4_code 10 = .ok (.invokespecial 27, 3) := by decide +kernel
theorem d_jdk_42_method_4_13 : decode jdk_42_method_4_code 13 = .ok (.return_, 1) := by decide +kernel
theorem d_jdk_42_method_149_0 : decode jdk_42_method_149_code 0 = .ok (.aload_n 0, 1) := by decide +kernel
theorem d_jdk_42_method_149_1 : decode jdk_42_method_149_code 1 = .ok (.invokespecial 1, 3) := by decide +kernel
theorem d_jdk_42_method_149_4 : decode jdk_42_method_149_code 4 = .ok (.iload_n 3, 1) := by decide +kernel
theorem d_jdk_42_method_149_5 : decode jdk_42_method_149_code 5 = .ok (.ifCond .ne 22, 3) := by decide +kernel
theorem d_jdk_42_method_149_27 : decode jdk_42_method_149_code 27 = .ok (.getstatic 38, 3) := by decide +kernel
theorem d_jdk_42_method_149_30 : decode jdk_42_method_149_code 30 = .ok (.ifCond .eq 28, 3) := by decide +kernel
theorem d_jdk_42_method_149_33 : decode jdk_42_method_149_code 33 = .ok (.aload_n 1, 1) := by decide +kernel
theorem d_jdk_42_method_149_34 : decode jdk_42_method_149_code 34 = .ok (.iload_n 2, 1) := by decide +kernel
theorem d_jdk_42_method_149_35 : decode jdk_42_method_149_code 35 = .ok (.iload_n 3, 1) := by decide +kernel
theorem d_jdk_42_method_149_36 : decode jdk_42_method_149_code 36 = .ok (.invokestatic 177, 3) := by decide +kernel
theorem d_jdk_42_method_149_39 : decode jdk_42_method_149_code 39 = .ok (.astore 5, 2) := by decide +kernel
theorem d_jdk_42_method_149_41 : decode jdk_42_method_149_code 41 = .ok (.aload_n 0, 1) := by decide +kernel
theorem d_jdk_42_method_149_42 : decode jdk_42_method_149_code 42 = .ok (.aload 5, 2) := by decide +kernel
theorem d_jdk_42_method_149_44 : decode jdk_42_method_149_code 44 = .ok (.iload_n 3, 1) := by decide +kernel
theorem d_jdk_42_method_149_45 : decode jdk_42_method_149_code 45 = .ok (.invokestatic 47, 3) := by decide +kernel
theorem d_jdk_42_method_149_48 : decode jdk_42_method_149_code 48 = .ok (.putfield 15, 3) := by decide +kernel
theorem d_jdk_42_method_149_51 : decode jdk_42_method_149_code 51 = .ok (.aload_n 0, 1) := by decide +kernel
theorem d_jdk_42_method_149_52 : decode jdk_42_method_149_code 52 = .ok (.aload 5, 2) := by decide +kernel
theorem d_jdk_42_method_149_54 : decode jdk_42_method_149_code 54 = .ok (.putfield 9, 3) := by decide +kernel
theorem d_jdk_42_method_149_57 : decode jdk_42_method_149_code 57 = .ok (.return_, 1) := by decide +kernel
theorem d_jdk_42_method_56_0 : decode jdk_42_method_56_code 0 = .ok (.aload_n 0, 1) := by decide +kernel
theorem d_jdk_42_method_56_1 : decode jdk_42_method_56_code 1 = .ok (.invokevirtual 492, 3) := by decide +kernel
theorem d_jdk_42_method_56_4 : decode jdk_42_method_56_code 4 = .ok (.ifCond .eq 12, 3) := by decide +kernel
theorem d_jdk_42_method_56_7 : decode jdk_42_method_56_code 7 = .ok (.aload_n 0, 1) := by decide +kernel
theorem d_jdk_42_method_56_8 : decode jdk_42_method_56_code 8 = .ok (.getfield 9, 3) := by decide +kernel
theorem d_jdk_42_method_56_11 : decode jdk_42_method_56_code 11 = .ok (.iload_n 1, 1) := by decide +kernel
theorem d_jdk_42_method_56_12 : decode jdk_42_method_56_code 12 = .ok (.invokestatic 495, 3) := by decide +kernel
theorem d_jdk_42_method_56_15 : decode jdk_42_method_56_code 15 = .ok (.ireturn, 1) := by decide +kernel
theorem d_jdk_42_method_56_16 : decode jdk_42_method_56_code 16 = .ok (.aload_n 0, 1) := by decide +kernel
theorem d_jdk_42_method_56_17 : decode jdk_42_method_56_code 17 = .ok (.getfield 9, 3) := by decide +kernel
theorem d_jdk_42_method_56_20 : decode jdk_42_method_56_code 20 = .ok (.iload_n 1, 1) := by decide +kernel
theorem d_jdk_42_method_56_21 : decode jdk_42_method_56_code 21 = .ok (.invokestatic 498, 3) := by decide +kernel
theorem d_jdk_42_method_56_24 : decode jdk_42_method_56_code 24 = .ok (.ireturn, 1) := by decide +kernel
theorem d_jdk_42_method_158_0 : decode jdk_42_method_158_code 0 = .ok (.iload_n 0, 1) := by decide +kernel
theorem d_jdk_42_method_158_1 : decode jdk_42_method_158_code 1 = .ok (.iload_n 1, 1) := by decide +kernel
theorem d_jdk_42_method_158_2 : decode jdk_42_method_158_code 2 = .ok (.iload_n 2, 1) := by decide +kernel
theorem d_jdk_42_method_158_3 : decode jdk_42_method_158_code 3 = .ok (.getstatic 1053, 3) := by decide +kernel
theorem d_jdk_42_method_158_6 : decode jdk_42_method_158_code 6 = .ok (.invokestatic 1062, 3) := by decide +kernel
theorem d_jdk_42_method_158_9 : decode jdk_42_method_158_code 9 = .ok (.pop, 1) := by decide +kernel
theorem d_jdk_42_method_158_10 : decode jdk_42_method_158_code 10 = .ok (.return_, 1) := by decide +kernel
theorem d_jdk_42_method_157_0 : decode jdk_42_method_157_code 0 = .ok (.iload_n 0, 1) := by decide +kernel
theorem d_jdk_42_method_157_1 : decode jdk_42_method_157_code 1 = .ok (.iload_n 1, 1) := by decide +kernel
theorem d_jdk_42_method_157_2 : decode jdk_42_method_157_code 2 = .ok (.iload_n 2, 1) := by decide +kernel
theorem d_jdk_42_method_157_3 : decode jdk_42_method_157_code 3 = .ok (.getstatic 1053, 3) := by decide +kernel
theorem d_jdk_42_method_157_6 : decode jdk_42_method_157_code 6 = .ok (.invokestatic 1065, 3) := by decide +kernel
theorem d_jdk_42_method_157_9 : decode jdk_42_method_157_code 9 = .ok (.ireturn, 1) := by decide +kernel
theorem d_jdk_42_method_155_0 : decode jdk_42_method_155_code 0 = .ok (.iload_n 0, 1) := by decide +kernel
theorem d_jdk_42_method_155_1 : decode jdk_42_method_155_code 1 = .ok (.iload_n 1, 1) := by decide +kernel
theorem d_jdk_42_method_155_2 : decode jdk_42_method_155_code 2 = .ok (.getstatic 1053, 3) := by decide +kernel
theorem d_jdk_42_method_155_5 : decode jdk_42_method_155_code 5 = .ok (.invokestatic 1059, 3) := by decide +kernel
theorem d_jdk_42_method_155_8 : decode jdk_42_method_155_code 8 = .ok (.pop, 1) := by decide +kernel
theorem d_jdk_42_method_155_9 : decode jdk_42_method_155_code 9 = .ok (.return_, 1) := by decide +kernel
theorem d_jdk_42_method_152_0 : decode jdk_42_method_152_code 0 = .ok (.getstatic 38, 3) := by decide +kernel
theorem d_jdk_42_method_152_3 : decode jdk_42_method_152_code 3 = .ok (.ifCond .eq 10, 3) := by decide +kernel
theorem d_jdk_42_method_152_6 : decode jdk_42_method_152_code 6 = .ok (.aload_n 0, 1) := by decide +kernel
theorem d_jdk_42_method_152_7 : decode jdk_42_method_152_code 7 = .ok (.getfield 15, 3) := by decide +kernel
theorem d_jdk_42_method_152_10 : decode jdk_42_method_152_code 10 = .ok (.goto 4, 3) := by decide +kernel
theorem d_jdk_42_method_152_14 : decode jdk_42_method_152_code 14 = .ok (.ireturn, 1) := by decide +kernel
theorem d_jdk_42_method_61_0 : decode jdk_42_method_61_code 0 = .ok (.iload_n 1, 1) := by decide +kernel
theorem d_jdk_42_method_61_1 : decode jdk_42_method_61_code 1 = .ok (.iload_n 2, 1) := by decide +kernel
theorem d_jdk_42_method_61_2 : decode jdk_42_method_61_code 2 = .ok (.aload_n 0, 1) := by decide +kernel
theorem d_jdk_42_method_61_3 : decode jdk_42_method_61_code 3 = .ok (.invokevirtual 505, 3) := by decide +kernel
theorem d_jdk_42_method_61_6 : decode jdk_42_method_61_code 6 = .ok (.invokestatic 521, 3) := by decide +kernel
theorem d_jdk_42_method_61_9 : decode jdk_42_method_61_code 9 = .ok (.iload 4, 2) := by decide +kernel
theorem d_jdk_42_method_61_11 : decode jdk_42_method_61_code 11 = .ok (.iload_n 2, 1) := by decide +kernel
theorem d_jdk_42_method_61_12 : decode jdk_42_method_61_code 12 = .ok (.iload_n 1, 1) := by decide +kernel
theorem d_jdk_42_method_61_13 : decode jdk_42_method_61_code 13 = .ok (.isub, 1) := by decide +kernel
theorem d_jdk_42_method_61_14 : decode jdk_42_method_61_code 14 = .ok (.aload_n 3, 1) := by decide +kernel
theorem d_jdk_42_method_61_15 : decode jdk_42_method_61_code 15 = .ok (.arraylength, 1) := by decide +kernel
theorem d_jdk_42_method_61_16 : decode jdk_42_method_61_code 16 = .ok (.invokestatic 34, 3) := by decide +kernel
theorem d_jdk_42_method_61_19 : decode jdk_42_method_61_code 19 = .ok (.pop, 1) := by decide +kernel
theorem d_jdk_42_method_61_20 : decode jdk_42_method_61_code 20 = .ok (.aload_n 0, 1) := by decide +kernel
theorem d_jdk_42_method_61_21 : decode jdk_42_method_61_code 21 = .ok (.invokevirtual 492, 3) := by decide +kernel
theorem d_jdk_42_method_61_24 : decode jdk_42_method_61_code 24 = .ok (.ifCond .eq 18, 3) := by decide +kernel
theorem d_jdk_42_method_61_27 : decode jdk_42_method_61_code 27 = .ok (.aload_n 0, 1) := by decide +kernel
theorem d_jdk_42_method_61_28 : decode jdk_42_method_61_code 28 = .ok (.getfield 9, 3) := by decide +kernel
theorem d_jdk_42_method_61_31 : decode jdk_42_method_61_code 31 = .ok (.iload_n 1, 1) := by decide +kernel
theorem d_jdk_42_method_61_32 : decode jdk_42_method_61_code 32 = .ok (.iload_n 2, 1) := by decide +kernel
theorem d_jdk_42_method_61_33 : decode jdk_42_method_61_code 33 = .ok (.aload_n 3, 1) := by decide +kernel
theorem d_jdk_42_method_61_34 : decode jdk_42_method_61_code 34 = .ok (.iload 4, 2) := by decide +kernel
theorem d_jdk_42_method_61_36 : decode jdk_42_method_61_code 36 = .ok (.invokestatic 525, 3) := by decide +kernel
theorem d_jdk_42_method_61_39 : decode jdk_42_method_61_code 39 = .ok (.goto 15, 3) := by decide +kernel
theorem d_jdk_42_method_61_42 : decode jdk_42_method_61_code 42 = .ok (.aload_n 0, 1) := by decide +kernel
theorem d_jdk_42_method_61_43 : decode jdk_42_method_61_code 43 = .ok (.getfield 9, 3) := by decide +kernel
theorem d_jdk_42_method_61_46 : decode jdk_42_method_61_code 46 = .ok (.iload_n 1, 1) := by decide +kernel
theorem d_jdk_42_method_61_47 : decode jdk_42_method_61_code 47 = .ok (.iload_n 2, 1) := by decide +kernel
theorem d_jdk_42_method_61_48 : decode jdk_42_method_61_code 48 = .ok (.aload_n 3, 1) := by decide +kernel
theorem d_jdk_42_method_61_49 : decode jdk_42_method_61_code 49 = .ok (.iload 4, 2) := by decide +kernel
theorem d_jdk_42_method_61_51 : decode jdk_42_method_61_code 51 = .ok (.invokestatic 529, 3) := by decide +kernel
theorem d_jdk_42_method_61_54 : decode jdk_42_method_61_code 54 = .ok (.return_, 1) := by decide +kernel
theorem d_jdk_42_method_154_0 : decode jdk_42_method_154_code 0 = .ok (.getstatic 38, 3) := by decide +kernel
theorem d_jdk_42_method_154_3 : decode jdk_42_method_154_code 3 = .ok (.ifCond .eq 14, 3) := by decide +kernel
theorem d_jdk_42_method_154_6 : decode jdk_42_method_154_code 6 = .ok (.aload_n 0, 1) := by decide +kernel
theorem d_jdk_42_method_154_7 : decode jdk_42_method_154_code 7 = .ok (.getfield 15, 3) := by decide +kernel
theorem d_jdk_42_method_154_10 : decode jdk_42_method_154_code 10 = .ok (.ifCond .ne 7, 3) := by decide +kernel
theorem d_jdk_42_method_154_13 : decode jdk_42_method_154_code 13 = .ok (.iconst 1, 1) := by decide +kernel
theorem d_jdk_42_method_154_14 : decode jdk_42_method_154_code 14 = .ok (.goto 4, 3) := by decide +kernel
theorem d_jdk_42_method_154_17 : decode jdk_42_method_154_code 17 = .ok (.iconst 0, 1) := by decide +kernel
theorem d_jdk_42_method_154_18 : decode jdk_42_method_154_code 18 = .ok (.ireturn, 1) := by decide +kernel
theorem d_jdk_42_method_54_0 : decode jdk_42_method_54_code 0 = .ok (.aload_n 0, 1) := by decide +kernel
theorem d_jdk_42_method_54_1 : decode jdk_42_method_54_code 1 = .ok (.getfield 9, 3) := by decide +kernel
theorem d_jdk_42_method_54_4 : decode jdk_42_method_54_code 4 = .ok (.arraylength, 1) := by decide +kernel
theorem d_jdk_42_method_54_5 : decode jdk_42_method_54_code 5 = .ok (.aload_n 0, 1) := by decide +kernel
theorem d_jdk_42_method_54_6 : decode jdk_42_method_54_code 6 = .ok (.invokevirtual 335, 3) := by decide +kernel
theorem d_jdk_42_method_54_9 : decode jdk_42_method_54_code 9 = .ok (.ishr, 1) := by decide +kernel
theorem d_jdk_42_method_54_10 : decode jdk_42_method_54_code 10 = .ok (.ireturn, 1) := by decide +kernel
theorem d_jdk_42_method_5_0 : decode jdk_42_method_5_code 0 = .ok (.iload_n 1, 1) := by decide +kernel
theorem d_jdk_42_method_5_1 : decode jdk_42_method_5_code 1 = .ok (.iload_n 2, 1) := by decide +kernel
theorem d_jdk_42_method_5_2 : decode jdk_42_method_5_code 2 = .ok (.aload_n 0, 1) := by decide +kernel
theorem d_jdk_42_method_5_3 : decode jdk_42_method_5_code 3 = .ok (.arraylength, 1) := by decide +kernel
theorem d_jdk_42_method_5_4 : decode jdk_42_method_5_code 4 = .ok (.invokestatic 34, 3) := by decide +kernel
theorem d_jdk_42_method_5_7 : decode jdk_42_method_5_code 7 = .ok (.pop, 1) := by decide +kernel
theorem d_jdk_42_method_5_8 : decode jdk_42_method_5_code 8 = .ok (.aconst_null, 1) := by decide +kernel
theorem d_jdk_42_method_5_9 : decode jdk_42_method_5_code 9 = .ok (.areturn, 1) := by decide +kernel
theorem d_jdk_43_method_2_0 : decode jdk_43_method_2_code 0 = .ok (.iload_n 1, 1) := by decide +kernel
theorem d_jdk_43_method_2_1 : decode jdk_43_method_2_code 1 = .ok (.aload_n 0, 1) := by decide +kernel
theorem d_jdk_43_method_2_2 : decode jdk_43_method_2_code 2 = .ok (.arraylength, 1) := by decide +kernel
theorem d_jdk_43_method_2_3 : decode jdk_43_method_2_code 3 = .ok (.invokestatic 9, 3) := by decide +kernel
theorem d_jdk_43_method_2_6 : decode jdk_43_method_2_code 6 = .ok (.aload_n 0, 1) := by decide +kernel
theorem d_jdk_43_method_2_7 : decode jdk_43_method_2_code 7 = .ok (.iload_n 1, 1) := by decide +kernel
theorem d_jdk_43_method_2_8 : decode jdk_43_method_2_code 8 = .ok (.baload, 1) := by decide +kernel
theorem d_jdk_43_method_2_9 : decode jdk_43_method_2_code 9 = .ok (.sipush 255, 3) := by decide +kernel
theorem d_jdk_43_method_2_12 : decode jdk_43_method_2_code 12 = .ok (.iand, 1) := by decide +kernel
theorem d_jdk_43_method_2_13 : decode jdk_43_method_2_code 13 = .ok (.i2c, 1) := by decide +kernel
theorem d_jdk_43_method_2_14 : decode jdk_43_method_2_code 14 = .ok (.ireturn, 1) := by decide +kernel
theorem d_jdk_43_method_11_0 : decode jdk_43_method_11_code 0 = .ok (.aload_n 0, 1) := by decide +kernel
theorem d_jdk_43_method_11_1 : decode jdk_43_method_11_code 1 = .ok (.iload_n 1, 1) := by decide +kernel
theorem d_jdk_43_method_11_2 : decode jdk_43_method_11_code 2 = .ok (.aload_n 3, 1) := by decide +kernel
theorem d_jdk_43_method_11_3 : decode jdk_43_method_11_code 3 = .ok (.iload 4, 2) := by decide +kernel
theorem d_jdk_43_method_11_5 : decode jdk_43_method_11_code 5 = .ok (.iload_n 2, 1) := by decide +kernel
theorem d_jdk_43_method_11_6 : decode jdk_43_method_11_code 6 = .ok (.iload_n 1, 1) := by decide +kernel
theorem d_jdk_43_method_11_7 : decode jdk_43_method_11_code 7 = .ok (.isub, 1) := by decide +kernel
theorem d_jdk_43_method_11_8 : decode jdk_43_method_11_code 8 = .ok (.invokestatic 13, 3) := by decide +kernel
theorem d_jdk_43_method_11_11 : decode jdk_43_method_11_code 11 = .ok (.return_, 1) := by decide +kernel
theorem d_jdk_43_method_49_0 : decode jdk_43_method_49_code 0 = .ok (.iconst 0, 1) := by decide +kernel
theorem d_jdk_43_method_49_1 : decode jdk_43_method_49_code 1 = .ok (.istore 5, 2) := by decide +kernel
theorem d_jdk_43_method_49_3 : decode jdk_43_method_49_code 3 = .ok (.iload 5, 2) := by decide +kernel
theorem d_jdk_43_method_49_5 : decode jdk_43_method_49_code 5 = .ok (.iload 4, 2) := by decide +kernel
theorem d_jdk_43_method_49_7 : decode jdk_43_method_49_code 7 = .ok (.if_icmp .ge 26, 3) := by decide +kernel
theorem d_jdk_43_method_49_10 : decode jdk_43_method_49_code 10 = .ok (.aload_n 2, 1) := by decide +kernel
theorem d_jdk_43_method_49_11 : decode jdk_43_method_49_code 11 = .ok (.iload_n 3, 1) := by decide +kernel
theorem d_jdk_43_method_49_12 : decode jdk_43_method_49_code 12 = .ok (.iinc 3 1, 3) := by decide +kernel
theorem d_jdk_43_method_49_15 : decode jdk_43_method_49_code 15 = .ok (.aload_n 0, 1) := by decide +kernel
theorem d_jdk_43_method_49_16 : decode jdk_43_method_49_code 16 = .ok (.iload_n 1, 1) := by decide +kernel
theorem d_jdk_43_method_49_17 : decode jdk_43_method_49_code 17 = .ok (.iinc 1 1, 3) := by decide +kernel
theorem d_jdk_43_method_49_20 : decode jdk_43_method_49_code 20 = .ok (.baload, 1) := by decide +kernel
theorem d_jdk_43_method_49_21 : decode jdk_43_method_49_code 21 = .ok (.sipush 255, 3) := by decide +kernel
theorem d_jdk_43_method_49_24 : decode jdk_43_method_49_code 24 = .ok (.iand, 1) := by decide +kernel
theorem d_jdk_43_method_49_25 : decode jdk_43_method_49_code 25 = .ok (.i2c, 1) := by decide +kernel
theorem d_jdk_43_method_49_26 : decode jdk_43_method_49_code 26 = .ok (.castore, 1) := by decide +kernel
theorem d_jdk_43_method_49_27 : decode jdk_43_method_49_code 27 = .ok (.iinc 5 1, 3) := by decide +kernel
theorem d_jdk_43_method_49_30 : decode jdk_43_method_49_code 30 = .ok (.goto (-27), 3) := by decide +kernel
theorem d_jdk_43_method_49_33 : decode jdk_43_method_49_code 33 = .ok (.return_, 1) := by decide +kernel
theorem d_jdk_52_method_83_0 : decode jdk_52_method_83_code 0 = .ok (.iload_n 1, 1) := by decide +kernel
theorem d_jdk_52_method_83_1 : decode jdk_52_method_83_code 1 = .ok (.aload_n 0, 1) := by decide +kernel
theorem d_jdk_52_method_83_2 : decode jdk_52_method_83_code 2 = .ok (.invokestatic 67, 3) := by decide +kernel
theorem d_jdk_52_method_83_5 : decode jdk_52_method_83_code 5 = .ok (.aload_n 0, 1) := by decide +kernel
theorem d_jdk_52_method_83_6 : decode jdk_52_method_83_code 6 = .ok (.iload_n 1, 1) := by decide +kernel
theorem d_jdk_52_method_83_7 : decode jdk_52_method_83_code 7 = .ok (.invokestatic 71, 3) := by decide +kernel
theorem d_jdk_52_method_83_10 : decode jdk_52_method_83_code 10 = .ok (.ireturn, 1) := by decide +kernel
theorem d_jdk_52_method_94_0 : decode jdk_52_method_94_code 0 = .ok (.iload_n 0, 1) := by decide +kernel
theorem d_jdk_52_method_94_1 : decode jdk_52_method_94_code 1 = .ok (.iload_n 1, 1) := by decide +kernel
theorem d_jdk_52_method_94_2 : decode jdk_52_method_94_code 2 = .ok (.aload_n 2, 1) := by decide +kernel
theorem d_jdk_52_method_94_3 : decode jdk_52_method_94_code 3 = .ok (.invokestatic 48, 3) := by decide +kernel
theorem d_jdk_52_method_94_6 : decode jdk_52_method_94_code 6 = .ok (.invokestatic 419, 3) := by decide +kernel
theorem d_jdk_52_method_94_9 : decode jdk_52_method_94_code 9 = .ok (.pop, 1) := by decide +kernel
theorem d_jdk_52_method_94_10 : decode jdk_52_method_94_code 10 = .ok (.return_, 1) := by decide +kernel
theorem d_jdk_52_method_91_0 : decode jdk_52_method_91_code 0 = .ok (.iload_n 0, 1) := by decide +kernel
theorem d_jdk_52_method_91_1 : decode jdk_52_method_91_code 1 = .ok (.aload_n 1, 1) := by decide +kernel
theorem d_jdk_52_method_91_2 : decode jdk_52_method_91_code 2 = .ok (.invokestatic 48, 3) := by decide +kernel
theorem d_jdk_52_method_91_5 : decode jdk_52_method_91_code 5 = .ok (.invokestatic 414, 3) := by decide +kernel
theorem d_jdk_52_method_91_8 : decode jdk_52_method_91_code 8 = .ok (.return_, 1) := by decide +kernel
theorem d_jdk_52_method_15_0 : decode jdk_52_method_15_code 0 = .ok (.iload_n 1, 1) := by decide +kernel
theorem d_jdk_52_method_15_1 : decode jdk_52_method_15_code 1 = .ok (.aload_n 0, 1) := by decide +kernel
theorem d_jdk_52_method_15_2 : decode jdk_52_method_15_code 2 = .ok (.arraylength, 1) := by decide +kernel
theorem d_jdk_52_method_15_3 : decode jdk_52_method_15_code 3 = .ok (.isub, 1) := by decide +kernel
theorem d_jdk_52_method_15_4 : decode jdk_52_method_15_code 4 = .ok (.bipush 31, 2) := by decide +kernel
theorem d_jdk_52_method_15_6 : decode jdk_52_method_15_code 6 = .ok (.iushr, 1) := by decide +kernel
theorem d_jdk_52_method_15_7 : decode jdk_52_method_15_code 7 = .ok (.i2b, 1) := by decide +kernel
theorem d_jdk_52_method_15_8 : decode jdk_52_method_15_code 8 = .ok (.ireturn, 1) := by decide +kernel
theorem d_jdk_52_method_16_0 : decode jdk_52_method_16_code 0 = .ok (.iload_n 2, 1) := by decide +kernel
theorem d_jdk_52_method_16_1 : decode jdk_52_method_16_code 1 = .ok (.newarray .byte, 2) := by decide +kernel
theorem d_jdk_52_method_16_3 : decode jdk_52_method_16_code 3 = .ok (.astore_n 3, 1) := by decide +kernel
theorem d_jdk_52_method_16_4 : decode jdk_52_method_16_code 4 = .ok (.aload_n 0, 1) := by decide +kernel
theorem d_jdk_52_method_16_5 : decode jdk_52_method_16_code 5 = .ok (.iload_n 1, 1) := by decide +kernel
theorem d_jdk_52_method_16_6 : decode jdk_52_method_16_code 6 = .ok (.aload_n 3, 1) := by decide +kernel
theorem d_jdk_52_method_16_7 : decode jdk_52_method_16_code 7 = .ok (.iconst 0, 1) := by decide +kernel
theorem d_jdk_52_method_16_8 : decode jdk_52_method_16_code 8 = .ok (.iload_n 2, 1) := by decide +kernel
theorem d_jdk_52_method_16_9 : decode jdk_52_method_16_code 9 = .ok (.invokestatic 115, 3) := by decide +kernel
theorem d_jdk_52_method_16_12 : decode jdk_52_method_16_code 12 = .ok (.istore 4, 2) := by decide +kernel
theorem d_jdk_52_method_16_14 : decode jdk_52_method_16_code 14 = .ok (.iload 4, 2) := by decide +kernel
theorem d_jdk_52_method_16_16 : decode jdk_52_method_16_code 16 = .ok (.iload_n 2, 1) := by decide +kernel
theorem d_jdk_52_method_16_17 : decode jdk_52_method_16_code 17 = .ok (.if_icmp .eq 40, 3) := by decide +kernel
theorem d_jdk_52_method_16_20 : decode jdk_52_method_16_code 20 = .ok (.aload_n 0, 1) := by decide +kernel
theorem d_jdk_52_method_16_21 : decode jdk_52_method_16_code 21 = .ok (.iload_n 1, 1) := by decide +kernel
theorem d_jdk_52_method_16_22 : decode jdk_52_method_16_code 22 = .ok (.iload_n 2, 1) := by decide +kernel
theorem d_jdk_52_method_16_23 : decode jdk_52_method_16_code 23 = .ok (.invokestatic 119, 3) := by decide +kernel
theorem d_jdk_52_method_16_26 : decode jdk_52_method_16_code 26 = .ok (.astore 5, 2) := by decide +kernel
theorem d_jdk_52_method_16_28 : decode jdk_52_method_16_code 28 = .ok (.aload 5, 2) := by decide +kernel
theorem d_jdk_52_method_16_30 : decode jdk_52_method_16_code 30 = .ok (.iload 4, 2) := by decide +kernel
theorem d_jdk_52_method_16_32 : decode jdk_52_method_16_code 32 = .ok (.invokestatic 71, 3) := by decide +kernel
theorem d_jdk_52_method_16_35 : decode jdk_52_method_16_code 35 = .ok (.sipush 255, 3) := by decide +kernel
theorem d_jdk_52_method_16_38 : decode jdk_52_method_16_code 38 = .ok (.if_icmp .gt 16, 3) := by decide +kernel
theorem d_jdk_52_method_16_54 : decode jdk_52_method_16_code 54 = .ok (.aload 5, 2) := by decide +kernel
theorem d_jdk_52_method_16_56 : decode jdk_52_method_16_code 56 = .ok (.areturn, 1) := by decide +kernel
theorem d_jdk_52_method_16_57 : decode jdk_52_method_16_code 57 = .ok (.aload_n 3, 1) := by decide +kernel
theorem d_jdk_52_method_16_58 : decode jdk_52_method_16_code 58 = .ok (.areturn, 1) := by decide +kernel
theorem d_jdk_52_method_21_0 : decode jdk_52_method_21_code 0 = .ok (.iconst 0, 1) := by decide +kernel
theorem d_jdk_52_method_21_1 : decode jdk_52_method_21_code 1 = .ok (.istore 5, 2) := by decide +kernel
theorem d_jdk_52_method_21_3 : decode jdk_52_method_21_code 3 = .ok (.iload 5, 2) := by decide +kernel
theorem d_jdk_52_method_21_5 : decode jdk_52_method_21_code 5 = .ok (.iload 4, 2) := by decide +kernel
theorem d_jdk_52_method_21_7 : decode jdk_52_method_21_code 7 = .ok (.if_icmp .ge 37, 3) := by decide +kernel
theorem d_jdk_52_method_21_10 : decode jdk_52_method_21_code 10 = .ok (.aload_n 0, 1) := by decide +kernel
theorem d_jdk_52_method_21_11 : decode jdk_52_method_21_code 11 = .ok (.iload_n 1, 1) := by decide +kernel
theorem d_jdk_52_method_21_12 : decode jdk_52_method_21_code 12 = .ok (.caload, 1) := by decide +kernel
theorem d_jdk_52_method_21_13 : decode jdk_52_method_21_code 13 = .ok (.istore 6, 2) := by decide +kernel
theorem d_jdk_52_method_21_15 : decode jdk_52_method_21_code 15 = .ok (.iload 6, 2) := by decide +kernel
theorem d_jdk_52_method_21_17 : decode jdk_52_method_21_code 17 = .ok (.sipush 255, 3) := by decide +kernel
theorem d_jdk_52_method_21_20 : decode jdk_52_method_21_code 20 = .ok (.if_icmp .le 6, 3) := by decide +kernel
theorem d_jdk_52_method_21_23 : decode jdk_52_method_21_code 23 = .ok (.iload 5, 2) := by decide +kernel
theorem d_jdk_52_method_21_25 : decode jdk_52_method_21_code 25 = .ok (.ireturn, 1) := by decide +kernel
theorem d_jdk_52_method_21_26 : decode jdk_52_method_21_code 26 = .ok (.aload_n 2, 1) := by decide +kernel
theorem d_jdk_52_method_21_27 : decode jdk_52_method_21_code 27 = .ok (.iload_n 3, 1) := by decide +kernel
theorem d_jdk_52_method_21_28 : decode jdk_52_method_21_code 28 = .ok (.iload 6, 2) := by decide +kernel
theorem d_jdk_52_method_21_30 : decode jdk_52_method_21_code 30 = .ok (.i2b, 1) := by decide +kernel
theorem d_jdk_52_method_21_31 : decode jdk_52_method_21_code 31 = .ok (.bastore, 1) := by decide +kernel
theorem d_jdk_52_method_21_32 : decode jdk_52_method_21_code 32 = .ok (.iinc 1 1, 3) := by decide +kernel
theorem d_jdk_52_method_21_35 : decode jdk_52_method_21_code 35 = .ok (.iinc 3 1, 3) := by decide +kernel
theorem d_jdk_52_method_21_38 : decode jdk_52_method_21_code 38 = .ok (.iinc 5 1, 3) := by decide +kernel
theorem d_jdk_52_method_21_41 : decode jdk_52_method_21_code 41 = .ok (.goto (-38), 3) := by decide +kernel
theorem d_jdk_52_method_21_44 : decode jdk_52_method_21_code 44 = .ok (.iload 4, 2) := by decide +kernel
theorem d_jdk_52_method_21_46 : decode jdk_52_method_21_code 46 = .ok (.ireturn, 1) := by decide +kernel
theorem d_jdk_52_method_5_0 : decode jdk_52_method_5_code 0 = .ok (.getstatic 44, 3) := by decide +kernel
theorem d_jdk_52_method_5_3 : decode jdk_52_method_5_code 3 = .ok (.ifCond .ne 25, 3) := by decide +kernel
theorem d_jdk_52_method_5_28 : decode jdk_52_method_5_code 28 = .ok (.iload_n 1, 1) := by decide +kernel
theorem d_jdk_52_method_5_29 : decode jdk_52_method_5_code 29 = .ok (.iconst 1, 1) := by decide +kernel
theorem d_jdk_52_method_5_30 : decode jdk_52_method_5_code 30 = .ok (.ishl, 1) := by decide +kernel
theorem d_jdk_52_method_5_31 : decode jdk_52_method_5_code 31 = .ok (.istore_n 1, 1) := by decide +kernel
theorem d_jdk_52_method_5_32 : decode jdk_52_method_5_code 32 = .ok (.aload_n 0, 1) := by decide +kernel
theorem d_jdk_52_method_5_33 : decode jdk_52_method_5_code 33 = .ok (.iload_n 1, 1) := by decide +kernel
theorem d_jdk_52_method_5_34 : decode jdk_52_method_5_code 34 = .ok (.iinc 1 1, 3) := by decide +kernel
theorem d_jdk_52_method_5_37 : decode jdk_52_method_5_code 37 = .ok (.baload, 1) := by decide +kernel
theorem d_jdk_52_method_5_38 : decode jdk_52_method_5_code 38 = .ok (.sipush 255, 3) := by decide +kernel
theorem d_jdk_52_method_5_41 : decode jdk_52_method_5_code 41 = .ok (.iand, 1) := by decide +kernel
theorem d_jdk_52_method_5_42 : decode jdk_52_method_5_code 42 = .ok (.getstatic 59, 3) := by decide +kernel
theorem d_jdk_52_method_5_45 : decode jdk_52_method_5_code 45 = .ok (.ishl, 1) := by decide +kernel
theorem d_jdk_52_method_5_46 : decode jdk_52_method_5_code 46 = .ok (.aload_n 0, 1) := by decide +kernel
theorem d_jdk_52_method_5_47 : decode jdk_52_method_5_code 47 = .ok (.iload_n 1, 1) := by decide +kernel
theorem d_jdk_52_method_5_48 : decode jdk_52_method_5_code 48 = .ok (.baload, 1) := by decide +kernel
theorem d_jdk_52_method_5_49 : decode jdk_52_method_5_code 49 = .ok (.sipush 255, 3) := by decide +kernel
theorem d_jdk_52_method_5_52 : decode jdk_52_method_5_code 52 = .ok (.iand, 1) := by decide +kernel
theorem d_jdk_52_method_5_53 : decode jdk_52_method_5_code 53 = .ok (.getstatic 63, 3) := by decide +kernel
theorem d_jdk_52_method_5_56 : decode jdk_52_method_5_code 56 = .ok (.ishl, 1) := by decide +kernel
theorem d_jdk_52_method_5_57 : decode jdk_52_method_5_code 57 = .ok (.ior, 1) := by decide +kernel
theorem d_jdk_52_method_5_58 : decode jdk_52_method_5_code 58 = .ok (.i2c, 1) := by decide +kernel
theorem d_jdk_52_method_5_59 : decode jdk_52_method_5_code 59 = .ok (.ireturn, 1) := by decide +kernel
theorem d_jdk_52_method_26_0 : decode jdk_52_method_26_code 0 = .ok (.iload_n 1, 1) := by decide +kernel
theorem d_jdk_52_method_26_1 : decode jdk_52_method_26_code 1 = .ok (.iload_n 2, 1) := by decide +kernel
theorem d_jdk_52_method_26_2 : decode jdk_52_method_26_code 2 = .ok (.if_icmp .ge 11, 3) := by decide +kernel
theorem d_jdk_52_method_26_5 : decode jdk_52_method_26_code 5 = .ok (.iload_n 1, 1) := by decide +kernel
theorem d_jdk_52_method_26_6 : decode jdk_52_method_26_code 6 = .ok (.iload_n 2, 1) := by decide +kernel
theorem d_jdk_52_method_26_7 : decode jdk_52_method_26_code 7 = .ok (.iload_n 1, 1) := by decide +kernel
theorem d_jdk_52_method_26_8 : decode jdk_52_method_26_code 8 = .ok (.isub, 1) := by decide +kernel
theorem d_jdk_52_method_26_9 : decode jdk_52_method_26_code 9 = .ok (.aload_n 0, 1) := by decide +kernel
theorem d_jdk_52_method_26_10 : decode jdk_52_method_26_code 10 = .ok (.invokestatic 173, 3) := by decide +kernel
theorem d_jdk_52_method_26_13 : decode jdk_52_method_26_code 13 = .ok (.iload_n 1, 1) := by decide +kernel
theorem d_jdk_52_method_26_14 : decode jdk_52_method_26_code 14 = .ok (.istore 5, 2) := by decide +kernel
theorem d_jdk_52_method_26_16 : decode jdk_52_method_26_code 16 = .ok (.iload 5, 2) := by decide +kernel
theorem d_jdk_52_method_26_18 : decode jdk_52_method_26_code 18 = .ok (.iload_n 2, 1) := by decide +kernel
theorem d_jdk_52_method_26_19 : decode jdk_52_method_26_code 19 = .ok (.if_icmp .ge 22, 3) := by decide +kernel
theorem d_jdk_52_method_26_22 : decode jdk_52_method_26_code 22 = .ok (.aload_n 3, 1) := by decide +kernel
theorem d_jdk_52_method_26_23 : decode jdk_52_method_26_code 23 = .ok (.iload 4, 2) := by decide +kernel
theorem d_jdk_52_method_26_25 : decode jdk_52_method_26_code 25 = .ok (.iinc 4 1, 3) := by decide +kernel
theorem d_jdk_52_method_26_28 : decode jdk_52_method_26_code 28 = .ok (.aload_n 0, 1) := by decide +kernel
theorem d_jdk_52_method_26_29 : decode jdk_52_method_26_code 29 = .ok (.iload 5, 2) := by decide +kernel
theorem d_jdk_52_method_26_31 : decode jdk_52_method_26_code 31 = .ok (.invokestatic 71, 3) := by decide +kernel
theorem d_jdk_52_method_26_34 : decode jdk_52_method_26_code 34 = .ok (.castore, 1) := by decide +kernel
theorem d_jdk_52_method_26_35 : decode jdk_52_method_26_code 35 = .ok (.iinc 5 1, 3) := by decide +kernel
theorem d_jdk_52_method_26_38 : decode jdk_52_method_26_code 38 = .ok (.goto (-22), 3) := by decide +kernel
theorem d_jdk_52_method_26_41 : decode jdk_52_method_26_code 41 = .ok (.return_, 1) := by decide +kernel
theorem d_jdk_52_method_6_0 : decode jdk_52_method_6_code 0 = .ok (.aload_n 0, 1) := by decide +kernel
theorem d_jdk_52_method_6_1 : decode jdk_52_method_6_code 1 = .ok (.arraylength, 1) := by decide +kernel
theorem d_jdk_52_method_6_2 : decode jdk_52_method_6_code 2 = .ok (.iconst 1, 1) := by decide +kernel
theorem d_jdk_52_method_6_3 : decode jdk_52_method_6_code 3 = .ok (.ishr, 1) := by decide +kernel
theorem d_jdk_52_method_6_4 : decode jdk_52_method_6_code 4 = .ok (.ireturn, 1) := by decide +kernel
theorem d_jdk_52_method_2_0 : decode jdk_52_method_2_code 0 = .ok (.iload_n 0, 1) := by decide +kernel
theorem d_jdk_52_method_2_1 : decode jdk_52_method_2_code 1 = .ok (.invokestatic 11, 3) := by decide +kernel
theorem d_jdk_52_method_2_4 : decode jdk_52_method_2_code 4 = .ok (.newarray .byte, 2) := by decide +kernel
theorem d_jdk_52_method_2_6 : decode jdk_52_method_2_code 6 = .ok (.areturn, 1) := by decide +kernel
theorem d_jdk_52_method_3_0 : decode jdk_52_method_3_code 0 = .ok (.iload_n 0, 1) := by decide +kernel
theorem d_jdk_52_method_3_1 : decode jdk_52_method_3_code 1 = .ok (.ifCond .ge 11, 3) := by decide +kernel
theorem d_jdk_52_method_3_12 : decode jdk_52_method_3_code 12 = .ok (.iload_n 0, 1) := by decide +kernel
theorem d_jdk_52_method_3_13 : decode jdk_52_method_3_code 13 = .ok (.ldc 20, 2) := by decide +kernel
theorem d_jdk_52_method_3_15 : decode jdk_52_method_3_code 15 = .ok (.if_icmp .lt 40, 3) := by decide +kernel
theorem d_jdk_52_method_3_55 : decode jdk_52_method_3_code 55 = .ok (.iload_n 0, 1) := by decide +kernel
theorem d_jdk_52_method_3_56 : decode jdk_52_method_3_code 56 = .ok (.iconst 1, 1) := by decide +kernel
theorem d_jdk_52_method_3_57 : decode jdk_52_method_3_code 57 = .ok (.ishl, 1) := by decide +kernel
theorem d_jdk_52_method_3_58 : decode jdk_52_method_3_code 58 = .ok (.ireturn, 1) := by decide +kernel
theorem d_jdk_52_method_4_0 : decode jdk_52_method_4_code 0 = .ok (.getstatic 44, 3) := by decide +kernel
theorem d_jdk_52_method_4_3 : decode jdk_52_method_4_code 3 = .ok (.ifCond .ne 25, 3) := by decide +kernel
theorem d_jdk_52_method_4_28 : decode jdk_52_method_4_code 28 = .ok (.iload_n 1, 1) := by decide +kernel
theorem d_jdk_52_method_4_29 : decode jdk_52_method_4_code 29 = .ok (.iconst 1, 1) := by decide +kernel
theorem d_jdk_52_method_4_30 : decode jdk_52_method_4_code 30 = .ok (.ishl, 1) := by decide +kernel
theorem d_jdk_52_method_4_31 : decode jdk_52_method_4_code 31 = .ok (.istore_n 1, 1) := by decide +kernel
theorem d_jdk_52_method_4_32 : decode jdk_52_method_4_code 32 = .ok (.aload_n 0, 1) := by decide +kernel
theorem d_jdk_52_method_4_33 : decode jdk_52_method_4_code 33 = .ok (.iload_n 1, 1) := by decide +kernel
theorem d_jdk_52_method_4_34 : decode jdk_52_method_4_code 34 = .ok (.iinc 1 1, 3) := by decide +kernel
theorem d_jdk_52_method_4_37 : decode jdk_52_method_4_code 37 = .ok (.iload_n 2, 1) := by decide +kernel
theorem d_jdk_52_method_4_38 : decode jdk_52_method_4_code 38 = .ok (.getstatic 59, 3) := by decide +kernel
theorem d_jdk_52_method_4_41 : decode jdk_52_method_4_code 41 = .ok (.ishr, 1) := by decide +kernel
theorem d_jdk_52_method_4_42 : decode jdk_52_method_4_code 42 = .ok (.i2b, 1) := by decide +kernel
theorem d_jdk_52_method_4_43 : decode jdk_52_method_4_code 43 = .ok (.bastore, 1) := by decide +kernel
theorem d_jdk_52_method_4_44 : decode jdk_52_method_4_code 44 = .ok (.aload_n 0, 1) := by decide +kernel
theorem d_jdk_52_method_4_45 : decode jdk_52_method_4_code 45 = .ok (.iload_n 1, 1) := by decide +kernel
theorem d_jdk_52_method_4_46 : decode jdk_52_method_4_code 46 = .ok (.iload_n 2, 1) := by decide +kernel
theorem d_jdk_52_method_4_47 : decode jdk_52_method_4_code 47 = .ok (.getstatic 63, 3) := by decide +kernel
theorem d_jdk_52_method_4_50 : decode jdk_52_method_4_code 50 = .ok (.ishr, 1) := by decide +kernel
theorem d_jdk_52_method_4_51 : decode jdk_52_method_4_code 51 = .ok (.i2b, 1) := by decide +kernel
theorem d_jdk_52_method_4_52 : decode jdk_52_method_4_code 52 = .ok (.bastore, 1) := by decide +kernel
theorem d_jdk_52_method_4_53 : decode jdk_52_method_4_code 53 = .ok (.return_, 1) := by decide +kernel
theorem d_jdk_52_method_14_0 : decode jdk_52_method_14_code 0 = .ok (.iload_n 2, 1) := by decide +kernel
theorem d_jdk_52_method_14_1 : decode jdk_52_method_14_code 1 = .ok (.invokestatic 107, 3) := by decide +kernel
theorem d_jdk_52_method_14_4 : decode jdk_52_method_14_code 4 = .ok (.astore_n 3, 1) := by decide +kernel
theorem d_jdk_52_method_14_5 : decode jdk_52_method_14_code 5 = .ok (.iconst 0, 1) := by decide +kernel
theorem d_jdk_52_method_14_6 : decode jdk_52_method_14_code 6 = .ok (.istore 4, 2) := by decide +kernel
theorem d_jdk_52_method_14_8 : decode jdk_52_method_14_code 8 = .ok (.iload 4, 2) := by decide +kernel
theorem d_jdk_52_method_14_10 : decode jdk_52_method_14_code 10 = .ok (.iload_n 2, 1) := by decide +kernel
theorem d_jdk_52_method_14_11 : decode jdk_52_method_14_code 11 = .ok (.if_icmp .ge 21, 3) := by decide +kernel
theorem d_jdk_52_method_14_14 : decode jdk_52_method_14_code 14 = .ok (.aload_n 3, 1) := by decide +kernel
theorem d_jdk_52_method_14_15 : decode jdk_52_method_14_code 15 = .ok (.iload 4, 2) := by decide +kernel
theorem d_jdk_52_method_14_17 : decode jdk_52_method_14_code 17 = .ok (.aload_n 0, 1) := by decide +kernel
theorem d_jdk_52_method_14_18 : decode jdk_52_method_14_code 18 = .ok (.iload_n 1, 1) := by decide +kernel
theorem d_jdk_52_method_14_19 : decode jdk_52_method_14_code 19 = .ok (.caload, 1) := by decide +kernel
theorem d_jdk_52_method_14_20 : decode jdk_52_method_14_code 20 = .ok (.invokestatic 111, 3) := by decide +kernel
theorem d_jdk_52_method_14_23 : decode jdk_52_method_14_code 23 = .ok (.iinc 1 1, 3) := by decide +kernel
theorem d_jdk_52_method_14_26 : decode jdk_52_method_14_code 26 = .ok (.iinc 4 1, 3) := by decide +kernel
theorem d_jdk_52_method_14_29 : decode jdk_52_method_14_code 29 = .ok (.goto (-21), 3) := by decide +kernel
theorem d_jdk_52_method_14_32 : decode jdk_52_method_14_code 32 = .ok (.aload_n 3, 1) := by decide +kernel
theorem d_jdk_52_method_14_33 : decode jdk_52_method_14_code 33 = .ok (.areturn, 1) := by decide +kernel
theorem d_jdk_65_method_125_0 : decode jdk_65_method_125_code 0 = .ok (.iload_n 1, 1) := by decide +kernel
theorem d_jdk_65_method_125_1 : decode jdk_65_method_125_code 1 = .ok (.aload_n 0, 1) := by decide +kernel
theorem d_jdk_65_method_125_2 : decode jdk_65_method_125_code 2 = .ok (.arraylength, 1) := by decide +kernel
theorem d_jdk_65_method_125_3 : decode jdk_65_method_125_code 3 = .ok (.if_icmp .ne 11, 3) := by decide +kernel
theorem d_jdk_65_method_125_14 : decode jdk_65_method_125_code 14 = .ok (.iload_n 1, 1) := by decide +kernel
theorem d_jdk_65_method_125_15 : decode jdk_65_method_125_code 15 = .ok (.newarray .char, 2) := by decide +kernel
theorem d_jdk_65_method_125_17 : decode jdk_65_method_125_code 17 = .ok (.astore_n 2, 1) := by decide +kernel
theorem d_jdk_65_method_125_18 : decode jdk_65_method_125_code 18 = .ok (.aload_n 0, 1) := by decide +kernel
theorem d_jdk_65_method_125_19 : decode jdk_65_method_125_code 19 = .ok (.iconst 0, 1) := by decide +kernel
theorem d_jdk_65_method_125_20 : decode jdk_65_method_125_code 20 = .ok (.aload_n 2, 1) := by decide +kernel
theorem d_jdk_65_method_125_21 : decode jdk_65_method_125_code 21 = .ok (.iconst 0, 1) := by decide +kernel
theorem d_jdk_65_method_125_22 : decode jdk_65_method_125_code 22 = .ok (.aload_n 0, 1) := by decide +kernel
theorem d_jdk_65_method_125_23 : decode jdk_65_method_125_code 23 = .ok (.arraylength, 1) := by decide +kernel
theorem d_jdk_65_method_125_24 : decode jdk_65_method_125_code 24 = .ok (.iload_n 1, 1) := by decide +kernel
theorem d_jdk_65_method_125_25 : decode jdk_65_method_125_code 25 = .ok (.invokestatic 304, 3) := by decide +kernel
theorem d_jdk_65_method_125_28 : decode jdk_65_method_125_code 28 = .ok (.invokestatic 150, 3) := by decide +kernel
theorem d_jdk_65_method_125_31 : decode jdk_65_method_125_code 31 = .ok (.aload_n 2, 1) := by decide +kernel
theorem d_jdk_65_method_125_32 : decode jdk_65_method_125_code 32 = .ok (.areturn, 1) := by decide +kernel
theorem d_jdk_41_method_13_0 : decode jdk_41_method_13_code 0 = .ok (.iload_n 2, 1) := by decide +kernel
theorem d_jdk_41_method_13_1 : decode jdk_41_method_13_code 1 = .ok (.iload_n 0, 1) := by decide +kernel
theorem d_jdk_41_method_13_2 : decode jdk_41_method_13_code 2 = .ok (.ior, 1) := by decide +kernel
theorem d_jdk_41_method_13_3 : decode jdk_41_method_13_code 3 = .ok (.iload_n 1, 1) := by decide +kernel
theorem d_jdk_41_method_13_4 : decode jdk_41_method_13_code 4 = .ok (.ior, 1) := by decide +kernel
theorem d_jdk_41_method_13_5 : decode jdk_41_method_13_code 5 = .ok (.ifCond .lt 10, 3) := by decide +kernel
theorem d_jdk_41_method_13_8 : decode jdk_41_method_13_code 8 = .ok (.iload_n 1, 1) := by decide +kernel
theorem d_jdk_41_method_13_9 : decode jdk_41_method_13_code 9 = .ok (.iload_n 2, 1) := by decide +kernel
theorem d_jdk_41_method_13_10 : decode jdk_41_method_13_code 10 = .ok (.iload_n 0, 1) := by decide +kernel
theorem d_jdk_41_method_13_11 : decode jdk_41_method_13_code 11 = .ok (.isub, 1) := by decide +kernel
theorem d_jdk_41_method_13_12 : decode jdk_41_method_13_code 12 = .ok (.if_icmp .le 11, 3) := by decide +kernel
theorem d_jdk_41_method_13_23 : decode jdk_41_method_13_code 23 = .ok (.iload_n 0, 1) := by decide +kernel
theorem d_jdk_41_method_13_24 : decode jdk_41_method_13_code 24 = .ok (.ireturn, 1) := by decide +kernel
theorem d_jdk_41_method_12_0 : decode jdk_41_method_12_code 0 = .ok (.iload_n 0, 1) := by decide +kernel
theorem d_jdk_41_method_12_1 : decode jdk_41_method_12_code 1 = .ok (.ifCond .lt 13, 3) := by decide +kernel
theorem d_jdk_41_method_12_4 : decode jdk_41_method_12_code 4 = .ok (.iload_n 0, 1) := by decide +kernel
theorem d_jdk_41_method_12_5 : decode jdk_41_method_12_code 5 = .ok (.iload_n 1, 1) := by decide +kernel
theorem d_jdk_41_method_12_6 : decode jdk_41_method_12_code 6 = .ok (.if_icmp .gt 8, 3) := by decide +kernel
theorem d_jdk_41_method_12_9 : decode jdk_41_method_12_code 9 = .ok (.iload_n 1, 1) := by decide +kernel
theorem d_jdk_41_method_12_10 : decode jdk_41_method_12_code 10 = .ok (.iload_n 2, 1) := by decide +kernel
theorem d_jdk_41_method_12_11 : decode jdk_41_method_12_code 11 = .ok (.if_icmp .le 11, 3) := by decide +kernel
theorem d_jdk_41_method_12_22 : decode jdk_41_method_12_code 22 = .ok (.iload_n 0, 1) := by decide +kernel
theorem d_jdk_41_method_12_23 : decode jdk_41_method_12_code 23 = .ok (.ireturn, 1) := by decide +kernel
theorem d_jdk_41_method_11_0 : decode jdk_41_method_11_code 0 = .ok (.iload_n 0, 1) := by decide +kernel
theorem d_jdk_41_method_11_1 : decode jdk_41_method_11_code 1 = .ok (.ifCond .lt 8, 3) := by decide +kernel
theorem d_jdk_41_method_11_4 : decode jdk_41_method_11_code 4 = .ok (.iload_n 0, 1) := by decide +kernel
theorem d_jdk_41_method_11_5 : decode jdk_41_method_11_code 5 = .ok (.iload_n 1, 1) := by decide +kernel
theorem d_jdk_41_method_11_6 : decode jdk_41_method_11_code 6 = .ok (.if_icmp .lt 10, 3) := by decide +kernel
theorem d_jdk_41_method_11_16 : decode jdk_41_method_11_code 16 = .ok (.iload_n 0, 1) := by decide +kernel
theorem d_jdk_41_method_11_17 : decode jdk_41_method_11_code 17 = .ok (.ireturn, 1) := by decide +kernel
theorem w_0 {Z : State} {a0 : Array Value} (hw : ∀ d ∈ tables_1, d.before a0 Z = true) : (Jvm.Cond.constant "com/example/beleg/beleg/JsonOutputAppendPinLaw" (7 : Nat) (65535 : Int32)).before a0 Z = true := hw _ (List.mem_of_getElem? (i := 0) rfl)
theorem w_1 {Z : State} {a0 : Array Value} (hw : ∀ d ∈ tables_1, d.before a0 Z = true) : (Jvm.Cond.arrayClass Jvm.ClassFile.FieldType.char).before a0 Z = true := hw _ (List.mem_of_getElem? (i := 1) rfl)
theorem w_2 {Z : State} {a0 : Array Value} (hw : ∀ d ∈ tables_1, d.before a0 Z = true) : (Jvm.Cond.classLink "com/example/beleg/beleg/JsonOutputAppendPinLaw" (8 : Nat) "java/lang/String").before a0 Z = true := hw _ (List.mem_of_getElem? (i := 2) rfl)
theorem w_3 {Z : State} {a0 : Array Value} (hw : ∀ d ∈ tables_1, d.before a0 Z = true) : (Jvm.Cond.instantiable "java/lang/String" (4 : Nat)).before a0 Z = true := hw _ (List.mem_of_getElem? (i := 3) rfl)
theorem w_4 {Z : State} {a0 : Array Value} (hw : ∀ d ∈ tables_1, d.before a0 Z = true) : (Jvm.Cond.initialized "java/lang/String").before a0 Z = true := hw _ (List.mem_of_getElem? (i := 4) rfl)
theorem w_5 {Z : State} {a0 : Array Value} (hw : ∀ d ∈ tables_1, d.before a0 Z = true) : (Jvm.Cond.methodLink "com/example/beleg/beleg/JsonOutputAppendPinLaw" (10 : Nat) ({ cls := "java/lang/String", name := "<init>", desc := "([C)V" } : Jvm.MethodName)).before a0 Z = true := hw _ (List.mem_of_getElem? (i := 5) rfl)
theorem w_6 {Z : State} {a0 : Array Value} (hw : ∀ d ∈ tables_1, d.before a0 Z = true) : (Jvm.Cond.instanceMethod ({ cls := "java/lang/String", name := "<init>", desc := "([C)V" } : Jvm.MethodName)).before a0 Z = true := hw _ (List.mem_of_getElem? (i := 6) rfl)
theorem w_7 {Z : State} {a0 : Array Value} (hw : ∀ d ∈ tables_1, d.before a0 Z = true) : (Jvm.Cond.code ({ cls := "java/lang/String", name := "<init>", desc := "([C)V" } : Jvm.MethodName) jdk_42_method_3_code (2 : Nat) (Option.none : Option Jvm.ClassFile.FieldType)).before a0 Z = true := hw _ (List.mem_of_getElem? (i := 7) rfl)
theorem w_8 {Z : State} {a0 : Array Value} (hw : ∀ d ∈ tables_1, d.before a0 Z = true) : (Jvm.Cond.methodLink "java/lang/String" (27 : Nat) ({ cls := "java/lang/String", name := "<init>", desc := "([CIILjava/lang/Void;)V" } : Jvm.MethodName)).before a0 Z = true := hw _ (List.mem_of_getElem? (i := 8) rfl)
theorem w_9 {Z : State} {a0 : Array Value} (hw : ∀ d ∈ tables_1, d.before a0 Z = true) : (Jvm.Cond.instanceMethod ({ cls := "java/lang/String", name := "<init>", desc := "([CIILjava/lang/Void;)V" } : Jvm.MethodName)).before a0 Z = true := hw _ (List.mem_of_getElem? (i := 9) rfl)
theorem w_11 {Z : State} {a0 : Array Value} (hw : ∀ d ∈ tables_1, d.before a0 Z = true) : (Jvm.Cond.code ({ cls := "java/lang/String", name := "<init>", desc := "([CIILjava/lang/Void;)V" } : Jvm.MethodName) jdk_42_method_149_code (6 : Nat) (Option.none : Option Jvm.ClassFile.FieldType)).before a0 Z = true := hw _ (List.mem_of_getElem? (i := 11) rfl)
theorem w_12 {Z : State} {a0 : Array Value} (hw : ∀ d ∈ tables_1, d.before a0 Z = true) : (Jvm.Cond.methodLink "java/lang/String" (1 : Nat) ({ cls := "java/lang/Object", name := "<init>", desc := "()V" } : Jvm.MethodName)).before a0 Z = true := hw _ (List.mem_of_getElem? (i := 12) rfl)
theorem w_13 {Z : State} {a0 : Array Value} (hw : ∀ d ∈ tables_1, d.before a0 Z = true) : (Jvm.Cond.instanceMethod ({ cls := "java/lang/Object", name := "<init>", desc := "()V" } : Jvm.MethodName)).before a0 Z = true := hw _ (List.mem_of_getElem? (i := 13) rfl)
theorem w_14 {Z : State} {a0 : Array Value} (hw : ∀ d ∈ tables_1, d.before a0 Z = true) : (Jvm.Cond.code ({ cls := "java/lang/Object", name := "<init>", desc := "()V" } : Jvm.MethodName) object_method_1_code (1 : Nat) (Option.none : Option Jvm.ClassFile.FieldType)).before a0 Z = true := hw _ (List.mem_of_getElem? (i := 14) rfl)
theorem w_15 {Z : State} {a0 : Array Value} (hw : ∀ d ∈ tables_1, d.before a0 Z = true) : (Jvm.Cond.fieldLink "java/lang/String" (38 : Nat) "java/lang/String" "COMPACT_STRINGS" "Z").before a0 Z = true := hw _ (List.mem_of_getElem? (i := 15) rfl)
theorem w_16 {Z : State} {a0 : Array Value} (hw : ∀ d ∈ tables_1, d.before a0 Z = true) : (Jvm.Cond.methodLink "java/lang/String" (177 : Nat) ({ cls := "java/lang/StringUTF16", name := "compress", desc := "([CII)[B" } : Jvm.MethodName)).before a0 Z = true := hw _ (List.mem_of_getElem? (i := 16) rfl)
theorem w_17 {Z : State} {a0 : Array Value} (hw : ∀ d ∈ tables_1, d.before a0 Z = true) : (Jvm.Cond.static ({ cls := "java/lang/StringUTF16", name := "compress", desc := "([CII)[B" } : Jvm.MethodName)).before a0 Z = true := hw _ (List.mem_of_getElem? (i := 17) rfl)
theorem w_18 {Z : State} {a0 : Array Value} (hw : ∀ d ∈ tables_1, d.before a0 Z = true) : (Jvm.Cond.initialized "java/lang/StringUTF16").before a0 Z = true := hw _ (List.mem_of_getElem? (i := 18) rfl)
theorem w_19 {Z : State} {a0 : Array Value} (hw : ∀ d ∈ tables_1, d.before a0 Z = true) : (Jvm.Cond.code ({ cls := "java/lang/StringUTF16", name := "compress", desc := "([CII)[B" } : Jvm.MethodName) jdk_52_method_16_code (6 : Nat) (Option.some (Jvm.ClassFile.FieldType.array Jvm.ClassFile.FieldType.byte))).before a0 Z = true := hw _ (List.mem_of_getElem? (i := 19) rfl)
theorem w_20 {Z : State} {a0 : Array Value} (hw : ∀ d ∈ tables_1, d.before a0 Z = true) : (Jvm.Cond.arrayClass Jvm.ClassFile.FieldType.byte).before a0 Z = true := hw _ (List.mem_of_getElem? (i := 20) rfl)
theorem w_21 {Z : State} {a0 : Array Value} (hw : ∀ d ∈ tables_1, d.before a0 Z = true) : (Jvm.Cond.methodLink "java/lang/StringUTF16" (115 : Nat) ({ cls := "java/lang/StringUTF16", name := "compress", desc := "([CI[BII)I" } : Jvm.MethodName)).before a0 Z = true := hw _ (List.mem_of_getElem? (i := 21) rfl)
theorem w_22 {Z : State} {a0 : Array Value} (hw : ∀ d ∈ tables_1, d.before a0 Z = true) : (Jvm.Cond.static ({ cls := "java/lang/StringUTF16", name := "compress", desc := "([CI[BII)I" } : Jvm.MethodName)).before a0 Z = true := hw _ (List.mem_of_getElem? (i := 22) rfl)
theorem w_23 {Z : State} {a0 : Array Value} (hw : ∀ d ∈ tables_1, d.before a0 Z = true) : (Jvm.Cond.code ({ cls := "java/lang/StringUTF16", name := "compress", desc := "([CI[BII)I" } : Jvm.MethodName) jdk_52_method_21_code (7 : Nat) (Option.some Jvm.ClassFile.FieldType.int)).before a0 Z = true := hw _ (List.mem_of_getElem? (i := 23) rfl)
theorem w_24 {Z : State} {a0 : Array Value} (hw : ∀ d ∈ tables_1, d.before a0 Z = true) : (Jvm.Cond.methodLink "java/lang/String" (47 : Nat) ({ cls := "java/lang/StringUTF16", name := "coderFromArrayLen", desc := "([BI)B" } : Jvm.MethodName)).before a0 Z = true := hw _ (List.mem_of_getElem? (i := 24) rfl)
theorem w_25 {Z : State} {a0 : Array Value} (hw : ∀ d ∈ tables_1, d.before a0 Z = true) : (Jvm.Cond.static ({ cls := "java/lang/StringUTF16", name := "coderFromArrayLen", desc := "([BI)B" } : Jvm.MethodName)).before a0 Z = true := hw _ (List.mem_of_getElem? (i := 25) rfl)
theorem w_26 {Z : State} {a0 : Array Value} (hw : ∀ d ∈ tables_1, d.before a0 Z = true) : (Jvm.Cond.code ({ cls := "java/lang/StringUTF16", name := "coderFromArrayLen", desc := "([BI)B" } : Jvm.MethodName) jdk_52_method_15_code (2 : Nat) (Option.some Jvm.ClassFile.FieldType.byte)).before a0 Z = true := hw _ (List.mem_of_getElem? (i := 26) rfl)
theorem w_27 {Z : State} {a0 : Array Value} (hw : ∀ d ∈ tables_1, d.before a0 Z = true) : (Jvm.Cond.fieldLink "java/lang/String" (15 : Nat) "java/lang/String" "coder" "B").before a0 Z = true := hw _ (List.mem_of_getElem? (i := 27) rfl)
theorem w_28 {Z : State} {a0 : Array Value} (hw : ∀ d ∈ tables_1, d.before a0 Z = true) : (Jvm.Cond.laysFinal "java/lang/String" "java/lang/String" "coder" "B").before a0 Z = true := hw _ (List.mem_of_getElem? (i := 28) rfl)
theorem w_29 {Z : State} {a0 : Array Value} (hw : ∀ d ∈ tables_1, d.before a0 Z = true) : (Jvm.Cond.fieldLink "java/lang/String" (9 : Nat) "java/lang/String" "value" "[B").before a0 Z = true := hw _ (List.mem_of_getElem? (i := 29) rfl)
theorem w_30 {Z : State} {a0 : Array Value} (hw : ∀ d ∈ tables_1, d.before a0 Z = true) : (Jvm.Cond.laysFinal "java/lang/String" "java/lang/String" "value" "[B").before a0 Z = true := hw _ (List.mem_of_getElem? (i := 30) rfl)
theorem w_31 {Z : State} {a0 : Array Value} (hw : ∀ d ∈ tables_1, d.before a0 Z = true) : (Jvm.Cond.classLink "com/example/beleg/beleg/JsonOutputAppendPinLaw" (13 : Nat) "com/example/beleg/beleg/JsonOutput").before a0 Z = true := hw _ (List.mem_of_getElem? (i := 31) rfl)
theorem w_32 {Z : State} {a0 : Array Value} (hw : ∀ d ∈ tables_1, d.before a0 Z = true) : (Jvm.Cond.instantiable "com/example/beleg/beleg/JsonOutput" (3 : Nat)).before a0 Z = true := hw _ (List.mem_of_getElem? (i := 32) rfl)
theorem w_33 {Z : State} {a0 : Array Value} (hw : ∀ d ∈ tables_1, d.before a0 Z = true) : (Jvm.Cond.initialized "com/example/beleg/beleg/JsonOutput").before a0 Z = true := hw _ (List.mem_of_getElem? (i := 33) rfl)
theorem w_34 {Z : State} {a0 : Array Value} (hw : ∀ d ∈ tables_1, d.before a0 Z = true) : (Jvm.Cond.methodLink "com/example/beleg/beleg/JsonOutputAppendPinLaw" (15 : Nat) ({ cls := "com/example/beleg/beleg/JsonOutput", name := "<init>", desc := "()V" } : Jvm.MethodName)).before a0 Z = true := hw _ (List.mem_of_getElem? (i := 34) rfl)
theorem w_35 {Z : State} {a0 : Array Value} (hw : ∀ d ∈ tables_1, d.before a0 Z = true) : (Jvm.Cond.instanceMethod ({ cls := "com/example/beleg/beleg/JsonOutput", name := "<init>", desc := "()V" } : Jvm.MethodName)).before a0 Z = true := hw _ (List.mem_of_getElem? (i := 35) rfl)
theorem w_36 {Z : State} {a0 : Array Value} (hw : ∀ d ∈ tables_1, d.before a0 Z = true) : (Jvm.Cond.code ({ cls := "com/example/beleg/beleg/JsonOutput", name := "<init>", desc := "()V" } : Jvm.MethodName) prog_11_method_1_code (1 : Nat) (Option.none : Option Jvm.ClassFile.FieldType)).before a0 Z = true := hw _ (List.mem_of_getElem? (i := 36) rfl)
theorem w_37 {Z : State} {a0 : Array Value} (hw : ∀ d ∈ tables_1, d.before a0 Z = true) : (Jvm.Cond.methodLink "com/example/beleg/beleg/JsonOutput" (3 : Nat) ({ cls := "com/example/beleg/beleg/JsonOutput", name := "<init>", desc := "([C)V" } : Jvm.MethodName)).before a0 Z = true := hw _ (List.mem_of_getElem? (i := 37) rfl)
theorem w_38 {Z : State} {a0 : Array Value} (hw : ∀ d ∈ tables_1, d.before a0 Z = true) : (Jvm.Cond.instanceMethod ({ cls := "com/example/beleg/beleg/JsonOutput", name := "<init>", desc := "([C)V" } : Jvm.MethodName)).before a0 Z = true := hw _ (List.mem_of_getElem? (i := 38) rfl)
theorem w_39 {Z : State} {a0 : Array Value} (hw : ∀ d ∈ tables_1, d.before a0 Z = true) : (Jvm.Cond.code ({ cls := "com/example/beleg/beleg/JsonOutput", name := "<init>", desc := "([C)V" } : Jvm.MethodName) prog_11_method_2_code (2 : Nat) (Option.none : Option Jvm.ClassFile.FieldType)).before a0 Z = true := hw _ (List.mem_of_getElem? (i := 39) rfl)
theorem w_40 {Z : State} {a0 : Array Value} (hw : ∀ d ∈ tables_1, d.before a0 Z = true) : (Jvm.Cond.methodLink "com/example/beleg/beleg/JsonOutput" (7 : Nat) ({ cls := "java/lang/Object", name := "<init>", desc := "()V" } : Jvm.MethodName)).before a0 Z = true := hw _ (List.mem_of_getElem? (i := 40) rfl)
theorem w_41 {Z : State} {a0 : Array Value} (hw : ∀ d ∈ tables_1, d.before a0 Z = true) : (Jvm.Cond.fieldLink "com/example/beleg/beleg/JsonOutput" (12 : Nat) "com/example/beleg/beleg/JsonOutput" "chars" "[C").before a0 Z = true := hw _ (List.mem_of_getElem? (i := 41) rfl)
theorem w_42 {Z : State} {a0 : Array Value} (hw : ∀ d ∈ tables_1, d.before a0 Z = true) : (Jvm.Cond.lays "com/example/beleg/beleg/JsonOutput" "com/example/beleg/beleg/JsonOutput" "chars" "[C").before a0 Z = true := hw _ (List.mem_of_getElem? (i := 42) rfl)
theorem w_43 {Z : State} {a0 : Array Value} (hw : ∀ d ∈ tables_1, d.before a0 Z = true) : (Jvm.Cond.methodLink "com/example/beleg/beleg/JsonOutputAppendPinLaw" (16 : Nat) ({ cls := "com/example/beleg/beleg/JsonOutput", name := "append", desc := "(Ljava/lang/String;II)Lcom/example/beleg/beleg/JsonOutput;" } : Jvm.MethodName)).before a0 Z = true := hw _ (List.mem_of_getElem? (i := 43) rfl)
theorem w_44 {Z : State} {a0 : Array Value} (hw : ∀ d ∈ tables_1, d.before a0 Z = true) : (Jvm.Cond.declares ({ cls := "com/example/beleg/beleg/JsonOutput", name := "append", desc := "(Ljava/lang/String;II)Lcom/example/beleg/beleg/JsonOutput;" } : Jvm.MethodName)).before a0 Z = true := hw _ (List.mem_of_getElem? (i := 44) rfl)
theorem w_45 {Z : State} {a0 : Array Value} (hw : ∀ d ∈ tables_1, d.before a0 Z = true) : (Jvm.Cond.instanceMethod ({ cls := "com/example/beleg/beleg/JsonOutput", name := "append", desc := "(Ljava/lang/String;II)Lcom/example/beleg/beleg/JsonOutput;" } : Jvm.MethodName)).before a0 Z = true := hw _ (List.mem_of_getElem? (i := 45) rfl)
theorem w_46 {Z : State} {a0 : Array Value} (hw : ∀ d ∈ tables_1, d.before a0 Z = true) : (Jvm.Cond.selects "com/example/beleg/beleg/JsonOutput" ({ cls := "com/example/beleg/beleg/JsonOutput", name := "append", desc := "(Ljava/lang/String;II)Lcom/example/beleg/beleg/JsonOutput;" } : Jvm.MethodName) ({ cls := "com/example/beleg/beleg/JsonOutput", name := "append", desc := "(Ljava/lang/String;II)Lcom/example/beleg/beleg/JsonOutput;" } : Jvm.MethodName)).before a0 Z = true := hw _ (List.mem_of_getElem? (i := 46) rfl)
theorem w_47 {Z : State} {a0 : Array Value} (hw : ∀ d ∈ tables_1, d.before a0 Z = true) : (Jvm.Cond.code ({ cls := "com/example/beleg/beleg/JsonOutput", name := "append", desc := "(Ljava/lang/String;II)Lcom/example/beleg/beleg/JsonOutput;" } : Jvm.MethodName) prog_11_method_7_code (4 : Nat) (Option.some (Jvm.ClassFile.FieldType.object "com/example/beleg/beleg/JsonOutput"))).before a0 Z = true := hw _ (List.mem_of_getElem? (i := 47) rfl)
theorem w_48 {Z : State} {a0 : Array Value} (hw : ∀ d ∈ tables_1, d.before a0 Z = true) : (Jvm.Cond.methodLink "com/example/beleg/beleg/JsonOutput" (41 : Nat) ({ cls := "com/example/beleg/beleg/JsonOutput", name := "ensureRoom", desc := "(I)V" } : Jvm.MethodName)).before a0 Z = true := hw _ (List.mem_of_getElem? (i := 48) rfl)
theorem w_49 {Z : State} {a0 : Array Value} (hw : ∀ d ∈ tables_1, d.before a0 Z = true) : (Jvm.Cond.instanceMethod ({ cls := "com/example/beleg/beleg/JsonOutput", name := "ensureRoom", desc := "(I)V" } : Jvm.MethodName)).before a0 Z = true := hw _ (List.mem_of_getElem? (i := 49) rfl)
theorem w_50 {Z : State} {a0 : Array Value} (hw : ∀ d ∈ tables_1, d.before a0 Z = true) : (Jvm.Cond.privateMethod ({ cls := "com/example/beleg/beleg/JsonOutput", name := "ensureRoom", desc := "(I)V" } : Jvm.MethodName)).before a0 Z = true := hw _ (List.mem_of_getElem? (i := 50) rfl)
theorem w_51 {Z : State} {a0 : Array Value} (hw : ∀ d ∈ tables_1, d.before a0 Z = true) : (Jvm.Cond.code ({ cls := "com/example/beleg/beleg/JsonOutput", name := "ensureRoom", desc := "(I)V" } : Jvm.MethodName) prog_11_method_14_code (4 : Nat) (Option.none : Option Jvm.ClassFile.FieldType)).before a0 Z = true := hw _ (List.mem_of_getElem? (i := 51) rfl)
theorem w_52 {Z : State} {a0 : Array Value} (hw : ∀ d ∈ tables_1, d.before a0 Z = true) : (Jvm.Cond.fieldLink "com/example/beleg/beleg/JsonOutput" (45 : Nat) "com/example/beleg/beleg/JsonOutput" "length" "I").before a0 Z = true := hw _ (List.mem_of_getElem? (i := 52) rfl)
theorem w_53 {Z : State} {a0 : Array Value} (hw : ∀ d ∈ tables_1, d.before a0 Z = true) : (Jvm.Cond.lays "com/example/beleg/beleg/JsonOutput" "com/example/beleg/beleg/JsonOutput" "length" "I").before a0 Z = true := hw _ (List.mem_of_getElem? (i := 53) rfl)
theorem w_54 {Z : State} {a0 : Array Value} (hw : ∀ d ∈ tables_1, d.before a0 Z = true) : (Jvm.Cond.methodLink "com/example/beleg/beleg/JsonOutput" (58 : Nat) ({ cls := "java/lang/String", name := "getChars", desc := "(II[CI)V" } : Jvm.MethodName)).before a0 Z = true := hw _ (List.mem_of_getElem? (i := 54) rfl)
theorem w_55 {Z : State} {a0 : Array Value} (hw : ∀ d ∈ tables_1, d.before a0 Z = true) : (Jvm.Cond.declares ({ cls := "java/lang/String", name := "getChars", desc := "(II[CI)V" } : Jvm.MethodName)).before a0 Z = true := hw _ (List.mem_of_getElem? (i := 55) rfl)
theorem w_56 {Z : State} {a0 : Array Value} (hw : ∀ d ∈ tables_1, d.before a0 Z = true) : (Jvm.Cond.instanceMethod ({ cls := "java/lang/String", name := "getChars", desc := "(II[CI)V" } : Jvm.MethodName)).before a0 Z = true := hw _ (List.mem_of_getElem? (i := 56) rfl)
theorem w_57 {Z : State} {a0 : Array Value} (hw : ∀ d ∈ tables_1, d.before a0 Z = true) : (Jvm.Cond.selects "java/lang/String" ({ cls := "java/lang/String", name := "getChars", desc := "(II[CI)V" } : Jvm.MethodName) ({ cls := "java/lang/String", name := "getChars", desc := "(II[CI)V" } : Jvm.MethodName)).before a0 Z = true := hw _ (List.mem_of_getElem? (i := 57) rfl)
theorem w_58 {Z : State} {a0 : Array Value} (hw : ∀ d ∈ tables_1, d.before a0 Z = true) : (Jvm.Cond.code ({ cls := "java/lang/String", name := "getChars", desc := "(II[CI)V" } : Jvm.MethodName) jdk_42_method_61_code (5 : Nat) (Option.none : Option Jvm.ClassFile.FieldType)).before a0 Z = true := hw _ (List.mem_of_getElem? (i := 58) rfl)
theorem w_59 {Z : State} {a0 : Array Value} (hw : ∀ d ∈ tables_1, d.before a0 Z = true) : (Jvm.Cond.methodLink "java/lang/String" (505 : Nat) ({ cls := "java/lang/String", name := "length", desc := "()I" } : Jvm.MethodName)).before a0 Z = true := hw _ (List.mem_of_getElem? (i := 59) rfl)
theorem w_60 {Z : State} {a0 : Array Value} (hw : ∀ d ∈ tables_1, d.before a0 Z = true) : (Jvm.Cond.declares ({ cls := "java/lang/String", name := "length", desc := "()I" } : Jvm.MethodName)).before a0 Z = true := hw _ (List.mem_of_getElem? (i := 60) rfl)
theorem w_61 {Z : State} {a0 : Array Value} (hw : ∀ d ∈ tables_1, d.before a0 Z = true) : (Jvm.Cond.instanceMethod ({ cls := "java/lang/String", name := "length", desc := "()I" } : Jvm.MethodName)).before a0 Z = true := hw _ (List.mem_of_getElem? (i := 61) rfl)
theorem w_62 {Z : State} {a0 : Array Value} (hw : ∀ d ∈ tables_1, d.before a0 Z = true) : (Jvm.Cond.selects "java/lang/String" ({ cls := "java/lang/String", name := "length", desc := "()I" } : Jvm.MethodName) ({ cls := "java/lang/String", name := "length", desc := "()I" } : Jvm.MethodName)).before a0 Z = true := hw _ (List.mem_of_getElem? (i := 62) rfl)
theorem w_63 {Z : State} {a0 : Array Value} (hw : ∀ d ∈ tables_1, d.before a0 Z = true) : (Jvm.Cond.code ({ cls := "java/lang/String", name := "length", desc := "()I" } : Jvm.MethodName) jdk_42_method_54_code (1 : Nat) (Option.some Jvm.ClassFile.FieldType.int)).before a0 Z = true := hw _ (List.mem_of_getElem? (i := 63) rfl)
theorem w_64 {Z : State} {a0 : Array Value} (hw : ∀ d ∈ tables_1, d.before a0 Z = true) : (Jvm.Cond.methodLink "java/lang/String" (335 : Nat) ({ cls := "java/lang/String", name := "coder", desc := "()B" } : Jvm.MethodName)).before a0 Z = true := hw _ (List.mem_of_getElem? (i := 64) rfl)
theorem w_65 {Z : State} {a0 : Array Value} (hw : ∀ d ∈ tables_1, d.before a0 Z = true) : (Jvm.Cond.declares ({ cls := "java/lang/String", name := "coder", desc := "()B" } : Jvm.MethodName)).before a0 Z = true := hw _ (List.mem_of_getElem? (i := 65) rfl)
theorem w_66 {Z : State} {a0 : Array Value} (hw : ∀ d ∈ tables_1, d.before a0 Z = true) : (Jvm.Cond.instanceMethod ({ cls := "java/lang/String", name := "coder", desc := "()B" } : Jvm.MethodName)).before a0 Z = true := hw _ (List.mem_of_getElem? (i := 66) rfl)
theorem w_67 {Z : State} {a0 : Array Value} (hw : ∀ d ∈ tables_1, d.before a0 Z = true) : (Jvm.Cond.selects "java/lang/String" ({ cls := "java/lang/String", name := "coder", desc := "()B" } : Jvm.MethodName) ({ cls := "java/lang/String", name := "coder", desc := "()B" } : Jvm.MethodName)).before a0 Z = true := hw _ (List.mem_of_getElem? (i := 67) rfl)
theorem w_68 {Z : State} {a0 : Array Value} (hw : ∀ d ∈ tables_1, d.before a0 Z = true) : (Jvm.Cond.code ({ cls := "java/lang/String", name := "coder", desc := "()B" } : Jvm.MethodName) jdk_42_method_152_code (1 : Nat) (Option.some Jvm.ClassFile.FieldType.byte)).before a0 Z = true := hw _ (List.mem_of_getElem? (i := 68) rfl)
theorem w_69 {Z : State} {a0 : Array Value} (hw : ∀ d ∈ tables_1, d.before a0 Z = true) : (Jvm.Cond.methodLink "java/lang/String" (521 : Nat) ({ cls := "java/lang/String", name := "checkBoundsBeginEnd", desc := "(III)V" } : Jvm.MethodName)).before a0 Z = true := hw _ (List.mem_of_getElem? (i := 69) rfl)
theorem w_70 {Z : State} {a0 : Array Value} (hw : ∀ d ∈ tables_1, d.before a0 Z = true) : (Jvm.Cond.static ({ cls := "java/lang/String", name := "checkBoundsBeginEnd", desc := "(III)V" } : Jvm.MethodName)).before a0 Z = true := hw _ (List.mem_of_getElem? (i := 70) rfl)
theorem w_71 {Z : State} {a0 : Array Value} (hw : ∀ d ∈ tables_1, d.before a0 Z = true) : (Jvm.Cond.code ({ cls := "java/lang/String", name := "checkBoundsBeginEnd", desc := "(III)V" } : Jvm.MethodName) jdk_42_method_158_code (3 : Nat) (Option.none : Option Jvm.ClassFile.FieldType)).before a0 Z = true := hw _ (List.mem_of_getElem? (i := 71) rfl)
theorem w_72 {Z : State} {a0 : Array Value} (hw : ∀ d ∈ tables_1, d.before a0 Z = true) : (Jvm.Cond.fieldLink "java/lang/String" (1053 : Nat) "jdk/internal/util/Preconditions" "SIOOBE_FORMATTER" "Ljava/util/function/BiFunction;").before a0 Z = true := hw _ (List.mem_of_getElem? (i := 72) rfl)
theorem w_73 {Z : State} {a0 : Array Value} (hw : ∀ d ∈ tables_1, d.before a0 Z = true) : (Jvm.Cond.initialized "jdk/internal/util/Preconditions").before a0 Z = true := hw _ (List.mem_of_getElem? (i := 73) rfl)
theorem w_74 {Z : State} {a0 : Array Value} (hw : ∀ d ∈ tables_1, d.before a0 Z = true) : (Jvm.Cond.methodLink "java/lang/String" (1062 : Nat) ({ cls := "jdk/internal/util/Preconditions", name := "checkFromToIndex", desc := "(IIILjava/util/function/BiFunction;)I" } : Jvm.MethodName)).before a0 Z = true := hw _ (List.mem_of_getElem? (i := 74) rfl)
theorem w_75 {Z : State} {a0 : Array Value} (hw : ∀ d ∈ tables_1, d.before a0 Z = true) : (Jvm.Cond.static ({ cls := "jdk/internal/util/Preconditions", name := "checkFromToIndex", desc := "(IIILjava/util/function/BiFunction;)I" } : Jvm.MethodName)).before a0 Z = true := hw _ (List.mem_of_getElem? (i := 75) rfl)
theorem w_76 {Z : State} {a0 : Array Value} (hw : ∀ d ∈ tables_1, d.before a0 Z = true) : (Jvm.Cond.code ({ cls := "jdk/internal/util/Preconditions", name := "checkFromToIndex", desc := "(IIILjava/util/function/BiFunction;)I" } : Jvm.MethodName) jdk_41_method_12_code (4 : Nat) (Option.some Jvm.ClassFile.FieldType.int)).before a0 Z = true := hw _ (List.mem_of_getElem? (i := 76) rfl)
theorem w_77 {Z : State} {a0 : Array Value} (hw : ∀ d ∈ tables_1, d.before a0 Z = true) : (Jvm.Cond.methodLink "java/lang/String" (34 : Nat) ({ cls := "java/lang/String", name := "checkBoundsOffCount", desc := "(III)I" } : Jvm.MethodName)).before a0 Z = true := hw _ (List.mem_of_getElem? (i := 77) rfl)
theorem w_78 {Z : State} {a0 : Array Value} (hw : ∀ d ∈ tables_1, d.before a0 Z = true) : (Jvm.Cond.static ({ cls := "java/lang/String", name := "checkBoundsOffCount", desc := "(III)I" } : Jvm.MethodName)).before a0 Z = true := hw _ (List.mem_of_getElem? (i := 78) rfl)
theorem w_79 {Z : State} {a0 : Array Value} (hw : ∀ d ∈ tables_1, d.before a0 Z = true) : (Jvm.Cond.code ({ cls := "java/lang/String", name := "checkBoundsOffCount", desc := "(III)I" } : Jvm.MethodName) jdk_42_method_157_code (3 : Nat) (Option.some Jvm.ClassFile.FieldType.int)).before a0 Z = true := hw _ (List.mem_of_getElem? (i := 79) rfl)
theorem w_80 {Z : State} {a0 : Array Value} (hw : ∀ d ∈ tables_1, d.before a0 Z = true) : (Jvm.Cond.methodLink "java/lang/String" (1065 : Nat) ({ cls := "jdk/internal/util/Preconditions", name := "checkFromIndexSize", desc := "(IIILjava/util/function/BiFunction;)I" } : Jvm.MethodName)).before a0 Z = true := hw _ (List.mem_of_getElem? (i := 80) rfl)
theorem w_81 {Z : State} {a0 : Array Value} (hw : ∀ d ∈ tables_1, d.before a0 Z = true) : (Jvm.Cond.static ({ cls := "jdk/internal/util/Preconditions", name := "checkFromIndexSize", desc := "(IIILjava/util/function/BiFunction;)I" } : Jvm.MethodName)).before a0 Z = true := hw _ (List.mem_of_getElem? (i := 81) rfl)
theorem w_82 {Z : State} {a0 : Array Value} (hw : ∀ d ∈ tables_1, d.before a0 Z = true) : (Jvm.Cond.code ({ cls := "jdk/internal/util/Preconditions", name := "checkFromIndexSize", desc := "(IIILjava/util/function/BiFunction;)I" } : Jvm.MethodName) jdk_41_method_13_code (4 : Nat) (Option.some Jvm.ClassFile.FieldType.int)).before a0 Z = true := hw _ (List.mem_of_getElem? (i := 82) rfl)
theorem w_83 {Z : State} {a0 : Array Value} (hw : ∀ d ∈ tables_1, d.before a0 Z = true) : (Jvm.Cond.methodLink "java/lang/String" (492 : Nat) ({ cls := "java/lang/String", name := "isLatin1", desc := "()Z" } : Jvm.MethodName)).before a0 Z = true := hw _ (List.mem_of_getElem? (i := 83) rfl)
theorem w_84 {Z : State} {a0 : Array Value} (hw : ∀ d ∈ tables_1, d.before a0 Z = true) : (Jvm.Cond.declares ({ cls := "java/lang/String", name := "isLatin1", desc := "()Z" } : Jvm.MethodName)).before a0 Z = true := hw _ (List.mem_of_getElem? (i := 84) rfl)
theorem w_85 {Z : State} {a0 : Array Value} (hw : ∀ d ∈ tables_1, d.before a0 Z = true) : (Jvm.Cond.instanceMethod ({ cls := "java/lang/String", name := "isLatin1", desc := "()Z" } : Jvm.MethodName)).before a0 Z = true := hw _ (List.mem_of_getElem? (i := 85) rfl)
theorem w_86 {Z : State} {a0 : Array Value} (hw : ∀ d ∈ tables_1, d.before a0 Z = true) : (Jvm.Cond.selects "java/lang/String" ({ cls := "java/lang/String", name := "isLatin1", desc := "()Z" } : Jvm.MethodName) ({ cls := "java/lang/String", name := "isLatin1", desc := "()Z" } : Jvm.MethodName)).before a0 Z = true := hw _ (List.mem_of_getElem? (i := 86) rfl)
theorem w_87 {Z : State} {a0 : Array Value} (hw : ∀ d ∈ tables_1, d.before a0 Z = true) : (Jvm.Cond.code ({ cls := "java/lang/String", name := "isLatin1", desc := "()Z" } : Jvm.MethodName) jdk_42_method_154_code (1 : Nat) (Option.some Jvm.ClassFile.FieldType.boolean)).before a0 Z = true := hw _ (List.mem_of_getElem? (i := 87) rfl)
theorem w_88 {Z : State} {a0 : Array Value} (hw : ∀ d ∈ tables_1, d.before a0 Z = true) : (Jvm.Cond.methodLink "java/lang/String" (525 : Nat) ({ cls := "java/lang/StringLatin1", name := "getChars", desc := "([BII[CI)V" } : Jvm.MethodName)).before a0 Z = true := hw _ (List.mem_of_getElem? (i := 88) rfl)
theorem w_89 {Z : State} {a0 : Array Value} (hw : ∀ d ∈ tables_1, d.before a0 Z = true) : (Jvm.Cond.static ({ cls := "java/lang/StringLatin1", name := "getChars", desc := "([BII[CI)V" } : Jvm.MethodName)).before a0 Z = true := hw _ (List.mem_of_getElem? (i := 89) rfl)
theorem w_90 {Z : State} {a0 : Array Value} (hw : ∀ d ∈ tables_1, d.before a0 Z = true) : (Jvm.Cond.initialized "java/lang/StringLatin1").before a0 Z = true := hw _ (List.mem_of_getElem? (i := 90) rfl)
theorem w_91 {Z : State} {a0 : Array Value} (hw : ∀ d ∈ tables_1, d.before a0 Z = true) : (Jvm.Cond.code ({ cls := "java/lang/StringLatin1", name := "getChars", desc := "([BII[CI)V" } : Jvm.MethodName) jdk_43_method_11_code (5 : Nat) (Option.none : Option Jvm.ClassFile.FieldType)).before a0 Z = true := hw _ (List.mem_of_getElem? (i := 91) rfl)
theorem w_92 {Z : State} {a0 : Array Value} (hw : ∀ d ∈ tables_1, d.before a0 Z = true) : (Jvm.Cond.methodLink "java/lang/StringLatin1" (13 : Nat) ({ cls := "java/lang/StringLatin1", name := "inflate", desc := "([BI[CII)V" } : Jvm.MethodName)).before a0 Z = true := hw _ (List.mem_of_getElem? (i := 92) rfl)
theorem w_93 {Z : State} {a0 : Array Value} (hw : ∀ d ∈ tables_1, d.before a0 Z = true) : (Jvm.Cond.static ({ cls := "java/lang/StringLatin1", name := "inflate", desc := "([BI[CII)V" } : Jvm.MethodName)).before a0 Z = true := hw _ (List.mem_of_getElem? (i := 93) rfl)
theorem w_94 {Z : State} {a0 : Array Value} (hw : ∀ d ∈ tables_1, d.before a0 Z = true) : (Jvm.Cond.code ({ cls := "java/lang/StringLatin1", name := "inflate", desc := "([BI[CII)V" } : Jvm.MethodName) jdk_43_method_49_code (6 : Nat) (Option.none : Option Jvm.ClassFile.FieldType)).before a0 Z = true := hw _ (List.mem_of_getElem? (i := 94) rfl)
theorem w_95 {Z : State} {a0 : Array Value} (hw : ∀ d ∈ tables_1, d.before a0 Z = true) : (Jvm.Cond.methodLink "com/example/beleg/beleg/JsonOutputAppendPinLaw" (20 : Nat) ({ cls := "com/example/beleg/beleg/JsonOutput", name := "append", desc := "(C)Lcom/example/beleg/beleg/JsonOutput;" } : Jvm.MethodName)).before a0 Z = true := hw _ (List.mem_of_getElem? (i := 95) rfl)
theorem w_96 {Z : State} {a0 : Array Value} (hw : ∀ d ∈ tables_1, d.before a0 Z = true) : (Jvm.Cond.declares ({ cls := "com/example/beleg/beleg/JsonOutput", name := "append", desc := "(C)Lcom/example/beleg/beleg/JsonOutput;" } : Jvm.MethodName)).before a0 Z = true := hw _ (List.mem_of_getElem? (i := 96) rfl)
theorem w_97 {Z : State} {a0 : Array Value} (hw : ∀ d ∈ tables_1, d.before a0 Z = true) : (Jvm.Cond.instanceMethod ({ cls := "com/example/beleg/beleg/JsonOutput", name := "append", desc := "(C)Lcom/example/beleg/beleg/JsonOutput;" } : Jvm.MethodName)).before a0 Z = true := hw _ (List.mem_of_getElem? (i := 97) rfl)
theorem w_98 {Z : State} {a0 : Array Value} (hw : ∀ d ∈ tables_1, d.before a0 Z = true) : (Jvm.Cond.selects "com/example/beleg/beleg/JsonOutput" ({ cls := "com/example/beleg/beleg/JsonOutput", name := "append", desc := "(C)Lcom/example/beleg/beleg/JsonOutput;" } : Jvm.MethodName) ({ cls := "com/example/beleg/beleg/JsonOutput", name := "append", desc := "(C)Lcom/example/beleg/beleg/JsonOutput;" } : Jvm.MethodName)).before a0 Z = true := hw _ (List.mem_of_getElem? (i := 98) rfl)
theorem w_99 {Z : State} {a0 : Array Value} (hw : ∀ d ∈ tables_1, d.before a0 Z = true) : (Jvm.Cond.code ({ cls := "com/example/beleg/beleg/JsonOutput", name := "append", desc := "(C)Lcom/example/beleg/beleg/JsonOutput;" } : Jvm.MethodName) prog_11_method_5_code (2 : Nat) (Option.some (Jvm.ClassFile.FieldType.object "com/example/beleg/beleg/JsonOutput"))).before a0 Z = true := hw _ (List.mem_of_getElem? (i := 99) rfl)
theorem w_100 {Z : State} {a0 : Array Value} (hw : ∀ d ∈ tables_1, d.before a0 Z = true) : (Jvm.Cond.methodLink "com/example/beleg/beleg/JsonOutputAppendPinLaw" (23 : Nat) ({ cls := "com/example/beleg/beleg/JsonOutput", name := "length", desc := "()I" } : Jvm.MethodName)).before a0 Z = true := hw _ (List.mem_of_getElem? (i := 100) rfl)
theorem w_101 {Z : State} {a0 : Array Value} (hw : ∀ d ∈ tables_1, d.before a0 Z = true) : (Jvm.Cond.declares ({ cls := "com/example/beleg/beleg/JsonOutput", name := "length", desc := "()I" } : Jvm.MethodName)).before a0 Z = true := hw _ (List.mem_of_getElem? (i := 101) rfl)
theorem w_102 {Z : State} {a0 : Array Value} (hw : ∀ d ∈ tables_1, d.before a0 Z = true) : (Jvm.Cond.instanceMethod ({ cls := "com/example/beleg/beleg/JsonOutput", name := "length", desc := "()I" } : Jvm.MethodName)).before a0 Z = true := hw _ (List.mem_of_getElem? (i := 102) rfl)
theorem w_103 {Z : State} {a0 : Array Value} (hw : ∀ d ∈ tables_1, d.before a0 Z = true) : (Jvm.Cond.selects "com/example/beleg/beleg/JsonOutput" ({ cls := "com/example/beleg/beleg/JsonOutput", name := "length", desc := "()I" } : Jvm.MethodName) ({ cls := "com/example/beleg/beleg/JsonOutput", name := "length", desc := "()I" } : Jvm.MethodName)).before a0 Z = true := hw _ (List.mem_of_getElem? (i := 103) rfl)
theorem w_104 {Z : State} {a0 : Array Value} (hw : ∀ d ∈ tables_1, d.before a0 Z = true) : (Jvm.Cond.code ({ cls := "com/example/beleg/beleg/JsonOutput", name := "length", desc := "()I" } : Jvm.MethodName) prog_11_method_9_code (1 : Nat) (Option.some Jvm.ClassFile.FieldType.int)).before a0 Z = true := hw _ (List.mem_of_getElem? (i := 104) rfl)
theorem w_105 {Z : State} {a0 : Array Value} (hw : ∀ d ∈ tables_1, d.before a0 Z = true) : (Jvm.Cond.methodLink "com/example/beleg/beleg/JsonOutputAppendPinLaw" (27 : Nat) ({ cls := "com/example/beleg/beleg/JsonOutput", name := "toString", desc := "()Ljava/lang/String;" } : Jvm.MethodName)).before a0 Z = true := hw _ (List.mem_of_getElem? (i := 105) rfl)
theorem w_106 {Z : State} {a0 : Array Value} (hw : ∀ d ∈ tables_1, d.before a0 Z = true) : (Jvm.Cond.declares ({ cls := "com/example/beleg/beleg/JsonOutput", name := "toString", desc := "()Ljava/lang/String;" } : Jvm.MethodName)).before a0 Z = true := hw _ (List.mem_of_getElem? (i := 106) rfl)
theorem w_107 {Z : State} {a0 : Array Value} (hw : ∀ d ∈ tables_1, d.before a0 Z = true) : (Jvm.Cond.instanceMethod ({ cls := "com/example/beleg/beleg/JsonOutput", name := "toString", desc := "()Ljava/lang/String;" } : Jvm.MethodName)).before a0 Z = true := hw _ (List.mem_of_getElem? (i := 107) rfl)
theorem w_108 {Z : State} {a0 : Array Value} (hw : ∀ d ∈ tables_1, d.before a0 Z = true) : (Jvm.Cond.selects "com/example/beleg/beleg/JsonOutput" ({ cls := "com/example/beleg/beleg/JsonOutput", name := "toString", desc := "()Ljava/lang/String;" } : Jvm.MethodName) ({ cls := "com/example/beleg/beleg/JsonOutput", name := "toString", desc := "()Ljava/lang/String;" } : Jvm.MethodName)).before a0 Z = true := hw _ (List.mem_of_getElem? (i := 108) rfl)
theorem w_109 {Z : State} {a0 : Array Value} (hw : ∀ d ∈ tables_1, d.before a0 Z = true) : (Jvm.Cond.code ({ cls := "com/example/beleg/beleg/JsonOutput", name := "toString", desc := "()Ljava/lang/String;" } : Jvm.MethodName) prog_11_method_13_code (1 : Nat) (Option.some (Jvm.ClassFile.FieldType.object "java/lang/String"))).before a0 Z = true := hw _ (List.mem_of_getElem? (i := 109) rfl)
theorem w_110 {Z : State} {a0 : Array Value} (hw : ∀ d ∈ tables_1, d.before a0 Z = true) : (Jvm.Cond.classLink "com/example/beleg/beleg/JsonOutput" (50 : Nat) "java/lang/String").before a0 Z = true := hw _ (List.mem_of_getElem? (i := 110) rfl)
theorem w_111 {Z : State} {a0 : Array Value} (hw : ∀ d ∈ tables_1, d.before a0 Z = true) : (Jvm.Cond.methodLink "com/example/beleg/beleg/JsonOutput" (80 : Nat) ({ cls := "java/lang/String", name := "<init>", desc := "([CII)V" } : Jvm.MethodName)).before a0 Z = true := hw _ (List.mem_of_getElem? (i := 111) rfl)
theorem w_112 {Z : State} {a0 : Array Value} (hw : ∀ d ∈ tables_1, d.before a0 Z = true) : (Jvm.Cond.instanceMethod ({ cls := "java/lang/String", name := "<init>", desc := "([CII)V" } : Jvm.MethodName)).before a0 Z = true := hw _ (List.mem_of_getElem? (i := 112) rfl)
theorem w_113 {Z : State} {a0 : Array Value} (hw : ∀ d ∈ tables_1, d.before a0 Z = true) : (Jvm.Cond.code ({ cls := "java/lang/String", name := "<init>", desc := "([CII)V" } : Jvm.MethodName) jdk_42_method_4_code (4 : Nat) (Option.none : Option Jvm.ClassFile.FieldType)).before a0 Z = true := hw _ (List.mem_of_getElem? (i := 113) rfl)
theorem w_114 {Z : State} {a0 : Array Value} (hw : ∀ d ∈ tables_1, d.before a0 Z = true) : (Jvm.Cond.methodLink "java/lang/String" (30 : Nat) ({ cls := "java/lang/String", name := "rangeCheck", desc := "([CII)Ljava/lang/Void;" } : Jvm.MethodName)).before a0 Z = true := hw _ (List.mem_of_getElem? (i := 114) rfl)
theorem w_115 {Z : State} {a0 : Array Value} (hw : ∀ d ∈ tables_1, d.before a0 Z = true) : (Jvm.Cond.static ({ cls := "java/lang/String", name := "rangeCheck", desc := "([CII)Ljava/lang/Void;" } : Jvm.MethodName)).before a0 Z = true := hw _ (List.mem_of_getElem? (i := 115) rfl)
theorem w_116 {Z : State} {a0 : Array Value} (hw : ∀ d ∈ tables_1, d.before a0 Z = true) : (Jvm.Cond.code ({ cls := "java/lang/String", name := "rangeCheck", desc := "([CII)Ljava/lang/Void;" } : Jvm.MethodName) jdk_42_method_5_code (3 : Nat) (Option.some (Jvm.ClassFile.FieldType.object "java/lang/Void"))).before a0 Z = true := hw _ (List.mem_of_getElem? (i := 116) rfl)
theorem w_117 {Z : State} {a0 : Array Value} (hw : ∀ d ∈ tables_1, d.before a0 Z = true) : (Jvm.Cond.methodLink "com/example/beleg/beleg/JsonOutputAppendPinLaw" (31 : Nat) ({ cls := "java/lang/String", name := "length", desc := "()I" } : Jvm.MethodName)).before a0 Z = true := hw _ (List.mem_of_getElem? (i := 117) rfl)
theorem w_118 {Z : State} {a0 : Array Value} (hw : ∀ d ∈ tables_1, d.before a0 Z = true) : (Jvm.Cond.methodLink "com/example/beleg/beleg/JsonOutputAppendPinLaw" (32 : Nat) ({ cls := "java/lang/String", name := "charAt", desc := "(I)C" } : Jvm.MethodName)).before a0 Z = true := hw _ (List.mem_of_getElem? (i := 118) rfl)
theorem w_119 {Z : State} {a0 : Array Value} (hw : ∀ d ∈ tables_1, d.before a0 Z = true) : (Jvm.Cond.declares ({ cls := "java/lang/String", name := "charAt", desc := "(I)C" } : Jvm.MethodName)).before a0 Z = true := hw _ (List.mem_of_getElem? (i := 119) rfl)
theorem w_120 {Z : State} {a0 : Array Value} (hw : ∀ d ∈ tables_1, d.before a0 Z = true) : (Jvm.Cond.instanceMethod ({ cls := "java/lang/String", name := "charAt", desc := "(I)C" } : Jvm.MethodName)).before a0 Z = true := hw _ (List.mem_of_getElem? (i := 120) rfl)
theorem w_121 {Z : State} {a0 : Array Value} (hw : ∀ d ∈ tables_1, d.before a0 Z = true) : (Jvm.Cond.selects "java/lang/String" ({ cls := "java/lang/String", name := "charAt", desc := "(I)C" } : Jvm.MethodName) ({ cls := "java/lang/String", name := "charAt", desc := "(I)C" } : Jvm.MethodName)).before a0 Z = true := hw _ (List.mem_of_getElem? (i := 121) rfl)
theorem w_122 {Z : State} {a0 : Array Value} (hw : ∀ d ∈ tables_1, d.before a0 Z = true) : (Jvm.Cond.code ({ cls := "java/lang/String", name := "charAt", desc := "(I)C" } : Jvm.MethodName) jdk_42_method_56_code (2 : Nat) (Option.some Jvm.ClassFile.FieldType.char)).before a0 Z = true := hw _ (List.mem_of_getElem? (i := 122) rfl)
theorem w_123 {Z : State} {a0 : Array Value} (hw : ∀ d ∈ tables_1, d.before a0 Z = true) : (Jvm.Cond.methodLink "java/lang/String" (495 : Nat) ({ cls := "java/lang/StringLatin1", name := "charAt", desc := "([BI)C" } : Jvm.MethodName)).before a0 Z = true := hw _ (List.mem_of_getElem? (i := 123) rfl)
theorem w_124 {Z : State} {a0 : Array Value} (hw : ∀ d ∈ tables_1, d.before a0 Z = true) : (Jvm.Cond.static ({ cls := "java/lang/StringLatin1", name := "charAt", desc := "([BI)C" } : Jvm.MethodName)).before a0 Z = true := hw _ (List.mem_of_getElem? (i := 124) rfl)
theorem w_125 {Z : State} {a0 : Array Value} (hw : ∀ d ∈ tables_1, d.before a0 Z = true) : (Jvm.Cond.code ({ cls := "java/lang/StringLatin1", name := "charAt", desc := "([BI)C" } : Jvm.MethodName) jdk_43_method_2_code (2 : Nat) (Option.some Jvm.ClassFile.FieldType.char)).before a0 Z = true := hw _ (List.mem_of_getElem? (i := 125) rfl)
theorem w_126 {Z : State} {a0 : Array Value} (hw : ∀ d ∈ tables_1, d.before a0 Z = true) : (Jvm.Cond.methodLink "java/lang/StringLatin1" (9 : Nat) ({ cls := "java/lang/String", name := "checkIndex", desc := "(II)V" } : Jvm.MethodName)).before a0 Z = true := hw _ (List.mem_of_getElem? (i := 126) rfl)
theorem w_127 {Z : State} {a0 : Array Value} (hw : ∀ d ∈ tables_1, d.before a0 Z = true) : (Jvm.Cond.static ({ cls := "java/lang/String", name := "checkIndex", desc := "(II)V" } : Jvm.MethodName)).before a0 Z = true := hw _ (List.mem_of_getElem? (i := 127) rfl)
theorem w_128 {Z : State} {a0 : Array Value} (hw : ∀ d ∈ tables_1, d.before a0 Z = true) : (Jvm.Cond.code ({ cls := "java/lang/String", name := "checkIndex", desc := "(II)V" } : Jvm.MethodName) jdk_42_method_155_code (2 : Nat) (Option.none : Option Jvm.ClassFile.FieldType)).before a0 Z = true := hw _ (List.mem_of_getElem? (i := 128) rfl)
theorem w_129 {Z : State} {a0 : Array Value} (hw : ∀ d ∈ tables_1, d.before a0 Z = true) : (Jvm.Cond.methodLink "java/lang/String" (1059 : Nat) ({ cls := "jdk/internal/util/Preconditions", name := "checkIndex", desc := "(IILjava/util/function/BiFunction;)I" } : Jvm.MethodName)).before a0 Z = true := hw _ (List.mem_of_getElem? (i := 129) rfl)
theorem w_130 {Z : State} {a0 : Array Value} (hw : ∀ d ∈ tables_1, d.before a0 Z = true) : (Jvm.Cond.static ({ cls := "jdk/internal/util/Preconditions", name := "checkIndex", desc := "(IILjava/util/function/BiFunction;)I" } : Jvm.MethodName)).before a0 Z = true := hw _ (List.mem_of_getElem? (i := 130) rfl)
theorem w_131 {Z : State} {a0 : Array Value} (hw : ∀ d ∈ tables_1, d.before a0 Z = true) : (Jvm.Cond.code ({ cls := "jdk/internal/util/Preconditions", name := "checkIndex", desc := "(IILjava/util/function/BiFunction;)I" } : Jvm.MethodName) jdk_41_method_11_code (3 : Nat) (Option.some Jvm.ClassFile.FieldType.int)).before a0 Z = true := hw _ (List.mem_of_getElem? (i := 131) rfl)
theorem w_132 {Z : State} {a0 : Array Value} (hw : ∀ d ∈ tables_1, d.before a0 Z = true) : (Jvm.Cond.methodLink "java/lang/StringUTF16" (119 : Nat) ({ cls := "java/lang/StringUTF16", name := "toBytes", desc := "([CII)[B" } : Jvm.MethodName)).before a0 Z = true := hw _ (List.mem_of_getElem? (i := 132) rfl)
theorem w_133 {Z : State} {a0 : Array Value} (hw : ∀ d ∈ tables_1, d.before a0 Z = true) : (Jvm.Cond.static ({ cls := "java/lang/StringUTF16", name := "toBytes", desc := "([CII)[B" } : Jvm.MethodName)).before a0 Z = true := hw _ (List.mem_of_getElem? (i := 133) rfl)
theorem w_134 {Z : State} {a0 : Array Value} (hw : ∀ d ∈ tables_1, d.before a0 Z = true) : (Jvm.Cond.code ({ cls := "java/lang/StringUTF16", name := "toBytes", desc := "([CII)[B" } : Jvm.MethodName) jdk_52_method_14_code (5 : Nat) (Option.some (Jvm.ClassFile.FieldType.array Jvm.ClassFile.FieldType.byte))).before a0 Z = true := hw _ (List.mem_of_getElem? (i := 134) rfl)
theorem w_135 {Z : State} {a0 : Array Value} (hw : ∀ d ∈ tables_1, d.before a0 Z = true) : (Jvm.Cond.methodLink "java/lang/StringUTF16" (107 : Nat) ({ cls := "java/lang/StringUTF16", name := "newBytesFor", desc := "(I)[B" } : Jvm.MethodName)).before a0 Z = true := hw _ (List.mem_of_getElem? (i := 135) rfl)
theorem w_136 {Z : State} {a0 : Array Value} (hw : ∀ d ∈ tables_1, d.before a0 Z = true) : (Jvm.Cond.static ({ cls := "java/lang/StringUTF16", name := "newBytesFor", desc := "(I)[B" } : Jvm.MethodName)).before a0 Z = true := hw _ (List.mem_of_getElem? (i := 136) rfl)
theorem w_137 {Z : State} {a0 : Array Value} (hw : ∀ d ∈ tables_1, d.before a0 Z = true) : (Jvm.Cond.code ({ cls := "java/lang/StringUTF16", name := "newBytesFor", desc := "(I)[B" } : Jvm.MethodName) jdk_52_method_2_code (1 : Nat) (Option.some (Jvm.ClassFile.FieldType.array Jvm.ClassFile.FieldType.byte))).before a0 Z = true := hw _ (List.mem_of_getElem? (i := 137) rfl)
theorem w_138 {Z : State} {a0 : Array Value} (hw : ∀ d ∈ tables_1, d.before a0 Z = true) : (Jvm.Cond.methodLink "java/lang/StringUTF16" (11 : Nat) ({ cls := "java/lang/StringUTF16", name := "newBytesLength", desc := "(I)I" } : Jvm.MethodName)).before a0 Z = true := hw _ (List.mem_of_getElem? (i := 138) rfl)
theorem w_139 {Z : State} {a0 : Array Value} (hw : ∀ d ∈ tables_1, d.before a0 Z = true) : (Jvm.Cond.static ({ cls := "java/lang/StringUTF16", name := "newBytesLength", desc := "(I)I" } : Jvm.MethodName)).before a0 Z = true := hw _ (List.mem_of_getElem? (i := 139) rfl)
theorem w_140 {Z : State} {a0 : Array Value} (hw : ∀ d ∈ tables_1, d.before a0 Z = true) : (Jvm.Cond.code ({ cls := "java/lang/StringUTF16", name := "newBytesLength", desc := "(I)I" } : Jvm.MethodName) jdk_52_method_3_code (1 : Nat) (Option.some Jvm.ClassFile.FieldType.int)).before a0 Z = true := hw _ (List.mem_of_getElem? (i := 140) rfl)
theorem w_141 {Z : State} {a0 : Array Value} (hw : ∀ d ∈ tables_1, d.before a0 Z = true) : (Jvm.Cond.constant "java/lang/StringUTF16" (20 : Nat) (1073741823 : Int32)).before a0 Z = true := hw _ (List.mem_of_getElem? (i := 141) rfl)
theorem w_142 {Z : State} {a0 : Array Value} (hw : ∀ d ∈ tables_1, d.before a0 Z = true) : (Jvm.Cond.methodLink "java/lang/StringUTF16" (111 : Nat) ({ cls := "java/lang/StringUTF16", name := "putChar", desc := "([BII)V" } : Jvm.MethodName)).before a0 Z = true := hw _ (List.mem_of_getElem? (i := 142) rfl)
theorem w_143 {Z : State} {a0 : Array Value} (hw : ∀ d ∈ tables_1, d.before a0 Z = true) : (Jvm.Cond.static ({ cls := "java/lang/StringUTF16", name := "putChar", desc := "([BII)V" } : Jvm.MethodName)).before a0 Z = true := hw _ (List.mem_of_getElem? (i := 143) rfl)
theorem w_144 {Z : State} {a0 : Array Value} (hw : ∀ d ∈ tables_1, d.before a0 Z = true) : (Jvm.Cond.code ({ cls := "java/lang/StringUTF16", name := "putChar", desc := "([BII)V" } : Jvm.MethodName) jdk_52_method_4_code (3 : Nat) (Option.none : Option Jvm.ClassFile.FieldType)).before a0 Z = true := hw _ (List.mem_of_getElem? (i := 144) rfl)
theorem w_145 {Z : State} {a0 : Array Value} (hw : ∀ d ∈ tables_1, d.before a0 Z = true) : (Jvm.Cond.fieldLink "java/lang/StringUTF16" (44 : Nat) "java/lang/StringUTF16" "$assertionsDisabled" "Z").before a0 Z = true := hw _ (List.mem_of_getElem? (i := 145) rfl)
theorem w_146 {Z : State} {a0 : Array Value} (hw : ∀ d ∈ tables_1, d.before a0 Z = true) : (Jvm.Cond.fieldLink "java/lang/StringUTF16" (59 : Nat) "java/lang/StringUTF16" "HI_BYTE_SHIFT" "I").before a0 Z = true := hw _ (List.mem_of_getElem? (i := 146) rfl)
theorem w_147 {Z : State} {a0 : Array Value} (hw : ∀ d ∈ tables_1, d.before a0 Z = true) : (Jvm.Cond.fieldLink "java/lang/StringUTF16" (63 : Nat) "java/lang/StringUTF16" "LO_BYTE_SHIFT" "I").before a0 Z = true := hw _ (List.mem_of_getElem? (i := 147) rfl)
theorem w_148 {Z : State} {a0 : Array Value} (hw : ∀ d ∈ tables_1, d.before a0 Z = true) : (Jvm.Cond.methodLink "java/lang/StringUTF16" (71 : Nat) ({ cls := "java/lang/StringUTF16", name := "getChar", desc := "([BI)C" } : Jvm.MethodName)).before a0 Z = true := hw _ (List.mem_of_getElem? (i := 148) rfl)
theorem w_149 {Z : State} {a0 : Array Value} (hw : ∀ d ∈ tables_1, d.before a0 Z = true) : (Jvm.Cond.static ({ cls := "java/lang/StringUTF16", name := "getChar", desc := "([BI)C" } : Jvm.MethodName)).before a0 Z = true := hw _ (List.mem_of_getElem? (i := 149) rfl)
theorem w_150 {Z : State} {a0 : Array Value} (hw : ∀ d ∈ tables_1, d.before a0 Z = true) : (Jvm.Cond.code ({ cls := "java/lang/StringUTF16", name := "getChar", desc := "([BI)C" } : Jvm.MethodName) jdk_52_method_5_code (2 : Nat) (Option.some Jvm.ClassFile.FieldType.char)).before a0 Z = true := hw _ (List.mem_of_getElem? (i := 150) rfl)
theorem w_151 {Z : State} {a0 : Array Value} (hw : ∀ d ∈ tables_1, d.before a0 Z = true) : (Jvm.Cond.methodLink "java/lang/String" (529 : Nat) ({ cls := "java/lang/StringUTF16", name := "getChars", desc := "([BII[CI)V" } : Jvm.MethodName)).before a0 Z = true := hw _ (List.mem_of_getElem? (i := 151) rfl)
theorem w_152 {Z : State} {a0 : Array Value} (hw : ∀ d ∈ tables_1, d.before a0 Z = true) : (Jvm.Cond.static ({ cls := "java/lang/StringUTF16", name := "getChars", desc := "([BII[CI)V" } : Jvm.MethodName)).before a0 Z = true := hw _ (List.mem_of_getElem? (i := 152) rfl)
theorem w_153 {Z : State} {a0 : Array Value} (hw : ∀ d ∈ tables_1, d.before a0 Z = true) : (Jvm.Cond.code ({ cls := "java/lang/StringUTF16", name := "getChars", desc := "([BII[CI)V" } : Jvm.MethodName) jdk_52_method_26_code (6 : Nat) (Option.none : Option Jvm.ClassFile.FieldType)).before a0 Z = true := hw _ (List.mem_of_getElem? (i := 153) rfl)
theorem w_154 {Z : State} {a0 : Array Value} (hw : ∀ d ∈ tables_1, d.before a0 Z = true) : (Jvm.Cond.methodLink "java/lang/StringUTF16" (173 : Nat) ({ cls := "java/lang/StringUTF16", name := "checkBoundsOffCount", desc := "(II[B)V" } : Jvm.MethodName)).before a0 Z = true := hw _ (List.mem_of_getElem? (i := 154) rfl)
theorem w_155 {Z : State} {a0 : Array Value} (hw : ∀ d ∈ tables_1, d.before a0 Z = true) : (Jvm.Cond.static ({ cls := "java/lang/StringUTF16", name := "checkBoundsOffCount", desc := "(II[B)V" } : Jvm.MethodName)).before a0 Z = true := hw _ (List.mem_of_getElem? (i := 155) rfl)
theorem w_156 {Z : State} {a0 : Array Value} (hw : ∀ d ∈ tables_1, d.before a0 Z = true) : (Jvm.Cond.code ({ cls := "java/lang/StringUTF16", name := "checkBoundsOffCount", desc := "(II[B)V" } : Jvm.MethodName) jdk_52_method_94_code (3 : Nat) (Option.none : Option Jvm.ClassFile.FieldType)).before a0 Z = true := hw _ (List.mem_of_getElem? (i := 156) rfl)
theorem w_157 {Z : State} {a0 : Array Value} (hw : ∀ d ∈ tables_1, d.before a0 Z = true) : (Jvm.Cond.methodLink "java/lang/StringUTF16" (48 : Nat) ({ cls := "java/lang/StringUTF16", name := "length", desc := "([B)I" } : Jvm.MethodName)).before a0 Z = true := hw _ (List.mem_of_getElem? (i := 157) rfl)
theorem w_158 {Z : State} {a0 : Array Value} (hw : ∀ d ∈ tables_1, d.before a0 Z = true) : (Jvm.Cond.static ({ cls := "java/lang/StringUTF16", name := "length", desc := "([B)I" } : Jvm.MethodName)).before a0 Z = true := hw _ (List.mem_of_getElem? (i := 158) rfl)
theorem w_159 {Z : State} {a0 : Array Value} (hw : ∀ d ∈ tables_1, d.before a0 Z = true) : (Jvm.Cond.code ({ cls := "java/lang/StringUTF16", name := "length", desc := "([B)I" } : Jvm.MethodName) jdk_52_method_6_code (1 : Nat) (Option.some Jvm.ClassFile.FieldType.int)).before a0 Z = true := hw _ (List.mem_of_getElem? (i := 159) rfl)
theorem w_160 {Z : State} {a0 : Array Value} (hw : ∀ d ∈ tables_1, d.before a0 Z = true) : (Jvm.Cond.methodLink "java/lang/StringUTF16" (419 : Nat) ({ cls := "java/lang/String", name := "checkBoundsOffCount", desc := "(III)I" } : Jvm.MethodName)).before a0 Z = true := hw _ (List.mem_of_getElem? (i := 160) rfl)
theorem w_161 {Z : State} {a0 : Array Value} (hw : ∀ d ∈ tables_1, d.before a0 Z = true) : (Jvm.Cond.methodLink "java/lang/String" (498 : Nat) ({ cls := "java/lang/StringUTF16", name := "charAt", desc := "([BI)C" } : Jvm.MethodName)).before a0 Z = true := hw _ (List.mem_of_getElem? (i := 161) rfl)
theorem w_162 {Z : State} {a0 : Array Value} (hw : ∀ d ∈ tables_1, d.before a0 Z = true) : (Jvm.Cond.static ({ cls := "java/lang/StringUTF16", name := "charAt", desc := "([BI)C" } : Jvm.MethodName)).before a0 Z = true := hw _ (List.mem_of_getElem? (i := 162) rfl)
theorem w_163 {Z : State} {a0 : Array Value} (hw : ∀ d ∈ tables_1, d.before a0 Z = true) : (Jvm.Cond.code ({ cls := "java/lang/StringUTF16", name := "charAt", desc := "([BI)C" } : Jvm.MethodName) jdk_52_method_83_code (2 : Nat) (Option.some Jvm.ClassFile.FieldType.char)).before a0 Z = true := hw _ (List.mem_of_getElem? (i := 163) rfl)
theorem w_164 {Z : State} {a0 : Array Value} (hw : ∀ d ∈ tables_1, d.before a0 Z = true) : (Jvm.Cond.methodLink "java/lang/StringUTF16" (67 : Nat) ({ cls := "java/lang/StringUTF16", name := "checkIndex", desc := "(I[B)V" } : Jvm.MethodName)).before a0 Z = true := hw _ (List.mem_of_getElem? (i := 164) rfl)
theorem w_165 {Z : State} {a0 : Array Value} (hw : ∀ d ∈ tables_1, d.before a0 Z = true) : (Jvm.Cond.static ({ cls := "java/lang/StringUTF16", name := "checkIndex", desc := "(I[B)V" } : Jvm.MethodName)).before a0 Z = true := hw _ (List.mem_of_getElem? (i := 165) rfl)
theorem w_166 {Z : State} {a0 : Array Value} (hw : ∀ d ∈ tables_1, d.before a0 Z = true) : (Jvm.Cond.code ({ cls := "java/lang/StringUTF16", name := "checkIndex", desc := "(I[B)V" } : Jvm.MethodName) jdk_52_method_91_code (2 : Nat) (Option.none : Option Jvm.ClassFile.FieldType)).before a0 Z = true := hw _ (List.mem_of_getElem? (i := 166) rfl)
theorem w_167 {Z : State} {a0 : Array Value} (hw : ∀ d ∈ tables_1, d.before a0 Z = true) : (Jvm.Cond.methodLink "java/lang/StringUTF16" (414 : Nat) ({ cls := "java/lang/String", name := "checkIndex", desc := "(II)V" } : Jvm.MethodName)).before a0 Z = true := hw _ (List.mem_of_getElem? (i := 167) rfl)
theorem w_168 {Z : State} {a0 : Array Value} (hw : ∀ d ∈ tables_1, d.before a0 Z = true) : (Jvm.Cond.constantLong "com/example/beleg/beleg/JsonOutput" (85 : Nat) (2147483639 : Int64)).before a0 Z = true := hw _ (List.mem_of_getElem? (i := 168) rfl)
theorem w_169 {Z : State} {a0 : Array Value} (hw : ∀ d ∈ tables_1, d.before a0 Z = true) : (Jvm.Cond.constantLong "com/example/beleg/beleg/JsonOutput" (96 : Nat) (2 : Int64)).before a0 Z = true := hw _ (List.mem_of_getElem? (i := 169) rfl)
theorem w_170 {Z : State} {a0 : Array Value} (hw : ∀ d ∈ tables_1, d.before a0 Z = true) : (Jvm.Cond.methodLink "com/example/beleg/beleg/JsonOutput" (98 : Nat) ({ cls := "java/lang/Math", name := "max", desc := "(JJ)J" } : Jvm.MethodName)).before a0 Z = true := hw _ (List.mem_of_getElem? (i := 170) rfl)
theorem w_171 {Z : State} {a0 : Array Value} (hw : ∀ d ∈ tables_1, d.before a0 Z = true) : (Jvm.Cond.static ({ cls := "java/lang/Math", name := "max", desc := "(JJ)J" } : Jvm.MethodName)).before a0 Z = true := hw _ (List.mem_of_getElem? (i := 171) rfl)
theorem w_172 {Z : State} {a0 : Array Value} (hw : ∀ d ∈ tables_1, d.before a0 Z = true) : (Jvm.Cond.initialized "java/lang/Math").before a0 Z = true := hw _ (List.mem_of_getElem? (i := 172) rfl)
theorem w_173 {Z : State} {a0 : Array Value} (hw : ∀ d ∈ tables_1, d.before a0 Z = true) : (Jvm.Cond.code ({ cls := "java/lang/Math", name := "max", desc := "(JJ)J" } : Jvm.MethodName) jdk_29_method_66_code (4 : Nat) (Option.some Jvm.ClassFile.FieldType.long)).before a0 Z = true := hw _ (List.mem_of_getElem? (i := 173) rfl)
theorem w_174 {Z : State} {a0 : Array Value} (hw : ∀ d ∈ tables_1, d.before a0 Z = true) : (Jvm.Cond.methodLink "com/example/beleg/beleg/JsonOutput" (104 : Nat) ({ cls := "java/lang/Math", name := "min", desc := "(JJ)J" } : Jvm.MethodName)).before a0 Z = true := hw _ (List.mem_of_getElem? (i := 174) rfl)
theorem w_175 {Z : State} {a0 : Array Value} (hw : ∀ d ∈ tables_1, d.before a0 Z = true) : (Jvm.Cond.static ({ cls := "java/lang/Math", name := "min", desc := "(JJ)J" } : Jvm.MethodName)).before a0 Z = true := hw _ (List.mem_of_getElem? (i := 175) rfl)
theorem w_176 {Z : State} {a0 : Array Value} (hw : ∀ d ∈ tables_1, d.before a0 Z = true) : (Jvm.Cond.code ({ cls := "java/lang/Math", name := "min", desc := "(JJ)J" } : Jvm.MethodName) jdk_29_method_70_code (4 : Nat) (Option.some Jvm.ClassFile.FieldType.long)).before a0 Z = true := hw _ (List.mem_of_getElem? (i := 176) rfl)
theorem w_177 {Z : State} {a0 : Array Value} (hw : ∀ d ∈ tables_1, d.before a0 Z = true) : (Jvm.Cond.methodLink "com/example/beleg/beleg/JsonOutput" (107 : Nat) ({ cls := "java/util/Arrays", name := "copyOf", desc := "([CI)[C" } : Jvm.MethodName)).before a0 Z = true := hw _ (List.mem_of_getElem? (i := 177) rfl)
theorem w_178 {Z : State} {a0 : Array Value} (hw : ∀ d ∈ tables_1, d.before a0 Z = true) : (Jvm.Cond.static ({ cls := "java/util/Arrays", name := "copyOf", desc := "([CI)[C" } : Jvm.MethodName)).before a0 Z = true := hw _ (List.mem_of_getElem? (i := 178) rfl)
theorem w_179 {Z : State} {a0 : Array Value} (hw : ∀ d ∈ tables_1, d.before a0 Z = true) : (Jvm.Cond.initialized "java/util/Arrays").before a0 Z = true := hw _ (List.mem_of_getElem? (i := 179) rfl)
theorem w_180 {Z : State} {a0 : Array Value} (hw : ∀ d ∈ tables_1, d.before a0 Z = true) : (Jvm.Cond.code ({ cls := "java/util/Arrays", name := "copyOf", desc := "([CI)[C" } : Jvm.MethodName) jdk_65_method_125_code (3 : Nat) (Option.some (Jvm.ClassFile.FieldType.array Jvm.ClassFile.FieldType.char))).before a0 Z = true := hw _ (List.mem_of_getElem? (i := 180) rfl)
theorem w_181 {Z : State} {a0 : Array Value} (hw : ∀ d ∈ tables_1, d.before a0 Z = true) : (Jvm.Cond.methodLink "java/util/Arrays" (304 : Nat) ({ cls := "java/lang/Math", name := "min", desc := "(II)I" } : Jvm.MethodName)).before a0 Z = true := hw _ (List.mem_of_getElem? (i := 181) rfl)
theorem w_182 {Z : State} {a0 : Array Value} (hw : ∀ d ∈ tables_1, d.before a0 Z = true) : (Jvm.Cond.static ({ cls := "java/lang/Math", name := "min", desc := "(II)I" } : Jvm.MethodName)).before a0 Z = true := hw _ (List.mem_of_getElem? (i := 182) rfl)
theorem w_183 {Z : State} {a0 : Array Value} (hw : ∀ d ∈ tables_1, d.before a0 Z = true) : (Jvm.Cond.code ({ cls := "java/lang/Math", name := "min", desc := "(II)I" } : Jvm.MethodName) jdk_29_method_69_code (2 : Nat) (Option.some Jvm.ClassFile.FieldType.int)).before a0 Z = true := hw _ (List.mem_of_getElem? (i := 183) rfl)
theorem w_184 {Z : State} {a0 : Array Value} (hw : ∀ d ∈ tables_1, d.before a0 Z = true) : (Jvm.Cond.methodLink "java/util/Arrays" (150 : Nat) ({ cls := "java/lang/System", name := "arraycopy", desc := "(Ljava/lang/Object;ILjava/lang/Object;II)V" } : Jvm.MethodName)).before a0 Z = true := hw _ (List.mem_of_getElem? (i := 184) rfl)
theorem w_185 {Z : State} {a0 : Array Value} (hw : ∀ d ∈ tables_1, d.before a0 Z = true) : (Jvm.Cond.static ({ cls := "java/lang/System", name := "arraycopy", desc := "(Ljava/lang/Object;ILjava/lang/Object;II)V" } : Jvm.MethodName)).before a0 Z = true := hw _ (List.mem_of_getElem? (i := 185) rfl)
theorem w_186 {Z : State} {a0 : Array Value} (hw : ∀ d ∈ tables_1, d.before a0 Z = true) : (Jvm.Cond.initialized "java/lang/System").before a0 Z = true := hw _ (List.mem_of_getElem? (i := 186) rfl)
theorem w_187 {Z : State} {a0 : Array Value} (hw : ∀ d ∈ tables_1, d.before a0 Z = true) : (Jvm.Cond.native ({ cls := "java/lang/System", name := "arraycopy", desc := "(Ljava/lang/Object;ILjava/lang/Object;II)V" } : Jvm.MethodName)).before a0 Z = true := hw _ (List.mem_of_getElem? (i := 187) rfl)
abbrev RL_ucl : Room := { frames := 0, cells := 0, slots := 0, locals := 0 }
set_option maxRecDepth 65536 in
set_option maxHeartbeats 40000000 in
theorem m_ucl_loop {l : Launch} {Z : State} {n0 : Nat} {h0 : Heap} {Q : Option Value → Heap → List Addr → Prop} {c t : Addr} {kc kt : ClassId} {cs : List Int32} {zc z : Int32} (hz : z.toNatClampNeg = cs.length) (zn : ¬ z < 0) (hle : ¬ zc < z) (ne_c_t : c ≠ t)
    (K1 : ∀ h' o, Arv Z h' t kt .byte z (cs.map lowV) (.int (0 : Int32)) → (∀ x ∈ cs, ¬ 255 < x) → Go l Z EL0 n0 NR0 KN0 N_0 jdk_52_method_21_code 7 (Option.some Jvm.ClassFile.FieldType.int) RL_ucl h0 [t] Q [t] h' 0 0 44 #[.val (.ref c), .val (.int (Int32.ofNat cs.length)), .val (.ref t), .val (.int (Int32.ofNat cs.length)), .val (.int z), .val (.int (Int32.ofNat cs.length)), o] [])
    (K2 : ∀ h' i vs, i < cs.length → 255 < cs.getD i 0 → Arv Z h' t kt .byte z vs (.int (0 : Int32)) → Go l Z EL0 n0 NR0 KN0 N_0 jdk_52_method_21_code 7 (Option.some Jvm.ClassFile.FieldType.int) RL_ucl h0 [t] Q [t] h' 0 0 23 #[.val (.ref c), .val (.int (Int32.ofNat i)), .val (.ref t), .val (.int (Int32.ofNat i)), .val (.int z), .val (.int (Int32.ofNat i)), .val (.int (cs.getD i 0))] []) :
    ∀ (m i : Nat) (h : Heap) (o : Slot), i + m = cs.length → One o → Arv Z h c kc .char zc (cs.map Value.int) (.int (0 : Int32)) → Arv Z h t kt .byte z ((cs.take i).map lowV ++ List.replicate m (.int (0 : Int32))) (.int (0 : Int32)) → (∀ x ∈ cs.take i, ¬ 255 < x) →
      Go l Z EL0 n0 NR0 KN0 N_0 jdk_52_method_21_code 7 (Option.some Jvm.ClassFile.FieldType.int) RL_ucl h0 [t] Q [t] h 0 0 3 #[.val (.ref c), .val (.int (Int32.ofNat i)), .val (.ref t), .val (.int (Int32.ofNat i)), .val (.int z), .val (.int (Int32.ofNat i)), o] [] := by
  have q := (back32 zn).2
  intro m
  induction m with
  | zero =>
    intro i h o hi ho V_c V_t ha
    obtain rfl : i = cs.length := by omega
    refine Go.iload (pc' := 5) d_jdk_52_method_21_3 rfl rfl ?_
    refine Go.iload (pc' := 7) d_jdk_52_method_21_5 rfl rfl ?_
    refine Go.icmpY (pc' := 44) d_jdk_52_method_21_7 (by decide) (by decide) (flt (ofNat_ge zn (by omega) (Nat.le_of_eq hz) : ¬ ((Int32.ofNat cs.length) < z))).2.1 ?_
    refine K1 h o ?_ (by rw [List.take_length] at ha; exact ha)
    simpa using V_t
  | succ m ih =>
    intro i h o hi ho V_c V_t ha
    have hi2 : i < cs.length := by omega
    have ci := ofNat_clamp (i := i) (by omega)
    have nn := ofNat_nn (i := i) (by omega)
    have lt := ofNat_lt (i := i) zn (by omega)
    have ltc := own_ltle lt hle
    refine Go.iload (pc' := 5) d_jdk_52_method_21_3 rfl rfl ?_
    refine Go.iload (pc' := 7) d_jdk_52_method_21_5 rfl rfl ?_
    refine Go.icmpN (pc' := 10) d_jdk_52_method_21_7 rfl (tlt (lt : (Int32.ofNat i) < z)).2.1 ?_
    refine Go.aload_n (pc' := 11) d_jdk_52_method_21_10 rfl rfl rfl ?_
    refine Go.iload_n (pc' := 12) d_jdk_52_method_21_11 rfl rfl ?_
    refine Go.caloadV (pc' := 13) (v := (.int (cs.getD i 0))) d_jdk_52_method_21_12 rfl V_c ⟨nn, ltc⟩ (by rw [ci]; exact getD_int cs i) ?_
    refine Go.istoreS (pc' := 15) (Ls' := #[.val (.ref c), .val (.int (Int32.ofNat i)), .val (.ref t), .val (.int (Int32.ofNat i)), .val (.int z), .val (.int (Int32.ofNat i)), .val (.int (cs.getD i 0))]) d_jdk_52_method_21_13 rfl rfl ho rfl ?_
    refine Go.iload (pc' := 17) d_jdk_52_method_21_15 rfl rfl ?_
    refine Go.sipush (pc' := 20) d_jdk_52_method_21_17 rfl ics_255 ?_
    by_cases h1 : (255 : Int32) < (cs.getD i 0)
    · skip
      refine Go.icmpN (pc' := 23) d_jdk_52_method_21_20 rfl (tlt (h1 : (255 : Int32) < (cs.getD i 0))).2.2.2 ?_
      exact K2 h i _ hi2 h1 V_t
    · skip
      refine Go.icmpY (pc' := 26) d_jdk_52_method_21_20 (by decide) (by decide) (flt (h1 : ¬ ((255 : Int32) < (cs.getD i 0)))).2.2.2 ?_
      refine Go.aload_n (pc' := 27) d_jdk_52_method_21_26 rfl rfl rfl ?_
      refine Go.iload_n (pc' := 28) d_jdk_52_method_21_27 rfl rfl ?_
      refine Go.iload (pc' := 30) d_jdk_52_method_21_28 rfl rfl ?_
      refine Go.i2b (pc' := 31) d_jdk_52_method_21_30 rfl ?_
      refine Go.bastoreV (pc' := 32) (i := i) d_jdk_52_method_21_31 rfl (List.mem_of_getElem? (i := 0) rfl) V_t ⟨nn, lt⟩ ci (by simp; omega) ?_
      intro h2 W2 V_t2
      rw [nar_byte] at V_t2
      have V_t3 := V_t2
      rw [show (Value.int (cs.getD i 0).toInt8.toInt32) = lowV (cs.getD i 0) from rfl, set_low cs i m hi2] at V_t3
      replace V_c := V_c.other W2 ne_c_t
      change Go _ _ _ _ _ _ _ _ _ _ _ _ _ _ [t] h2 0 0 32 #[.val (.ref c), .val (.int (Int32.ofNat i)), .val (.ref t), .val (.int (Int32.ofNat i)), .val (.int z), .val (.int (Int32.ofNat i)), .val (.int (cs.getD i 0))] []
      refine Go.iinc (pc' := 35) (Ls' := #[.val (.ref c), .val (.int ((Int32.ofNat i) + (1 : Int32))), .val (.ref t), .val (.int (Int32.ofNat i)), .val (.int z), .val (.int (Int32.ofNat i)), .val (.int (cs.getD i 0))]) d_jdk_52_method_21_32 rfl ic_1 rfl rfl ?_
      refine Go.iinc (pc' := 38) (Ls' := #[.val (.ref c), .val (.int ((Int32.ofNat i) + (1 : Int32))), .val (.ref t), .val (.int ((Int32.ofNat i) + (1 : Int32))), .val (.int z), .val (.int (Int32.ofNat i)), .val (.int (cs.getD i 0))]) d_jdk_52_method_21_35 rfl ic_1 rfl rfl ?_
      refine Go.iinc (pc' := 41) (Ls' := #[.val (.ref c), .val (.int ((Int32.ofNat i) + (1 : Int32))), .val (.ref t), .val (.int ((Int32.ofNat i) + (1 : Int32))), .val (.int z), .val (.int ((Int32.ofNat i) + (1 : Int32))), .val (.int (cs.getD i 0))]) d_jdk_52_method_21_38 rfl ic_1 rfl rfl ?_
      refine Go.goto (pc' := 3) d_jdk_52_method_21_41 (by decide) (by decide) ?_
      rw [ofNat_succ i]
      exact ih (i + 1) h2 _ (by omega) (One.val rfl) V_c V_t3 (own_take_all hi2 ha h1)
abbrev R_m_ucl : Room := { frames := 0, cells := 0, slots := 0, locals := 0 }
theorem pn_m_ucl : plainFor (⟨"java/lang/StringUTF16", "compress", "([CI[BII)I"⟩ : MethodName) = true := by first | (refine plainFor_of_name ?_; simp [plainName, overriddenIn]; done) | decide +kernel
abbrev Q_m_ucl (Z : State) (c : Addr) (t : Addr) (kc : ClassId) (kt : ClassId) (cs : List Int32) (zc : Int32) (z : Int32) (h0 : Heap) : Option Value → Heap → List Addr → Prop := fun res h' SN => ∃ (r : Int32) (vs : List Value), res = some (.int r) ∧ SN = [] ∧ Arv Z h' t kt .byte z vs (.int (0 : Int32)) ∧ ((r = z ∧ vs = cs.map lowV ∧ ∀ x ∈ cs, ¬ 255 < x) ∨ (¬ r < 0 ∧ r < z ∧ 255 < cs.getD r.toNatClampNeg 0))
theorem ef_m_ucl (mid : MethodId) (c : Addr) (t : Addr) (kc : ClassId) (kt : ClassId) (cs : List Int32) (zc : Int32) (z : Int32) : entryFrame mid #[(.ref c), (.int (0 : Int32)), (.ref t), (.int (0 : Int32)), (.int z)] 7 = mkF mid 0 #[.val (.ref c), .val (.int (0 : Int32)), .val (.ref t), .val (.int (0 : Int32)), .val (.int z), .unset, .unset] [] := by first | (simp [entryFrame, mkF, argsToLocals, Value.category]; done) | rfl
set_option maxRecDepth 65536 in
set_option maxHeartbeats 40000000 in
theorem m_ucl {l : Launch} {Z : State} {a0 : Array Value} {n0 : Nat} (hw : ∀ d ∈ tables_1, d.before a0 Z = true) (hs : Stat Z) (c : Addr) (t : Addr) (kc : ClassId) (kt : ClassId) (cs : List Int32) (zc : Int32) (z : Int32) (h0 : Heap) (V_c : Arv Z h0 c kc .char zc (cs.map Value.int) (.int (0 : Int32))) (V_t : Arv Z h0 t kt .byte z (List.replicate cs.length (.int (0 : Int32))) (.int (0 : Int32))) (hz : z.toNatClampNeg = cs.length) (hle : ¬ zc < z) (ne_c_t : c ≠ t) :
    Met l Z EL0 n0 NR0 KN0 N_0 jdk_52_method_21_code 7 (Option.some Jvm.ClassFile.FieldType.int) R_m_ucl [t] #[(.ref c), (.int (0 : Int32)), (.ref t), (.int (0 : Int32)), (.int z)] h0 (Q_m_ucl Z c t kc kt cs zc z h0) := by
  refine Met.of_go pn_m_ucl (fun mid => ef_m_ucl mid c t kc kt cs zc z ) ?_
  intro hO hWS
  refine Go.iconst (pc' := 1) d_jdk_52_method_21_0 rfl ic_0 ?_
  refine Go.istore (pc' := 3) (Ls' := #[.val (.ref c), .val (.int (0 : Int32)), .val (.ref t), .val (.int (0 : Int32)), .val (.int z), .val (.int (0 : Int32)), .unset]) d_jdk_52_method_21_1 rfl rfl ?_
  refine m_ucl_loop (kc := kc) hz (arv_nn V_t) hle ne_c_t (fun h' o V ha => ?_) (fun h' i vs hi hc V => ?_) cs.length 0 h0 _ (by omega) One.u V_c (by simpa using V_t) (fun x hx => absurd hx (by simp))
  · skip
    refine Go.iload (pc' := 46) d_jdk_52_method_21_44 rfl rfl ?_
    exact Go.retI d_jdk_52_method_21_46 rfl (by decide) (by decide) [] sn0 ⟨z, _, rfl, rfl, V, Or.inl ⟨rfl, rfl, ha⟩⟩
  · skip
    have zn := arv_nn V_t
    have q := (back32 zn).2
    refine Go.iload (pc' := 25) d_jdk_52_method_21_23 rfl rfl ?_
    exact Go.retI d_jdk_52_method_21_25 rfl (by decide) (by decide) [] sn0 ⟨_, _, rfl, rfl, V, Or.inr ⟨ofNat_nn (by omega), ofNat_lt zn (by omega), by rw [ofNat_clamp (by omega)]; exact hc⟩⟩
abbrev R_m_putc : Room := { frames := 0, cells := 0, slots := 0, locals := 0 }
theorem pn_m_putc : plainFor (⟨"java/lang/StringUTF16", "putChar", "([BII)V"⟩ : MethodName) = true := by first | (refine plainFor_of_name ?_; simp [plainName, overriddenIn]; done) | decide +kernel
abbrev Q_m_putc (Z : State) (b : Addr) (kb : ClassId) (zb : Int32) (bs : List Int32) (j : Int32) (d : Int32) (h0 : Heap) : Option Value → Heap → List Addr → Prop := fun res h' SN => res = none ∧ SN = [] ∧ Arv Z h' b kb .byte zb (((bs.set (2 * j.toNatClampNeg) (ub0 d)).set (2 * j.toNatClampNeg + 1) (ub1 d)).map Value.int) (.int (0 : Int32))
theorem ef_m_putc (mid : MethodId) (b : Addr) (kb : ClassId) (zb : Int32) (bs : List Int32) (j : Int32) (d : Int32) : entryFrame mid #[(.ref b), (.int j), (.int d)] 3 = mkF mid 0 #[.val (.ref b), .val (.int j), .val (.int d)] [] := by first | (simp [entryFrame, mkF, argsToLocals, Value.category]; done) | rfl
set_option maxRecDepth 65536 in
set_option maxHeartbeats 40000000 in
theorem m_putc {l : Launch} {Z : State} {a0 : Array Value} {n0 : Nat} (hw : ∀ d ∈ tables_1, d.before a0 Z = true) (hs : Stat Z) (b : Addr) (kb : ClassId) (zb : Int32) (bs : List Int32) (j : Int32) (d : Int32) (h0 : Heap) (V_b : Arv Z h0 b kb .byte zb (bs.map Value.int) (.int (0 : Int32))) (hj0 : ¬ j < 0) (hj : 2 * j.toNatClampNeg + 1 < bs.length) (hzb : zb.toNatClampNeg = bs.length) :
    Met l Z EL0 n0 NR0 KN0 N_1 jdk_52_method_4_code 3 (Option.none : Option Jvm.ClassFile.FieldType) R_m_putc [b] #[(.ref b), (.int j), (.int d)] h0 (Q_m_putc Z b kb zb bs j d h0) := by
  refine Met.of_go pn_m_putc (fun mid => ef_m_putc mid b kb zb bs j d ) ?_
  intro hO hWS
  obtain ⟨S_a, S_h, S_l⟩ := hs_u hs
  have zn := arv_nn V_b
  have zr := (back32 zn).2
  have sj := own_shl1 hj0 (by omega)
  have sj1 := own_succ (z := 0) sj.1 (by omega)
  refine Go.getS (pc' := 3) d_jdk_52_method_4_0 rfl (host := "") (Or.inl (w_145 hw)) Via.refl S_a ?_
  refine Go.ifY (pc' := 28) d_jdk_52_method_4_3 (by decide) (by decide) ((if0 _ _).trans (feq (by decide : ¬ ((1 : Int32) = (0 : Int32)))).2) ?_
  refine Go.iload_n (pc' := 29) d_jdk_52_method_4_28 rfl rfl ?_
  refine Go.iconst (pc' := 30) d_jdk_52_method_4_29 rfl ic_1 ?_
  refine Go.ishl (pc' := 31) d_jdk_52_method_4_30 rfl ?_
  refine Go.istore_n (pc' := 32) (Ls' := #[.val (.ref b), .val (.int (j <<< ((1 : Int32) &&& 31))), .val (.int d)]) d_jdk_52_method_4_31 rfl rfl ?_
  refine Go.aload_n (pc' := 33) d_jdk_52_method_4_32 rfl rfl rfl ?_
  refine Go.iload_n (pc' := 34) d_jdk_52_method_4_33 rfl rfl ?_
  refine Go.iinc (pc' := 37) (Ls' := #[.val (.ref b), .val (.int ((j <<< ((1 : Int32) &&& 31)) + (1 : Int32))), .val (.int d)]) d_jdk_52_method_4_34 rfl ic_1 rfl rfl ?_
  refine Go.iload_n (pc' := 38) d_jdk_52_method_4_37 rfl rfl ?_
  refine Go.getS (pc' := 41) d_jdk_52_method_4_38 rfl (host := "") (Or.inl (w_146 hw)) Via.refl S_h ?_
  refine Go.ishr (pc' := 42) d_jdk_52_method_4_41 rfl ?_
  refine Go.i2b (pc' := 43) d_jdk_52_method_4_42 rfl ?_
  refine Go.bastoreV (pc' := 44) (i := 2 * j.toNatClampNeg) d_jdk_52_method_4_43 rfl (List.mem_of_getElem? (i := 0) rfl) V_b ⟨sj.1, own_ltc sj.1 zn (by omega)⟩ (sj.2) (by simp; omega) ?_
  rw [nar_byte]
  intro h1 W2 V_b'
  rw [own_set_map] at V_b'
  replace V_b := V_b'
  change Go _ _ _ _ _ _ _ _ _ _ _ _ _ _ [b] h1 0 0 44 #[.val (.ref b), .val (.int ((j <<< ((1 : Int32) &&& 31)) + (1 : Int32))), .val (.int d)] []
  refine Go.aload_n (pc' := 45) d_jdk_52_method_4_44 rfl rfl rfl ?_
  refine Go.iload_n (pc' := 46) d_jdk_52_method_4_45 rfl rfl ?_
  refine Go.iload_n (pc' := 47) d_jdk_52_method_4_46 rfl rfl ?_
  refine Go.getS (pc' := 50) d_jdk_52_method_4_47 rfl (host := "") (Or.inl (w_147 hw)) Via.refl S_l ?_
  refine Go.ishr (pc' := 51) d_jdk_52_method_4_50 rfl ?_
  refine Go.i2b (pc' := 52) d_jdk_52_method_4_51 rfl ?_
  refine Go.bastoreV (pc' := 53) (i := 2 * j.toNatClampNeg + 1) d_jdk_52_method_4_52 rfl (List.mem_of_getElem? (i := 0) rfl) V_b ⟨sj1.1, own_ltc sj1.1 zn (by omega)⟩ (by rw [sj1.2, sj.2]) (by simp; omega) ?_
  rw [nar_byte]
  intro h3 W4 V_b'
  rw [own_set_map] at V_b'
  replace V_b := V_b'
  change Go _ _ _ _ _ _ _ _ _ _ _ _ _ _ [b] h3 0 0 53 #[.val (.ref b), .val (.int ((j <<< ((1 : Int32) &&& 31)) + (1 : Int32))), .val (.int d)] []
  exact Go.retV d_jdk_52_method_4_53 rfl (by decide) (by decide) [] sn0 ⟨rfl, rfl, V_b⟩
abbrev R_m_nbl : Room := { frames := 0, cells := 0, slots := 0, locals := 0 }
theorem pn_m_nbl : plainFor (⟨"java/lang/StringUTF16", "newBytesLength", "(I)I"⟩ : MethodName) = true := by first | (refine plainFor_of_name ?_; simp [plainName, overriddenIn]; done) | decide +kernel
abbrev Q_m_nbl (Z : State) (z : Int32) (h0 : Heap) : Option Value → Heap → List Addr → Prop := fun res h' SN => res = some (.int (z <<< ((1 : Int32) &&& 31))) ∧ SN = [] ∧ h0 = h'
theorem ef_m_nbl (mid : MethodId) (z : Int32) : entryFrame mid #[(.int z)] 1 = mkF mid 0 #[.val (.int z)] [] := by first | (simp [entryFrame, mkF, argsToLocals, Value.category]; done) | rfl
set_option maxRecDepth 65536 in
set_option maxHeartbeats 40000000 in
theorem m_nbl {l : Launch} {Z : State} {a0 : Array Value} {n0 : Nat} (hw : ∀ d ∈ tables_1, d.before a0 Z = true) (hs : Stat Z) (z : Int32) (h0 : Heap) (hz0 : ¬ z < 0) (hz1 : z < (1073741823 : Int32)) :
    Met l Z EL0 n0 NR0 KN0 N_2 jdk_52_method_3_code 1 (Option.some Jvm.ClassFile.FieldType.int) R_m_nbl [] #[(.int z)] h0 (Q_m_nbl Z z h0) := by
  refine Met.of_go pn_m_nbl (fun mid => ef_m_nbl mid z ) ?_
  intro hO hWS
  refine Go.iload_n (pc' := 1) d_jdk_52_method_3_0 rfl rfl ?_
  refine Go.ifY (pc' := 12) d_jdk_52_method_3_1 (by decide) (by decide) ((if0 _ _).trans (flt (hz0 : ¬ (z < (0 : Int32)))).2.1) ?_
  refine Go.iload_n (pc' := 13) d_jdk_52_method_3_12 rfl rfl ?_
  refine Go.ldcInt (pc' := 15) d_jdk_52_method_3_13 rfl (w_141 hw) ?_
  refine Go.icmpY (pc' := 55) d_jdk_52_method_3_15 (by decide) (by decide) (tlt (hz1 : z < (1073741823 : Int32))).1 ?_
  refine Go.iload_n (pc' := 56) d_jdk_52_method_3_55 rfl rfl ?_
  refine Go.iconst (pc' := 57) d_jdk_52_method_3_56 rfl ic_1 ?_
  refine Go.ishl (pc' := 58) d_jdk_52_method_3_57 rfl ?_
  exact Go.retI d_jdk_52_method_3_58 rfl (by decide) (by decide) [] sn0 ⟨rfl, rfl, rfl⟩
abbrev R_m_nbf : Room := { frames := 1, cells := 1, slots := 516, locals := 12 }
theorem pn_m_nbf : plainFor (⟨"java/lang/StringUTF16", "newBytesFor", "(I)[B"⟩ : MethodName) = true := by first | (refine plainFor_of_name ?_; simp [plainName, overriddenIn]; done) | decide +kernel
abbrev Q_m_nbf (Z : State) (z : Int32) (h0 : Heap) : Option Value → Heap → List Addr → Prop := fun res h' SN => ∃ (b : Addr) (kb : ClassId), res = some (.ref b) ∧ SN = [b] ∧ h0.size ≤ b ∧ Arv Z h' b kb .byte (z <<< ((1 : Int32) &&& 31)) ((List.replicate (2 * z.toNatClampNeg) (0 : Int32)).map Value.int) (.int (0 : Int32))
theorem ef_m_nbf (mid : MethodId) (z : Int32) : entryFrame mid #[(.int z)] 1 = mkF mid 0 #[.val (.int z)] [] := by first | (simp [entryFrame, mkF, argsToLocals, Value.category]; done) | rfl
set_option maxRecDepth 65536 in
set_option maxHeartbeats 40000000 in
theorem m_nbf {l : Launch} {Z : State} {a0 : Array Value} {n0 : Nat} (hw : ∀ d ∈ tables_1, d.before a0 Z = true) (hs : Stat Z) (z : Int32) (h0 : Heap) (hz0 : ¬ z < 0) (hbig : z.toNatClampNeg ≤ CAP) :
    Met l Z EL0 n0 NR0 KN0 N_3 jdk_52_method_2_code 1 (Option.some (Jvm.ClassFile.FieldType.array Jvm.ClassFile.FieldType.byte)) R_m_nbf [] #[(.int z)] h0 (Q_m_nbf Z z h0) := by
  refine Met.of_go pn_m_nbf (fun mid => ef_m_nbf mid z ) ?_
  intro hO hWS
  have sz := own_shl1 hz0 (Nat.lt_of_le_of_lt hbig (by decide))
  refine Go.iload_n (pc' := 1) d_jdk_52_method_2_0 rfl rfl ?_
  refine Go.callS (pc' := 4) (z := N_2) d_jdk_52_method_2_1 rfl (w_138 hw) (w_139 hw) (w_18 hw) (w_140 hw) (by decide) (argsL := [(.int z)]) (rest := []) (Pays.of_met (W := 0) (len := 3) (m_nbl hw hs z h0 (hz0) (own_ltc hz0 (by decide) (Nat.lt_of_le_of_lt hbig (by decide)))) (w_140 hw) (w_18 hw) (by decide) (by decide)) rfl rfl (lenOf pd_0 rfl) rfl (Nat.le_of_eq rfl) mem0 (by decide) (by decide) ?_
  rintro _ _ _ - - ⟨rfl, rfl, rfl⟩
  change Go _ _ _ _ _ _ _ _ _ _ _ _ _ _ [] h0 0 0 4 #[.val (.int z)] [(.int (z <<< ((1 : Int32) &&& 31)))]
  refine Go.newP (pc' := 6) (cap := 516) (ad := "[B") d_jdk_52_method_2_4 rfl (w_20 hw) (by decide) sz.1 (by rw [sz.2]; exact Nat.mul_le_mul_left 2 hbig) (by decide) (by decide) (by decide) ?_
  intro h5 b6 g7 ge_b6 q9 x8 V_b6 E_b6
  replace V_b6 : Arv Z h5 b6 q9 .byte (z <<< ((1 : Int32) &&& 31)) [] (.int (0 : Int32)) := V_b6
  change Go _ _ _ _ _ _ _ _ _ _ _ _ _ _ [b6] h5 1 516 6 #[.val (.int z)] [(.ref b6)]
  replace V_b6 : Arv Z h5 b6 q9 .byte (z <<< ((1 : Int32) &&& 31)) ((List.replicate (2 * z.toNatClampNeg) (0 : Int32)).map Value.int) (.int (0 : Int32)) := V_b6.pad (own_pad0 _)
  exact Go.retA d_jdk_52_method_2_6 rfl rfl rfl (by decide) (by decide) [b6] (snS ⟨(List.mem_of_getElem? (i := 0) rfl), ge_b6⟩ sn0) ⟨b6, _, rfl, rfl, ge_b6, V_b6⟩
abbrev R_m_ugc : Room := { frames := 0, cells := 0, slots := 0, locals := 0 }
theorem pn_m_ugc : plainFor (⟨"java/lang/StringUTF16", "getChar", "([BI)C"⟩ : MethodName) = true := by first | (refine plainFor_of_name ?_; simp [plainName, overriddenIn]; done) | decide +kernel
abbrev Q_m_ugc (Z : State) (b : Addr) (kb : ClassId) (zb : Int32) (bs : List Int32) (j : Int32) (h0 : Heap) : Option Value → Heap → List Addr → Prop := fun res h' SN => res = some (.int (udec (bs.getD (2 * j.toNatClampNeg) 0) (bs.getD (2 * j.toNatClampNeg + 1) 0))) ∧ SN = [] ∧ h0 = h'
theorem ef_m_ugc (mid : MethodId) (b : Addr) (kb : ClassId) (zb : Int32) (bs : List Int32) (j : Int32) : entryFrame mid #[(.ref b), (.int j)] 2 = mkF mid 0 #[.val (.ref b), .val (.int j)] [] := by first | (simp [entryFrame, mkF, argsToLocals, Value.category]; done) | rfl
set_option maxRecDepth 65536 in
set_option maxHeartbeats 40000000 in
theorem m_ugc {l : Launch} {Z : State} {a0 : Array Value} {n0 : Nat} (hw : ∀ d ∈ tables_1, d.before a0 Z = true) (hs : Stat Z) (b : Addr) (kb : ClassId) (zb : Int32) (bs : List Int32) (j : Int32) (h0 : Heap) (V_b : Arv Z h0 b kb .byte zb (bs.map Value.int) (.int (0 : Int32))) (hj0 : ¬ j < 0) (hj : 2 * j.toNatClampNeg + 1 < bs.length) (hzb : zb.toNatClampNeg = bs.length) :
    Met l Z EL0 n0 NR0 KN0 N_4 jdk_52_method_5_code 2 (Option.some Jvm.ClassFile.FieldType.char) R_m_ugc [] #[(.ref b), (.int j)] h0 (Q_m_ugc Z b kb zb bs j h0) := by
  refine Met.of_go pn_m_ugc (fun mid => ef_m_ugc mid b kb zb bs j ) ?_
  intro hO hWS
  obtain ⟨S_a, S_h, S_l⟩ := hs_u hs
  have zn := arv_nn V_b
  have zr := (back32 zn).2
  have sj := own_shl1 hj0 (by omega)
  have sj1 := own_succ (z := 0) sj.1 (by omega)
  refine Go.getS (pc' := 3) d_jdk_52_method_5_0 rfl (host := "") (Or.inl (w_145 hw)) Via.refl S_a ?_
  refine Go.ifY (pc' := 28) d_jdk_52_method_5_3 (by decide) (by decide) ((if0 _ _).trans (feq (by decide : ¬ ((1 : Int32) = (0 : Int32)))).2) ?_
  refine Go.iload_n (pc' := 29) d_jdk_52_method_5_28 rfl rfl ?_
  refine Go.iconst (pc' := 30) d_jdk_52_method_5_29 rfl ic_1 ?_
  refine Go.ishl (pc' := 31) d_jdk_52_method_5_30 rfl ?_
  refine Go.istore_n (pc' := 32) (Ls' := #[.val (.ref b), .val (.int (j <<< ((1 : Int32) &&& 31)))]) d_jdk_52_method_5_31 rfl rfl ?_
  refine Go.aload_n (pc' := 33) d_jdk_52_method_5_32 rfl rfl rfl ?_
  refine Go.iload_n (pc' := 34) d_jdk_52_method_5_33 rfl rfl ?_
  refine Go.iinc (pc' := 37) (Ls' := #[.val (.ref b), .val (.int ((j <<< ((1 : Int32) &&& 31)) + (1 : Int32)))]) d_jdk_52_method_5_34 rfl ic_1 rfl rfl ?_
  refine Go.baloadV (pc' := 38) (v := (.int (bs.getD (2 * j.toNatClampNeg) 0))) d_jdk_52_method_5_37 rfl V_b ⟨sj.1, own_ltc sj.1 zn (by omega)⟩ (by rw [sj.2]; exact getD_int bs _) ?_
  refine Go.sipush (pc' := 41) d_jdk_52_method_5_38 rfl ics_255 ?_
  refine Go.iand (pc' := 42) d_jdk_52_method_5_41 rfl ?_
  refine Go.getS (pc' := 45) d_jdk_52_method_5_42 rfl (host := "") (Or.inl (w_146 hw)) Via.refl S_h ?_
  refine Go.ishl (pc' := 46) d_jdk_52_method_5_45 rfl ?_
  refine Go.aload_n (pc' := 47) d_jdk_52_method_5_46 rfl rfl rfl ?_
  refine Go.iload_n (pc' := 48) d_jdk_52_method_5_47 rfl rfl ?_
  refine Go.baloadV (pc' := 49) (v := (.int (bs.getD (2 * j.toNatClampNeg + 1) 0))) d_jdk_52_method_5_48 rfl V_b ⟨sj1.1, own_ltc sj1.1 zn (by omega)⟩ (by rw [sj1.2, sj.2]; exact getD_int bs _) ?_
  refine Go.sipush (pc' := 52) d_jdk_52_method_5_49 rfl ics_255 ?_
  refine Go.iand (pc' := 53) d_jdk_52_method_5_52 rfl ?_
  refine Go.getS (pc' := 56) d_jdk_52_method_5_53 rfl (host := "") (Or.inl (w_147 hw)) Via.refl S_l ?_
  refine Go.ishl (pc' := 57) d_jdk_52_method_5_56 rfl ?_
  refine Go.ior (pc' := 58) d_jdk_52_method_5_57 rfl ?_
  refine Go.i2c (pc' := 59) d_jdk_52_method_5_58 rfl ?_
  exact Go.retS (ty := .char) d_jdk_52_method_5_59 rfl (by simp) (own_nar_i2c _) (by decide) (by decide) [] sn0 ⟨rfl, rfl, rfl⟩
abbrev RL_tob : Room := { frames := 2, cells := 1, slots := 516, locals := 40 }
set_option maxRecDepth 65536 in
set_option maxHeartbeats 40000000 in
theorem m_tob_loop {l : Launch} {Z : State} {a0 : Array Value} {n0 : Nat} (hw : ∀ d ∈ tables_1, d.before a0 Z = true) (hs : Stat Z) {h0 : Heap} {Q : Option Value → Heap → List Addr → Prop} {c b : Addr} {kc kb : ClassId} {cs : List Int32} {zc z : Int32} (hz : z.toNatClampNeg = cs.length) (zn : ¬ z < 0) (hle : ¬ zc < z) (hsm : z.toNatClampNeg < 1073741823) (ne_c_b : c ≠ b)
    (K : ∀ h' bs, Arv Z h' b kb .byte (z <<< ((1 : Int32) &&& 31)) (bs.map Value.int) (.int (0 : Int32)) → Enc bs cs cs.length → Go l Z EL0 n0 NR0 KN0 N_5 jdk_52_method_14_code 5 (Option.some (Jvm.ClassFile.FieldType.array Jvm.ClassFile.FieldType.byte)) RL_tob h0 [] Q [b] h' 1 516 32 #[.val (.ref c), .val (.int (Int32.ofNat cs.length)), .val (.int z), .val (.ref b), .val (.int (Int32.ofNat cs.length))] []) :
    ∀ (m i : Nat) (h : Heap) (bs : List Int32), i + m = cs.length → Arv Z h c kc .char zc (cs.map Value.int) (.int (0 : Int32)) → Arv Z h b kb .byte (z <<< ((1 : Int32) &&& 31)) (bs.map Value.int) (.int (0 : Int32)) → Enc bs cs i → Go l Z EL0 n0 NR0 KN0 N_5 jdk_52_method_14_code 5 (Option.some (Jvm.ClassFile.FieldType.array Jvm.ClassFile.FieldType.byte)) RL_tob h0 [] Q [b] h 1 516 8 #[.val (.ref c), .val (.int (Int32.ofNat i)), .val (.int z), .val (.ref b), .val (.int (Int32.ofNat i))] [] := by
  have q := (back32 zn).2
  have sz := own_shl1 zn (by omega)
  intro m
  induction m with
  | zero =>
    intro i h bs hi V_c V_b hE
    obtain rfl : i = cs.length := by omega
    refine Go.iload (pc' := 10) d_jdk_52_method_14_8 rfl rfl ?_
    refine Go.iload_n (pc' := 11) d_jdk_52_method_14_10 rfl rfl ?_
    refine Go.icmpY (pc' := 32) d_jdk_52_method_14_11 (by decide) (by decide) (flt (ofNat_ge zn (by omega) (Nat.le_of_eq hz) : ¬ ((Int32.ofNat cs.length) < z))).2.1 ?_
    exact K h bs V_b hE
  | succ m ih =>
    intro i h bs hi V_c V_b hE
    have hi2 : i < cs.length := by omega
    have ci := ofNat_clamp (i := i) (by omega)
    have nn := ofNat_nn (i := i) (by omega)
    have lt := ofNat_lt (i := i) zn (by omega)
    have ltc := own_ltle lt hle
    have hl := hE.1
    refine Go.iload (pc' := 10) d_jdk_52_method_14_8 rfl rfl ?_
    refine Go.iload_n (pc' := 11) d_jdk_52_method_14_10 rfl rfl ?_
    refine Go.icmpN (pc' := 14) d_jdk_52_method_14_11 rfl (tlt (lt : (Int32.ofNat i) < z)).2.1 ?_
    refine Go.aload_n (pc' := 15) d_jdk_52_method_14_14 rfl rfl rfl ?_
    refine Go.iload (pc' := 17) d_jdk_52_method_14_15 rfl rfl ?_
    refine Go.aload_n (pc' := 18) d_jdk_52_method_14_17 rfl rfl rfl ?_
    refine Go.iload_n (pc' := 19) d_jdk_52_method_14_18 rfl rfl ?_
    refine Go.caloadV (pc' := 20) (v := (.int (cs.getD i 0))) d_jdk_52_method_14_19 rfl V_c ⟨nn, ltc⟩ (by rw [ci]; exact getD_int cs i) ?_
    refine Go.callS (pc' := 23) (z := N_1) d_jdk_52_method_14_20 rfl (w_142 hw) (w_143 hw) (w_18 hw) (w_144 hw) (by decide) (argsL := [(.ref b), (.int (Int32.ofNat i)), (.int (cs.getD i 0))]) (rest := []) (Pays.of_met (W := 0) (len := 3) (m_putc hw hs b kb (z <<< ((1 : Int32) &&& 31)) bs (Int32.ofNat i) (cs.getD i 0) h V_b (nn) (by rw [ci]; omega) (by rw [sz.2]; omega)) (w_144 hw) (w_18 hw) (by decide) (by decide)) rfl rfl (lenOf pd_1 rfl) rfl (Nat.le_of_eq rfl) (memS (List.mem_of_getElem? (i := 0) rfl) mem0) (by decide) (by decide) ?_
    rintro _ h10 _ K11 le12 ⟨rfl, rfl, p13⟩
    replace V_c := V_c.keep K11 (ninS ne_c_b nin0)
    have V_b := p13
    change Go _ _ _ _ _ _ _ _ _ _ _ _ _ _ [b] h10 1 516 23 #[.val (.ref c), .val (.int (Int32.ofNat i)), .val (.int z), .val (.ref b), .val (.int (Int32.ofNat i))] []
    rw [ci] at V_b
    refine Go.iinc (pc' := 26) (Ls' := #[.val (.ref c), .val (.int ((Int32.ofNat i) + (1 : Int32))), .val (.int z), .val (.ref b), .val (.int (Int32.ofNat i))]) d_jdk_52_method_14_23 rfl ic_1 rfl rfl ?_
    refine Go.iinc (pc' := 29) (Ls' := #[.val (.ref c), .val (.int ((Int32.ofNat i) + (1 : Int32))), .val (.int z), .val (.ref b), .val (.int ((Int32.ofNat i) + (1 : Int32)))]) d_jdk_52_method_14_26 rfl ic_1 rfl rfl ?_
    refine Go.goto (pc' := 8) d_jdk_52_method_14_29 (by decide) (by decide) ?_
    rw [ofNat_succ i]
    exact ih (i + 1) _ _ (by omega) V_c V_b (hE.step hi2)
abbrev R_m_tob : Room := { frames := 2, cells := 1, slots := 516, locals := 40 }
theorem pn_m_tob : plainFor (⟨"java/lang/StringUTF16", "toBytes", "([CII)[B"⟩ : MethodName) = true := by first | (refine plainFor_of_name ?_; simp [plainName, overriddenIn]; done) | decide +kernel
abbrev Q_m_tob (Z : State) (c : Addr) (kc : ClassId) (cs : List Int32) (zc : Int32) (z : Int32) (h0 : Heap) : Option Value → Heap → List Addr → Prop := fun res h' SN => ∃ (b : Addr) (kb : ClassId) (bs : List Int32), res = some (.ref b) ∧ SN = [] ∧ h0.size ≤ b ∧ Arv Z h' b kb .byte (z <<< ((1 : Int32) &&& 31)) (bs.map Value.int) (.int (0 : Int32)) ∧ Enc bs cs cs.length
theorem ef_m_tob (mid : MethodId) (c : Addr) (kc : ClassId) (cs : List Int32) (zc : Int32) (z : Int32) : entryFrame mid #[(.ref c), (.int (0 : Int32)), (.int z)] 5 = mkF mid 0 #[.val (.ref c), .val (.int (0 : Int32)), .val (.int z), .unset, .unset] [] := by first | (simp [entryFrame, mkF, argsToLocals, Value.category]; done) | rfl
set_option maxRecDepth 65536 in
set_option maxHeartbeats 40000000 in
theorem m_tob {l : Launch} {Z : State} {a0 : Array Value} {n0 : Nat} (hw : ∀ d ∈ tables_1, d.before a0 Z = true) (hs : Stat Z) (c : Addr) (kc : ClassId) (cs : List Int32) (zc : Int32) (z : Int32) (h0 : Heap) (V_c : Arv Z h0 c kc .char zc (cs.map Value.int) (.int (0 : Int32))) (hz : z.toNatClampNeg = cs.length) (hz0 : ¬ z < 0) (hle : ¬ zc < z) (hbig : z.toNatClampNeg ≤ CAP) :
    Met l Z EL0 n0 NR0 KN0 N_5 jdk_52_method_14_code 5 (Option.some (Jvm.ClassFile.FieldType.array Jvm.ClassFile.FieldType.byte)) R_m_tob [] #[(.ref c), (.int (0 : Int32)), (.int z)] h0 (Q_m_tob Z c kc cs zc z h0) := by
  refine Met.of_go pn_m_tob (fun mid => ef_m_tob mid c kc cs zc z ) ?_
  intro hO hWS
  have zn := arv_nnz hz0
  refine Go.iload_n (pc' := 1) d_jdk_52_method_14_0 rfl rfl ?_
  refine Go.callS (pc' := 4) (z := N_3) d_jdk_52_method_14_1 rfl (w_135 hw) (w_136 hw) (w_18 hw) (w_137 hw) (by decide) (argsL := [(.int z)]) (rest := []) (Pays.of_met (W := 0) (len := 3) (m_nbf hw hs z h0 (hz0) (hbig)) (w_137 hw) (w_18 hw) (by decide) (by decide)) rfl rfl (lenOf pd_2 rfl) rfl (Nat.le_of_eq rfl) mem0 (by decide) (by decide) ?_
  rintro _ h16 _ K17 le18 ⟨b14, q15, rfl, rfl, p19, p20⟩
  have o_c_b14 : c ≠ b14 := Nat.ne_of_lt (Nat.lt_of_lt_of_le V_c.lt p19)
  have ge_b14 := Nat.le_trans le18 p19
  replace V_c := V_c.keep K17 nin0
  have V_b14 := p20
  change Go _ _ _ _ _ _ _ _ _ _ _ _ _ _ [b14] h16 1 516 4 #[.val (.ref c), .val (.int (0 : Int32)), .val (.int z), .unset, .unset] [(.ref b14)]
  refine Go.astore_n (pc' := 5) (Ls' := #[.val (.ref c), .val (.int (0 : Int32)), .val (.int z), .val (.ref b14), .unset]) d_jdk_52_method_14_4 rfl rfl rfl ?_
  refine Go.iconst (pc' := 6) d_jdk_52_method_14_5 rfl ic_0 ?_
  refine Go.istore (pc' := 8) (Ls' := #[.val (.ref c), .val (.int (0 : Int32)), .val (.int z), .val (.ref b14), .val (.int (0 : Int32))]) d_jdk_52_method_14_6 rfl rfl ?_
  refine m_tob_loop hw hs (kc := kc) hz hz0 hle (Nat.lt_of_le_of_lt hbig (by decide)) o_c_b14 (fun h' bs V hE => ?_) cs.length 0 _ _ (by omega) V_c V_b14 ⟨by rw [List.length_replicate, hz], fun j hj => absurd hj (by omega)⟩
  refine Go.aload_n (pc' := 33) d_jdk_52_method_14_32 rfl rfl rfl ?_
  exact Go.retA d_jdk_52_method_14_33 rfl rfl rfl (by decide) (by decide) [] sn0 ⟨b14, _, bs, rfl, rfl, ge_b14, V, hE⟩
abbrev R_m_ucmp : Room := { frames := 3, cells := 2, slots := 774, locals := 56 }
theorem pn_m_ucmp : plainFor (⟨"java/lang/StringUTF16", "compress", "([CII)[B"⟩ : MethodName) = true := by first | (refine plainFor_of_name ?_; simp [plainName, overriddenIn]; done) | decide +kernel
abbrev Q_m_ucmp (Z : State) (c : Addr) (kc : ClassId) (cs : List Int32) (zc : Int32) (z : Int32) (h0 : Heap) : Option Value → Heap → List Addr → Prop := fun res h' SN => ∃ (t : Addr) (kt : ClassId), res = some (.ref t) ∧ SN = [] ∧ h0.size ≤ t ∧ ((Arv Z h' t kt .byte z (cs.map lowV) (.int (0 : Int32)) ∧ ∀ x ∈ cs, ¬ 255 < x) ∨ (∃ bs : List Int32, Arv Z h' t kt .byte (z <<< ((1 : Int32) &&& 31)) (bs.map Value.int) (.int (0 : Int32)) ∧ Enc bs cs cs.length))
theorem ef_m_ucmp (mid : MethodId) (c : Addr) (kc : ClassId) (cs : List Int32) (zc : Int32) (z : Int32) : entryFrame mid #[(.ref c), (.int (0 : Int32)), (.int z)] 6 = mkF mid 0 #[.val (.ref c), .val (.int (0 : Int32)), .val (.int z), .unset, .unset, .unset] [] := by first | (simp [entryFrame, mkF, argsToLocals, Value.category]; done) | rfl
set_option maxRecDepth 65536 in
set_option maxHeartbeats 40000000 in
theorem m_ucmp {l : Launch} {Z : State} {a0 : Array Value} {n0 : Nat} (hw : ∀ d ∈ tables_1, d.before a0 Z = true) (hs : Stat Z) (c : Addr) (kc : ClassId) (cs : List Int32) (zc : Int32) (z : Int32) (h0 : Heap) (V_c : Arv Z h0 c kc .char zc (cs.map Value.int) (.int (0 : Int32))) (hz : z.toNatClampNeg = cs.length) (hz0 : ¬ z < 0) (hle : ¬ zc < z) (hbig : z.toNatClampNeg ≤ CAP) (h16 : ∀ x ∈ cs, ¬ x < 0 ∧ ¬ 65535 < x) :
    Met l Z EL0 n0 NR0 KN0 N_6 jdk_52_method_16_code 6 (Option.some (Jvm.ClassFile.FieldType.array Jvm.ClassFile.FieldType.byte)) R_m_ucmp [] #[(.ref c), (.int (0 : Int32)), (.int z)] h0 (Q_m_ucmp Z c kc cs zc z h0) := by
  refine Met.of_go pn_m_ucmp (fun mid => ef_m_ucmp mid c kc cs zc z ) ?_
  intro hO hWS
  have hl1 : z.toNatClampNeg < 1073741824 := Nat.lt_of_le_of_lt hbig (by decide)
  refine Go.iload_n (pc' := 1) d_jdk_52_method_16_0 rfl rfl ?_
  refine Go.newP (pc' := 3) (cap := CAP) (ad := "[B") d_jdk_52_method_16_1 rfl (w_20 hw) (by decide) hz0 hbig (by decide) (by decide) (by decide) ?_
  intro h1 b1 g1 ge_b1 k1 x1 V_b1 E_b1
  have o_c_b1 : c ≠ b1 := Nat.ne_of_lt (Nat.lt_of_lt_of_le V_c.lt (Nat.le_of_eq g1))
  replace V_c := V_c.ext x1
  replace V_b1 : Arv Z h1 b1 k1 .byte z (List.replicate cs.length (.int (0 : Int32))) (.int (0 : Int32)) := V_b1.pad (fun i => pad_rep [] _ cs.length i)
  change Go _ _ _ _ _ _ _ _ _ _ _ _ _ _ [b1] h1 1 258 3 #[.val (.ref c), .val (.int (0 : Int32)), .val (.int z), .unset, .unset, .unset] [(.ref b1)]
  refine Go.astore_n (pc' := 4) (Ls' := #[.val (.ref c), .val (.int (0 : Int32)), .val (.int z), .val (.ref b1), .unset, .unset]) d_jdk_52_method_16_3 rfl rfl rfl ?_
  refine Go.aload_n (pc' := 5) d_jdk_52_method_16_4 rfl rfl rfl ?_
  refine Go.iload_n (pc' := 6) d_jdk_52_method_16_5 rfl rfl ?_
  refine Go.aload_n (pc' := 7) d_jdk_52_method_16_6 rfl rfl rfl ?_
  refine Go.iconst (pc' := 8) d_jdk_52_method_16_7 rfl ic_0 ?_
  refine Go.iload_n (pc' := 9) d_jdk_52_method_16_8 rfl rfl ?_
  refine Go.callS (pc' := 12) (z := N_0) d_jdk_52_method_16_9 rfl (w_21 hw) (w_22 hw) (w_18 hw) (w_23 hw) (by decide) (argsL := [(.ref c), (.int (0 : Int32)), (.ref b1), (.int (0 : Int32)), (.int z)]) (rest := []) (Pays.of_met (W := 0) (len := 3) (m_ucl hw hs c b1 kc k1 cs zc z h1 V_c V_b1 (hz) (hle) o_c_b1) (w_23 hw) (w_18 hw) (by decide) (by decide)) rfl rfl (lenOf pd_3 rfl) rfl (Nat.le_of_eq rfl) (memS (List.mem_of_getElem? (i := 0) rfl) mem0) (by decide) (by decide) ?_
  rintro _ h23 _ K24 le25 ⟨i21, v22, rfl, rfl, p26, p27⟩
  replace V_c := V_c.keep K24 (ninS o_c_b1 nin0)
  have V_b1 := p26
  change Go _ _ _ _ _ _ _ _ _ _ _ _ _ _ [b1] h23 1 258 12 #[.val (.ref c), .val (.int (0 : Int32)), .val (.int z), .val (.ref b1), .unset, .unset] [(.int i21)]
  refine Go.istore (pc' := 14) (Ls' := #[.val (.ref c), .val (.int (0 : Int32)), .val (.int z), .val (.ref b1), .val (.int i21), .unset]) d_jdk_52_method_16_12 rfl rfl ?_
  refine Go.iload (pc' := 16) d_jdk_52_method_16_14 rfl rfl ?_
  refine Go.iload_n (pc' := 17) d_jdk_52_method_16_16 rfl rfl ?_
  rcases p27 with ⟨e1, e2, ha⟩ | ⟨r0, r1, r2⟩
  · skip
    rw [e2] at V_b1
    refine Go.icmpY (pc' := 57) d_jdk_52_method_16_17 (by decide) (by decide) (teq (e1 : i21 = z)).1 ?_
    refine Go.aload_n (pc' := 58) d_jdk_52_method_16_57 rfl rfl rfl ?_
    exact Go.retA d_jdk_52_method_16_58 rfl rfl rfl (by decide) (by decide) [] sn0 ⟨b1, _, rfl, rfl, ge_b1, Or.inl ⟨V_b1, ha⟩⟩
  · skip
    have rl := own_idx r0 r1
    refine Go.icmpN (pc' := 20) d_jdk_52_method_16_17 rfl (feq (fun e => own_lt_ne r1 e : ¬ (i21 = z))).1 ?_
    refine Go.aload_n (pc' := 21) d_jdk_52_method_16_20 rfl rfl rfl ?_
    refine Go.iload_n (pc' := 22) d_jdk_52_method_16_21 rfl rfl ?_
    refine Go.iload_n (pc' := 23) d_jdk_52_method_16_22 rfl rfl ?_
    refine Go.callS (pc' := 26) (z := N_5) d_jdk_52_method_16_23 rfl (w_132 hw) (w_133 hw) (w_18 hw) (w_134 hw) (by decide) (argsL := [(.ref c), (.int (0 : Int32)), (.int z)]) (rest := []) (Pays.of_met (W := 0) (len := 3) (m_tob hw hs c kc cs zc z h23 V_c (hz) (hz0) (hle) (hbig)) (w_134 hw) (w_18 hw) (by decide) (by decide)) rfl rfl (lenOf pd_4 rfl) rfl (Nat.le_of_eq rfl) mem0 (by decide) (by decide) ?_
    rintro _ h31 _ K32 le33 ⟨b28, q29, v30, rfl, rfl, p34, p35, p36⟩
    have o_c_b28 : c ≠ b28 := Nat.ne_of_lt (Nat.lt_of_lt_of_le V_c.lt p34)
    have o_b1_b28 : b1 ≠ b28 := Nat.ne_of_lt (Nat.lt_of_lt_of_le V_b1.lt p34)
    have ge_b28 := Nat.le_trans le33 p34
    replace V_c := V_c.keep K32 nin0
    replace V_b1 := V_b1.keep K32 nin0
    have V_b28 := p35
    change Go _ _ _ _ _ _ _ _ _ _ _ _ _ _ [b1] h31 2 774 26 #[.val (.ref c), .val (.int (0 : Int32)), .val (.int z), .val (.ref b1), .val (.int i21), .unset] [(.ref b28)]
    refine Go.astore (pc' := 28) (Ls' := #[.val (.ref c), .val (.int (0 : Int32)), .val (.int z), .val (.ref b1), .val (.int i21), .val (.ref b28)]) d_jdk_52_method_16_26 rfl rfl rfl ?_
    refine Go.aload (pc' := 30) d_jdk_52_method_16_28 rfl rfl rfl ?_
    refine Go.iload (pc' := 32) d_jdk_52_method_16_30 rfl rfl ?_
    have hl := p36.1
    have sz := own_shl1 hz0 hl1
    refine Go.callS (pc' := 35) (z := N_4) d_jdk_52_method_16_32 rfl (w_148 hw) (w_149 hw) (w_18 hw) (w_150 hw) (by decide) (argsL := [(.ref b28), (.int i21)]) (rest := []) (Pays.of_met (W := 0) (len := 3) (m_ugc hw hs b28 q29 (z <<< ((1 : Int32) &&& 31)) v30 i21 h31 V_b28 (r0) (by omega) (by rw [sz.2]; omega)) (w_150 hw) (w_18 hw) (by decide) (by decide)) rfl rfl (lenOf pd_5 rfl) rfl (Nat.le_of_eq rfl) mem0 (by decide) (by decide) ?_
    rintro _ _ _ - - ⟨rfl, rfl, rfl⟩
    change Go _ _ _ _ _ _ _ _ _ _ _ _ _ _ [b1] h31 2 774 35 #[.val (.ref c), .val (.int (0 : Int32)), .val (.int z), .val (.ref b1), .val (.int i21), .val (.ref b28)] [(.int (udec (v30.getD (2 * i21.toNatClampNeg) 0) (v30.getD (2 * i21.toNatClampNeg + 1) 0)))]
    rw [own_enc_at p36 (by omega) h16]
    refine Go.sipush (pc' := 38) d_jdk_52_method_16_35 rfl ics_255 ?_
    refine Go.icmpY (pc' := 54) d_jdk_52_method_16_38 (by decide) (by decide) (tlt (r2 : (255 : Int32) < (cs.getD i21.toNatClampNeg 0))).2.2.1 ?_
    refine Go.aload (pc' := 56) d_jdk_52_method_16_54 rfl rfl rfl ?_
    exact Go.retA d_jdk_52_method_16_56 rfl rfl rfl (by decide) (by decide) [] sn0 ⟨b28, _, rfl, rfl, ge_b28, Or.inr ⟨v30, V_b28, p36⟩⟩
abbrev R_m_cfl : Room := { frames := 0, cells := 0, slots := 0, locals := 0 }
theorem pn_m_cfl : plainFor (⟨"java/lang/StringUTF16", "coderFromArrayLen", "([BI)B"⟩ : MethodName) = true := by first | (refine plainFor_of_name ?_; simp [plainName, overriddenIn]; done) | decide +kernel
abbrev Q_m_cfl (Z : State) (t : Addr) (kt : ClassId) (z : Int32) (vs : List Value) (h0 : Heap) : Option Value → Heap → List Addr → Prop := fun res h' SN => res = some (.int (0 : Int32)) ∧ SN = [] ∧ h0 = h'
theorem ef_m_cfl (mid : MethodId) (t : Addr) (kt : ClassId) (z : Int32) (vs : List Value) : entryFrame mid #[(.ref t), (.int z)] 2 = mkF mid 0 #[.val (.ref t), .val (.int z)] [] := by first | (simp [entryFrame, mkF, argsToLocals, Value.category]; done) | rfl
set_option maxRecDepth 65536 in
set_option maxHeartbeats 40000000 in
theorem m_cfl {l : Launch} {Z : State} {a0 : Array Value} {n0 : Nat} (hw : ∀ d ∈ tables_1, d.before a0 Z = true) (hs : Stat Z) (t : Addr) (kt : ClassId) (z : Int32) (vs : List Value) (h0 : Heap) (V_t : Arv Z h0 t kt .byte z vs (.int (0 : Int32))) :
    Met l Z EL0 n0 NR0 KN0 N_7 jdk_52_method_15_code 2 (Option.some Jvm.ClassFile.FieldType.byte) R_m_cfl [] #[(.ref t), (.int z)] h0 (Q_m_cfl Z t kt z vs h0) := by
  refine Met.of_go pn_m_cfl (fun mid => ef_m_cfl mid t kt z vs ) ?_
  intro hO hWS
  refine Go.iload_n (pc' := 1) d_jdk_52_method_15_0 rfl rfl ?_
  refine Go.aload_n (pc' := 2) d_jdk_52_method_15_1 rfl rfl rfl ?_
  refine Go.lenV (pc' := 3) d_jdk_52_method_15_2 rfl V_t ?_
  refine Go.isub (pc' := 4) d_jdk_52_method_15_3 rfl ?_
  refine Go.bipush (pc' := 6) d_jdk_52_method_15_4 rfl icb_31 ?_
  refine Go.iushr (pc' := 7) d_jdk_52_method_15_6 rfl ?_
  refine Go.i2b (pc' := 8) d_jdk_52_method_15_7 rfl ?_
  rw [own_coder0]
  exact Go.retS (ty := .byte) d_jdk_52_method_15_8 rfl (by simp) rfl (by decide) (by decide) [] sn0 ⟨rfl, rfl, rfl⟩
abbrev R_m_cfl1 : Room := { frames := 0, cells := 0, slots := 0, locals := 0 }
theorem pn_m_cfl1 : plainFor (⟨"java/lang/StringUTF16", "coderFromArrayLen", "([BI)B"⟩ : MethodName) = true := by first | (refine plainFor_of_name ?_; simp [plainName, overriddenIn]; done) | decide +kernel
abbrev Q_m_cfl1 (Z : State) (t : Addr) (kt : ClassId) (z : Int32) (bs : List Int32) (h0 : Heap) : Option Value → Heap → List Addr → Prop := fun res h' SN => res = some (.int (1 : Int32)) ∧ SN = [] ∧ h0 = h'
theorem ef_m_cfl1 (mid : MethodId) (t : Addr) (kt : ClassId) (z : Int32) (bs : List Int32) : entryFrame mid #[(.ref t), (.int z)] 2 = mkF mid 0 #[.val (.ref t), .val (.int z)] [] := by first | (simp [entryFrame, mkF, argsToLocals, Value.category]; done) | rfl
set_option maxRecDepth 65536 in
set_option maxHeartbeats 40000000 in
theorem m_cfl1 {l : Launch} {Z : State} {a0 : Array Value} {n0 : Nat} (hw : ∀ d ∈ tables_1, d.before a0 Z = true) (hs : Stat Z) (t : Addr) (kt : ClassId) (z : Int32) (bs : List Int32) (h0 : Heap) (V_t : Arv Z h0 t kt .byte (z <<< ((1 : Int32) &&& 31)) (bs.map Value.int) (.int (0 : Int32))) (hz0 : ¬ z < 0) (hzn : ¬ z = 0) (hl1 : z.toNatClampNeg < 1073741824) :
    Met l Z EL0 n0 NR0 KN0 N_7 jdk_52_method_15_code 2 (Option.some Jvm.ClassFile.FieldType.byte) R_m_cfl1 [] #[(.ref t), (.int z)] h0 (Q_m_cfl1 Z t kt z bs h0) := by
  refine Met.of_go pn_m_cfl1 (fun mid => ef_m_cfl1 mid t kt z bs ) ?_
  intro hO hWS
  refine Go.iload_n (pc' := 1) d_jdk_52_method_15_0 rfl rfl ?_
  refine Go.aload_n (pc' := 2) d_jdk_52_method_15_1 rfl rfl rfl ?_
  refine Go.lenV (pc' := 3) d_jdk_52_method_15_2 rfl V_t ?_
  refine Go.isub (pc' := 4) d_jdk_52_method_15_3 rfl ?_
  refine Go.bipush (pc' := 6) d_jdk_52_method_15_4 rfl icb_31 ?_
  refine Go.iushr (pc' := 7) d_jdk_52_method_15_6 rfl ?_
  refine Go.i2b (pc' := 8) d_jdk_52_method_15_7 rfl ?_
  rw [own_coder1 hz0 hzn hl1]
  exact Go.retS (ty := .byte) d_jdk_52_method_15_8 rfl (by simp) rfl (by decide) (by decide) [] sn0 ⟨rfl, rfl, rfl⟩
abbrev R_m_ustr4 : Room := { frames := 4, cells := 2, slots := 774, locals := 73 }
theorem pn_m_ustr4 : plainFor (⟨"java/lang/String", "<init>", "([CIILjava/lang/Void;)V"⟩ : MethodName) = true := by first | (refine plainFor_of_name ?_; simp [plainName, overriddenIn]; done) | decide +kernel
abbrev Q_m_ustr4 (Z : State) (a : Addr) (c : Addr) (kc : ClassId) (cs : List Int32) (zc : Int32) (z : Int32) (h0 : Heap) : Option Value → Heap → List Addr → Prop := fun res h' SN => ∃ (t : Addr) (kt : ClassId), res = none ∧ SN = [] ∧ Exa Z h' a "java/lang/String" ∧ h0.size ≤ t ∧ (LatS Z h' a t kt z cs ∨ U16S Z h' a t kt z cs)
theorem ef_m_ustr4 (mid : MethodId) (a : Addr) (c : Addr) (kc : ClassId) (cs : List Int32) (zc : Int32) (z : Int32) : entryFrame mid #[(.ref a), (.ref c), (.int (0 : Int32)), (.int z), .null] 6 = mkF mid 0 #[.val (.ref a), .val (.ref c), .val (.int (0 : Int32)), .val (.int z), .val .null, .unset] [] := by first | (simp [entryFrame, mkF, argsToLocals, Value.category]; done) | rfl
set_option maxRecDepth 65536 in
set_option maxHeartbeats 40000000 in
theorem m_ustr4 {l : Launch} {Z : State} {a0 : Array Value} {n0 : Nat} (hw : ∀ d ∈ tables_1, d.before a0 Z = true) (hs : Stat Z) (a : Addr) (c : Addr) (kc : ClassId) (cs : List Int32) (zc : Int32) (z : Int32) (h0 : Heap) (E_a : Exa Z h0 a "java/lang/String") (F_a_coder : Fld Z h0 a "java/lang/String" "coder" "B" (.int (0 : Int32))) (F_a_value : Fld Z h0 a "java/lang/String" "value" "[B" .null) (V_c : Arv Z h0 c kc .char zc (cs.map Value.int) (.int (0 : Int32))) (hz : z.toNatClampNeg = cs.length) (hz0 : ¬ z < 0) (hle : ¬ zc < z) (hbig : z.toNatClampNeg ≤ CAP) (h16 : ∀ x ∈ cs, ¬ x < 0 ∧ ¬ 65535 < x) (hzn : ¬ z = 0) (ne_c_a : c ≠ a) :
    Met l Z EL0 n0 NR0 KN0 N_8 jdk_42_method_149_code 6 (Option.none : Option Jvm.ClassFile.FieldType) R_m_ustr4 [a] #[(.ref a), (.ref c), (.int (0 : Int32)), (.int z), .null] h0 (Q_m_ustr4 Z a c kc cs zc z h0) := by
  refine Met.of_go pn_m_ustr4 (fun mid => ef_m_ustr4 mid a c kc cs zc z ) ?_
  intro hO hWS
  obtain ⟨zc0, S_c, hzc⟩ := hs_c hs
  have hl1 : z.toNatClampNeg < 1073741824 := Nat.lt_of_le_of_lt hbig (by decide)
  refine Go.aload_n (pc' := 1) d_jdk_42_method_149_0 rfl rfl rfl ?_
  refine Go.initO (pc' := 4) (W := 0) d_jdk_42_method_149_1 rfl (w_12 hw) (w_13 hw) (w_14 hw) rfl (by decide) (Nat.le_of_eq rfl) (by decide) ?_
  refine Go.iload_n (pc' := 5) d_jdk_42_method_149_4 rfl rfl ?_
  refine Go.ifY (pc' := 27) d_jdk_42_method_149_5 (by decide) (by decide) ((if0 _ _).trans (feq (hzn : ¬ (z = (0 : Int32)))).2) ?_
  refine Go.getS (pc' := 30) d_jdk_42_method_149_27 rfl (host := "") (Or.inl (w_15 hw)) Via.refl S_c ?_
  refine Go.ifN (pc' := 33) d_jdk_42_method_149_30 rfl ((if0 _ _).trans (feq (hzc : ¬ (zc0 = (0 : Int32)))).1) ?_
  refine Go.aload_n (pc' := 34) d_jdk_42_method_149_33 rfl rfl rfl ?_
  refine Go.iload_n (pc' := 35) d_jdk_42_method_149_34 rfl rfl ?_
  refine Go.iload_n (pc' := 36) d_jdk_42_method_149_35 rfl rfl ?_
  refine Go.callS (pc' := 39) (z := N_6) d_jdk_42_method_149_36 rfl (w_16 hw) (w_17 hw) (w_18 hw) (w_19 hw) (by decide) (argsL := [(.ref c), (.int (0 : Int32)), (.int z)]) (rest := []) (Pays.of_met (W := 0) (len := 3) (m_ucmp hw hs c kc cs zc z h0 V_c (hz) (hz0) (hle) (hbig) (h16)) (w_19 hw) (w_18 hw) (by decide) (by decide)) rfl rfl (lenOf pd_4 rfl) rfl (Nat.le_of_eq rfl) mem0 (by decide) (by decide) ?_
  rintro _ h39 _ K40 le41 ⟨b37, q38, rfl, rfl, p42, p43⟩
  have o_a_b37 : a ≠ b37 := Nat.ne_of_lt (Nat.lt_of_lt_of_le E_a.lt p42)
  have o_c_b37 : c ≠ b37 := Nat.ne_of_lt (Nat.lt_of_lt_of_le V_c.lt p42)
  have ge_b37 := Nat.le_trans le41 p42
  replace E_a := E_a.keep K40
  replace F_a_coder := F_a_coder.keep K40 nin0
  replace F_a_value := F_a_value.keep K40 nin0
  replace V_c := V_c.keep K40 nin0
  change Go _ _ _ _ _ _ _ _ _ _ _ _ _ _ [a] h39 2 774 39 #[.val (.ref a), .val (.ref c), .val (.int (0 : Int32)), .val (.int z), .val .null, .unset] [(.ref b37)]
  rcases p43 with ⟨V_t, ha⟩ | ⟨bs, V_t, hE⟩
  · skip
    refine Go.astore (pc' := 41) (Ls' := #[.val (.ref a), .val (.ref c), .val (.int (0 : Int32)), .val (.int z), .val .null, .val (.ref b37)]) d_jdk_42_method_149_39 rfl rfl rfl ?_
    refine Go.aload_n (pc' := 42) d_jdk_42_method_149_41 rfl rfl rfl ?_
    refine Go.aload (pc' := 44) d_jdk_42_method_149_42 rfl rfl rfl ?_
    refine Go.iload_n (pc' := 45) d_jdk_42_method_149_44 rfl rfl ?_
    refine Go.callS (pc' := 48) (z := N_7) d_jdk_42_method_149_45 rfl (w_24 hw) (w_25 hw) (w_18 hw) (w_26 hw) (by decide) (argsL := [(.ref b37), (.int z)]) (rest := [(.ref a)]) (Pays.of_met (W := 1) (len := 3) (m_cfl hw hs b37 q38 z (cs.map lowV) h39 V_t) (w_26 hw) (w_18 hw) (by decide) (by decide)) rfl rfl (lenOf pd_6 rfl) rfl (Nat.le_of_eq rfl) mem0 (by decide) (by decide) ?_
    rintro _ _ _ - - ⟨rfl, rfl, rfl⟩
    change Go _ _ _ _ _ _ _ _ _ _ _ _ _ _ [a] h39 2 774 48 #[.val (.ref a), .val (.ref c), .val (.int (0 : Int32)), .val (.int z), .val .null, .val (.ref b37)] [(.int (0 : Int32)), (.ref a)]
    refine Go.putFN (pc' := 51) (v' := (.int (0 : Int32))) d_jdk_42_method_149_48 rfl (List.mem_of_getElem? (i := 0) rfl) (w_27 hw) Via.refl F_a_coder E_a (Or.inr ⟨(w_28 hw), rfl, rfl⟩) (w_3 hw) (ty := .byte) (by decide) rfl rfl ?_
    intro h44 W45
    replace F_a_coder := F_a_coder.same W45
    replace E_a := E_a.wr W45
    replace F_a_value := F_a_value.other W45 (Or.inr (slot_ne (Or.inr (w_30 hw)) (Or.inr (w_28 hw)) (by decide) (t := (.array .byte)) (t' := .byte) (by decide) (by decide)))
    replace V_c := V_c.other W45 ne_c_a
    replace V_t := V_t.other W45 (Ne.symm o_a_b37)
    change Go _ _ _ _ _ _ _ _ _ _ _ _ _ _ [a] h44 2 774 51 #[.val (.ref a), .val (.ref c), .val (.int (0 : Int32)), .val (.int z), .val .null, .val (.ref b37)] []
    refine Go.aload_n (pc' := 52) d_jdk_42_method_149_51 rfl rfl rfl ?_
    refine Go.aload (pc' := 54) d_jdk_42_method_149_52 rfl rfl rfl ?_
    refine Go.putF (pc' := 57) d_jdk_42_method_149_54 rfl (List.mem_of_getElem? (i := 0) rfl) (host := "") (Or.inl (w_29 hw)) Via.refl F_a_value E_a (Or.inr ⟨(w_30 hw), rfl, rfl⟩) (w_3 hw) (ty := (.array .byte)) (by decide) rfl rfl ?_
    intro h46 W47
    replace F_a_value := F_a_value.same W47
    replace E_a := E_a.wr W47
    replace V_c := V_c.other W47 ne_c_a
    replace V_t := V_t.other W47 (Ne.symm o_a_b37)
    replace F_a_coder := F_a_coder.other W47 (Or.inr (slot_ne (Or.inr (w_28 hw)) (Or.inr (w_30 hw)) (by decide) (t := .byte) (t' := (.array .byte)) (by decide) (by decide)))
    change Go _ _ _ _ _ _ _ _ _ _ _ _ _ _ [a] h46 2 774 57 #[.val (.ref a), .val (.ref c), .val (.int (0 : Int32)), .val (.int z), .val .null, .val (.ref b37)] []
    exact Go.retV d_jdk_42_method_149_57 rfl (by decide) (by decide) [] sn0 ⟨b37, _, rfl, rfl, E_a, ge_b37, Or.inl ⟨F_a_coder, F_a_value, V_t, ha⟩⟩
  · skip
    refine Go.astore (pc' := 41) (Ls' := #[.val (.ref a), .val (.ref c), .val (.int (0 : Int32)), .val (.int z), .val .null, .val (.ref b37)]) d_jdk_42_method_149_39 rfl rfl rfl ?_
    refine Go.aload_n (pc' := 42) d_jdk_42_method_149_41 rfl rfl rfl ?_
    refine Go.aload (pc' := 44) d_jdk_42_method_149_42 rfl rfl rfl ?_
    refine Go.iload_n (pc' := 45) d_jdk_42_method_149_44 rfl rfl ?_
    refine Go.callS (pc' := 48) (z := N_7) d_jdk_42_method_149_45 rfl (w_24 hw) (w_25 hw) (w_18 hw) (w_26 hw) (by decide) (argsL := [(.ref b37), (.int z)]) (rest := [(.ref a)]) (Pays.of_met (W := 1) (len := 3) (m_cfl1 hw hs b37 q38 z bs h39 V_t (hz0) (hzn) (hl1)) (w_26 hw) (w_18 hw) (by decide) (by decide)) rfl rfl (lenOf pd_6 rfl) rfl (Nat.le_of_eq rfl) mem0 (by decide) (by decide) ?_
    rintro _ _ _ - - ⟨rfl, rfl, rfl⟩
    change Go _ _ _ _ _ _ _ _ _ _ _ _ _ _ [a] h39 2 774 48 #[.val (.ref a), .val (.ref c), .val (.int (0 : Int32)), .val (.int z), .val .null, .val (.ref b37)] [(.int (1 : Int32)), (.ref a)]
    refine Go.putFN (pc' := 51) (v' := (.int (1 : Int32))) d_jdk_42_method_149_48 rfl (List.mem_of_getElem? (i := 0) rfl) (w_27 hw) Via.refl F_a_coder E_a (Or.inr ⟨(w_28 hw), rfl, rfl⟩) (w_3 hw) (ty := .byte) (by decide) rfl rfl ?_
    intro h48 W49
    replace F_a_coder := F_a_coder.same W49
    replace E_a := E_a.wr W49
    replace F_a_value := F_a_value.other W49 (Or.inr (slot_ne (Or.inr (w_30 hw)) (Or.inr (w_28 hw)) (by decide) (t := (.array .byte)) (t' := .byte) (by decide) (by decide)))
    replace V_c := V_c.other W49 ne_c_a
    replace V_t := V_t.other W49 (Ne.symm o_a_b37)
    change Go _ _ _ _ _ _ _ _ _ _ _ _ _ _ [a] h48 2 774 51 #[.val (.ref a), .val (.ref c), .val (.int (0 : Int32)), .val (.int z), .val .null, .val (.ref b37)] []
    refine Go.aload_n (pc' := 52) d_jdk_42_method_149_51 rfl rfl rfl ?_
    refine Go.aload (pc' := 54) d_jdk_42_method_149_52 rfl rfl rfl ?_
    refine Go.putF (pc' := 57) d_jdk_42_method_149_54 rfl (List.mem_of_getElem? (i := 0) rfl) (host := "") (Or.inl (w_29 hw)) Via.refl F_a_value E_a (Or.inr ⟨(w_30 hw), rfl, rfl⟩) (w_3 hw) (ty := (.array .byte)) (by decide) rfl rfl ?_
    intro h50 W51
    replace F_a_value := F_a_value.same W51
    replace E_a := E_a.wr W51
    replace V_c := V_c.other W51 ne_c_a
    replace V_t := V_t.other W51 (Ne.symm o_a_b37)
    replace F_a_coder := F_a_coder.other W51 (Or.inr (slot_ne (Or.inr (w_28 hw)) (Or.inr (w_30 hw)) (by decide) (t := .byte) (t' := (.array .byte)) (by decide) (by decide)))
    change Go _ _ _ _ _ _ _ _ _ _ _ _ _ _ [a] h50 2 774 57 #[.val (.ref a), .val (.ref c), .val (.int (0 : Int32)), .val (.int z), .val .null, .val (.ref b37)] []
    exact Go.retV d_jdk_42_method_149_57 rfl (by decide) (by decide) [] sn0 ⟨b37, _, rfl, rfl, E_a, ge_b37, Or.inr ⟨F_a_coder, F_a_value, bs, V_t, hE⟩⟩
abbrev R_m_ustr : Room := { frames := 5, cells := 2, slots := 774, locals := 90 }
theorem pn_m_ustr : plainFor (⟨"java/lang/String", "<init>", "([C)V"⟩ : MethodName) = true := by first | (refine plainFor_of_name ?_; simp [plainName, overriddenIn]; done) | decide +kernel
abbrev Q_m_ustr (Z : State) (a : Addr) (c : Addr) (kc : ClassId) (cs : List Int32) (z : Int32) (h0 : Heap) : Option Value → Heap → List Addr → Prop := fun res h' SN => ∃ (t : Addr) (kt : ClassId), res = none ∧ SN = [] ∧ Exa Z h' a "java/lang/String" ∧ h0.size ≤ t ∧ (LatS Z h' a t kt z cs ∨ U16S Z h' a t kt z cs)
theorem ef_m_ustr (mid : MethodId) (a : Addr) (c : Addr) (kc : ClassId) (cs : List Int32) (z : Int32) : entryFrame mid #[(.ref a), (.ref c)] 2 = mkF mid 0 #[.val (.ref a), .val (.ref c)] [] := by first | (simp [entryFrame, mkF, argsToLocals, Value.category]; done) | rfl
set_option maxRecDepth 65536 in
set_option maxHeartbeats 40000000 in
theorem m_ustr {l : Launch} {Z : State} {a0 : Array Value} {n0 : Nat} (hw : ∀ d ∈ tables_1, d.before a0 Z = true) (hs : Stat Z) (a : Addr) (c : Addr) (kc : ClassId) (cs : List Int32) (z : Int32) (h0 : Heap) (E_a : Exa Z h0 a "java/lang/String") (F_a_coder : Fld Z h0 a "java/lang/String" "coder" "B" (.int (0 : Int32))) (F_a_value : Fld Z h0 a "java/lang/String" "value" "[B" .null) (V_c : Arv Z h0 c kc .char z (cs.map Value.int) (.int (0 : Int32))) (hz : z.toNatClampNeg = cs.length) (hz0 : ¬ z < 0) (hbig : z.toNatClampNeg ≤ CAP) (h16 : ∀ x ∈ cs, ¬ x < 0 ∧ ¬ 65535 < x) (hzn : ¬ z = 0) (ne_c_a : c ≠ a) :
    Met l Z EL0 n0 NR0 KN0 N_9 jdk_42_method_3_code 2 (Option.none : Option Jvm.ClassFile.FieldType) R_m_ustr [a] #[(.ref a), (.ref c)] h0 (Q_m_ustr Z a c kc cs z h0) := by
  refine Met.of_go pn_m_ustr (fun mid => ef_m_ustr mid a c kc cs z ) ?_
  intro hO hWS
  have hle : ¬ z < z := own_lt_irr z
  refine Go.aload_n (pc' := 1) d_jdk_42_method_3_0 rfl rfl rfl ?_
  refine Go.aload_n (pc' := 2) d_jdk_42_method_3_1 rfl rfl rfl ?_
  refine Go.iconst (pc' := 3) d_jdk_42_method_3_2 rfl ic_0 ?_
  refine Go.aload_n (pc' := 4) d_jdk_42_method_3_3 rfl rfl rfl ?_
  refine Go.lenV (pc' := 5) d_jdk_42_method_3_4 rfl V_c ?_
  refine Go.aconst_null (pc' := 6) d_jdk_42_method_3_5 rfl ?_
  refine Go.callI (pc' := 9) (z := N_8) (a := a) d_jdk_42_method_3_6 rfl rfl (w_8 hw) (w_9 hw) (w_11 hw) (by decide) (argsL := [(.ref c), (.int (0 : Int32)), (.int z), .null]) (rest := []) (Pays.of_met (W := 0) (len := 3) (m_ustr4 hw hs a c kc cs z z h0 E_a F_a_coder F_a_value V_c (hz) (hz0) (hle) (hbig) (h16) (hzn) ne_c_a) (w_11 hw) (w_4 hw) (by decide) (by decide)) rfl rfl (lenOf pd_7 rfl) rfl (Nat.le_of_eq rfl) (memS (List.mem_of_getElem? (i := 0) rfl) mem0) (by decide) (by decide) ?_
  rintro _ h54 _ K55 le56 ⟨b52, q53, rfl, rfl, p57, p58, p59⟩
  have o_a_b52 : a ≠ b52 := Nat.ne_of_lt (Nat.lt_of_lt_of_le E_a.lt p58)
  have o_c_b52 : c ≠ b52 := Nat.ne_of_lt (Nat.lt_of_lt_of_le V_c.lt p58)
  have ge_b52 := Nat.le_trans le56 p58
  replace E_a := E_a.keep K55
  replace V_c := V_c.keep K55 (ninS ne_c_a nin0)
  change Go _ _ _ _ _ _ _ _ _ _ _ _ _ _ [a] h54 2 774 9 #[.val (.ref a), .val (.ref c)] []
  exact Go.retV d_jdk_42_method_3_9 rfl (by decide) (by decide) [] sn0 ⟨b52, _, rfl, rfl, E_a, ge_b52, p59⟩
abbrev R_m_fis : Room := { frames := 0, cells := 0, slots := 0, locals := 0 }
theorem pn_m_fis : plainFor (⟨"jdk/internal/util/Preconditions", "checkFromIndexSize", "(IIILjava/util/function/BiFunction;)I"⟩ : MethodName) = true := by first | (refine plainFor_of_name ?_; simp [plainName, overriddenIn]; done) | decide +kernel
abbrev Q_m_fis (Z : State) (z : Int32) (zc : Int32) (f : Value) (h0 : Heap) : Option Value → Heap → List Addr → Prop := fun res h' SN => res = some (.int (0 : Int32)) ∧ SN = [] ∧ h0 = h'
theorem ef_m_fis (mid : MethodId) (z : Int32) (zc : Int32) (f : Value) (hv_f : f.isRef = true) : entryFrame mid #[(.int (0 : Int32)), (.int z), (.int zc), f] 4 = mkF mid 0 #[.val (.int (0 : Int32)), .val (.int z), .val (.int zc), .val f] [] := by rcases ref_cases hv_f with rfl | ⟨_, rfl⟩ <;> first | (simp [entryFrame, mkF, argsToLocals, Value.category]; done) | rfl
set_option maxRecDepth 65536 in
set_option maxHeartbeats 40000000 in
theorem m_fis {l : Launch} {Z : State} {a0 : Array Value} {n0 : Nat} (hw : ∀ d ∈ tables_1, d.before a0 Z = true) (hs : Stat Z) (z : Int32) (zc : Int32) (f : Value) (h0 : Heap) (hv_f : f.isRef = true) (hz0 : ¬ z < 0) (hc0 : ¬ zc < 0) (hle : ¬ zc < z) :
    Met l Z EL0 n0 NR0 KN0 N_10 jdk_41_method_13_code 4 (Option.some Jvm.ClassFile.FieldType.int) R_m_fis [] #[(.int (0 : Int32)), (.int z), (.int zc), f] h0 (Q_m_fis Z z zc f h0) := by
  refine Met.of_go pn_m_fis (fun mid => ef_m_fis mid z zc f hv_f) ?_
  intro hO hWS
  refine Go.iload_n (pc' := 1) d_jdk_41_method_13_0 rfl rfl ?_
  refine Go.iload_n (pc' := 2) d_jdk_41_method_13_1 rfl rfl ?_
  refine Go.ior (pc' := 3) d_jdk_41_method_13_2 rfl ?_
  refine Go.iload_n (pc' := 4) d_jdk_41_method_13_3 rfl rfl ?_
  refine Go.ior (pc' := 5) d_jdk_41_method_13_4 rfl ?_
  refine Go.ifN (pc' := 8) d_jdk_41_method_13_5 rfl ((if0 _ _).trans (flt (own_or3 hz0 hc0 : ¬ (((zc ||| (0 : Int32)) ||| z) < (0 : Int32)))).1) ?_
  refine Go.iload_n (pc' := 9) d_jdk_41_method_13_8 rfl rfl ?_
  refine Go.iload_n (pc' := 10) d_jdk_41_method_13_9 rfl rfl ?_
  refine Go.iload_n (pc' := 11) d_jdk_41_method_13_10 rfl rfl ?_
  refine Go.isub (pc' := 12) d_jdk_41_method_13_11 rfl ?_
  rw [own_sub0]
  refine Go.icmpY (pc' := 23) d_jdk_41_method_13_12 (by decide) (by decide) (flt (hle : ¬ (zc < z))).2.2.2 ?_
  refine Go.iload_n (pc' := 24) d_jdk_41_method_13_23 rfl rfl ?_
  exact Go.retI d_jdk_41_method_13_24 rfl (by decide) (by decide) [] sn0 ⟨rfl, rfl, rfl⟩
abbrev R_m_boc : Room := { frames := 1, cells := 0, slots := 0, locals := 15 }
theorem pn_m_boc : plainFor (⟨"java/lang/String", "checkBoundsOffCount", "(III)I"⟩ : MethodName) = true := by first | (refine plainFor_of_name ?_; simp [plainName, overriddenIn]; done) | decide +kernel
abbrev Q_m_boc (Z : State) (z : Int32) (zc : Int32) (h0 : Heap) : Option Value → Heap → List Addr → Prop := fun res h' SN => res = some (.int (0 : Int32)) ∧ SN = [] ∧ h0 = h'
theorem ef_m_boc (mid : MethodId) (z : Int32) (zc : Int32) : entryFrame mid #[(.int (0 : Int32)), (.int z), (.int zc)] 3 = mkF mid 0 #[.val (.int (0 : Int32)), .val (.int z), .val (.int zc)] [] := by first | (simp [entryFrame, mkF, argsToLocals, Value.category]; done) | rfl
set_option maxRecDepth 65536 in
set_option maxHeartbeats 40000000 in
theorem m_boc {l : Launch} {Z : State} {a0 : Array Value} {n0 : Nat} (hw : ∀ d ∈ tables_1, d.before a0 Z = true) (hs : Stat Z) (z : Int32) (zc : Int32) (h0 : Heap) (hz0 : ¬ z < 0) (hc0 : ¬ zc < 0) (hle : ¬ zc < z) :
    Met l Z EL0 n0 NR0 KN0 N_11 jdk_42_method_157_code 3 (Option.some Jvm.ClassFile.FieldType.int) R_m_boc [] #[(.int (0 : Int32)), (.int z), (.int zc)] h0 (Q_m_boc Z z zc h0) := by
  refine Met.of_go pn_m_boc (fun mid => ef_m_boc mid z zc ) ?_
  intro hO hWS
  obtain ⟨fm, S_f, hv_fm⟩ := hs_f hs
  refine Go.iload_n (pc' := 1) d_jdk_42_method_157_0 rfl rfl ?_
  refine Go.iload_n (pc' := 2) d_jdk_42_method_157_1 rfl rfl ?_
  refine Go.iload_n (pc' := 3) d_jdk_42_method_157_2 rfl rfl ?_
  refine Go.getS (pc' := 6) d_jdk_42_method_157_3 rfl (host := "") (Or.inl (w_72 hw)) Via.refl S_f ?_
  refine Go.callS (pc' := 9) (z := N_10) d_jdk_42_method_157_6 rfl (w_80 hw) (w_81 hw) (w_73 hw) (w_82 hw) (by decide) (argsL := [(.int (0 : Int32)), (.int z), (.int zc), fm]) (rest := []) (Pays.of_met (W := 0) (len := 3) (m_fis hw hs z zc fm h0 hv_fm (hz0) (hc0) (hle)) (w_82 hw) (w_73 hw) (by decide) (by decide)) rfl rfl (lenOf pd_8 rfl) rfl (Nat.le_of_eq rfl) mem0 (by decide) (by decide) ?_
  rintro _ _ _ - - ⟨rfl, rfl, rfl⟩
  change Go _ _ _ _ _ _ _ _ _ _ _ _ _ _ [] h0 0 0 9 #[.val (.int (0 : Int32)), .val (.int z), .val (.int zc)] [(.int (0 : Int32))]
  exact Go.retI d_jdk_42_method_157_9 rfl (by decide) (by decide) [] sn0 ⟨rfl, rfl, rfl⟩
abbrev R_m_rch : Room := { frames := 2, cells := 0, slots := 0, locals := 29 }
theorem pn_m_rch : plainFor (⟨"java/lang/String", "rangeCheck", "([CII)Ljava/lang/Void;"⟩ : MethodName) = true := by first | (refine plainFor_of_name ?_; simp [plainName, overriddenIn]; done) | decide +kernel
abbrev Q_m_rch (Z : State) (c : Addr) (kc : ClassId) (cs : List Int32) (zc : Int32) (z : Int32) (h0 : Heap) : Option Value → Heap → List Addr → Prop := fun res h' SN => res = some .null ∧ SN = [] ∧ h0 = h'
theorem ef_m_rch (mid : MethodId) (c : Addr) (kc : ClassId) (cs : List Int32) (zc : Int32) (z : Int32) : entryFrame mid #[(.ref c), (.int (0 : Int32)), (.int z)] 3 = mkF mid 0 #[.val (.ref c), .val (.int (0 : Int32)), .val (.int z)] [] := by first | (simp [entryFrame, mkF, argsToLocals, Value.category]; done) | rfl
set_option maxRecDepth 65536 in
set_option maxHeartbeats 40000000 in
theorem m_rch {l : Launch} {Z : State} {a0 : Array Value} {n0 : Nat} (hw : ∀ d ∈ tables_1, d.before a0 Z = true) (hs : Stat Z) (c : Addr) (kc : ClassId) (cs : List Int32) (zc : Int32) (z : Int32) (h0 : Heap) (V_c : Arv Z h0 c kc .char zc (cs.map Value.int) (.int (0 : Int32))) (hz0 : ¬ z < 0) (hle : ¬ zc < z) :
    Met l Z EL0 n0 NR0 KN0 N_12 jdk_42_method_5_code 3 (Option.some (Jvm.ClassFile.FieldType.object "java/lang/Void")) R_m_rch [] #[(.ref c), (.int (0 : Int32)), (.int z)] h0 (Q_m_rch Z c kc cs zc z h0) := by
  refine Met.of_go pn_m_rch (fun mid => ef_m_rch mid c kc cs zc z ) ?_
  intro hO hWS
  have hc0 := arv_nn V_c
  refine Go.iload_n (pc' := 1) d_jdk_42_method_5_0 rfl rfl ?_
  refine Go.iload_n (pc' := 2) d_jdk_42_method_5_1 rfl rfl ?_
  refine Go.aload_n (pc' := 3) d_jdk_42_method_5_2 rfl rfl rfl ?_
  refine Go.lenV (pc' := 4) d_jdk_42_method_5_3 rfl V_c ?_
  refine Go.callS (pc' := 7) (z := N_11) d_jdk_42_method_5_4 rfl (w_77 hw) (w_78 hw) (w_4 hw) (w_79 hw) (by decide) (argsL := [(.int (0 : Int32)), (.int z), (.int zc)]) (rest := []) (Pays.of_met (W := 0) (len := 3) (m_boc hw hs z zc h0 (hz0) (hc0) (hle)) (w_79 hw) (w_4 hw) (by decide) (by decide)) rfl rfl (lenOf pd_9 rfl) rfl (Nat.le_of_eq rfl) mem0 (by decide) (by decide) ?_
  rintro _ _ _ - - ⟨rfl, rfl, rfl⟩
  change Go _ _ _ _ _ _ _ _ _ _ _ _ _ _ [] h0 0 0 7 #[.val (.ref c), .val (.int (0 : Int32)), .val (.int z)] [(.int (0 : Int32))]
  refine Go.pop (pc' := 8) d_jdk_42_method_5_7 rfl rfl ?_
  refine Go.aconst_null (pc' := 9) d_jdk_42_method_5_8 rfl ?_
  exact Go.retA d_jdk_42_method_5_9 rfl rfl rfl (by decide) (by decide) [] sn0 ⟨rfl, rfl, rfl⟩
abbrev R_m_ustr3 : Room := { frames := 5, cells := 2, slots := 774, locals := 90 }
theorem pn_m_ustr3 : plainFor (⟨"java/lang/String", "<init>", "([CII)V"⟩ : MethodName) = true := by first | (refine plainFor_of_name ?_; simp [plainName, overriddenIn]; done) | decide +kernel
abbrev Q_m_ustr3 (Z : State) (a : Addr) (c : Addr) (kc : ClassId) (cs : List Int32) (zc : Int32) (z : Int32) (h0 : Heap) : Option Value → Heap → List Addr → Prop := fun res h' SN => ∃ (t : Addr) (kt : ClassId), res = none ∧ SN = [] ∧ Exa Z h' a "java/lang/String" ∧ h0.size ≤ t ∧ (LatS Z h' a t kt z cs ∨ U16S Z h' a t kt z cs)
theorem ef_m_ustr3 (mid : MethodId) (a : Addr) (c : Addr) (kc : ClassId) (cs : List Int32) (zc : Int32) (z : Int32) : entryFrame mid #[(.ref a), (.ref c), (.int (0 : Int32)), (.int z)] 4 = mkF mid 0 #[.val (.ref a), .val (.ref c), .val (.int (0 : Int32)), .val (.int z)] [] := by first | (simp [entryFrame, mkF, argsToLocals, Value.category]; done) | rfl
set_option maxRecDepth 65536 in
set_option maxHeartbeats 40000000 in
theorem m_ustr3 {l : Launch} {Z : State} {a0 : Array Value} {n0 : Nat} (hw : ∀ d ∈ tables_1, d.before a0 Z = true) (hs : Stat Z) (a : Addr) (c : Addr) (kc : ClassId) (cs : List Int32) (zc : Int32) (z : Int32) (h0 : Heap) (E_a : Exa Z h0 a "java/lang/String") (F_a_coder : Fld Z h0 a "java/lang/String" "coder" "B" (.int (0 : Int32))) (F_a_value : Fld Z h0 a "java/lang/String" "value" "[B" .null) (V_c : Arv Z h0 c kc .char zc (cs.map Value.int) (.int (0 : Int32))) (hz : z.toNatClampNeg = cs.length) (hz0 : ¬ z < 0) (hle : ¬ zc < z) (hbig : z.toNatClampNeg ≤ CAP) (h16 : ∀ x ∈ cs, ¬ x < 0 ∧ ¬ 65535 < x) (hzn : ¬ z = 0) (ne_c_a : c ≠ a) :
    Met l Z EL0 n0 NR0 KN0 N_13 jdk_42_method_4_code 4 (Option.none : Option Jvm.ClassFile.FieldType) R_m_ustr3 [a] #[(.ref a), (.ref c), (.int (0 : Int32)), (.int z)] h0 (Q_m_ustr3 Z a c kc cs zc z h0) := by
  refine Met.of_go pn_m_ustr3 (fun mid => ef_m_ustr3 mid a c kc cs zc z ) ?_
  intro hO hWS
  refine Go.aload_n (pc' := 1) d_jdk_42_method_4_0 rfl rfl rfl ?_
  refine Go.aload_n (pc' := 2) d_jdk_42_method_4_1 rfl rfl rfl ?_
  refine Go.iload_n (pc' := 3) d_jdk_42_method_4_2 rfl rfl ?_
  refine Go.iload_n (pc' := 4) d_jdk_42_method_4_3 rfl rfl ?_
  refine Go.aload_n (pc' := 5) d_jdk_42_method_4_4 rfl rfl rfl ?_
  refine Go.iload_n (pc' := 6) d_jdk_42_method_4_5 rfl rfl ?_
  refine Go.iload_n (pc' := 7) d_jdk_42_method_4_6 rfl rfl ?_
  refine Go.callS (pc' := 10) (z := N_12) d_jdk_42_method_4_7 rfl (w_114 hw) (w_115 hw) (w_4 hw) (w_116 hw) (by decide) (argsL := [(.ref c), (.int (0 : Int32)), (.int z)]) (rest := [(.int z), (.int (0 : Int32)), (.ref c), (.ref a)]) (Pays.of_met (W := 4) (len := 3) (m_rch hw hs c kc cs zc z h0 V_c (hz0) (hle)) (w_116 hw) (w_4 hw) (by decide) (by decide)) rfl rfl (lenOf pd_10 rfl) rfl (Nat.le_of_eq rfl) mem0 (by decide) (by decide) ?_
  rintro _ _ _ - - ⟨rfl, rfl, rfl⟩
  change Go _ _ _ _ _ _ _ _ _ _ _ _ _ _ [a] h0 0 0 10 #[.val (.ref a), .val (.ref c), .val (.int (0 : Int32)), .val (.int z)] [.null, (.int z), (.int (0 : Int32)), (.ref c), (.ref a)]
  refine Go.callI (pc' := 13) (z := N_8) (a := a) d_jdk_42_method_4_10 rfl rfl (w_8 hw) (w_9 hw) (w_11 hw) (by decide) (argsL := [(.ref c), (.int (0 : Int32)), (.int z), .null]) (rest := []) (Pays.of_met (W := 0) (len := 3) (m_ustr4 hw hs a c kc cs zc z h0 E_a F_a_coder F_a_value V_c (hz) (hz0) (hle) (hbig) (h16) (hzn) ne_c_a) (w_11 hw) (w_4 hw) (by decide) (by decide)) rfl rfl (lenOf pd_7 rfl) rfl (Nat.le_of_eq rfl) (memS (List.mem_of_getElem? (i := 0) rfl) mem0) (by decide) (by decide) ?_
  rintro _ h62 _ K63 le64 ⟨b60, q61, rfl, rfl, p65, p66, p67⟩
  have o_a_b60 : a ≠ b60 := Nat.ne_of_lt (Nat.lt_of_lt_of_le E_a.lt p66)
  have o_c_b60 : c ≠ b60 := Nat.ne_of_lt (Nat.lt_of_lt_of_le V_c.lt p66)
  have ge_b60 := Nat.le_trans le64 p66
  replace E_a := E_a.keep K63
  replace V_c := V_c.keep K63 (ninS ne_c_a nin0)
  change Go _ _ _ _ _ _ _ _ _ _ _ _ _ _ [a] h62 2 774 13 #[.val (.ref a), .val (.ref c), .val (.int (0 : Int32)), .val (.int z)] []
  exact Go.retV d_jdk_42_method_4_13 rfl (by decide) (by decide) [] sn0 ⟨b60, _, rfl, rfl, E_a, ge_b60, p67⟩
abbrev R_m_coder : Room := { frames := 0, cells := 0, slots := 0, locals := 0 }
theorem pn_m_coder : plainFor (⟨"java/lang/String", "coder", "()B"⟩ : MethodName) = true := by first | (refine plainFor_of_name ?_; simp [plainName, overriddenIn]; done) | decide +kernel
abbrev Q_m_coder (Z : State) (a : Addr) (h0 : Heap) : Option Value → Heap → List Addr → Prop := fun res h' SN => res = some (.int (0 : Int32)) ∧ SN = [] ∧ h0 = h'
theorem ef_m_coder (mid : MethodId) (a : Addr) : entryFrame mid #[(.ref a)] 1 = mkF mid 0 #[.val (.ref a)] [] := by first | (simp [entryFrame, mkF, argsToLocals, Value.category]; done) | rfl
set_option maxRecDepth 65536 in
set_option maxHeartbeats 40000000 in
theorem m_coder {l : Launch} {Z : State} {a0 : Array Value} {n0 : Nat} (hw : ∀ d ∈ tables_1, d.before a0 Z = true) (hs : Stat Z) (a : Addr) (h0 : Heap) (F_a_coder : Fld Z h0 a "java/lang/String" "coder" "B" (.int (0 : Int32))) :
    Met l Z EL0 n0 NR0 KN0 N_14 jdk_42_method_152_code 1 (Option.some Jvm.ClassFile.FieldType.byte) R_m_coder [] #[(.ref a)] h0 (Q_m_coder Z a h0) := by
  refine Met.of_go pn_m_coder (fun mid => ef_m_coder mid a ) ?_
  intro hO hWS
  obtain ⟨zc, S_c, hzc⟩ := hs_c hs
  refine Go.getS (pc' := 3) d_jdk_42_method_152_0 rfl (host := "") (Or.inl (w_15 hw)) Via.refl S_c ?_
  refine Go.ifN (pc' := 6) d_jdk_42_method_152_3 rfl ((if0 _ _).trans (feq (hzc : ¬ (zc = (0 : Int32)))).1) ?_
  refine Go.aload_n (pc' := 7) d_jdk_42_method_152_6 rfl rfl rfl ?_
  refine Go.getF (pc' := 10) d_jdk_42_method_152_7 rfl (host := "") (Or.inl (w_27 hw)) Via.refl F_a_coder ?_
  refine Go.goto (pc' := 14) d_jdk_42_method_152_10 (by decide) (by decide) ?_
  exact Go.retS (ty := .byte) d_jdk_42_method_152_14 rfl (by simp) rfl (by decide) (by decide) [] sn0 ⟨rfl, rfl, rfl⟩
abbrev R_m_isL : Room := { frames := 0, cells := 0, slots := 0, locals := 0 }
theorem pn_m_isL : plainFor (⟨"java/lang/String", "isLatin1", "()Z"⟩ : MethodName) = true := by first | (refine plainFor_of_name ?_; simp [plainName, overriddenIn]; done) | decide +kernel
abbrev Q_m_isL (Z : State) (a : Addr) (h0 : Heap) : Option Value → Heap → List Addr → Prop := fun res h' SN => res = some (.int (1 : Int32)) ∧ SN = [] ∧ h0 = h'
theorem ef_m_isL (mid : MethodId) (a : Addr) : entryFrame mid #[(.ref a)] 1 = mkF mid 0 #[.val (.ref a)] [] := by first | (simp [entryFrame, mkF, argsToLocals, Value.category]; done) | rfl
set_option maxRecDepth 65536 in
set_option maxHeartbeats 40000000 in
theorem m_isL {l : Launch} {Z : State} {a0 : Array Value} {n0 : Nat} (hw : ∀ d ∈ tables_1, d.before a0 Z = true) (hs : Stat Z) (a : Addr) (h0 : Heap) (F_a_coder : Fld Z h0 a "java/lang/String" "coder" "B" (.int (0 : Int32))) :
    Met l Z EL0 n0 NR0 KN0 N_15 jdk_42_method_154_code 1 (Option.some Jvm.ClassFile.FieldType.boolean) R_m_isL [] #[(.ref a)] h0 (Q_m_isL Z a h0) := by
  refine Met.of_go pn_m_isL (fun mid => ef_m_isL mid a ) ?_
  intro hO hWS
  obtain ⟨zc, S_c, hzc⟩ := hs_c hs
  refine Go.getS (pc' := 3) d_jdk_42_method_154_0 rfl (host := "") (Or.inl (w_15 hw)) Via.refl S_c ?_
  refine Go.ifN (pc' := 6) d_jdk_42_method_154_3 rfl ((if0 _ _).trans (feq (hzc : ¬ (zc = (0 : Int32)))).1) ?_
  refine Go.aload_n (pc' := 7) d_jdk_42_method_154_6 rfl rfl rfl ?_
  refine Go.getF (pc' := 10) d_jdk_42_method_154_7 rfl (host := "") (Or.inl (w_27 hw)) Via.refl F_a_coder ?_
  refine Go.ifN (pc' := 13) d_jdk_42_method_154_10 rfl ((if0 _ _).trans (teq (rfl : (0 : Int32) = (0 : Int32))).2) ?_
  refine Go.iconst (pc' := 14) d_jdk_42_method_154_13 rfl ic_1 ?_
  refine Go.goto (pc' := 18) d_jdk_42_method_154_14 (by decide) (by decide) ?_
  exact Go.retS (ty := .boolean) d_jdk_42_method_154_18 rfl (by simp) rfl (by decide) (by decide) [] sn0 ⟨rfl, rfl, rfl⟩
abbrev R_m_length : Room := { frames := 1, cells := 0, slots := 0, locals := 13 }
theorem pn_m_length : plainFor (⟨"java/lang/String", "length", "()I"⟩ : MethodName) = true := by first | (refine plainFor_of_name ?_; simp [plainName, overriddenIn]; done) | decide +kernel
abbrev Q_m_length (Z : State) (a : Addr) (t : Addr) (kt : ClassId) (z : Int32) (vs : List Value) (h0 : Heap) : Option Value → Heap → List Addr → Prop := fun res h' SN => res = some (.int z) ∧ SN = [] ∧ h0 = h'
theorem ef_m_length (mid : MethodId) (a : Addr) (t : Addr) (kt : ClassId) (z : Int32) (vs : List Value) : entryFrame mid #[(.ref a)] 1 = mkF mid 0 #[.val (.ref a)] [] := by first | (simp [entryFrame, mkF, argsToLocals, Value.category]; done) | rfl
set_option maxRecDepth 65536 in
set_option maxHeartbeats 40000000 in
theorem m_length {l : Launch} {Z : State} {a0 : Array Value} {n0 : Nat} (hw : ∀ d ∈ tables_1, d.before a0 Z = true) (hs : Stat Z) (a : Addr) (t : Addr) (kt : ClassId) (z : Int32) (vs : List Value) (h0 : Heap) (E_a : Exa Z h0 a "java/lang/String") (F_a_coder : Fld Z h0 a "java/lang/String" "coder" "B" (.int (0 : Int32))) (F_a_value : Fld Z h0 a "java/lang/String" "value" "[B" (.ref t)) (V_t : Arv Z h0 t kt .byte z vs (.int (0 : Int32))) :
    Met l Z EL0 n0 NR0 KN0 N_16 jdk_42_method_54_code 1 (Option.some Jvm.ClassFile.FieldType.int) R_m_length [] #[(.ref a)] h0 (Q_m_length Z a t kt z vs h0) := by
  refine Met.of_go pn_m_length (fun mid => ef_m_length mid a t kt z vs ) ?_
  intro hO hWS
  refine Go.aload_n (pc' := 1) d_jdk_42_method_54_0 rfl rfl rfl ?_
  refine Go.getF (pc' := 4) d_jdk_42_method_54_1 rfl (host := "") (Or.inl (w_29 hw)) Via.refl F_a_value ?_
  refine Go.lenV (pc' := 5) d_jdk_42_method_54_4 rfl V_t ?_
  refine Go.aload_n (pc' := 6) d_jdk_42_method_54_5 rfl rfl rfl ?_
  refine Go.callV (pc' := 9) (u := N_14) (z := N_14) (a := a) d_jdk_42_method_54_6 rfl (w_64 hw) (w_65 hw) (nf (w_67 hw) rfl) (w_67 hw) (w_66 hw) (by decide) E_a (argsL := []) (rest := [(.int z)]) (Pays.of_met (W := 1) (len := 3) (m_coder hw hs a h0 F_a_coder) (w_68 hw) (w_4 hw) (by decide) (by decide)) rfl rfl (lenOf pd_11 rfl) rfl (Nat.le_of_eq rfl) mem0 (by decide) (by decide) ?_
  rintro _ _ _ - - ⟨rfl, rfl, rfl⟩
  change Go _ _ _ _ _ _ _ _ _ _ _ _ _ _ [] h0 0 0 9 #[.val (.ref a)] [(.int (0 : Int32)), (.int z)]
  refine Go.ishr (pc' := 10) d_jdk_42_method_54_9 rfl ?_
  rw [shr0]
  exact Go.retI d_jdk_42_method_54_10 rfl (by decide) (by decide) [] sn0 ⟨rfl, rfl, rfl⟩
abbrev R_m_pre : Room := { frames := 0, cells := 0, slots := 0, locals := 0 }
theorem pn_m_pre : plainFor (⟨"jdk/internal/util/Preconditions", "checkIndex", "(IILjava/util/function/BiFunction;)I"⟩ : MethodName) = true := by first | (refine plainFor_of_name ?_; simp [plainName, overriddenIn]; done) | decide +kernel
abbrev Q_m_pre (Z : State) (j : Int32) (z : Int32) (f : Value) (h0 : Heap) : Option Value → Heap → List Addr → Prop := fun res h' SN => res = some (.int j) ∧ SN = [] ∧ h0 = h'
theorem ef_m_pre (mid : MethodId) (j : Int32) (z : Int32) (f : Value) (hv_f : f.isRef = true) : entryFrame mid #[(.int j), (.int z), f] 3 = mkF mid 0 #[.val (.int j), .val (.int z), .val f] [] := by rcases ref_cases hv_f with rfl | ⟨_, rfl⟩ <;> first | (simp [entryFrame, mkF, argsToLocals, Value.category]; done) | rfl
set_option maxRecDepth 65536 in
set_option maxHeartbeats 40000000 in
theorem m_pre {l : Launch} {Z : State} {a0 : Array Value} {n0 : Nat} (hw : ∀ d ∈ tables_1, d.before a0 Z = true) (hs : Stat Z) (j : Int32) (z : Int32) (f : Value) (h0 : Heap) (hv_f : f.isRef = true) (hj : ¬ j < 0 ∧ j < z) :
    Met l Z EL0 n0 NR0 KN0 N_17 jdk_41_method_11_code 3 (Option.some Jvm.ClassFile.FieldType.int) R_m_pre [] #[(.int j), (.int z), f] h0 (Q_m_pre Z j z f h0) := by
  refine Met.of_go pn_m_pre (fun mid => ef_m_pre mid j z f hv_f) ?_
  intro hO hWS
  refine Go.iload_n (pc' := 1) d_jdk_41_method_11_0 rfl rfl ?_
  refine Go.ifN (pc' := 4) d_jdk_41_method_11_1 rfl ((if0 _ _).trans (flt (hj.1 : ¬ (j < (0 : Int32)))).1) ?_
  refine Go.iload_n (pc' := 5) d_jdk_41_method_11_4 rfl rfl ?_
  refine Go.iload_n (pc' := 6) d_jdk_41_method_11_5 rfl rfl ?_
  refine Go.icmpY (pc' := 16) d_jdk_41_method_11_6 (by decide) (by decide) (tlt (hj.2 : j < z)).1 ?_
  refine Go.iload_n (pc' := 17) d_jdk_41_method_11_16 rfl rfl ?_
  exact Go.retI d_jdk_41_method_11_17 rfl (by decide) (by decide) [] sn0 ⟨rfl, rfl, rfl⟩
abbrev R_m_chk : Room := { frames := 1, cells := 0, slots := 0, locals := 14 }
theorem pn_m_chk : plainFor (⟨"java/lang/String", "checkIndex", "(II)V"⟩ : MethodName) = true := by first | (refine plainFor_of_name ?_; simp [plainName, overriddenIn]; done) | decide +kernel
abbrev Q_m_chk (Z : State) (j : Int32) (z : Int32) (h0 : Heap) : Option Value → Heap → List Addr → Prop := fun res h' SN => res = none ∧ SN = [] ∧ h0 = h'
theorem ef_m_chk (mid : MethodId) (j : Int32) (z : Int32) : entryFrame mid #[(.int j), (.int z)] 2 = mkF mid 0 #[.val (.int j), .val (.int z)] [] := by first | (simp [entryFrame, mkF, argsToLocals, Value.category]; done) | rfl
set_option maxRecDepth 65536 in
set_option maxHeartbeats 40000000 in
theorem m_chk {l : Launch} {Z : State} {a0 : Array Value} {n0 : Nat} (hw : ∀ d ∈ tables_1, d.before a0 Z = true) (hs : Stat Z) (j : Int32) (z : Int32) (h0 : Heap) (hj : ¬ j < 0 ∧ j < z) :
    Met l Z EL0 n0 NR0 KN0 N_18 jdk_42_method_155_code 2 (Option.none : Option Jvm.ClassFile.FieldType) R_m_chk [] #[(.int j), (.int z)] h0 (Q_m_chk Z j z h0) := by
  refine Met.of_go pn_m_chk (fun mid => ef_m_chk mid j z ) ?_
  intro hO hWS
  obtain ⟨fm, S_f, hv_fm⟩ := hs_f hs
  refine Go.iload_n (pc' := 1) d_jdk_42_method_155_0 rfl rfl ?_
  refine Go.iload_n (pc' := 2) d_jdk_42_method_155_1 rfl rfl ?_
  refine Go.getS (pc' := 5) d_jdk_42_method_155_2 rfl (host := "") (Or.inl (w_72 hw)) Via.refl S_f ?_
  refine Go.callS (pc' := 8) (z := N_17) d_jdk_42_method_155_5 rfl (w_129 hw) (w_130 hw) (w_73 hw) (w_131 hw) (by decide) (argsL := [(.int j), (.int z), fm]) (rest := []) (Pays.of_met (W := 0) (len := 3) (m_pre hw hs j z fm h0 hv_fm (hj)) (w_131 hw) (w_73 hw) (by decide) (by decide)) rfl rfl (lenOf pd_12 rfl) rfl (Nat.le_of_eq rfl) mem0 (by decide) (by decide) ?_
  rintro _ _ _ - - ⟨rfl, rfl, rfl⟩
  change Go _ _ _ _ _ _ _ _ _ _ _ _ _ _ [] h0 0 0 8 #[.val (.int j), .val (.int z)] [(.int j)]
  refine Go.pop (pc' := 9) d_jdk_42_method_155_8 rfl rfl ?_
  exact Go.retV d_jdk_42_method_155_9 rfl (by decide) (by decide) [] sn0 ⟨rfl, rfl, rfl⟩
abbrev R_m_l1c : Room := { frames := 2, cells := 0, slots := 0, locals := 27 }
theorem pn_m_l1c : plainFor (⟨"java/lang/StringLatin1", "charAt", "([BI)C"⟩ : MethodName) = true := by first | (refine plainFor_of_name ?_; simp [plainName, overriddenIn]; done) | decide +kernel
abbrev Q_m_l1c (Z : State) (t : Addr) (kt : ClassId) (z : Int32) (vs : List Value) (j : Int32) (u : Int32) (h0 : Heap) : Option Value → Heap → List Addr → Prop := fun res h' SN => res = some (.int (u &&& (255 : Int32)).toUInt32.toUInt16.toUInt32.toInt32) ∧ SN = [] ∧ h0 = h'
theorem ef_m_l1c (mid : MethodId) (t : Addr) (kt : ClassId) (z : Int32) (vs : List Value) (j : Int32) (u : Int32) : entryFrame mid #[(.ref t), (.int j)] 2 = mkF mid 0 #[.val (.ref t), .val (.int j)] [] := by first | (simp [entryFrame, mkF, argsToLocals, Value.category]; done) | rfl
set_option maxRecDepth 65536 in
set_option maxHeartbeats 40000000 in
theorem m_l1c {l : Launch} {Z : State} {a0 : Array Value} {n0 : Nat} (hw : ∀ d ∈ tables_1, d.before a0 Z = true) (hs : Stat Z) (t : Addr) (kt : ClassId) (z : Int32) (vs : List Value) (j : Int32) (u : Int32) (h0 : Heap) (V_t : Arv Z h0 t kt .byte z vs (.int (0 : Int32))) (hj : ¬ j < 0 ∧ j < z) (hu : vs.getD j.toNatClampNeg (.int (0 : Int32)) = .int u) :
    Met l Z EL0 n0 NR0 KN0 N_19 jdk_43_method_2_code 2 (Option.some Jvm.ClassFile.FieldType.char) R_m_l1c [] #[(.ref t), (.int j)] h0 (Q_m_l1c Z t kt z vs j u h0) := by
  refine Met.of_go pn_m_l1c (fun mid => ef_m_l1c mid t kt z vs j u ) ?_
  intro hO hWS
  refine Go.iload_n (pc' := 1) d_jdk_43_method_2_0 rfl rfl ?_
  refine Go.aload_n (pc' := 2) d_jdk_43_method_2_1 rfl rfl rfl ?_
  refine Go.lenV (pc' := 3) d_jdk_43_method_2_2 rfl V_t ?_
  refine Go.callS (pc' := 6) (z := N_18) d_jdk_43_method_2_3 rfl (w_126 hw) (w_127 hw) (w_4 hw) (w_128 hw) (by decide) (argsL := [(.int j), (.int z)]) (rest := []) (Pays.of_met (W := 0) (len := 3) (m_chk hw hs j z h0 (hj)) (w_128 hw) (w_4 hw) (by decide) (by decide)) rfl rfl (lenOf pd_13 rfl) rfl (Nat.le_of_eq rfl) mem0 (by decide) (by decide) ?_
  rintro _ _ _ - - ⟨rfl, rfl, rfl⟩
  change Go _ _ _ _ _ _ _ _ _ _ _ _ _ _ [] h0 0 0 6 #[.val (.ref t), .val (.int j)] []
  refine Go.aload_n (pc' := 7) d_jdk_43_method_2_6 rfl rfl rfl ?_
  refine Go.iload_n (pc' := 8) d_jdk_43_method_2_7 rfl rfl ?_
  refine Go.baloadV (pc' := 9) (v := (.int u)) d_jdk_43_method_2_8 rfl V_t hj hu ?_
  refine Go.sipush (pc' := 12) d_jdk_43_method_2_9 rfl ics_255 ?_
  refine Go.iand (pc' := 13) d_jdk_43_method_2_12 rfl ?_
  refine Go.i2c (pc' := 14) d_jdk_43_method_2_13 rfl ?_
  exact Go.retS (ty := .char) d_jdk_43_method_2_14 rfl (by simp) (own_narc u) (by decide) (by decide) [] sn0 ⟨rfl, rfl, rfl⟩
abbrev R_m_charAt : Room := { frames := 3, cells := 0, slots := 0, locals := 40 }
theorem pn_m_charAt : plainFor (⟨"java/lang/String", "charAt", "(I)C"⟩ : MethodName) = true := by first | (refine plainFor_of_name ?_; simp [plainName, overriddenIn]; done) | decide +kernel
abbrev Q_m_charAt (Z : State) (a : Addr) (t : Addr) (kt : ClassId) (z : Int32) (vs : List Value) (j : Int32) (u : Int32) (h0 : Heap) : Option Value → Heap → List Addr → Prop := fun res h' SN => res = some (.int (u &&& (255 : Int32)).toUInt32.toUInt16.toUInt32.toInt32) ∧ SN = [] ∧ h0 = h'
theorem ef_m_charAt (mid : MethodId) (a : Addr) (t : Addr) (kt : ClassId) (z : Int32) (vs : List Value) (j : Int32) (u : Int32) : entryFrame mid #[(.ref a), (.int j)] 2 = mkF mid 0 #[.val (.ref a), .val (.int j)] [] := by first | (simp [entryFrame, mkF, argsToLocals, Value.category]; done) | rfl
set_option maxRecDepth 65536 in
set_option maxHeartbeats 40000000 in
theorem m_charAt {l : Launch} {Z : State} {a0 : Array Value} {n0 : Nat} (hw : ∀ d ∈ tables_1, d.before a0 Z = true) (hs : Stat Z) (a : Addr) (t : Addr) (kt : ClassId) (z : Int32) (vs : List Value) (j : Int32) (u : Int32) (h0 : Heap) (E_a : Exa Z h0 a "java/lang/String") (F_a_coder : Fld Z h0 a "java/lang/String" "coder" "B" (.int (0 : Int32))) (F_a_value : Fld Z h0 a "java/lang/String" "value" "[B" (.ref t)) (V_t : Arv Z h0 t kt .byte z vs (.int (0 : Int32))) (hj : ¬ j < 0 ∧ j < z) (hu : vs.getD j.toNatClampNeg (.int (0 : Int32)) = .int u) :
    Met l Z EL0 n0 NR0 KN0 N_20 jdk_42_method_56_code 2 (Option.some Jvm.ClassFile.FieldType.char) R_m_charAt [] #[(.ref a), (.int j)] h0 (Q_m_charAt Z a t kt z vs j u h0) := by
  refine Met.of_go pn_m_charAt (fun mid => ef_m_charAt mid a t kt z vs j u ) ?_
  intro hO hWS
  refine Go.aload_n (pc' := 1) d_jdk_42_method_56_0 rfl rfl rfl ?_
  refine Go.callV (pc' := 4) (u := N_15) (z := N_15) (a := a) d_jdk_42_method_56_1 rfl (w_83 hw) (w_84 hw) (nf (w_86 hw) rfl) (w_86 hw) (w_85 hw) (by decide) E_a (argsL := []) (rest := []) (Pays.of_met (W := 0) (len := 3) (m_isL hw hs a h0 F_a_coder) (w_87 hw) (w_4 hw) (by decide) (by decide)) rfl rfl (lenOf pd_14 rfl) rfl (Nat.le_of_eq rfl) mem0 (by decide) (by decide) ?_
  rintro _ _ _ - - ⟨rfl, rfl, rfl⟩
  change Go _ _ _ _ _ _ _ _ _ _ _ _ _ _ [] h0 0 0 4 #[.val (.ref a), .val (.int j)] [(.int (1 : Int32))]
  refine Go.ifN (pc' := 7) d_jdk_42_method_56_4 rfl ((if0 _ _).trans (feq (by decide : ¬ ((1 : Int32) = (0 : Int32)))).1) ?_
  refine Go.aload_n (pc' := 8) d_jdk_42_method_56_7 rfl rfl rfl ?_
  refine Go.getF (pc' := 11) d_jdk_42_method_56_8 rfl (host := "") (Or.inl (w_29 hw)) Via.refl F_a_value ?_
  refine Go.iload_n (pc' := 12) d_jdk_42_method_56_11 rfl rfl ?_
  refine Go.callS (pc' := 15) (z := N_19) d_jdk_42_method_56_12 rfl (w_123 hw) (w_124 hw) (w_90 hw) (w_125 hw) (by decide) (argsL := [(.ref t), (.int j)]) (rest := []) (Pays.of_met (W := 0) (len := 3) (m_l1c hw hs t kt z vs j u h0 V_t (hj) (hu)) (w_125 hw) (w_90 hw) (by decide) (by decide)) rfl rfl (lenOf pd_5 rfl) rfl (Nat.le_of_eq rfl) mem0 (by decide) (by decide) ?_
  rintro _ _ _ - - ⟨rfl, rfl, rfl⟩
  change Go _ _ _ _ _ _ _ _ _ _ _ _ _ _ [] h0 0 0 15 #[.val (.ref a), .val (.int j)] [(.int (u &&& (255 : Int32)).toUInt32.toUInt16.toUInt32.toInt32)]
  exact Go.retS (ty := .char) d_jdk_42_method_56_15 rfl (by simp) (own_narc u) (by decide) (by decide) [] sn0 ⟨rfl, rfl, rfl⟩
abbrev R_m_coder1 : Room := { frames := 0, cells := 0, slots := 0, locals := 0 }
theorem pn_m_coder1 : plainFor (⟨"java/lang/String", "coder", "()B"⟩ : MethodName) = true := by first | (refine plainFor_of_name ?_; simp [plainName, overriddenIn]; done) | decide +kernel
abbrev Q_m_coder1 (Z : State) (a : Addr) (h0 : Heap) : Option Value → Heap → List Addr → Prop := fun res h' SN => res = some (.int (1 : Int32)) ∧ SN = [] ∧ h0 = h'
theorem ef_m_coder1 (mid : MethodId) (a : Addr) : entryFrame mid #[(.ref a)] 1 = mkF mid 0 #[.val (.ref a)] [] := by first | (simp [entryFrame, mkF, argsToLocals, Value.category]; done) | rfl
set_option maxRecDepth 65536 in
set_option maxHeartbeats 40000000 in
theorem m_coder1 {l : Launch} {Z : State} {a0 : Array Value} {n0 : Nat} (hw : ∀ d ∈ tables_1, d.before a0 Z = true) (hs : Stat Z) (a : Addr) (h0 : Heap) (F_a_coder : Fld Z h0 a "java/lang/String" "coder" "B" (.int (1 : Int32))) :
    Met l Z EL0 n0 NR0 KN0 N_14 jdk_42_method_152_code 1 (Option.some Jvm.ClassFile.FieldType.byte) R_m_coder1 [] #[(.ref a)] h0 (Q_m_coder1 Z a h0) := by
  refine Met.of_go pn_m_coder1 (fun mid => ef_m_coder1 mid a ) ?_
  intro hO hWS
  obtain ⟨zc, S_c, hzc⟩ := hs_c hs
  refine Go.getS (pc' := 3) d_jdk_42_method_152_0 rfl (host := "") (Or.inl (w_15 hw)) Via.refl S_c ?_
  refine Go.ifN (pc' := 6) d_jdk_42_method_152_3 rfl ((if0 _ _).trans (feq (hzc : ¬ (zc = (0 : Int32)))).1) ?_
  refine Go.aload_n (pc' := 7) d_jdk_42_method_152_6 rfl rfl rfl ?_
  refine Go.getF (pc' := 10) d_jdk_42_method_152_7 rfl (host := "") (Or.inl (w_27 hw)) Via.refl F_a_coder ?_
  refine Go.goto (pc' := 14) d_jdk_42_method_152_10 (by decide) (by decide) ?_
  exact Go.retS (ty := .byte) d_jdk_42_method_152_14 rfl (by simp) rfl (by decide) (by decide) [] sn0 ⟨rfl, rfl, rfl⟩
abbrev R_m_isL1 : Room := { frames := 0, cells := 0, slots := 0, locals := 0 }
theorem pn_m_isL1 : plainFor (⟨"java/lang/String", "isLatin1", "()Z"⟩ : MethodName) = true := by first | (refine plainFor_of_name ?_; simp [plainName, overriddenIn]; done) | decide +kernel
abbrev Q_m_isL1 (Z : State) (a : Addr) (h0 : Heap) : Option Value → Heap → List Addr → Prop := fun res h' SN => res = some (.int (0 : Int32)) ∧ SN = [] ∧ h0 = h'
theorem ef_m_isL1 (mid : MethodId) (a : Addr) : entryFrame mid #[(.ref a)] 1 = mkF mid 0 #[.val (.ref a)] [] := by first | (simp [entryFrame, mkF, argsToLocals, Value.category]; done) | rfl
set_option maxRecDepth 65536 in
set_option maxHeartbeats 40000000 in
theorem m_isL1 {l : Launch} {Z : State} {a0 : Array Value} {n0 : Nat} (hw : ∀ d ∈ tables_1, d.before a0 Z = true) (hs : Stat Z) (a : Addr) (h0 : Heap) (F_a_coder : Fld Z h0 a "java/lang/String" "coder" "B" (.int (1 : Int32))) :
    Met l Z EL0 n0 NR0 KN0 N_15 jdk_42_method_154_code 1 (Option.some Jvm.ClassFile.FieldType.boolean) R_m_isL1 [] #[(.ref a)] h0 (Q_m_isL1 Z a h0) := by
  refine Met.of_go pn_m_isL1 (fun mid => ef_m_isL1 mid a ) ?_
  intro hO hWS
  obtain ⟨zc, S_c, hzc⟩ := hs_c hs
  refine Go.getS (pc' := 3) d_jdk_42_method_154_0 rfl (host := "") (Or.inl (w_15 hw)) Via.refl S_c ?_
  refine Go.ifN (pc' := 6) d_jdk_42_method_154_3 rfl ((if0 _ _).trans (feq (hzc : ¬ (zc = (0 : Int32)))).1) ?_
  refine Go.aload_n (pc' := 7) d_jdk_42_method_154_6 rfl rfl rfl ?_
  refine Go.getF (pc' := 10) d_jdk_42_method_154_7 rfl (host := "") (Or.inl (w_27 hw)) Via.refl F_a_coder ?_
  refine Go.ifY (pc' := 17) d_jdk_42_method_154_10 (by decide) (by decide) ((if0 _ _).trans (feq (by decide : ¬ ((1 : Int32) = (0 : Int32)))).2) ?_
  refine Go.iconst (pc' := 18) d_jdk_42_method_154_17 rfl ic_0 ?_
  exact Go.retS (ty := .boolean) d_jdk_42_method_154_18 rfl (by simp) rfl (by decide) (by decide) [] sn0 ⟨rfl, rfl, rfl⟩
abbrev R_m_ulen : Room := { frames := 1, cells := 0, slots := 0, locals := 13 }
theorem pn_m_ulen : plainFor (⟨"java/lang/String", "length", "()I"⟩ : MethodName) = true := by first | (refine plainFor_of_name ?_; simp [plainName, overriddenIn]; done) | decide +kernel
abbrev Q_m_ulen (Z : State) (a : Addr) (t : Addr) (kt : ClassId) (z : Int32) (bs : List Int32) (h0 : Heap) : Option Value → Heap → List Addr → Prop := fun res h' SN => res = some (.int z) ∧ SN = [] ∧ h0 = h'
theorem ef_m_ulen (mid : MethodId) (a : Addr) (t : Addr) (kt : ClassId) (z : Int32) (bs : List Int32) : entryFrame mid #[(.ref a)] 1 = mkF mid 0 #[.val (.ref a)] [] := by first | (simp [entryFrame, mkF, argsToLocals, Value.category]; done) | rfl
set_option maxRecDepth 65536 in
set_option maxHeartbeats 40000000 in
theorem m_ulen {l : Launch} {Z : State} {a0 : Array Value} {n0 : Nat} (hw : ∀ d ∈ tables_1, d.before a0 Z = true) (hs : Stat Z) (a : Addr) (t : Addr) (kt : ClassId) (z : Int32) (bs : List Int32) (h0 : Heap) (E_a : Exa Z h0 a "java/lang/String") (F_a_coder : Fld Z h0 a "java/lang/String" "coder" "B" (.int (1 : Int32))) (F_a_value : Fld Z h0 a "java/lang/String" "value" "[B" (.ref t)) (V_t : Arv Z h0 t kt .byte (z <<< ((1 : Int32) &&& 31)) (bs.map Value.int) (.int (0 : Int32))) (hz0 : ¬ z < 0) (hl1 : z.toNatClampNeg < 1073741824) :
    Met l Z EL0 n0 NR0 KN0 N_16 jdk_42_method_54_code 1 (Option.some Jvm.ClassFile.FieldType.int) R_m_ulen [] #[(.ref a)] h0 (Q_m_ulen Z a t kt z bs h0) := by
  refine Met.of_go pn_m_ulen (fun mid => ef_m_ulen mid a t kt z bs ) ?_
  intro hO hWS
  refine Go.aload_n (pc' := 1) d_jdk_42_method_54_0 rfl rfl rfl ?_
  refine Go.getF (pc' := 4) d_jdk_42_method_54_1 rfl (host := "") (Or.inl (w_29 hw)) Via.refl F_a_value ?_
  refine Go.lenV (pc' := 5) d_jdk_42_method_54_4 rfl V_t ?_
  refine Go.aload_n (pc' := 6) d_jdk_42_method_54_5 rfl rfl rfl ?_
  refine Go.callV (pc' := 9) (u := N_14) (z := N_14) (a := a) d_jdk_42_method_54_6 rfl (w_64 hw) (w_65 hw) (nf (w_67 hw) rfl) (w_67 hw) (w_66 hw) (by decide) E_a (argsL := []) (rest := [(.int (z <<< ((1 : Int32) &&& 31)))]) (Pays.of_met (W := 1) (len := 3) (m_coder1 hw hs a h0 F_a_coder) (w_68 hw) (w_4 hw) (by decide) (by decide)) rfl rfl (lenOf pd_11 rfl) rfl (Nat.le_of_eq rfl) mem0 (by decide) (by decide) ?_
  rintro _ _ _ - - ⟨rfl, rfl, rfl⟩
  change Go _ _ _ _ _ _ _ _ _ _ _ _ _ _ [] h0 0 0 9 #[.val (.ref a)] [(.int (1 : Int32)), (.int (z <<< ((1 : Int32) &&& 31)))]
  refine Go.ishr (pc' := 10) d_jdk_42_method_54_9 rfl ?_
  rw [own_shr1 hz0 hl1]
  exact Go.retI d_jdk_42_method_54_10 rfl (by decide) (by decide) [] sn0 ⟨rfl, rfl, rfl⟩
abbrev R_m_u16l : Room := { frames := 0, cells := 0, slots := 0, locals := 0 }
theorem pn_m_u16l : plainFor (⟨"java/lang/StringUTF16", "length", "([B)I"⟩ : MethodName) = true := by first | (refine plainFor_of_name ?_; simp [plainName, overriddenIn]; done) | decide +kernel
abbrev Q_m_u16l (Z : State) (t : Addr) (kt : ClassId) (z : Int32) (bs : List Int32) (h0 : Heap) : Option Value → Heap → List Addr → Prop := fun res h' SN => res = some (.int z) ∧ SN = [] ∧ h0 = h'
theorem ef_m_u16l (mid : MethodId) (t : Addr) (kt : ClassId) (z : Int32) (bs : List Int32) : entryFrame mid #[(.ref t)] 1 = mkF mid 0 #[.val (.ref t)] [] := by first | (simp [entryFrame, mkF, argsToLocals, Value.category]; done) | rfl
set_option maxRecDepth 65536 in
set_option maxHeartbeats 40000000 in
theorem m_u16l {l : Launch} {Z : State} {a0 : Array Value} {n0 : Nat} (hw : ∀ d ∈ tables_1, d.before a0 Z = true) (hs : Stat Z) (t : Addr) (kt : ClassId) (z : Int32) (bs : List Int32) (h0 : Heap) (V_t : Arv Z h0 t kt .byte (z <<< ((1 : Int32) &&& 31)) (bs.map Value.int) (.int (0 : Int32))) (hz0 : ¬ z < 0) (hl1 : z.toNatClampNeg < 1073741824) :
    Met l Z EL0 n0 NR0 KN0 N_21 jdk_52_method_6_code 1 (Option.some Jvm.ClassFile.FieldType.int) R_m_u16l [] #[(.ref t)] h0 (Q_m_u16l Z t kt z bs h0) := by
  refine Met.of_go pn_m_u16l (fun mid => ef_m_u16l mid t kt z bs ) ?_
  intro hO hWS
  refine Go.aload_n (pc' := 1) d_jdk_52_method_6_0 rfl rfl rfl ?_
  refine Go.lenV (pc' := 2) d_jdk_52_method_6_1 rfl V_t ?_
  refine Go.iconst (pc' := 3) d_jdk_52_method_6_2 rfl ic_1 ?_
  refine Go.ishr (pc' := 4) d_jdk_52_method_6_3 rfl ?_
  rw [own_shr1 hz0 hl1]
  exact Go.retI d_jdk_52_method_6_4 rfl (by decide) (by decide) [] sn0 ⟨rfl, rfl, rfl⟩
abbrev R_m_u16ci : Room := { frames := 2, cells := 0, slots := 0, locals := 27 }
theorem pn_m_u16ci : plainFor (⟨"java/lang/StringUTF16", "checkIndex", "(I[B)V"⟩ : MethodName) = true := by first | (refine plainFor_of_name ?_; simp [plainName, overriddenIn]; done) | decide +kernel
abbrev Q_m_u16ci (Z : State) (t : Addr) (kt : ClassId) (z : Int32) (bs : List Int32) (j : Int32) (h0 : Heap) : Option Value → Heap → List Addr → Prop := fun res h' SN => res = none ∧ SN = [] ∧ h0 = h'
theorem ef_m_u16ci (mid : MethodId) (t : Addr) (kt : ClassId) (z : Int32) (bs : List Int32) (j : Int32) : entryFrame mid #[(.int j), (.ref t)] 2 = mkF mid 0 #[.val (.int j), .val (.ref t)] [] := by first | (simp [entryFrame, mkF, argsToLocals, Value.category]; done) | rfl
set_option maxRecDepth 65536 in
set_option maxHeartbeats 40000000 in
theorem m_u16ci {l : Launch} {Z : State} {a0 : Array Value} {n0 : Nat} (hw : ∀ d ∈ tables_1, d.before a0 Z = true) (hs : Stat Z) (t : Addr) (kt : ClassId) (z : Int32) (bs : List Int32) (j : Int32) (h0 : Heap) (V_t : Arv Z h0 t kt .byte (z <<< ((1 : Int32) &&& 31)) (bs.map Value.int) (.int (0 : Int32))) (hz0 : ¬ z < 0) (hl1 : z.toNatClampNeg < 1073741824) (hj : ¬ j < 0 ∧ j < z) :
    Met l Z EL0 n0 NR0 KN0 N_22 jdk_52_method_91_code 2 (Option.none : Option Jvm.ClassFile.FieldType) R_m_u16ci [] #[(.int j), (.ref t)] h0 (Q_m_u16ci Z t kt z bs j h0) := by
  refine Met.of_go pn_m_u16ci (fun mid => ef_m_u16ci mid t kt z bs j ) ?_
  intro hO hWS
  refine Go.iload_n (pc' := 1) d_jdk_52_method_91_0 rfl rfl ?_
  refine Go.aload_n (pc' := 2) d_jdk_52_method_91_1 rfl rfl rfl ?_
  refine Go.callS (pc' := 5) (z := N_21) d_jdk_52_method_91_2 rfl (w_157 hw) (w_158 hw) (w_18 hw) (w_159 hw) (by decide) (argsL := [(.ref t)]) (rest := [(.int j)]) (Pays.of_met (W := 1) (len := 3) (m_u16l hw hs t kt z bs h0 V_t (hz0) (hl1)) (w_159 hw) (w_18 hw) (by decide) (by decide)) rfl rfl (lenOf pd_15 rfl) rfl (Nat.le_of_eq rfl) mem0 (by decide) (by decide) ?_
  rintro _ _ _ - - ⟨rfl, rfl, rfl⟩
  change Go _ _ _ _ _ _ _ _ _ _ _ _ _ _ [] h0 0 0 5 #[.val (.int j), .val (.ref t)] [(.int z), (.int j)]
  refine Go.callS (pc' := 8) (z := N_18) d_jdk_52_method_91_5 rfl (w_167 hw) (w_127 hw) (w_4 hw) (w_128 hw) (by decide) (argsL := [(.int j), (.int z)]) (rest := []) (Pays.of_met (W := 0) (len := 3) (m_chk hw hs j z h0 (hj)) (w_128 hw) (w_4 hw) (by decide) (by decide)) rfl rfl (lenOf pd_13 rfl) rfl (Nat.le_of_eq rfl) mem0 (by decide) (by decide) ?_
  rintro _ _ _ - - ⟨rfl, rfl, rfl⟩
  change Go _ _ _ _ _ _ _ _ _ _ _ _ _ _ [] h0 0 0 8 #[.val (.int j), .val (.ref t)] []
  exact Go.retV d_jdk_52_method_91_8 rfl (by decide) (by decide) [] sn0 ⟨rfl, rfl, rfl⟩
abbrev R_m_u16ca : Room := { frames := 3, cells := 0, slots := 0, locals := 40 }
theorem pn_m_u16ca : plainFor (⟨"java/lang/StringUTF16", "charAt", "([BI)C"⟩ : MethodName) = true := by first | (refine plainFor_of_name ?_; simp [plainName, overriddenIn]; done) | decide +kernel
abbrev Q_m_u16ca (Z : State) (t : Addr) (kt : ClassId) (z : Int32) (bs : List Int32) (j : Int32) (cs : List Int32) (h0 : Heap) : Option Value → Heap → List Addr → Prop := fun res h' SN => res = some (.int (cs.getD j.toNatClampNeg 0)) ∧ SN = [] ∧ h0 = h'
theorem ef_m_u16ca (mid : MethodId) (t : Addr) (kt : ClassId) (z : Int32) (bs : List Int32) (j : Int32) (cs : List Int32) : entryFrame mid #[(.ref t), (.int j)] 2 = mkF mid 0 #[.val (.ref t), .val (.int j)] [] := by first | (simp [entryFrame, mkF, argsToLocals, Value.category]; done) | rfl
set_option maxRecDepth 65536 in
set_option maxHeartbeats 40000000 in
theorem m_u16ca {l : Launch} {Z : State} {a0 : Array Value} {n0 : Nat} (hw : ∀ d ∈ tables_1, d.before a0 Z = true) (hs : Stat Z) (t : Addr) (kt : ClassId) (z : Int32) (bs : List Int32) (j : Int32) (cs : List Int32) (h0 : Heap) (V_t : Arv Z h0 t kt .byte (z <<< ((1 : Int32) &&& 31)) (bs.map Value.int) (.int (0 : Int32))) (hz0 : ¬ z < 0) (hl1 : z.toNatClampNeg < 1073741824) (hj : ¬ j < 0 ∧ j < z) (hz : z.toNatClampNeg = cs.length) (hE : Enc bs cs cs.length) (h16 : ∀ x ∈ cs, ¬ x < 0 ∧ ¬ 65535 < x) :
    Met l Z EL0 n0 NR0 KN0 N_23 jdk_52_method_83_code 2 (Option.some Jvm.ClassFile.FieldType.char) R_m_u16ca [] #[(.ref t), (.int j)] h0 (Q_m_u16ca Z t kt z bs j cs h0) := by
  refine Met.of_go pn_m_u16ca (fun mid => ef_m_u16ca mid t kt z bs j cs ) ?_
  intro hO hWS
  have jl := own_idx hj.1 hj.2
  have hl := hE.1
  have sz := own_shl1 hz0 hl1
  refine Go.iload_n (pc' := 1) d_jdk_52_method_83_0 rfl rfl ?_
  refine Go.aload_n (pc' := 2) d_jdk_52_method_83_1 rfl rfl rfl ?_
  refine Go.callS (pc' := 5) (z := N_22) d_jdk_52_method_83_2 rfl (w_164 hw) (w_165 hw) (w_18 hw) (w_166 hw) (by decide) (argsL := [(.int j), (.ref t)]) (rest := []) (Pays.of_met (W := 0) (len := 3) (m_u16ci hw hs t kt z bs j h0 V_t (hz0) (hl1) (hj)) (w_166 hw) (w_18 hw) (by decide) (by decide)) rfl rfl (lenOf pd_16 rfl) rfl (Nat.le_of_eq rfl) mem0 (by decide) (by decide) ?_
  rintro _ _ _ - - ⟨rfl, rfl, rfl⟩
  change Go _ _ _ _ _ _ _ _ _ _ _ _ _ _ [] h0 0 0 5 #[.val (.ref t), .val (.int j)] []
  refine Go.aload_n (pc' := 6) d_jdk_52_method_83_5 rfl rfl rfl ?_
  refine Go.iload_n (pc' := 7) d_jdk_52_method_83_6 rfl rfl ?_
  refine Go.callS (pc' := 10) (z := N_4) d_jdk_52_method_83_7 rfl (w_148 hw) (w_149 hw) (w_18 hw) (w_150 hw) (by decide) (argsL := [(.ref t), (.int j)]) (rest := []) (Pays.of_met (W := 0) (len := 3) (m_ugc hw hs t kt (z <<< ((1 : Int32) &&& 31)) bs j h0 V_t (hj.1) (by omega) (by rw [sz.2]; omega)) (w_150 hw) (w_18 hw) (by decide) (by decide)) rfl rfl (lenOf pd_5 rfl) rfl (Nat.le_of_eq rfl) mem0 (by decide) (by decide) ?_
  rintro _ _ _ - - ⟨rfl, rfl, rfl⟩
  change Go _ _ _ _ _ _ _ _ _ _ _ _ _ _ [] h0 0 0 10 #[.val (.ref t), .val (.int j)] [(.int (udec (bs.getD (2 * j.toNatClampNeg) 0) (bs.getD (2 * j.toNatClampNeg + 1) 0)))]
  rw [own_enc_at hE (by omega) h16]
  exact Go.retS (ty := .char) d_jdk_52_method_83_10 rfl (by simp) (own_nar16 h16 (by omega)) (by decide) (by decide) [] sn0 ⟨rfl, rfl, rfl⟩
abbrev R_m_ucA : Room := { frames := 4, cells := 0, slots := 0, locals := 53 }
theorem pn_m_ucA : plainFor (⟨"java/lang/String", "charAt", "(I)C"⟩ : MethodName) = true := by first | (refine plainFor_of_name ?_; simp [plainName, overriddenIn]; done) | decide +kernel
abbrev Q_m_ucA (Z : State) (a : Addr) (t : Addr) (kt : ClassId) (z : Int32) (bs : List Int32) (j : Int32) (cs : List Int32) (h0 : Heap) : Option Value → Heap → List Addr → Prop := fun res h' SN => res = some (.int (cs.getD j.toNatClampNeg 0)) ∧ SN = [] ∧ h0 = h'
theorem ef_m_ucA (mid : MethodId) (a : Addr) (t : Addr) (kt : ClassId) (z : Int32) (bs : List Int32) (j : Int32) (cs : List Int32) : entryFrame mid #[(.ref a), (.int j)] 2 = mkF mid 0 #[.val (.ref a), .val (.int j)] [] := by first | (simp [entryFrame, mkF, argsToLocals, Value.category]; done) | rfl
set_option maxRecDepth 65536 in
set_option maxHeartbeats 40000000 in
theorem m_ucA {l : Launch} {Z : State} {a0 : Array Value} {n0 : Nat} (hw : ∀ d ∈ tables_1, d.before a0 Z = true) (hs : Stat Z) (a : Addr) (t : Addr) (kt : ClassId) (z : Int32) (bs : List Int32) (j : Int32) (cs : List Int32) (h0 : Heap) (E_a : Exa Z h0 a "java/lang/String") (F_a_coder : Fld Z h0 a "java/lang/String" "coder" "B" (.int (1 : Int32))) (F_a_value : Fld Z h0 a "java/lang/String" "value" "[B" (.ref t)) (V_t : Arv Z h0 t kt .byte (z <<< ((1 : Int32) &&& 31)) (bs.map Value.int) (.int (0 : Int32))) (hz0 : ¬ z < 0) (hl1 : z.toNatClampNeg < 1073741824) (hj : ¬ j < 0 ∧ j < z) (hz : z.toNatClampNeg = cs.length) (hE : Enc bs cs cs.length) (h16 : ∀ x ∈ cs, ¬ x < 0 ∧ ¬ 65535 < x) :
    Met l Z EL0 n0 NR0 KN0 N_20 jdk_42_method_56_code 2 (Option.some Jvm.ClassFile.FieldType.char) R_m_ucA [] #[(.ref a), (.int j)] h0 (Q_m_ucA Z a t kt z bs j cs h0) := by
  refine Met.of_go pn_m_ucA (fun mid => ef_m_ucA mid a t kt z bs j cs ) ?_
  intro hO hWS
  have jl := own_idx hj.1 hj.2
  refine Go.aload_n (pc' := 1) d_jdk_42_method_56_0 rfl rfl rfl ?_
  refine Go.callV (pc' := 4) (u := N_15) (z := N_15) (a := a) d_jdk_42_method_56_1 rfl (w_83 hw) (w_84 hw) (nf (w_86 hw) rfl) (w_86 hw) (w_85 hw) (by decide) E_a (argsL := []) (rest := []) (Pays.of_met (W := 0) (len := 3) (m_isL1 hw hs a h0 F_a_coder) (w_87 hw) (w_4 hw) (by decide) (by decide)) rfl rfl (lenOf pd_14 rfl) rfl (Nat.le_of_eq rfl) mem0 (by decide) (by decide) ?_
  rintro _ _ _ - - ⟨rfl, rfl, rfl⟩
  change Go _ _ _ _ _ _ _ _ _ _ _ _ _ _ [] h0 0 0 4 #[.val (.ref a), .val (.int j)] [(.int (0 : Int32))]
  refine Go.ifY (pc' := 16) d_jdk_42_method_56_4 (by decide) (by decide) ((if0 _ _).trans (teq (rfl : (0 : Int32) = (0 : Int32))).1) ?_
  refine Go.aload_n (pc' := 17) d_jdk_42_method_56_16 rfl rfl rfl ?_
  refine Go.getF (pc' := 20) d_jdk_42_method_56_17 rfl (host := "") (Or.inl (w_29 hw)) Via.refl F_a_value ?_
  refine Go.iload_n (pc' := 21) d_jdk_42_method_56_20 rfl rfl ?_
  refine Go.callS (pc' := 24) (z := N_23) d_jdk_42_method_56_21 rfl (w_161 hw) (w_162 hw) (w_18 hw) (w_163 hw) (by decide) (argsL := [(.ref t), (.int j)]) (rest := []) (Pays.of_met (W := 0) (len := 3) (m_u16ca hw hs t kt z bs j cs h0 V_t (hz0) (hl1) (hj) (hz) (hE) (h16)) (w_163 hw) (w_18 hw) (by decide) (by decide)) rfl rfl (lenOf pd_5 rfl) rfl (Nat.le_of_eq rfl) mem0 (by decide) (by decide) ?_
  rintro _ _ _ - - ⟨rfl, rfl, rfl⟩
  change Go _ _ _ _ _ _ _ _ _ _ _ _ _ _ [] h0 0 0 24 #[.val (.ref a), .val (.int j)] [(.int (cs.getD j.toNatClampNeg 0))]
  exact Go.retS (ty := .char) d_jdk_42_method_56_24 rfl (by simp) (own_nar16 h16 (by omega)) (by decide) (by decide) [] sn0 ⟨rfl, rfl, rfl⟩
abbrev RL_infl : Room := { frames := 0, cells := 0, slots := 0, locals := 0 }
set_option maxRecDepth 65536 in
set_option maxHeartbeats 40000000 in
theorem m_infl_loop {l : Launch} {Z : State} {a0 : Array Value} {n0 : Nat} (hw : ∀ d ∈ tables_1, d.before a0 Z = true) (hs : Stat Z) {h0 : Heap} {Q : Option Value → Heap → List Addr → Prop} {t c : Addr} {kt kc : ClassId} {bs cs : List Int32} {z zc n : Int32} (hz : z.toNatClampNeg = cs.length) (zn : ¬ z < 0) (cn : ¬ zc < 0) (hn0 : ¬ n < 0) (hnz : n.toNatClampNeg ≤ cs.length) (hnc : n.toNatClampNeg ≤ zc.toNatClampNeg) (h255 : ∀ x ∈ cs, ¬ x < 0 ∧ ¬ 255 < x) (h16 : ∀ x ∈ cs, ¬ x < 0 ∧ ¬ 65535 < x) (ne_t_c : t ≠ c)
    (K : ∀ h', Arv Z h' c kc .char zc ((cs.take n.toNatClampNeg ++ List.replicate (zc.toNatClampNeg - n.toNatClampNeg) (0 : Int32)).map Value.int) (.int (0 : Int32)) → Go l Z EL0 n0 NR0 KN0 N_24 jdk_43_method_49_code 6 (Option.none : Option Jvm.ClassFile.FieldType) RL_infl h0 [c] Q [c] h' 0 0 33 #[.val (.ref t), .val (.int (Int32.ofNat n.toNatClampNeg)), .val (.ref c), .val (.int (Int32.ofNat n.toNatClampNeg)), .val (.int n), .val (.int (Int32.ofNat n.toNatClampNeg))] []) :
    ∀ (m i : Nat) (h : Heap), i + m = n.toNatClampNeg → Arv Z h t kt .byte z (cs.map lowV) (.int (0 : Int32)) → Arv Z h c kc .char zc ((cs.take i ++ List.replicate (zc.toNatClampNeg - i) (0 : Int32)).map Value.int) (.int (0 : Int32)) → Go l Z EL0 n0 NR0 KN0 N_24 jdk_43_method_49_code 6 (Option.none : Option Jvm.ClassFile.FieldType) RL_infl h0 [c] Q [c] h 0 0 3 #[.val (.ref t), .val (.int (Int32.ofNat i)), .val (.ref c), .val (.int (Int32.ofNat i)), .val (.int n), .val (.int (Int32.ofNat i))] [] := by
  have q := (back32 hn0).2
  have q2 := (back32 zn).2
  intro m
  induction m with
  | zero =>
    intro i h hi V_t V_c
    obtain rfl : i = n.toNatClampNeg := by omega
    refine Go.iload (pc' := 5) d_jdk_43_method_49_3 rfl rfl ?_
    refine Go.iload (pc' := 7) d_jdk_43_method_49_5 rfl rfl ?_
    refine Go.icmpY (pc' := 33) d_jdk_43_method_49_7 (by decide) (by decide) (flt (ofNat_ge hn0 (by omega) (Nat.le_refl _) : ¬ ((Int32.ofNat n.toNatClampNeg) < n))).2.1 ?_
    exact K h V_c
  | succ m ih =>
    intro i h hi V_t V_c
    have hi2 : i < cs.length := by omega
    have ci := ofNat_clamp (i := i) (by omega)
    have nn := ofNat_nn (i := i) (by omega)
    have lt := ofNat_lt (i := i) hn0 (by omega)
    have ltz := ofNat_lt (i := i) zn (by omega)
    have ltc := ofNat_lt (i := i) cn (by omega)
    have b1 := getD_mem h16 hi2
    refine Go.iload (pc' := 5) d_jdk_43_method_49_3 rfl rfl ?_
    refine Go.iload (pc' := 7) d_jdk_43_method_49_5 rfl rfl ?_
    refine Go.icmpN (pc' := 10) d_jdk_43_method_49_7 rfl (tlt (lt : (Int32.ofNat i) < n)).2.1 ?_
    refine Go.aload_n (pc' := 11) d_jdk_43_method_49_10 rfl rfl rfl ?_
    refine Go.iload_n (pc' := 12) d_jdk_43_method_49_11 rfl rfl ?_
    refine Go.iinc (pc' := 15) (Ls' := #[.val (.ref t), .val (.int (Int32.ofNat i)), .val (.ref c), .val (.int ((Int32.ofNat i) + (1 : Int32))), .val (.int n), .val (.int (Int32.ofNat i))]) d_jdk_43_method_49_12 rfl ic_1 rfl rfl ?_
    refine Go.aload_n (pc' := 16) d_jdk_43_method_49_15 rfl rfl rfl ?_
    refine Go.iload_n (pc' := 17) d_jdk_43_method_49_16 rfl rfl ?_
    refine Go.iinc (pc' := 20) (Ls' := #[.val (.ref t), .val (.int ((Int32.ofNat i) + (1 : Int32))), .val (.ref c), .val (.int ((Int32.ofNat i) + (1 : Int32))), .val (.int n), .val (.int (Int32.ofNat i))]) d_jdk_43_method_49_17 rfl ic_1 rfl rfl ?_
    refine Go.baloadV (pc' := 21) (v := (.int (cs.getD i 0).toInt8.toInt32)) d_jdk_43_method_49_20 rfl V_t ⟨nn, ltz⟩ (by rw [ci]; exact getD_low cs i hi2) ?_
    refine Go.sipush (pc' := 24) d_jdk_43_method_49_21 rfl ics_255 ?_
    refine Go.iand (pc' := 25) d_jdk_43_method_49_24 rfl ?_
    refine Go.i2c (pc' := 26) d_jdk_43_method_49_25 rfl ?_
    have b2 := getD_mem h255 hi2
    rw [own_lowback b2.1 b2.2]
    refine Go.castoreV (pc' := 27) (i := i) d_jdk_43_method_49_26 rfl (List.mem_of_getElem? (i := 0) rfl) V_c ⟨nn, ltc⟩ ci (by simp; omega) ?_
    rw [nar_char b1.1 b1.2]
    intro h2 W2 V_c'
    rw [own_set_map, own_fill hi2 (by omega)] at V_c'
    replace V_t := V_t.other W2 ne_t_c
    change Go _ _ _ _ _ _ _ _ _ _ _ _ _ _ [c] h2 0 0 27 #[.val (.ref t), .val (.int ((Int32.ofNat i) + (1 : Int32))), .val (.ref c), .val (.int ((Int32.ofNat i) + (1 : Int32))), .val (.int n), .val (.int (Int32.ofNat i))] []
    refine Go.iinc (pc' := 30) (Ls' := #[.val (.ref t), .val (.int ((Int32.ofNat i) + (1 : Int32))), .val (.ref c), .val (.int ((Int32.ofNat i) + (1 : Int32))), .val (.int n), .val (.int ((Int32.ofNat i) + (1 : Int32)))]) d_jdk_43_method_49_27 rfl ic_1 rfl rfl ?_
    refine Go.goto (pc' := 3) d_jdk_43_method_49_30 (by decide) (by decide) ?_
    rw [ofNat_succ i]
    exact ih (i + 1) h2 (by omega) V_t V_c'
abbrev R_m_infl : Room := { frames := 0, cells := 0, slots := 0, locals := 0 }
theorem pn_m_infl : plainFor (⟨"java/lang/StringLatin1", "inflate", "([BI[CII)V"⟩ : MethodName) = true := by first | (refine plainFor_of_name ?_; simp [plainName, overriddenIn]; done) | decide +kernel
abbrev Q_m_infl (Z : State) (t : Addr) (c : Addr) (kt : ClassId) (kc : ClassId) (cs : List Int32) (z : Int32) (zc : Int32) (n : Int32) (h0 : Heap) : Option Value → Heap → List Addr → Prop := fun res h' SN => res = none ∧ SN = [] ∧ Arv Z h' c kc .char zc ((cs.take n.toNatClampNeg).map Value.int) (.int (0 : Int32))
theorem ef_m_infl (mid : MethodId) (t : Addr) (c : Addr) (kt : ClassId) (kc : ClassId) (cs : List Int32) (z : Int32) (zc : Int32) (n : Int32) : entryFrame mid #[(.ref t), (.int (0 : Int32)), (.ref c), (.int (0 : Int32)), (.int n)] 6 = mkF mid 0 #[.val (.ref t), .val (.int (0 : Int32)), .val (.ref c), .val (.int (0 : Int32)), .val (.int n), .unset] [] := by first | (simp [entryFrame, mkF, argsToLocals, Value.category]; done) | rfl
set_option maxRecDepth 65536 in
set_option maxHeartbeats 40000000 in
theorem m_infl {l : Launch} {Z : State} {a0 : Array Value} {n0 : Nat} (hw : ∀ d ∈ tables_1, d.before a0 Z = true) (hs : Stat Z) (t : Addr) (c : Addr) (kt : ClassId) (kc : ClassId) (cs : List Int32) (z : Int32) (zc : Int32) (n : Int32) (h0 : Heap) (V_t : Arv Z h0 t kt .byte z (cs.map lowV) (.int (0 : Int32))) (V_c : Arv Z h0 c kc .char zc (([] : List Int32).map Value.int) (.int (0 : Int32))) (hz : z.toNatClampNeg = cs.length) (hn0 : ¬ n < 0) (hnz : n.toNatClampNeg ≤ cs.length) (hnc : n.toNatClampNeg ≤ zc.toNatClampNeg) (h255 : ∀ x ∈ cs, ¬ x < 0 ∧ ¬ 255 < x) (ne_t_c : t ≠ c) :
    Met l Z EL0 n0 NR0 KN0 N_24 jdk_43_method_49_code 6 (Option.none : Option Jvm.ClassFile.FieldType) R_m_infl [c] #[(.ref t), (.int (0 : Int32)), (.ref c), (.int (0 : Int32)), (.int n)] h0 (Q_m_infl Z t c kt kc cs z zc n h0) := by
  refine Met.of_go pn_m_infl (fun mid => ef_m_infl mid t c kt kc cs z zc n ) ?_
  intro hO hWS
  have cn := arv_nn V_c
  refine Go.iconst (pc' := 1) d_jdk_43_method_49_0 rfl ic_0 ?_
  refine Go.istore (pc' := 3) (Ls' := #[.val (.ref t), .val (.int (0 : Int32)), .val (.ref c), .val (.int (0 : Int32)), .val (.int n), .val (.int (0 : Int32))]) d_jdk_43_method_49_1 rfl rfl ?_
  refine m_infl_loop hw hs (bs := []) hz (arv_nn V_t) cn hn0 hnz hnc h255 (fun x hx => ⟨(h255 x hx).1, le255 (h255 x hx).2⟩) ne_t_c (fun h' V => ?_) n.toNatClampNeg 0 h0 (by omega) V_t (V_c.pad (fun i => by rw [List.take_zero, List.nil_append]; exact own_pad0 _ i))
  exact Go.retV d_jdk_43_method_49_33 rfl (by decide) (by decide) [] sn0 ⟨rfl, rfl, V.pad (fun i => own_padr _ _ i)⟩
abbrev R_m_l1gc : Room := { frames := 1, cells := 0, slots := 0, locals := 17 }
theorem pn_m_l1gc : plainFor (⟨"java/lang/StringLatin1", "getChars", "([BII[CI)V"⟩ : MethodName) = true := by first | (refine plainFor_of_name ?_; simp [plainName, overriddenIn]; done) | decide +kernel
abbrev Q_m_l1gc (Z : State) (t : Addr) (c : Addr) (kt : ClassId) (kc : ClassId) (cs : List Int32) (z : Int32) (zc : Int32) (n : Int32) (h0 : Heap) : Option Value → Heap → List Addr → Prop := fun res h' SN => res = none ∧ SN = [] ∧ Arv Z h' c kc .char zc ((cs.take n.toNatClampNeg).map Value.int) (.int (0 : Int32))
theorem ef_m_l1gc (mid : MethodId) (t : Addr) (c : Addr) (kt : ClassId) (kc : ClassId) (cs : List Int32) (z : Int32) (zc : Int32) (n : Int32) : entryFrame mid #[(.ref t), (.int (0 : Int32)), (.int n), (.ref c), (.int (0 : Int32))] 5 = mkF mid 0 #[.val (.ref t), .val (.int (0 : Int32)), .val (.int n), .val (.ref c), .val (.int (0 : Int32))] [] := by first | (simp [entryFrame, mkF, argsToLocals, Value.category]; done) | rfl
set_option maxRecDepth 65536 in
set_option maxHeartbeats 40000000 in
theorem m_l1gc {l : Launch} {Z : State} {a0 : Array Value} {n0 : Nat} (hw : ∀ d ∈ tables_1, d.before a0 Z = true) (hs : Stat Z) (t : Addr) (c : Addr) (kt : ClassId) (kc : ClassId) (cs : List Int32) (z : Int32) (zc : Int32) (n : Int32) (h0 : Heap) (V_t : Arv Z h0 t kt .byte z (cs.map lowV) (.int (0 : Int32))) (V_c : Arv Z h0 c kc .char zc (([] : List Int32).map Value.int) (.int (0 : Int32))) (hz : z.toNatClampNeg = cs.length) (hn0 : ¬ n < 0) (hnz : n.toNatClampNeg ≤ cs.length) (hnc : n.toNatClampNeg ≤ zc.toNatClampNeg) (h255 : ∀ x ∈ cs, ¬ x < 0 ∧ ¬ 255 < x) (ne_t_c : t ≠ c) :
    Met l Z EL0 n0 NR0 KN0 N_25 jdk_43_method_11_code 5 (Option.none : Option Jvm.ClassFile.FieldType) R_m_l1gc [c] #[(.ref t), (.int (0 : Int32)), (.int n), (.ref c), (.int (0 : Int32))] h0 (Q_m_l1gc Z t c kt kc cs z zc n h0) := by
  refine Met.of_go pn_m_l1gc (fun mid => ef_m_l1gc mid t c kt kc cs z zc n ) ?_
  intro hO hWS
  refine Go.aload_n (pc' := 1) d_jdk_43_method_11_0 rfl rfl rfl ?_
  refine Go.iload_n (pc' := 2) d_jdk_43_method_11_1 rfl rfl ?_
  refine Go.aload_n (pc' := 3) d_jdk_43_method_11_2 rfl rfl rfl ?_
  refine Go.iload (pc' := 5) d_jdk_43_method_11_3 rfl rfl ?_
  refine Go.iload_n (pc' := 6) d_jdk_43_method_11_5 rfl rfl ?_
  refine Go.iload_n (pc' := 7) d_jdk_43_method_11_6 rfl rfl ?_
  refine Go.isub (pc' := 8) d_jdk_43_method_11_7 rfl ?_
  rw [own_sub0]
  refine Go.callS (pc' := 11) (z := N_24) d_jdk_43_method_11_8 rfl (w_92 hw) (w_93 hw) (w_90 hw) (w_94 hw) (by decide) (argsL := [(.ref t), (.int (0 : Int32)), (.ref c), (.int (0 : Int32)), (.int n)]) (rest := []) (Pays.of_met (W := 0) (len := 3) (m_infl hw hs t c kt kc cs z zc n h0 V_t V_c (hz) (hn0) (hnz) (hnc) (h255) ne_t_c) (w_94 hw) (w_90 hw) (by decide) (by decide)) rfl rfl (lenOf pd_17 rfl) rfl (Nat.le_of_eq rfl) (memS (List.mem_of_getElem? (i := 0) rfl) mem0) (by decide) (by decide) ?_
  rintro _ h68 _ K69 le70 ⟨rfl, rfl, p71⟩
  replace V_t := V_t.keep K69 (ninS ne_t_c nin0)
  have V_c := p71
  change Go _ _ _ _ _ _ _ _ _ _ _ _ _ _ [c] h68 0 0 11 #[.val (.ref t), .val (.int (0 : Int32)), .val (.int n), .val (.ref c), .val (.int (0 : Int32))] []
  exact Go.retV d_jdk_43_method_11_11 rfl (by decide) (by decide) [] sn0 ⟨rfl, rfl, V_c⟩
abbrev R_m_u16boc : Room := { frames := 2, cells := 0, slots := 0, locals := 29 }
theorem pn_m_u16boc : plainFor (⟨"java/lang/StringUTF16", "checkBoundsOffCount", "(II[B)V"⟩ : MethodName) = true := by first | (refine plainFor_of_name ?_; simp [plainName, overriddenIn]; done) | decide +kernel
abbrev Q_m_u16boc (Z : State) (t : Addr) (kt : ClassId) (z : Int32) (bs : List Int32) (n : Int32) (h0 : Heap) : Option Value → Heap → List Addr → Prop := fun res h' SN => res = none ∧ SN = [] ∧ h0 = h'
theorem ef_m_u16boc (mid : MethodId) (t : Addr) (kt : ClassId) (z : Int32) (bs : List Int32) (n : Int32) : entryFrame mid #[(.int (0 : Int32)), (.int n), (.ref t)] 3 = mkF mid 0 #[.val (.int (0 : Int32)), .val (.int n), .val (.ref t)] [] := by first | (simp [entryFrame, mkF, argsToLocals, Value.category]; done) | rfl
set_option maxRecDepth 65536 in
set_option maxHeartbeats 40000000 in
theorem m_u16boc {l : Launch} {Z : State} {a0 : Array Value} {n0 : Nat} (hw : ∀ d ∈ tables_1, d.before a0 Z = true) (hs : Stat Z) (t : Addr) (kt : ClassId) (z : Int32) (bs : List Int32) (n : Int32) (h0 : Heap) (V_t : Arv Z h0 t kt .byte (z <<< ((1 : Int32) &&& 31)) (bs.map Value.int) (.int (0 : Int32))) (hz0 : ¬ z < 0) (hl1 : z.toNatClampNeg < 1073741824) (hn0 : ¬ n < 0) (hle : ¬ z < n) :
    Met l Z EL0 n0 NR0 KN0 N_26 jdk_52_method_94_code 3 (Option.none : Option Jvm.ClassFile.FieldType) R_m_u16boc [] #[(.int (0 : Int32)), (.int n), (.ref t)] h0 (Q_m_u16boc Z t kt z bs n h0) := by
  refine Met.of_go pn_m_u16boc (fun mid => ef_m_u16boc mid t kt z bs n ) ?_
  intro hO hWS
  have hc0 := arv_nn V_t
  refine Go.iload_n (pc' := 1) d_jdk_52_method_94_0 rfl rfl ?_
  refine Go.iload_n (pc' := 2) d_jdk_52_method_94_1 rfl rfl ?_
  refine Go.aload_n (pc' := 3) d_jdk_52_method_94_2 rfl rfl rfl ?_
  refine Go.callS (pc' := 6) (z := N_21) d_jdk_52_method_94_3 rfl (w_157 hw) (w_158 hw) (w_18 hw) (w_159 hw) (by decide) (argsL := [(.ref t)]) (rest := [(.int n), (.int (0 : Int32))]) (Pays.of_met (W := 2) (len := 3) (m_u16l hw hs t kt z bs h0 V_t (hz0) (hl1)) (w_159 hw) (w_18 hw) (by decide) (by decide)) rfl rfl (lenOf pd_15 rfl) rfl (Nat.le_of_eq rfl) mem0 (by decide) (by decide) ?_
  rintro _ _ _ - - ⟨rfl, rfl, rfl⟩
  change Go _ _ _ _ _ _ _ _ _ _ _ _ _ _ [] h0 0 0 6 #[.val (.int (0 : Int32)), .val (.int n), .val (.ref t)] [(.int z), (.int n), (.int (0 : Int32))]
  refine Go.callS (pc' := 9) (z := N_11) d_jdk_52_method_94_6 rfl (w_160 hw) (w_78 hw) (w_4 hw) (w_79 hw) (by decide) (argsL := [(.int (0 : Int32)), (.int n), (.int z)]) (rest := []) (Pays.of_met (W := 0) (len := 3) (m_boc hw hs n z h0 (hn0) (hz0) (hle)) (w_79 hw) (w_4 hw) (by decide) (by decide)) rfl rfl (lenOf pd_9 rfl) rfl (Nat.le_of_eq rfl) mem0 (by decide) (by decide) ?_
  rintro _ _ _ - - ⟨rfl, rfl, rfl⟩
  change Go _ _ _ _ _ _ _ _ _ _ _ _ _ _ [] h0 0 0 9 #[.val (.int (0 : Int32)), .val (.int n), .val (.ref t)] [(.int (0 : Int32))]
  refine Go.pop (pc' := 10) d_jdk_52_method_94_9 rfl rfl ?_
  exact Go.retV d_jdk_52_method_94_10 rfl (by decide) (by decide) [] sn0 ⟨rfl, rfl, rfl⟩
abbrev RL_u16gc : Room := { frames := 4, cells := 0, slots := 0, locals := 100 }
set_option maxRecDepth 65536 in
set_option maxHeartbeats 40000000 in
theorem m_u16gc_loop {l : Launch} {Z : State} {a0 : Array Value} {n0 : Nat} (hw : ∀ d ∈ tables_1, d.before a0 Z = true) (hs : Stat Z) {h0 : Heap} {Q : Option Value → Heap → List Addr → Prop} {t c : Addr} {kt kc : ClassId} {bs cs : List Int32} {z zc n : Int32} (hz : z.toNatClampNeg = cs.length) (zn : ¬ z < 0) (cn : ¬ zc < 0) (hn0 : ¬ n < 0) (hnz : n.toNatClampNeg ≤ cs.length) (hnc : n.toNatClampNeg ≤ zc.toNatClampNeg) (hl1 : z.toNatClampNeg < 1073741824) (hE : Enc bs cs cs.length) (h16 : ∀ x ∈ cs, ¬ x < 0 ∧ ¬ 65535 < x) (ne_t_c : t ≠ c)
    (K : ∀ h', Arv Z h' c kc .char zc ((cs.take n.toNatClampNeg ++ List.replicate (zc.toNatClampNeg - n.toNatClampNeg) (0 : Int32)).map Value.int) (.int (0 : Int32)) → Go l Z EL0 n0 NR0 KN0 N_27 jdk_52_method_26_code 6 (Option.none : Option Jvm.ClassFile.FieldType) RL_u16gc h0 [c] Q [c] h' 0 0 41 #[.val (.ref t), .val (.int (0 : Int32)), .val (.int n), .val (.ref c), .val (.int (Int32.ofNat n.toNatClampNeg)), .val (.int (Int32.ofNat n.toNatClampNeg))] []) :
    ∀ (m i : Nat) (h : Heap), i + m = n.toNatClampNeg → Arv Z h t kt .byte (z <<< ((1 : Int32) &&& 31)) (bs.map Value.int) (.int (0 : Int32)) → Arv Z h c kc .char zc ((cs.take i ++ List.replicate (zc.toNatClampNeg - i) (0 : Int32)).map Value.int) (.int (0 : Int32)) → Go l Z EL0 n0 NR0 KN0 N_27 jdk_52_method_26_code 6 (Option.none : Option Jvm.ClassFile.FieldType) RL_u16gc h0 [c] Q [c] h 0 0 16 #[.val (.ref t), .val (.int (0 : Int32)), .val (.int n), .val (.ref c), .val (.int (Int32.ofNat i)), .val (.int (Int32.ofNat i))] [] := by
  have q := (back32 hn0).2
  have q2 := (back32 zn).2
  intro m
  induction m with
  | zero =>
    intro i h hi V_t V_c
    obtain rfl : i = n.toNatClampNeg := by omega
    refine Go.iload (pc' := 18) d_jdk_52_method_26_16 rfl rfl ?_
    refine Go.iload_n (pc' := 19) d_jdk_52_method_26_18 rfl rfl ?_
    refine Go.icmpY (pc' := 41) d_jdk_52_method_26_19 (by decide) (by decide) (flt (ofNat_ge hn0 (by omega) (Nat.le_refl _) : ¬ ((Int32.ofNat n.toNatClampNeg) < n))).2.1 ?_
    exact K h V_c
  | succ m ih =>
    intro i h hi V_t V_c
    have hi2 : i < cs.length := by omega
    have ci := ofNat_clamp (i := i) (by omega)
    have nn := ofNat_nn (i := i) (by omega)
    have lt := ofNat_lt (i := i) hn0 (by omega)
    have ltz := ofNat_lt (i := i) zn (by omega)
    have ltc := ofNat_lt (i := i) cn (by omega)
    have b1 := getD_mem h16 hi2
    refine Go.iload (pc' := 18) d_jdk_52_method_26_16 rfl rfl ?_
    refine Go.iload_n (pc' := 19) d_jdk_52_method_26_18 rfl rfl ?_
    refine Go.icmpN (pc' := 22) d_jdk_52_method_26_19 rfl (tlt (lt : (Int32.ofNat i) < n)).2.1 ?_
    refine Go.aload_n (pc' := 23) d_jdk_52_method_26_22 rfl rfl rfl ?_
    refine Go.iload (pc' := 25) d_jdk_52_method_26_23 rfl rfl ?_
    refine Go.iinc (pc' := 28) (Ls' := #[.val (.ref t), .val (.int (0 : Int32)), .val (.int n), .val (.ref c), .val (.int ((Int32.ofNat i) + (1 : Int32))), .val (.int (Int32.ofNat i))]) d_jdk_52_method_26_25 rfl ic_1 rfl rfl ?_
    refine Go.aload_n (pc' := 29) d_jdk_52_method_26_28 rfl rfl rfl ?_
    refine Go.iload (pc' := 31) d_jdk_52_method_26_29 rfl rfl ?_
    have hl := hE.1
    have sz := own_shl1 zn hl1
    refine Go.callS (pc' := 34) (z := N_4) d_jdk_52_method_26_31 rfl (w_148 hw) (w_149 hw) (w_18 hw) (w_150 hw) (by decide) (argsL := [(.ref t), (.int (Int32.ofNat i))]) (rest := [(.int (Int32.ofNat i)), (.ref c)]) (Pays.of_met (W := 2) (len := 3) (m_ugc hw hs t kt (z <<< ((1 : Int32) &&& 31)) bs (Int32.ofNat i) h V_t (nn) (by rw [ci]; omega) (by rw [sz.2]; omega)) (w_150 hw) (w_18 hw) (by decide) (by decide)) rfl rfl (lenOf pd_5 rfl) rfl (Nat.le_of_eq rfl) mem0 (by decide) (by decide) ?_
    rintro _ _ _ - - ⟨rfl, rfl, rfl⟩
    change Go _ _ _ _ _ _ _ _ _ _ _ _ _ _ [c] h 0 0 34 #[.val (.ref t), .val (.int (0 : Int32)), .val (.int n), .val (.ref c), .val (.int ((Int32.ofNat i) + (1 : Int32))), .val (.int (Int32.ofNat i))] [(.int (udec (bs.getD (2 * (Int32.ofNat i).toNatClampNeg) 0) (bs.getD (2 * (Int32.ofNat i).toNatClampNeg + 1) 0))), (.int (Int32.ofNat i)), (.ref c)]
    rw [ci, own_enc_at hE hi2 h16]
    refine Go.castoreV (pc' := 35) (i := i) d_jdk_52_method_26_34 rfl (List.mem_of_getElem? (i := 0) rfl) V_c ⟨nn, ltc⟩ ci (by simp; omega) ?_
    rw [nar_char b1.1 b1.2]
    intro h2 W2 V_c'
    rw [own_set_map, own_fill hi2 (by omega)] at V_c'
    replace V_t := V_t.other W2 ne_t_c
    change Go _ _ _ _ _ _ _ _ _ _ _ _ _ _ [c] h2 0 0 35 #[.val (.ref t), .val (.int (0 : Int32)), .val (.int n), .val (.ref c), .val (.int ((Int32.ofNat i) + (1 : Int32))), .val (.int (Int32.ofNat i))] []
    refine Go.iinc (pc' := 38) (Ls' := #[.val (.ref t), .val (.int (0 : Int32)), .val (.int n), .val (.ref c), .val (.int ((Int32.ofNat i) + (1 : Int32))), .val (.int ((Int32.ofNat i) + (1 : Int32)))]) d_jdk_52_method_26_35 rfl ic_1 rfl rfl ?_
    refine Go.goto (pc' := 16) d_jdk_52_method_26_38 (by decide) (by decide) ?_
    rw [ofNat_succ i]
    exact ih (i + 1) h2 (by omega) V_t V_c'
abbrev R_m_u16gc : Room := { frames := 4, cells := 0, slots := 0, locals := 100 }
theorem pn_m_u16gc : plainFor (⟨"java/lang/StringUTF16", "getChars", "([BII[CI)V"⟩ : MethodName) = true := by first | (refine plainFor_of_name ?_; simp [plainName, overriddenIn]; done) | decide +kernel
abbrev Q_m_u16gc (Z : State) (t : Addr) (c : Addr) (kt : ClassId) (kc : ClassId) (bs : List Int32) (cs : List Int32) (z : Int32) (zc : Int32) (n : Int32) (h0 : Heap) : Option Value → Heap → List Addr → Prop := fun res h' SN => res = none ∧ SN = [] ∧ Arv Z h' c kc .char zc ((cs.take n.toNatClampNeg).map Value.int) (.int (0 : Int32))
theorem ef_m_u16gc (mid : MethodId) (t : Addr) (c : Addr) (kt : ClassId) (kc : ClassId) (bs : List Int32) (cs : List Int32) (z : Int32) (zc : Int32) (n : Int32) : entryFrame mid #[(.ref t), (.int (0 : Int32)), (.int n), (.ref c), (.int (0 : Int32))] 6 = mkF mid 0 #[.val (.ref t), .val (.int (0 : Int32)), .val (.int n), .val (.ref c), .val (.int (0 : Int32)), .unset] [] := by first | (simp [entryFrame, mkF, argsToLocals, Value.category]; done) | rfl
set_option maxRecDepth 65536 in
set_option maxHeartbeats 40000000 in
theorem m_u16gc {l : Launch} {Z : State} {a0 : Array Value} {n0 : Nat} (hw : ∀ d ∈ tables_1, d.before a0 Z = true) (hs : Stat Z) (t : Addr) (c : Addr) (kt : ClassId) (kc : ClassId) (bs : List Int32) (cs : List Int32) (z : Int32) (zc : Int32) (n : Int32) (h0 : Heap) (V_t : Arv Z h0 t kt .byte (z <<< ((1 : Int32) &&& 31)) (bs.map Value.int) (.int (0 : Int32))) (V_c : Arv Z h0 c kc .char zc (([] : List Int32).map Value.int) (.int (0 : Int32))) (hz : z.toNatClampNeg = cs.length) (hn0 : ¬ n < 0) (hnz : n.toNatClampNeg ≤ cs.length) (hnc : n.toNatClampNeg ≤ zc.toNatClampNeg) (hz0 : ¬ z < 0) (hl1 : z.toNatClampNeg < 1073741824) (hE : Enc bs cs cs.length) (h16 : ∀ x ∈ cs, ¬ x < 0 ∧ ¬ 65535 < x) (ne_t_c : t ≠ c) :
    Met l Z EL0 n0 NR0 KN0 N_27 jdk_52_method_26_code 6 (Option.none : Option Jvm.ClassFile.FieldType) R_m_u16gc [c] #[(.ref t), (.int (0 : Int32)), (.int n), (.ref c), (.int (0 : Int32))] h0 (Q_m_u16gc Z t c kt kc bs cs z zc n h0) := by
  refine Met.of_go pn_m_u16gc (fun mid => ef_m_u16gc mid t c kt kc bs cs z zc n ) ?_
  intro hO hWS
  have cn := arv_nn V_c
  refine Go.iload_n (pc' := 1) d_jdk_52_method_26_0 rfl rfl ?_
  refine Go.iload_n (pc' := 2) d_jdk_52_method_26_1 rfl rfl ?_
  by_cases h1 : (0 : Int32) < n
  · skip
    refine Go.icmpN (pc' := 5) d_jdk_52_method_26_2 rfl (tlt (h1 : (0 : Int32) < n)).2.1 ?_
    refine Go.iload_n (pc' := 6) d_jdk_52_method_26_5 rfl rfl ?_
    refine Go.iload_n (pc' := 7) d_jdk_52_method_26_6 rfl rfl ?_
    refine Go.iload_n (pc' := 8) d_jdk_52_method_26_7 rfl rfl ?_
    refine Go.isub (pc' := 9) d_jdk_52_method_26_8 rfl ?_
    refine Go.aload_n (pc' := 10) d_jdk_52_method_26_9 rfl rfl rfl ?_
    rw [own_sub0]
    refine Go.callS (pc' := 13) (z := N_26) d_jdk_52_method_26_10 rfl (w_154 hw) (w_155 hw) (w_18 hw) (w_156 hw) (by decide) (argsL := [(.int (0 : Int32)), (.int n), (.ref t)]) (rest := []) (Pays.of_met (W := 0) (len := 3) (m_u16boc hw hs t kt z bs n h0 V_t (hz0) (hl1) (hn0) (own_gec hz0 hn0 (by omega))) (w_156 hw) (w_18 hw) (by decide) (by decide)) rfl rfl (lenOf pd_18 rfl) rfl (Nat.le_of_eq rfl) mem0 (by decide) (by decide) ?_
    rintro _ _ _ - - ⟨rfl, rfl, rfl⟩
    change Go _ _ _ _ _ _ _ _ _ _ _ _ _ _ [c] h0 0 0 13 #[.val (.ref t), .val (.int (0 : Int32)), .val (.int n), .val (.ref c), .val (.int (0 : Int32)), .unset] []
    refine Go.iload_n (pc' := 14) d_jdk_52_method_26_13 rfl rfl ?_
    refine Go.istore (pc' := 16) (Ls' := #[.val (.ref t), .val (.int (0 : Int32)), .val (.int n), .val (.ref c), .val (.int (0 : Int32)), .val (.int (0 : Int32))]) d_jdk_52_method_26_14 rfl rfl ?_
    refine m_u16gc_loop hw hs hz hz0 cn hn0 hnz hnc hl1 hE h16 ne_t_c (fun h' V => ?_) n.toNatClampNeg 0 h0 (by omega) V_t (V_c.pad (fun i => by rw [List.take_zero, List.nil_append]; exact own_pad0 _ i))
    exact Go.retV d_jdk_52_method_26_41 rfl (by decide) (by decide) [] sn0 ⟨rfl, rfl, V.pad (fun i => own_padr _ _ i)⟩
  · skip
    refine Go.icmpY (pc' := 13) d_jdk_52_method_26_2 (by decide) (by decide) (flt (h1 : ¬ ((0 : Int32) < n))).2.1 ?_
    refine Go.iload_n (pc' := 14) d_jdk_52_method_26_13 rfl rfl ?_
    refine Go.istore (pc' := 16) (Ls' := #[.val (.ref t), .val (.int (0 : Int32)), .val (.int n), .val (.ref c), .val (.int (0 : Int32)), .val (.int (0 : Int32))]) d_jdk_52_method_26_14 rfl rfl ?_
    refine m_u16gc_loop hw hs hz hz0 cn hn0 hnz hnc hl1 hE h16 ne_t_c (fun h' V => ?_) n.toNatClampNeg 0 h0 (by omega) V_t (V_c.pad (fun i => by rw [List.take_zero, List.nil_append]; exact own_pad0 _ i))
    exact Go.retV d_jdk_52_method_26_41 rfl (by decide) (by decide) [] sn0 ⟨rfl, rfl, V.pad (fun i => own_padr _ _ i)⟩
abbrev R_m_fti : Room := { frames := 0, cells := 0, slots := 0, locals := 0 }
theorem pn_m_fti : plainFor (⟨"jdk/internal/util/Preconditions", "checkFromToIndex", "(IIILjava/util/function/BiFunction;)I"⟩ : MethodName) = true := by first | (refine plainFor_of_name ?_; simp [plainName, overriddenIn]; done) | decide +kernel
abbrev Q_m_fti (Z : State) (n : Int32) (z : Int32) (f : Value) (h0 : Heap) : Option Value → Heap → List Addr → Prop := fun res h' SN => res = some (.int (0 : Int32)) ∧ SN = [] ∧ h0 = h'
theorem ef_m_fti (mid : MethodId) (n : Int32) (z : Int32) (f : Value) (hv_f : f.isRef = true) : entryFrame mid #[(.int (0 : Int32)), (.int n), (.int z), f] 4 = mkF mid 0 #[.val (.int (0 : Int32)), .val (.int n), .val (.int z), .val f] [] := by rcases ref_cases hv_f with rfl | ⟨_, rfl⟩ <;> first | (simp [entryFrame, mkF, argsToLocals, Value.category]; done) | rfl
set_option maxRecDepth 65536 in
set_option maxHeartbeats 40000000 in
theorem m_fti {l : Launch} {Z : State} {a0 : Array Value} {n0 : Nat} (hw : ∀ d ∈ tables_1, d.before a0 Z = true) (hs : Stat Z) (n : Int32) (z : Int32) (f : Value) (h0 : Heap) (hv_f : f.isRef = true) (hn0 : ¬ n < 0) (hle : ¬ z < n) :
    Met l Z EL0 n0 NR0 KN0 N_28 jdk_41_method_12_code 4 (Option.some Jvm.ClassFile.FieldType.int) R_m_fti [] #[(.int (0 : Int32)), (.int n), (.int z), f] h0 (Q_m_fti Z n z f h0) := by
  refine Met.of_go pn_m_fti (fun mid => ef_m_fti mid n z f hv_f) ?_
  intro hO hWS
  refine Go.iload_n (pc' := 1) d_jdk_41_method_12_0 rfl rfl ?_
  refine Go.ifN (pc' := 4) d_jdk_41_method_12_1 rfl ((if0 _ _).trans (flt (by decide : ¬ ((0 : Int32) < (0 : Int32)))).1) ?_
  refine Go.iload_n (pc' := 5) d_jdk_41_method_12_4 rfl rfl ?_
  refine Go.iload_n (pc' := 6) d_jdk_41_method_12_5 rfl rfl ?_
  refine Go.icmpN (pc' := 9) d_jdk_41_method_12_6 rfl (flt (hn0 : ¬ (n < (0 : Int32)))).2.2.1 ?_
  refine Go.iload_n (pc' := 10) d_jdk_41_method_12_9 rfl rfl ?_
  refine Go.iload_n (pc' := 11) d_jdk_41_method_12_10 rfl rfl ?_
  refine Go.icmpY (pc' := 22) d_jdk_41_method_12_11 (by decide) (by decide) (flt (hle : ¬ (z < n))).2.2.2 ?_
  refine Go.iload_n (pc' := 23) d_jdk_41_method_12_22 rfl rfl ?_
  exact Go.retI d_jdk_41_method_12_23 rfl (by decide) (by decide) [] sn0 ⟨rfl, rfl, rfl⟩
abbrev R_m_cbe : Room := { frames := 1, cells := 0, slots := 0, locals := 15 }
theorem pn_m_cbe : plainFor (⟨"java/lang/String", "checkBoundsBeginEnd", "(III)V"⟩ : MethodName) = true := by first | (refine plainFor_of_name ?_; simp [plainName, overriddenIn]; done) | decide +kernel
abbrev Q_m_cbe (Z : State) (n : Int32) (z : Int32) (h0 : Heap) : Option Value → Heap → List Addr → Prop := fun res h' SN => res = none ∧ SN = [] ∧ h0 = h'
theorem ef_m_cbe (mid : MethodId) (n : Int32) (z : Int32) : entryFrame mid #[(.int (0 : Int32)), (.int n), (.int z)] 3 = mkF mid 0 #[.val (.int (0 : Int32)), .val (.int n), .val (.int z)] [] := by first | (simp [entryFrame, mkF, argsToLocals, Value.category]; done) | rfl
set_option maxRecDepth 65536 in
set_option maxHeartbeats 40000000 in
theorem m_cbe {l : Launch} {Z : State} {a0 : Array Value} {n0 : Nat} (hw : ∀ d ∈ tables_1, d.before a0 Z = true) (hs : Stat Z) (n : Int32) (z : Int32) (h0 : Heap) (hn0 : ¬ n < 0) (hle : ¬ z < n) :
    Met l Z EL0 n0 NR0 KN0 N_29 jdk_42_method_158_code 3 (Option.none : Option Jvm.ClassFile.FieldType) R_m_cbe [] #[(.int (0 : Int32)), (.int n), (.int z)] h0 (Q_m_cbe Z n z h0) := by
  refine Met.of_go pn_m_cbe (fun mid => ef_m_cbe mid n z ) ?_
  intro hO hWS
  obtain ⟨fm, S_f, hv_fm⟩ := hs_f hs
  refine Go.iload_n (pc' := 1) d_jdk_42_method_158_0 rfl rfl ?_
  refine Go.iload_n (pc' := 2) d_jdk_42_method_158_1 rfl rfl ?_
  refine Go.iload_n (pc' := 3) d_jdk_42_method_158_2 rfl rfl ?_
  refine Go.getS (pc' := 6) d_jdk_42_method_158_3 rfl (host := "") (Or.inl (w_72 hw)) Via.refl S_f ?_
  refine Go.callS (pc' := 9) (z := N_28) d_jdk_42_method_158_6 rfl (w_74 hw) (w_75 hw) (w_73 hw) (w_76 hw) (by decide) (argsL := [(.int (0 : Int32)), (.int n), (.int z), fm]) (rest := []) (Pays.of_met (W := 0) (len := 3) (m_fti hw hs n z fm h0 hv_fm (hn0) (hle)) (w_76 hw) (w_73 hw) (by decide) (by decide)) rfl rfl (lenOf pd_8 rfl) rfl (Nat.le_of_eq rfl) mem0 (by decide) (by decide) ?_
  rintro _ _ _ - - ⟨rfl, rfl, rfl⟩
  change Go _ _ _ _ _ _ _ _ _ _ _ _ _ _ [] h0 0 0 9 #[.val (.int (0 : Int32)), .val (.int n), .val (.int z)] [(.int (0 : Int32))]
  refine Go.pop (pc' := 10) d_jdk_42_method_158_9 rfl rfl ?_
  exact Go.retV d_jdk_42_method_158_10 rfl (by decide) (by decide) [] sn0 ⟨rfl, rfl, rfl⟩
abbrev R_m_sgc0 : Room := { frames := 2, cells := 0, slots := 0, locals := 33 }
theorem pn_m_sgc0 : plainFor (⟨"java/lang/String", "getChars", "(II[CI)V"⟩ : MethodName) = true := by first | (refine plainFor_of_name ?_; simp [plainName, overriddenIn]; done) | decide +kernel
abbrev Q_m_sgc0 (Z : State) (a : Addr) (t : Addr) (c : Addr) (kt : ClassId) (kc : ClassId) (cs : List Int32) (z : Int32) (zc : Int32) (n : Int32) (h0 : Heap) : Option Value → Heap → List Addr → Prop := fun res h' SN => res = none ∧ SN = [] ∧ Arv Z h' c kc .char zc ((cs.take n.toNatClampNeg).map Value.int) (.int (0 : Int32))
theorem ef_m_sgc0 (mid : MethodId) (a : Addr) (t : Addr) (c : Addr) (kt : ClassId) (kc : ClassId) (cs : List Int32) (z : Int32) (zc : Int32) (n : Int32) : entryFrame mid #[(.ref a), (.int (0 : Int32)), (.int n), (.ref c), (.int (0 : Int32))] 5 = mkF mid 0 #[.val (.ref a), .val (.int (0 : Int32)), .val (.int n), .val (.ref c), .val (.int (0 : Int32))] [] := by first | (simp [entryFrame, mkF, argsToLocals, Value.category]; done) | rfl
set_option maxRecDepth 65536 in
set_option maxHeartbeats 40000000 in
theorem m_sgc0 {l : Launch} {Z : State} {a0 : Array Value} {n0 : Nat} (hw : ∀ d ∈ tables_1, d.before a0 Z = true) (hs : Stat Z) (a : Addr) (t : Addr) (c : Addr) (kt : ClassId) (kc : ClassId) (cs : List Int32) (z : Int32) (zc : Int32) (n : Int32) (h0 : Heap) (E_a : Exa Z h0 a "java/lang/String") (F_a_coder : Fld Z h0 a "java/lang/String" "coder" "B" (.int (0 : Int32))) (F_a_value : Fld Z h0 a "java/lang/String" "value" "[B" (.ref t)) (V_t : Arv Z h0 t kt .byte z (cs.map lowV) (.int (0 : Int32))) (V_c : Arv Z h0 c kc .char zc (([] : List Int32).map Value.int) (.int (0 : Int32))) (hz : z.toNatClampNeg = cs.length) (hn0 : ¬ n < 0) (hnz : n.toNatClampNeg ≤ cs.length) (hnc : n.toNatClampNeg ≤ zc.toNatClampNeg) (hz0 : ¬ z < 0) (hl1 : z.toNatClampNeg < 1073741824) (h255 : ∀ x ∈ cs, ¬ x < 0 ∧ ¬ 255 < x) (ne_t_c : t ≠ c) :
    Met l Z EL0 n0 NR0 KN0 N_30 jdk_42_method_61_code 5 (Option.none : Option Jvm.ClassFile.FieldType) R_m_sgc0 [c] #[(.ref a), (.int (0 : Int32)), (.int n), (.ref c), (.int (0 : Int32))] h0 (Q_m_sgc0 Z a t c kt kc cs z zc n h0) := by
  refine Met.of_go pn_m_sgc0 (fun mid => ef_m_sgc0 mid a t c kt kc cs z zc n ) ?_
  intro hO hWS
  have cn := arv_nn V_c
  refine Go.iload_n (pc' := 1) d_jdk_42_method_61_0 rfl rfl ?_
  refine Go.iload_n (pc' := 2) d_jdk_42_method_61_1 rfl rfl ?_
  refine Go.aload_n (pc' := 3) d_jdk_42_method_61_2 rfl rfl rfl ?_
  refine Go.callV (pc' := 6) (u := N_16) (z := N_16) (a := a) d_jdk_42_method_61_3 rfl (w_59 hw) (w_60 hw) (nf (w_62 hw) rfl) (w_62 hw) (w_61 hw) (by decide) E_a (argsL := []) (rest := [(.int n), (.int (0 : Int32))]) (Pays.of_met (W := 2) (len := 3) (m_length hw hs a t kt z (cs.map lowV) h0 E_a F_a_coder F_a_value V_t) (w_63 hw) (w_4 hw) (by decide) (by decide)) rfl rfl (lenOf pd_19 rfl) rfl (Nat.le_of_eq rfl) mem0 (by decide) (by decide) ?_
  rintro _ _ _ - - ⟨rfl, rfl, rfl⟩
  change Go _ _ _ _ _ _ _ _ _ _ _ _ _ _ [c] h0 0 0 6 #[.val (.ref a), .val (.int (0 : Int32)), .val (.int n), .val (.ref c), .val (.int (0 : Int32))] [(.int z), (.int n), (.int (0 : Int32))]
  refine Go.callS (pc' := 9) (z := N_29) d_jdk_42_method_61_6 rfl (w_69 hw) (w_70 hw) (w_4 hw) (w_71 hw) (by decide) (argsL := [(.int (0 : Int32)), (.int n), (.int z)]) (rest := []) (Pays.of_met (W := 0) (len := 3) (m_cbe hw hs n z h0 (hn0) (own_gec hz0 hn0 (by omega))) (w_71 hw) (w_4 hw) (by decide) (by decide)) rfl rfl (lenOf pd_20 rfl) rfl (Nat.le_of_eq rfl) mem0 (by decide) (by decide) ?_
  rintro _ _ _ - - ⟨rfl, rfl, rfl⟩
  change Go _ _ _ _ _ _ _ _ _ _ _ _ _ _ [c] h0 0 0 9 #[.val (.ref a), .val (.int (0 : Int32)), .val (.int n), .val (.ref c), .val (.int (0 : Int32))] []
  refine Go.iload (pc' := 11) d_jdk_42_method_61_9 rfl rfl ?_
  refine Go.iload_n (pc' := 12) d_jdk_42_method_61_11 rfl rfl ?_
  refine Go.iload_n (pc' := 13) d_jdk_42_method_61_12 rfl rfl ?_
  refine Go.isub (pc' := 14) d_jdk_42_method_61_13 rfl ?_
  refine Go.aload_n (pc' := 15) d_jdk_42_method_61_14 rfl rfl rfl ?_
  rw [own_sub0]
  refine Go.lenV (pc' := 16) d_jdk_42_method_61_15 rfl V_c ?_
  refine Go.callS (pc' := 19) (z := N_11) d_jdk_42_method_61_16 rfl (w_77 hw) (w_78 hw) (w_4 hw) (w_79 hw) (by decide) (argsL := [(.int (0 : Int32)), (.int n), (.int zc)]) (rest := []) (Pays.of_met (W := 0) (len := 3) (m_boc hw hs n zc h0 (hn0) (cn) (own_gec cn hn0 (by omega))) (w_79 hw) (w_4 hw) (by decide) (by decide)) rfl rfl (lenOf pd_9 rfl) rfl (Nat.le_of_eq rfl) mem0 (by decide) (by decide) ?_
  rintro _ _ _ - - ⟨rfl, rfl, rfl⟩
  change Go _ _ _ _ _ _ _ _ _ _ _ _ _ _ [c] h0 0 0 19 #[.val (.ref a), .val (.int (0 : Int32)), .val (.int n), .val (.ref c), .val (.int (0 : Int32))] [(.int (0 : Int32))]
  refine Go.pop (pc' := 20) d_jdk_42_method_61_19 rfl rfl ?_
  refine Go.aload_n (pc' := 21) d_jdk_42_method_61_20 rfl rfl rfl ?_
  refine Go.callV (pc' := 24) (u := N_15) (z := N_15) (a := a) d_jdk_42_method_61_21 rfl (w_83 hw) (w_84 hw) (nf (w_86 hw) rfl) (w_86 hw) (w_85 hw) (by decide) E_a (argsL := []) (rest := []) (Pays.of_met (W := 0) (len := 3) (m_isL hw hs a h0 F_a_coder) (w_87 hw) (w_4 hw) (by decide) (by decide)) rfl rfl (lenOf pd_14 rfl) rfl (Nat.le_of_eq rfl) mem0 (by decide) (by decide) ?_
  rintro _ _ _ - - ⟨rfl, rfl, rfl⟩
  change Go _ _ _ _ _ _ _ _ _ _ _ _ _ _ [c] h0 0 0 24 #[.val (.ref a), .val (.int (0 : Int32)), .val (.int n), .val (.ref c), .val (.int (0 : Int32))] [(.int (1 : Int32))]
  refine Go.ifN (pc' := 27) d_jdk_42_method_61_24 rfl ((if0 _ _).trans (feq (by decide : ¬ ((1 : Int32) = (0 : Int32)))).1) ?_
  refine Go.aload_n (pc' := 28) d_jdk_42_method_61_27 rfl rfl rfl ?_
  refine Go.getF (pc' := 31) d_jdk_42_method_61_28 rfl (host := "") (Or.inl (w_29 hw)) Via.refl F_a_value ?_
  refine Go.iload_n (pc' := 32) d_jdk_42_method_61_31 rfl rfl ?_
  refine Go.iload_n (pc' := 33) d_jdk_42_method_61_32 rfl rfl ?_
  refine Go.aload_n (pc' := 34) d_jdk_42_method_61_33 rfl rfl rfl ?_
  refine Go.iload (pc' := 36) d_jdk_42_method_61_34 rfl rfl ?_
  refine Go.callS (pc' := 39) (z := N_25) d_jdk_42_method_61_36 rfl (w_88 hw) (w_89 hw) (w_90 hw) (w_91 hw) (by decide) (argsL := [(.ref t), (.int (0 : Int32)), (.int n), (.ref c), (.int (0 : Int32))]) (rest := []) (Pays.of_met (W := 0) (len := 3) (m_l1gc hw hs t c kt kc cs z zc n h0 V_t V_c (hz) (hn0) (hnz) (hnc) (h255) ne_t_c) (w_91 hw) (w_90 hw) (by decide) (by decide)) rfl rfl (lenOf pd_21 rfl) rfl (Nat.le_of_eq rfl) (memS (List.mem_of_getElem? (i := 0) rfl) mem0) (by decide) (by decide) ?_
  rintro _ h72 _ K73 le74 ⟨rfl, rfl, p75⟩
  replace E_a := E_a.keep K73
  replace V_t := V_t.keep K73 (ninS ne_t_c nin0)
  have V_c := p75
  change Go _ _ _ _ _ _ _ _ _ _ _ _ _ _ [c] h72 0 0 39 #[.val (.ref a), .val (.int (0 : Int32)), .val (.int n), .val (.ref c), .val (.int (0 : Int32))] []
  refine Go.goto (pc' := 54) d_jdk_42_method_61_39 (by decide) (by decide) ?_
  exact Go.retV d_jdk_42_method_61_54 rfl (by decide) (by decide) [] sn0 ⟨rfl, rfl, V_c⟩
abbrev R_m_sgc1 : Room := { frames := 5, cells := 0, slots := 0, locals := 117 }
theorem pn_m_sgc1 : plainFor (⟨"java/lang/String", "getChars", "(II[CI)V"⟩ : MethodName) = true := by first | (refine plainFor_of_name ?_; simp [plainName, overriddenIn]; done) | decide +kernel
abbrev Q_m_sgc1 (Z : State) (a : Addr) (t : Addr) (c : Addr) (kt : ClassId) (kc : ClassId) (bs : List Int32) (cs : List Int32) (z : Int32) (zc : Int32) (n : Int32) (h0 : Heap) : Option Value → Heap → List Addr → Prop := fun res h' SN => res = none ∧ SN = [] ∧ Arv Z h' c kc .char zc ((cs.take n.toNatClampNeg).map Value.int) (.int (0 : Int32))
theorem ef_m_sgc1 (mid : MethodId) (a : Addr) (t : Addr) (c : Addr) (kt : ClassId) (kc : ClassId) (bs : List Int32) (cs : List Int32) (z : Int32) (zc : Int32) (n : Int32) : entryFrame mid #[(.ref a), (.int (0 : Int32)), (.int n), (.ref c), (.int (0 : Int32))] 5 = mkF mid 0 #[.val (.ref a), .val (.int (0 : Int32)), .val (.int n), .val (.ref c), .val (.int (0 : Int32))] [] := by first | (simp [entryFrame, mkF, argsToLocals, Value.category]; done) | rfl
set_option maxRecDepth 65536 in
set_option maxHeartbeats 40000000 in
theorem m_sgc1 {l : Launch} {Z : State} {a0 : Array Value} {n0 : Nat} (hw : ∀ d ∈ tables_1, d.before a0 Z = true) (hs : Stat Z) (a : Addr) (t : Addr) (c : Addr) (kt : ClassId) (kc : ClassId) (bs : List Int32) (cs : List Int32) (z : Int32) (zc : Int32) (n : Int32) (h0 : Heap) (E_a : Exa Z h0 a "java/lang/String") (F_a_coder : Fld Z h0 a "java/lang/String" "coder" "B" (.int (1 : Int32))) (F_a_value : Fld Z h0 a "java/lang/String" "value" "[B" (.ref t)) (V_t : Arv Z h0 t kt .byte (z <<< ((1 : Int32) &&& 31)) (bs.map Value.int) (.int (0 : Int32))) (V_c : Arv Z h0 c kc .char zc (([] : List Int32).map Value.int) (.int (0 : Int32))) (hz : z.toNatClampNeg = cs.length) (hn0 : ¬ n < 0) (hnz : n.toNatClampNeg ≤ cs.length) (hnc : n.toNatClampNeg ≤ zc.toNatClampNeg) (hz0 : ¬ z < 0) (hl1 : z.toNatClampNeg < 1073741824) (hE : Enc bs cs cs.length) (h16 : ∀ x ∈ cs, ¬ x < 0 ∧ ¬ 65535 < x) (ne_t_c : t ≠ c) :
    Met l Z EL0 n0 NR0 KN0 N_30 jdk_42_method_61_code 5 (Option.none : Option Jvm.ClassFile.FieldType) R_m_sgc1 [c] #[(.ref a), (.int (0 : Int32)), (.int n), (.ref c), (.int (0 : Int32))] h0 (Q_m_sgc1 Z a t c kt kc bs cs z zc n h0) := by
  refine Met.of_go pn_m_sgc1 (fun mid => ef_m_sgc1 mid a t c kt kc bs cs z zc n ) ?_
  intro hO hWS
  have cn := arv_nn V_c
  refine Go.iload_n (pc' := 1) d_jdk_42_method_61_0 rfl rfl ?_
  refine Go.iload_n (pc' := 2) d_jdk_42_method_61_1 rfl rfl ?_
  refine Go.aload_n (pc' := 3) d_jdk_42_method_61_2 rfl rfl rfl ?_
  refine Go.callV (pc' := 6) (u := N_16) (z := N_16) (a := a) d_jdk_42_method_61_3 rfl (w_59 hw) (w_60 hw) (nf (w_62 hw) rfl) (w_62 hw) (w_61 hw) (by decide) E_a (argsL := []) (rest := [(.int n), (.int (0 : Int32))]) (Pays.of_met (W := 2) (len := 3) (m_ulen hw hs a t kt z bs h0 E_a F_a_coder F_a_value V_t (hz0) (hl1)) (w_63 hw) (w_4 hw) (by decide) (by decide)) rfl rfl (lenOf pd_19 rfl) rfl (Nat.le_of_eq rfl) mem0 (by decide) (by decide) ?_
  rintro _ _ _ - - ⟨rfl, rfl, rfl⟩
  change Go _ _ _ _ _ _ _ _ _ _ _ _ _ _ [c] h0 0 0 6 #[.val (.ref a), .val (.int (0 : Int32)), .val (.int n), .val (.ref c), .val (.int (0 : Int32))] [(.int z), (.int n), (.int (0 : Int32))]
  refine Go.callS (pc' := 9) (z := N_29) d_jdk_42_method_61_6 rfl (w_69 hw) (w_70 hw) (w_4 hw) (w_71 hw) (by decide) (argsL := [(.int (0 : Int32)), (.int n), (.int z)]) (rest := []) (Pays.of_met (W := 0) (len := 3) (m_cbe hw hs n z h0 (hn0) (own_gec hz0 hn0 (by omega))) (w_71 hw) (w_4 hw) (by decide) (by decide)) rfl rfl (lenOf pd_20 rfl) rfl (Nat.le_of_eq rfl) mem0 (by decide) (by decide) ?_
  rintro _ _ _ - - ⟨rfl, rfl, rfl⟩
  change Go _ _ _ _ _ _ _ _ _ _ _ _ _ _ [c] h0 0 0 9 #[.val (.ref a), .val (.int (0 : Int32)), .val (.int n), .val (.ref c), .val (.int (0 : Int32))] []
  refine Go.iload (pc' := 11) d_jdk_42_method_61_9 rfl rfl ?_
  refine Go.iload_n (pc' := 12) d_jdk_42_method_61_11 rfl rfl ?_
  refine Go.iload_n (pc' := 13) d_jdk_42_method_61_12 rfl rfl ?_
  refine Go.isub (pc' := 14) d_jdk_42_method_61_13 rfl ?_
  refine Go.aload_n (pc' := 15) d_jdk_42_method_61_14 rfl rfl rfl ?_
  rw [own_sub0]
  refine Go.lenV (pc' := 16) d_jdk_42_method_61_15 rfl V_c ?_
  refine Go.callS (pc' := 19) (z := N_11) d_jdk_42_method_61_16 rfl (w_77 hw) (w_78 hw) (w_4 hw) (w_79 hw) (by decide) (argsL := [(.int (0 : Int32)), (.int n), (.int zc)]) (rest := []) (Pays.of_met (W := 0) (len := 3) (m_boc hw hs n zc h0 (hn0) (cn) (own_gec cn hn0 (by omega))) (w_79 hw) (w_4 hw) (by decide) (by decide)) rfl rfl (lenOf pd_9 rfl) rfl (Nat.le_of_eq rfl) mem0 (by decide) (by decide) ?_
  rintro _ _ _ - - ⟨rfl, rfl, rfl⟩
  change Go _ _ _ _ _ _ _ _ _ _ _ _ _ _ [c] h0 0 0 19 #[.val (.ref a), .val (.int (0 : Int32)), .val (.int n), .val (.ref c), .val (.int (0 : Int32))] [(.int (0 : Int32))]
  refine Go.pop (pc' := 20) d_jdk_42_method_61_19 rfl rfl ?_
  refine Go.aload_n (pc' := 21) d_jdk_42_method_61_20 rfl rfl rfl ?_
  refine Go.callV (pc' := 24) (u := N_15) (z := N_15) (a := a) d_jdk_42_method_61_21 rfl (w_83 hw) (w_84 hw) (nf (w_86 hw) rfl) (w_86 hw) (w_85 hw) (by decide) E_a (argsL := []) (rest := []) (Pays.of_met (W := 0) (len := 3) (m_isL1 hw hs a h0 F_a_coder) (w_87 hw) (w_4 hw) (by decide) (by decide)) rfl rfl (lenOf pd_14 rfl) rfl (Nat.le_of_eq rfl) mem0 (by decide) (by decide) ?_
  rintro _ _ _ - - ⟨rfl, rfl, rfl⟩
  change Go _ _ _ _ _ _ _ _ _ _ _ _ _ _ [c] h0 0 0 24 #[.val (.ref a), .val (.int (0 : Int32)), .val (.int n), .val (.ref c), .val (.int (0 : Int32))] [(.int (0 : Int32))]
  refine Go.ifY (pc' := 42) d_jdk_42_method_61_24 (by decide) (by decide) ((if0 _ _).trans (teq (rfl : (0 : Int32) = (0 : Int32))).1) ?_
  refine Go.aload_n (pc' := 43) d_jdk_42_method_61_42 rfl rfl rfl ?_
  refine Go.getF (pc' := 46) d_jdk_42_method_61_43 rfl (host := "") (Or.inl (w_29 hw)) Via.refl F_a_value ?_
  refine Go.iload_n (pc' := 47) d_jdk_42_method_61_46 rfl rfl ?_
  refine Go.iload_n (pc' := 48) d_jdk_42_method_61_47 rfl rfl ?_
  refine Go.aload_n (pc' := 49) d_jdk_42_method_61_48 rfl rfl rfl ?_
  refine Go.iload (pc' := 51) d_jdk_42_method_61_49 rfl rfl ?_
  refine Go.callS (pc' := 54) (z := N_27) d_jdk_42_method_61_51 rfl (w_151 hw) (w_152 hw) (w_18 hw) (w_153 hw) (by decide) (argsL := [(.ref t), (.int (0 : Int32)), (.int n), (.ref c), (.int (0 : Int32))]) (rest := []) (Pays.of_met (W := 0) (len := 3) (m_u16gc hw hs t c kt kc bs cs z zc n h0 V_t V_c (hz) (hn0) (hnz) (hnc) (hz0) (hl1) (hE) (h16) ne_t_c) (w_153 hw) (w_18 hw) (by decide) (by decide)) rfl rfl (lenOf pd_21 rfl) rfl (Nat.le_of_eq rfl) (memS (List.mem_of_getElem? (i := 0) rfl) mem0) (by decide) (by decide) ?_
  rintro _ h76 _ K77 le78 ⟨rfl, rfl, p79⟩
  replace E_a := E_a.keep K77
  replace V_t := V_t.keep K77 (ninS ne_t_c nin0)
  have V_c := p79
  change Go _ _ _ _ _ _ _ _ _ _ _ _ _ _ [c] h76 0 0 54 #[.val (.ref a), .val (.int (0 : Int32)), .val (.int n), .val (.ref c), .val (.int (0 : Int32))] []
  exact Go.retV d_jdk_42_method_61_54 rfl (by decide) (by decide) [] sn0 ⟨rfl, rfl, V_c⟩
abbrev R_m_jo1 : Room := { frames := 1, cells := 0, slots := 0, locals := 12 }
theorem pn_m_jo1 : plainFor (⟨"com/example/beleg/beleg/JsonOutput", "<init>", "([C)V"⟩ : MethodName) = true := by first | (refine plainFor_of_name ?_; simp [plainName, overriddenIn]; done) | decide +kernel
abbrev Q_m_jo1 (Z : State) (o : Addr) (c : Addr) (h0 : Heap) : Option Value → Heap → List Addr → Prop := fun res h' SN => res = none ∧ SN = [] ∧ Exa Z h' o "com/example/beleg/beleg/JsonOutput" ∧ Fld Z h' o "com/example/beleg/beleg/JsonOutput" "chars" "[C" (.ref c) ∧ Fld Z h' o "com/example/beleg/beleg/JsonOutput" "length" "I" (.int (0 : Int32))
theorem ef_m_jo1 (mid : MethodId) (o : Addr) (c : Addr) : entryFrame mid #[(.ref o), (.ref c)] 2 = mkF mid 0 #[.val (.ref o), .val (.ref c)] [] := by first | (simp [entryFrame, mkF, argsToLocals, Value.category]; done) | rfl
set_option maxRecDepth 65536 in
set_option maxHeartbeats 40000000 in
theorem m_jo1 {l : Launch} {Z : State} {a0 : Array Value} {n0 : Nat} (hw : ∀ d ∈ tables_1, d.before a0 Z = true) (hs : Stat Z) (o : Addr) (c : Addr) (h0 : Heap) (E_o : Exa Z h0 o "com/example/beleg/beleg/JsonOutput") (F_o_chars : Fld Z h0 o "com/example/beleg/beleg/JsonOutput" "chars" "[C" .null) (F_o_length : Fld Z h0 o "com/example/beleg/beleg/JsonOutput" "length" "I" (.int (0 : Int32))) :
    Met l Z EL0 n0 NR0 KN0 N_31 prog_11_method_2_code 2 (Option.none : Option Jvm.ClassFile.FieldType) R_m_jo1 [o] #[(.ref o), (.ref c)] h0 (Q_m_jo1 Z o c h0) := by
  refine Met.of_go pn_m_jo1 (fun mid => ef_m_jo1 mid o c ) ?_
  intro hO hWS
  refine Go.aload_n (pc' := 1) d_prog_11_method_2_0 rfl rfl rfl ?_
  refine Go.initO (pc' := 4) (W := 0) d_prog_11_method_2_1 rfl (w_40 hw) (w_13 hw) (w_14 hw) rfl (by decide) (Nat.le_of_eq rfl) (by decide) ?_
  refine Go.aload_n (pc' := 5) d_prog_11_method_2_4 rfl rfl rfl ?_
  refine Go.aload_n (pc' := 6) d_prog_11_method_2_5 rfl rfl rfl ?_
  refine Go.putF (pc' := 9) d_prog_11_method_2_6 rfl (List.mem_of_getElem? (i := 0) rfl) (host := "") (Or.inl (w_41 hw)) Via.refl F_o_chars E_o (Or.inl (w_42 hw)) (w_32 hw) (ty := (.array .char)) (by decide) rfl rfl ?_
  intro h80 W81
  replace F_o_chars := F_o_chars.same W81
  replace E_o := E_o.wr W81
  replace F_o_length := F_o_length.other W81 (Or.inr (slot_ne (Or.inl (w_53 hw)) (Or.inl (w_42 hw)) (by decide) (t := .int) (t' := (.array .char)) (by decide) (by decide)))
  change Go _ _ _ _ _ _ _ _ _ _ _ _ _ _ [o] h80 0 0 9 #[.val (.ref o), .val (.ref c)] []
  exact Go.retV d_prog_11_method_2_9 rfl (by decide) (by decide) [] sn0 ⟨rfl, rfl, E_o, F_o_chars, F_o_length⟩
abbrev R_m_jo : Room := { frames := 2, cells := 1, slots := 256, locals := 25 }
theorem pn_m_jo : plainFor (⟨"com/example/beleg/beleg/JsonOutput", "<init>", "()V"⟩ : MethodName) = true := by first | (refine plainFor_of_name ?_; simp [plainName, overriddenIn]; done) | decide +kernel
abbrev Q_m_jo (Z : State) (o : Addr) (h0 : Heap) : Option Value → Heap → List Addr → Prop := fun res h' SN => ∃ (ch : Addr) (kc : ClassId), res = none ∧ SN = [ch] ∧ Exa Z h' o "com/example/beleg/beleg/JsonOutput" ∧ Fld Z h' o "com/example/beleg/beleg/JsonOutput" "chars" "[C" (.ref ch) ∧ Fld Z h' o "com/example/beleg/beleg/JsonOutput" "length" "I" (.int (0 : Int32)) ∧ h0.size ≤ ch ∧ Arv Z h' ch kc .char (256 : Int32) (([] : List Int32).map Value.int) (.int (0 : Int32))
theorem ef_m_jo (mid : MethodId) (o : Addr) : entryFrame mid #[(.ref o)] 1 = mkF mid 0 #[.val (.ref o)] [] := by first | (simp [entryFrame, mkF, argsToLocals, Value.category]; done) | rfl
set_option maxRecDepth 65536 in
set_option maxHeartbeats 40000000 in
theorem m_jo {l : Launch} {Z : State} {a0 : Array Value} {n0 : Nat} (hw : ∀ d ∈ tables_1, d.before a0 Z = true) (hs : Stat Z) (o : Addr) (h0 : Heap) (E_o : Exa Z h0 o "com/example/beleg/beleg/JsonOutput") (F_o_chars : Fld Z h0 o "com/example/beleg/beleg/JsonOutput" "chars" "[C" .null) (F_o_length : Fld Z h0 o "com/example/beleg/beleg/JsonOutput" "length" "I" (.int (0 : Int32))) :
    Met l Z EL0 n0 NR0 KN0 N_32 prog_11_method_1_code 1 (Option.none : Option Jvm.ClassFile.FieldType) R_m_jo [o] #[(.ref o)] h0 (Q_m_jo Z o h0) := by
  refine Met.of_go pn_m_jo (fun mid => ef_m_jo mid o ) ?_
  intro hO hWS
  refine Go.aload_n (pc' := 1) d_prog_11_method_1_0 rfl rfl rfl ?_
  refine Go.sipush (pc' := 4) d_prog_11_method_1_1 rfl ics_256 ?_
  refine Go.newP (pc' := 6) (cap := 256) (ad := "[C") d_prog_11_method_1_4 rfl (w_1 hw) (by decide) (by decide) (by decide) (by decide) (by decide) (by decide) ?_
  intro h82 b83 g84 ge_b83 q86 x85 V_b83 E_b83
  have o_o_b83 : o ≠ b83 := Nat.ne_of_lt (Nat.lt_of_lt_of_le E_o.lt (Nat.le_of_eq g84))
  replace E_o := E_o.ext x85
  replace F_o_chars := F_o_chars.ext x85
  replace F_o_length := F_o_length.ext x85
  replace V_b83 : Arv Z h82 b83 q86 .char (256 : Int32) [] (.int (0 : Int32)) := V_b83
  change Go _ _ _ _ _ _ _ _ _ _ _ _ _ _ [b83, o] h82 1 256 6 #[.val (.ref o)] [(.ref b83), (.ref o)]
  replace V_b83 : Arv Z h82 b83 q86 .char (256 : Int32) (([] : List Int32).map Value.int) (.int (0 : Int32)) := V_b83
  refine Go.callI (pc' := 9) (z := N_31) (a := o) d_prog_11_method_1_6 rfl rfl (w_37 hw) (w_38 hw) (w_39 hw) (by decide) (argsL := [(.ref b83)]) (rest := []) (Pays.of_met (W := 0) (len := 3) (m_jo1 hw hs o b83 h82 E_o F_o_chars F_o_length) (w_39 hw) (w_33 hw) (by decide) (by decide)) rfl rfl (lenOf pd_22 rfl) rfl (Nat.le_of_eq rfl) (memS (List.mem_of_getElem? (i := 1) rfl) mem0) (by decide) (by decide) ?_
  rintro _ h87 _ K88 le89 ⟨rfl, rfl, p90, p91, p92⟩
  replace E_o := E_o.keep K88
  replace V_b83 := V_b83.keep K88 (ninS (Ne.symm o_o_b83) nin0)
  replace E_b83 := E_b83.keep K88
  have F_o_chars := p91
  have F_o_length := p92
  change Go _ _ _ _ _ _ _ _ _ _ _ _ _ _ [b83, o] h87 1 256 9 #[.val (.ref o)] []
  exact Go.retV d_prog_11_method_1_9 rfl (by decide) (by decide) [b83] (snS ⟨(List.mem_of_getElem? (i := 0) rfl), ge_b83⟩ sn0) ⟨b83, _, rfl, rfl, E_o, F_o_chars, F_o_length, ge_b83, V_b83⟩
abbrev R_m_er0 : Room := { frames := 0, cells := 0, slots := 0, locals := 0 }
theorem pn_m_er0 : plainFor (⟨"com/example/beleg/beleg/JsonOutput", "ensureRoom", "(I)V"⟩ : MethodName) = true := by first | (refine plainFor_of_name ?_; simp [plainName, overriddenIn]; done) | decide +kernel
abbrev Q_m_er0 (Z : State) (o : Addr) (ch : Addr) (kc : ClassId) (zc : Int32) (len : Int32) (cs : List Int32) (q : Int32) (h0 : Heap) : Option Value → Heap → List Addr → Prop := fun res h' SN => res = none ∧ SN = [] ∧ h0 = h'
theorem ef_m_er0 (mid : MethodId) (o : Addr) (ch : Addr) (kc : ClassId) (zc : Int32) (len : Int32) (cs : List Int32) (q : Int32) : entryFrame mid #[(.ref o), (.int q)] 4 = mkF mid 0 #[.val (.ref o), .val (.int q), .unset, .unset] [] := by first | (simp [entryFrame, mkF, argsToLocals, Value.category]; done) | rfl
set_option maxRecDepth 65536 in
set_option maxHeartbeats 40000000 in
theorem m_er0 {l : Launch} {Z : State} {a0 : Array Value} {n0 : Nat} (hw : ∀ d ∈ tables_1, d.before a0 Z = true) (hs : Stat Z) (o : Addr) (ch : Addr) (kc : ClassId) (zc : Int32) (len : Int32) (cs : List Int32) (q : Int32) (h0 : Heap) (F_o_chars : Fld Z h0 o "com/example/beleg/beleg/JsonOutput" "chars" "[C" (.ref ch)) (F_o_length : Fld Z h0 o "com/example/beleg/beleg/JsonOutput" "length" "I" (.int len)) (V_ch : Arv Z h0 ch kc .char zc (cs.map Value.int) (.int (0 : Int32))) (hr : ¬ (zc - len) < q) :
    Met l Z EL0 n0 NR0 KN0 N_33 prog_11_method_14_code 4 (Option.none : Option Jvm.ClassFile.FieldType) R_m_er0 [] #[(.ref o), (.int q)] h0 (Q_m_er0 Z o ch kc zc len cs q h0) := by
  refine Met.of_go pn_m_er0 (fun mid => ef_m_er0 mid o ch kc zc len cs q ) ?_
  intro hO hWS
  refine Go.iload_n (pc' := 1) d_prog_11_method_14_0 rfl rfl ?_
  refine Go.aload_n (pc' := 2) d_prog_11_method_14_1 rfl rfl rfl ?_
  refine Go.getF (pc' := 5) d_prog_11_method_14_2 rfl (host := "") (Or.inl (w_41 hw)) Via.refl F_o_chars ?_
  refine Go.lenV (pc' := 6) d_prog_11_method_14_5 rfl V_ch ?_
  refine Go.aload_n (pc' := 7) d_prog_11_method_14_6 rfl rfl rfl ?_
  refine Go.getF (pc' := 10) d_prog_11_method_14_7 rfl (host := "") (Or.inl (w_52 hw)) Via.refl F_o_length ?_
  refine Go.isub (pc' := 11) d_prog_11_method_14_10 rfl ?_
  refine Go.icmpY (pc' := 77) d_prog_11_method_14_11 (by decide) (by decide) (flt (hr : ¬ ((zc - len) < q))).2.2.2 ?_
  exact Go.retV d_prog_11_method_14_77 rfl (by decide) (by decide) [] sn0 ⟨rfl, rfl, rfl⟩
abbrev R_m_min : Room := { frames := 0, cells := 0, slots := 0, locals := 0 }
theorem pn_m_min : plainFor (⟨"java/lang/Math", "min", "(II)I"⟩ : MethodName) = true := by first | (refine plainFor_of_name ?_; simp [plainName, overriddenIn]; done) | decide +kernel
abbrev Q_m_min (Z : State) (x : Int32) (z : Int32) (h0 : Heap) : Option Value → Heap → List Addr → Prop := fun res h' SN => res = some (.int (if z < x then z else x)) ∧ SN = [] ∧ h0 = h'
theorem ef_m_min (mid : MethodId) (x : Int32) (z : Int32) : entryFrame mid #[(.int x), (.int z)] 2 = mkF mid 0 #[.val (.int x), .val (.int z)] [] := by first | (simp [entryFrame, mkF, argsToLocals, Value.category]; done) | rfl
set_option maxRecDepth 65536 in
set_option maxHeartbeats 40000000 in
theorem m_min {l : Launch} {Z : State} {a0 : Array Value} {n0 : Nat} (hw : ∀ d ∈ tables_1, d.before a0 Z = true) (hs : Stat Z) (x : Int32) (z : Int32) (h0 : Heap) :
    Met l Z EL0 n0 NR0 KN0 N_34 jdk_29_method_69_code 2 (Option.some Jvm.ClassFile.FieldType.int) R_m_min [] #[(.int x), (.int z)] h0 (Q_m_min Z x z h0) := by
  refine Met.of_go pn_m_min (fun mid => ef_m_min mid x z ) ?_
  intro hO hWS
  refine Go.iload_n (pc' := 1) d_jdk_29_method_69_0 rfl rfl ?_
  refine Go.iload_n (pc' := 2) d_jdk_29_method_69_1 rfl rfl ?_
  by_cases h1 : z < x
  · skip
    refine Go.icmpY (pc' := 9) d_jdk_29_method_69_2 (by decide) (by decide) (tlt (h1 : z < x)).2.2.1 ?_
    refine Go.iload_n (pc' := 10) d_jdk_29_method_69_9 rfl rfl ?_
    exact Go.retI d_jdk_29_method_69_10 rfl (by decide) (by decide) [] sn0 ⟨by rw [if_pos h1], rfl, rfl⟩
  · skip
    refine Go.icmpN (pc' := 5) d_jdk_29_method_69_2 rfl (flt (h1 : ¬ (z < x))).2.2.1 ?_
    refine Go.iload_n (pc' := 6) d_jdk_29_method_69_5 rfl rfl ?_
    refine Go.goto (pc' := 10) d_jdk_29_method_69_6 (by decide) (by decide) ?_
    exact Go.retI d_jdk_29_method_69_10 rfl (by decide) (by decide) [] sn0 ⟨by rw [if_neg h1], rfl, rfl⟩
abbrev R_m_cpc : Room := { frames := 1, cells := 1, slots := 512, locals := 24 }
theorem pn_m_cpc : plainFor (⟨"java/util/Arrays", "copyOf", "([CI)[C"⟩ : MethodName) = true := by first | (refine plainFor_of_name ?_; simp [plainName, overriddenIn]; done) | decide +kernel
abbrev Q_m_cpc (Z : State) (ch : Addr) (kc : ClassId) (cs : List Int32) (h0 : Heap) : Option Value → Heap → List Addr → Prop := fun res h' SN => ∃ (nb : Addr) (kb : ClassId), res = some (.ref nb) ∧ SN = [nb] ∧ h0.size ≤ nb ∧ Arv Z h' nb kb .char (512 : Int32) (cs.map Value.int) (.int (0 : Int32))
theorem ef_m_cpc (mid : MethodId) (ch : Addr) (kc : ClassId) (cs : List Int32) : entryFrame mid #[(.ref ch), (.int (512 : Int32))] 3 = mkF mid 0 #[.val (.ref ch), .val (.int (512 : Int32)), .unset] [] := by first | (simp [entryFrame, mkF, argsToLocals, Value.category]; done) | rfl
set_option maxRecDepth 65536 in
set_option maxHeartbeats 40000000 in
theorem m_cpc {l : Launch} {Z : State} {a0 : Array Value} {n0 : Nat} (hw : ∀ d ∈ tables_1, d.before a0 Z = true) (hs : Stat Z) (ch : Addr) (kc : ClassId) (cs : List Int32) (h0 : Heap) (V_ch : Arv Z h0 ch kc .char (256 : Int32) (cs.map Value.int) (.int (0 : Int32))) (hl : cs.length = 256) :
    Met l Z EL0 n0 NR0 KN0 N_35 jdk_65_method_125_code 3 (Option.some (Jvm.ClassFile.FieldType.array Jvm.ClassFile.FieldType.char)) R_m_cpc [] #[(.ref ch), (.int (512 : Int32))] h0 (Q_m_cpc Z ch kc cs h0) := by
  refine Met.of_go pn_m_cpc (fun mid => ef_m_cpc mid ch kc cs ) ?_
  intro hO hWS
  refine Go.iload_n (pc' := 1) d_jdk_65_method_125_0 rfl rfl ?_
  refine Go.aload_n (pc' := 2) d_jdk_65_method_125_1 rfl rfl rfl ?_
  refine Go.lenV (pc' := 3) d_jdk_65_method_125_2 rfl V_ch ?_
  refine Go.icmpY (pc' := 14) d_jdk_65_method_125_3 (by decide) (by decide) (feq (by decide : ¬ ((512 : Int32) = (256 : Int32)))).2 ?_
  refine Go.iload_n (pc' := 15) d_jdk_65_method_125_14 rfl rfl ?_
  refine Go.newP (pc' := 17) (cap := 512) (ad := "[C") d_jdk_65_method_125_15 rfl (w_1 hw) (by decide) (by decide) (by decide) (by decide) (by decide) (by decide) ?_
  intro h93 b94 g95 ge_b94 q97 x96 V_b94 E_b94
  have o_ch_b94 : ch ≠ b94 := Nat.ne_of_lt (Nat.lt_of_lt_of_le V_ch.lt (Nat.le_of_eq g95))
  replace V_ch := V_ch.ext x96
  replace V_b94 : Arv Z h93 b94 q97 .char (512 : Int32) [] (.int (0 : Int32)) := V_b94
  change Go _ _ _ _ _ _ _ _ _ _ _ _ _ _ [b94] h93 1 512 17 #[.val (.ref ch), .val (.int (512 : Int32)), .unset] [(.ref b94)]
  replace V_b94 : Arv Z h93 b94 q97 .char (512 : Int32) (List.replicate 512 (.int (0 : Int32))) (.int (0 : Int32)) := V_b94.pad (pad_rep [] _ 512)
  refine Go.astore_n (pc' := 18) (Ls' := #[.val (.ref ch), .val (.int (512 : Int32)), .val (.ref b94)]) d_jdk_65_method_125_17 rfl rfl rfl ?_
  refine Go.aload_n (pc' := 19) d_jdk_65_method_125_18 rfl rfl rfl ?_
  refine Go.iconst (pc' := 20) d_jdk_65_method_125_19 rfl ic_0 ?_
  refine Go.aload_n (pc' := 21) d_jdk_65_method_125_20 rfl rfl rfl ?_
  refine Go.iconst (pc' := 22) d_jdk_65_method_125_21 rfl ic_0 ?_
  refine Go.aload_n (pc' := 23) d_jdk_65_method_125_22 rfl rfl rfl ?_
  refine Go.lenV (pc' := 24) d_jdk_65_method_125_23 rfl V_ch ?_
  refine Go.iload_n (pc' := 25) d_jdk_65_method_125_24 rfl rfl ?_
  refine Go.callS (pc' := 28) (z := N_34) d_jdk_65_method_125_25 rfl (w_181 hw) (w_182 hw) (w_172 hw) (w_183 hw) (by decide) (argsL := [(.int (256 : Int32)), (.int (512 : Int32))]) (rest := [(.int (0 : Int32)), (.ref b94), (.int (0 : Int32)), (.ref ch)]) (Pays.of_met (W := 4) (len := 3) (m_min hw hs (256 : Int32) (512 : Int32) h93) (w_183 hw) (w_172 hw) (by decide) (by decide)) rfl rfl (lenOf pd_23 rfl) rfl (Nat.le_of_eq rfl) mem0 (by decide) (by decide) ?_
  rintro _ _ _ - - ⟨rfl, rfl, rfl⟩
  change Go _ _ _ _ _ _ _ _ _ _ _ _ _ _ [b94] h93 1 512 28 #[.val (.ref ch), .val (.int (512 : Int32)), .val (.ref b94)] [(.int (if (512 : Int32) < (256 : Int32) then (512 : Int32) else (256 : Int32))), (.int (0 : Int32)), (.ref b94), (.int (0 : Int32)), (.ref ch)]
  rw [show (if (512 : Int32) < (256 : Int32) then (512 : Int32) else (256 : Int32)) = (256 : Int32) from by decide]
  refine Go.cpA (pc' := 31) (W := 0) (us := (cs.map Value.int)) d_jdk_65_method_125_28 rfl (List.mem_of_getElem? (i := 0) rfl) (w_184 hw) (w_187 hw) (w_185 hw) (w_186 hw) V_ch V_b94 (Or.inl ⟨rfl, rfl⟩) (by decide) (by decide) (by decide) (by decide) (by decide) (own_range_all cs 256 hl) (by first | decide | exact Nat.le_of_ble_eq_true rfl) rfl (by decide) (Nat.le_of_eq rfl) (by decide) ?_
  intro h98 K99 V_b94'
  replace V_ch := V_ch.keep K99 (ninS o_ch_b94 nin0)
  replace E_b94 := E_b94.keep K99
  replace V_b94 : Arv Z h98 b94 q97 .char (512 : Int32) ((cs.map Value.int) ++ List.replicate 256 (.int (0 : Int32))) (.int (0 : Int32)) := V_b94'
  change Go _ _ _ _ _ _ _ _ _ _ _ _ _ _ [b94] h98 1 512 31 #[.val (.ref ch), .val (.int (512 : Int32)), .val (.ref b94)] []
  refine Go.aload_n (pc' := 32) d_jdk_65_method_125_31 rfl rfl rfl ?_
  exact Go.retA d_jdk_65_method_125_32 rfl rfl rfl (by decide) (by decide) [b94] (snS ⟨(List.mem_of_getElem? (i := 0) rfl), ge_b94⟩ sn0) ⟨b94, _, rfl, rfl, ge_b94, V_b94.pad (fun i => (pad_rep _ _ 256 i).symm)⟩
abbrev R_m_lmax : Room := { frames := 0, cells := 0, slots := 0, locals := 0 }
theorem pn_m_lmax : plainFor (⟨"java/lang/Math", "max", "(JJ)J"⟩ : MethodName) = true := by first | (refine plainFor_of_name ?_; simp [plainName, overriddenIn]; done) | decide +kernel
abbrev Q_m_lmax (Z : State)  (h0 : Heap) : Option Value → Heap → List Addr → Prop := fun res h' SN => res = some (.long (512 : Int64)) ∧ SN = [] ∧ h0 = h'
theorem ef_m_lmax (mid : MethodId)  : entryFrame mid #[(.long (257 : Int64)), (.long (512 : Int64))] 4 = mkF mid 0 #[.val (.long (257 : Int64)), .second, .val (.long (512 : Int64)), .second] [] := by first | (simp [entryFrame, mkF, argsToLocals, Value.category]; done) | rfl
set_option maxRecDepth 65536 in
set_option maxHeartbeats 40000000 in
theorem m_lmax {l : Launch} {Z : State} {a0 : Array Value} {n0 : Nat} (hw : ∀ d ∈ tables_1, d.before a0 Z = true) (hs : Stat Z) (h0 : Heap) :
    Met l Z EL0 n0 NR0 KN0 N_36 jdk_29_method_66_code 4 (Option.some Jvm.ClassFile.FieldType.long) R_m_lmax [] #[(.long (257 : Int64)), (.long (512 : Int64))] h0 (Q_m_lmax Z  h0) := by
  refine Met.of_go pn_m_lmax (fun mid => ef_m_lmax mid  ) ?_
  intro hO hWS
  refine Go.lload_n (pc' := 1) d_jdk_29_method_66_0 rfl rfl ?_
  refine Go.lload_n (pc' := 2) d_jdk_29_method_66_1 rfl rfl ?_
  refine Go.lcmp (pc' := 3) d_jdk_29_method_66_2 rfl ?_
  rw [show (lcmpW (257 : Int64) (512 : Int64)) = (-1 : Int32) from by decide]
  refine Go.ifY (pc' := 10) d_jdk_29_method_66_3 (by decide) (by decide) ((if0 _ _).trans (tlt (by decide : (-1 : Int32) < (0 : Int32))).1) ?_
  refine Go.lload_n (pc' := 11) d_jdk_29_method_66_10 rfl rfl ?_
  exact Go.retW d_jdk_29_method_66_11 rfl rfl (Or.inr (Or.inl ⟨rfl, rfl, _, rfl⟩)) (by decide) (by decide) [] sn0 ⟨rfl, rfl, rfl⟩
abbrev R_m_lmin : Room := { frames := 0, cells := 0, slots := 0, locals := 0 }
theorem pn_m_lmin : plainFor (⟨"java/lang/Math", "min", "(JJ)J"⟩ : MethodName) = true := by first | (refine plainFor_of_name ?_; simp [plainName, overriddenIn]; done) | decide +kernel
abbrev Q_m_lmin (Z : State)  (h0 : Heap) : Option Value → Heap → List Addr → Prop := fun res h' SN => res = some (.long (512 : Int64)) ∧ SN = [] ∧ h0 = h'
theorem ef_m_lmin (mid : MethodId)  : entryFrame mid #[(.long (2147483639 : Int64)), (.long (512 : Int64))] 4 = mkF mid 0 #[.val (.long (2147483639 : Int64)), .second, .val (.long (512 : Int64)), .second] [] := by first | (simp [entryFrame, mkF, argsToLocals, Value.category]; done) | rfl
set_option maxRecDepth 65536 in
set_option maxHeartbeats 40000000 in
theorem m_lmin {l : Launch} {Z : State} {a0 : Array Value} {n0 : Nat} (hw : ∀ d ∈ tables_1, d.before a0 Z = true) (hs : Stat Z) (h0 : Heap) :
    Met l Z EL0 n0 NR0 KN0 N_37 jdk_29_method_70_code 4 (Option.some Jvm.ClassFile.FieldType.long) R_m_lmin [] #[(.long (2147483639 : Int64)), (.long (512 : Int64))] h0 (Q_m_lmin Z  h0) := by
  refine Met.of_go pn_m_lmin (fun mid => ef_m_lmin mid  ) ?_
  intro hO hWS
  refine Go.lload_n (pc' := 1) d_jdk_29_method_70_0 rfl rfl ?_
  refine Go.lload_n (pc' := 2) d_jdk_29_method_70_1 rfl rfl ?_
  refine Go.lcmp (pc' := 3) d_jdk_29_method_70_2 rfl ?_
  rw [show (lcmpW (2147483639 : Int64) (512 : Int64)) = (1 : Int32) from by decide]
  refine Go.ifY (pc' := 10) d_jdk_29_method_70_3 (by decide) (by decide) ((if0 _ _).trans (tlt (by decide : (0 : Int32) < (1 : Int32))).2.2.1) ?_
  refine Go.lload_n (pc' := 11) d_jdk_29_method_70_10 rfl rfl ?_
  exact Go.retW d_jdk_29_method_70_11 rfl rfl (Or.inr (Or.inl ⟨rfl, rfl, _, rfl⟩)) (by decide) (by decide) [] sn0 ⟨rfl, rfl, rfl⟩
abbrev R_m_er1 : Room := { frames := 2, cells := 1, slots := 512, locals := 39 }
theorem pn_m_er1 : plainFor (⟨"com/example/beleg/beleg/JsonOutput", "ensureRoom", "(I)V"⟩ : MethodName) = true := by first | (refine plainFor_of_name ?_; simp [plainName, overriddenIn]; done) | decide +kernel
abbrev Q_m_er1 (Z : State) (o : Addr) (ch : Addr) (kc : ClassId) (cs : List Int32) (h0 : Heap) : Option Value → Heap → List Addr → Prop := fun res h' SN => ∃ (nb : Addr) (kb : ClassId), res = none ∧ SN = [nb] ∧ Exa Z h' o "com/example/beleg/beleg/JsonOutput" ∧ Fld Z h' o "com/example/beleg/beleg/JsonOutput" "chars" "[C" (.ref nb) ∧ Fld Z h' o "com/example/beleg/beleg/JsonOutput" "length" "I" (.int (256 : Int32)) ∧ h0.size ≤ nb ∧ Arv Z h' nb kb .char (512 : Int32) (cs.map Value.int) (.int (0 : Int32))
theorem ef_m_er1 (mid : MethodId) (o : Addr) (ch : Addr) (kc : ClassId) (cs : List Int32) : entryFrame mid #[(.ref o), (.int (1 : Int32))] 4 = mkF mid 0 #[.val (.ref o), .val (.int (1 : Int32)), .unset, .unset] [] := by first | (simp [entryFrame, mkF, argsToLocals, Value.category]; done) | rfl
set_option maxRecDepth 65536 in
set_option maxHeartbeats 40000000 in
theorem m_er1 {l : Launch} {Z : State} {a0 : Array Value} {n0 : Nat} (hw : ∀ d ∈ tables_1, d.before a0 Z = true) (hs : Stat Z) (o : Addr) (ch : Addr) (kc : ClassId) (cs : List Int32) (h0 : Heap) (E_o : Exa Z h0 o "com/example/beleg/beleg/JsonOutput") (F_o_chars : Fld Z h0 o "com/example/beleg/beleg/JsonOutput" "chars" "[C" (.ref ch)) (F_o_length : Fld Z h0 o "com/example/beleg/beleg/JsonOutput" "length" "I" (.int (256 : Int32))) (V_ch : Arv Z h0 ch kc .char (256 : Int32) (cs.map Value.int) (.int (0 : Int32))) (hl : cs.length = 256) (ne_ch_o : ch ≠ o) :
    Met l Z EL0 n0 NR0 KN0 N_33 prog_11_method_14_code 4 (Option.none : Option Jvm.ClassFile.FieldType) R_m_er1 [o] #[(.ref o), (.int (1 : Int32))] h0 (Q_m_er1 Z o ch kc cs h0) := by
  refine Met.of_go pn_m_er1 (fun mid => ef_m_er1 mid o ch kc cs ) ?_
  intro hO hWS
  refine Go.iload_n (pc' := 1) d_prog_11_method_14_0 rfl rfl ?_
  refine Go.aload_n (pc' := 2) d_prog_11_method_14_1 rfl rfl rfl ?_
  refine Go.getF (pc' := 5) d_prog_11_method_14_2 rfl (host := "") (Or.inl (w_41 hw)) Via.refl F_o_chars ?_
  refine Go.lenV (pc' := 6) d_prog_11_method_14_5 rfl V_ch ?_
  refine Go.aload_n (pc' := 7) d_prog_11_method_14_6 rfl rfl rfl ?_
  refine Go.getF (pc' := 10) d_prog_11_method_14_7 rfl (host := "") (Or.inl (w_52 hw)) Via.refl F_o_length ?_
  refine Go.isub (pc' := 11) d_prog_11_method_14_10 rfl ?_
  rw [show ((256 : Int32) - (256 : Int32)) = (0 : Int32) from by decide]
  refine Go.icmpN (pc' := 14) d_prog_11_method_14_11 rfl (tlt (by decide : (0 : Int32) < (1 : Int32))).2.2.2 ?_
  refine Go.aload_n (pc' := 15) d_prog_11_method_14_14 rfl rfl rfl ?_
  refine Go.getF (pc' := 18) d_prog_11_method_14_15 rfl (host := "") (Or.inl (w_52 hw)) Via.refl F_o_length ?_
  refine Go.i2l (pc' := 19) d_prog_11_method_14_18 rfl ?_
  refine Go.iload_n (pc' := 20) d_prog_11_method_14_19 rfl rfl ?_
  refine Go.i2l (pc' := 21) d_prog_11_method_14_20 rfl ?_
  refine Go.ladd (pc' := 22) d_prog_11_method_14_21 rfl ?_
  rw [show ((256 : Int32).toInt64 + (1 : Int32).toInt64) = (257 : Int64) from by decide]
  refine Go.lstore_n (pc' := 23) (Ls' := #[.val (.ref o), .val (.int (1 : Int32)), .val (.long (257 : Int64)), .second]) d_prog_11_method_14_22 rfl rfl ?_
  refine Go.lload_n (pc' := 24) d_prog_11_method_14_23 rfl rfl ?_
  refine Go.ldc2Long (pc' := 27) d_prog_11_method_14_24 rfl (w_168 hw) ?_
  refine Go.lcmp (pc' := 28) d_prog_11_method_14_27 rfl ?_
  rw [show (lcmpW (257 : Int64) (2147483639 : Int64)) = (-1 : Int32) from by decide]
  refine Go.ifY (pc' := 45) d_prog_11_method_14_28 (by decide) (by decide) ((if0 _ _).trans (flt (by decide : ¬ ((0 : Int32) < (-1 : Int32)))).2.2.2) ?_
  refine Go.aload_n (pc' := 46) d_prog_11_method_14_45 rfl rfl rfl ?_
  refine Go.aload_n (pc' := 47) d_prog_11_method_14_46 rfl rfl rfl ?_
  refine Go.getF (pc' := 50) d_prog_11_method_14_47 rfl (host := "") (Or.inl (w_41 hw)) Via.refl F_o_chars ?_
  refine Go.ldc2Long (pc' := 53) d_prog_11_method_14_50 rfl (w_168 hw) ?_
  refine Go.lload_n (pc' := 54) d_prog_11_method_14_53 rfl rfl ?_
  refine Go.ldc2Long (pc' := 57) d_prog_11_method_14_54 rfl (w_169 hw) ?_
  refine Go.aload_n (pc' := 58) d_prog_11_method_14_57 rfl rfl rfl ?_
  refine Go.getF (pc' := 61) d_prog_11_method_14_58 rfl (host := "") (Or.inl (w_41 hw)) Via.refl F_o_chars ?_
  refine Go.lenV (pc' := 62) d_prog_11_method_14_61 rfl V_ch ?_
  refine Go.i2l (pc' := 63) d_prog_11_method_14_62 rfl ?_
  refine Go.lmul (pc' := 64) d_prog_11_method_14_63 rfl ?_
  rw [show ((2 : Int64) * (256 : Int32).toInt64) = (512 : Int64) from by decide]
  refine Go.callS (pc' := 67) (z := N_36) d_prog_11_method_14_64 rfl (w_170 hw) (w_171 hw) (w_172 hw) (w_173 hw) (by decide) (argsL := [(.long (257 : Int64)), (.long (512 : Int64))]) (rest := [(.long (2147483639 : Int64)), (.ref ch), (.ref o)]) (Pays.of_met (W := 4) (len := 3) (m_lmax hw hs  h0) (w_173 hw) (w_172 hw) (by decide) (by decide)) rfl rfl (lenOf pd_24 rfl) rfl (Nat.le_of_eq rfl) mem0 (by decide) (by decide) ?_
  rintro _ _ _ - - ⟨rfl, rfl, rfl⟩
  change Go _ _ _ _ _ _ _ _ _ _ _ _ _ _ [o] h0 0 0 67 #[.val (.ref o), .val (.int (1 : Int32)), .val (.long (257 : Int64)), .second] [(.long (512 : Int64)), (.long (2147483639 : Int64)), (.ref ch), (.ref o)]
  refine Go.callS (pc' := 70) (z := N_37) d_prog_11_method_14_67 rfl (w_174 hw) (w_175 hw) (w_172 hw) (w_176 hw) (by decide) (argsL := [(.long (2147483639 : Int64)), (.long (512 : Int64))]) (rest := [(.ref ch), (.ref o)]) (Pays.of_met (W := 2) (len := 3) (m_lmin hw hs  h0) (w_176 hw) (w_172 hw) (by decide) (by decide)) rfl rfl (lenOf pd_24 rfl) rfl (Nat.le_of_eq rfl) mem0 (by decide) (by decide) ?_
  rintro _ _ _ - - ⟨rfl, rfl, rfl⟩
  change Go _ _ _ _ _ _ _ _ _ _ _ _ _ _ [o] h0 0 0 70 #[.val (.ref o), .val (.int (1 : Int32)), .val (.long (257 : Int64)), .second] [(.long (512 : Int64)), (.ref ch), (.ref o)]
  refine Go.l2i (pc' := 71) d_prog_11_method_14_70 rfl ?_
  rw [show (512 : Int64).toInt32 = (512 : Int32) from by decide]
  refine Go.callS (pc' := 74) (z := N_35) d_prog_11_method_14_71 rfl (w_177 hw) (w_178 hw) (w_179 hw) (w_180 hw) (by decide) (argsL := [(.ref ch), (.int (512 : Int32))]) (rest := [(.ref o)]) (Pays.of_met (W := 1) (len := 3) (m_cpc hw hs ch kc cs h0 V_ch (hl)) (w_180 hw) (w_179 hw) (by decide) (by decide)) rfl rfl (lenOf pd_25 rfl) rfl (Nat.le_of_eq rfl) mem0 (by decide) (by decide) ?_
  rintro _ h102 _ K103 le104 ⟨b100, q101, rfl, rfl, p105, p106⟩
  have o_o_b100 : o ≠ b100 := Nat.ne_of_lt (Nat.lt_of_lt_of_le E_o.lt p105)
  have o_ch_b100 : ch ≠ b100 := Nat.ne_of_lt (Nat.lt_of_lt_of_le V_ch.lt p105)
  have ge_b100 := Nat.le_trans le104 p105
  replace E_o := E_o.keep K103
  replace F_o_chars := F_o_chars.keep K103 nin0
  replace F_o_length := F_o_length.keep K103 nin0
  replace V_ch := V_ch.keep K103 nin0
  have V_b100 := p106
  change Go _ _ _ _ _ _ _ _ _ _ _ _ _ _ [b100, o] h102 1 512 74 #[.val (.ref o), .val (.int (1 : Int32)), .val (.long (257 : Int64)), .second] [(.ref b100), (.ref o)]
  refine Go.putF (pc' := 77) d_prog_11_method_14_74 rfl (List.mem_of_getElem? (i := 1) rfl) (host := "") (Or.inl (w_41 hw)) Via.refl F_o_chars E_o (Or.inl (w_42 hw)) (w_32 hw) (ty := (.array .char)) (by decide) rfl rfl ?_
  intro h107 W108
  replace F_o_chars := F_o_chars.same W108
  replace E_o := E_o.wr W108
  replace F_o_length := F_o_length.other W108 (Or.inr (slot_ne (Or.inl (w_53 hw)) (Or.inl (w_42 hw)) (by decide) (t := .int) (t' := (.array .char)) (by decide) (by decide)))
  replace V_ch := V_ch.other W108 ne_ch_o
  replace V_b100 := V_b100.other W108 (Ne.symm o_o_b100)
  change Go _ _ _ _ _ _ _ _ _ _ _ _ _ _ [b100, o] h107 1 512 77 #[.val (.ref o), .val (.int (1 : Int32)), .val (.long (257 : Int64)), .second] []
  exact Go.retV d_prog_11_method_14_77 rfl (by decide) (by decide) [b100] (snS ⟨(List.mem_of_getElem? (i := 0) rfl), ge_b100⟩ sn0) ⟨b100, _, rfl, rfl, E_o, F_o_chars, F_o_length, ge_b100, V_b100⟩
abbrev R_m_apc : Room := { frames := 1, cells := 0, slots := 0, locals := 15 }
theorem pn_m_apc : plainFor (⟨"com/example/beleg/beleg/JsonOutput", "append", "(C)Lcom/example/beleg/beleg/JsonOutput;"⟩ : MethodName) = true := by first | (refine plainFor_of_name ?_; simp [plainName, overriddenIn]; done) | decide +kernel
abbrev Q_m_apc (Z : State) (o : Addr) (ch : Addr) (kc : ClassId) (cs : List Int32) (d : Int32) (zc : Int32) (len : Int32) (h0 : Heap) : Option Value → Heap → List Addr → Prop := fun res h' SN => res = some (.ref o) ∧ SN = [] ∧ Exa Z h' o "com/example/beleg/beleg/JsonOutput" ∧ Fld Z h' o "com/example/beleg/beleg/JsonOutput" "chars" "[C" (.ref ch) ∧ Fld Z h' o "com/example/beleg/beleg/JsonOutput" "length" "I" (.int (len + (1 : Int32))) ∧ Arv Z h' ch kc .char zc ((cs ++ [d]).map Value.int) (.int (0 : Int32))
theorem ef_m_apc (mid : MethodId) (o : Addr) (ch : Addr) (kc : ClassId) (cs : List Int32) (d : Int32) (zc : Int32) (len : Int32) : entryFrame mid #[(.ref o), (.int d)] 2 = mkF mid 0 #[.val (.ref o), .val (.int d)] [] := by first | (simp [entryFrame, mkF, argsToLocals, Value.category]; done) | rfl
set_option maxRecDepth 65536 in
set_option maxHeartbeats 40000000 in
theorem m_apc {l : Launch} {Z : State} {a0 : Array Value} {n0 : Nat} (hw : ∀ d ∈ tables_1, d.before a0 Z = true) (hs : Stat Z) (o : Addr) (ch : Addr) (kc : ClassId) (cs : List Int32) (d : Int32) (zc : Int32) (len : Int32) (h0 : Heap) (E_o : Exa Z h0 o "com/example/beleg/beleg/JsonOutput") (F_o_chars : Fld Z h0 o "com/example/beleg/beleg/JsonOutput" "chars" "[C" (.ref ch)) (F_o_length : Fld Z h0 o "com/example/beleg/beleg/JsonOutput" "length" "I" (.int len)) (V_ch : Arv Z h0 ch kc .char zc (cs.map Value.int) (.int (0 : Int32))) (hl : len.toNatClampNeg = cs.length) (hl0 : ¬ len < 0) (hlt : len < zc) (hd : ¬ d < 0 ∧ ¬ 65535 < d) (ne_ch_o : ch ≠ o) :
    Met l Z EL0 n0 NR0 KN0 N_38 prog_11_method_5_code 2 (Option.some (Jvm.ClassFile.FieldType.object "com/example/beleg/beleg/JsonOutput")) R_m_apc [o, ch] #[(.ref o), (.int d)] h0 (Q_m_apc Z o ch kc cs d zc len h0) := by
  refine Met.of_go pn_m_apc (fun mid => ef_m_apc mid o ch kc cs d zc len ) ?_
  intro hO hWS
  have cn := arv_nn V_ch
  refine Go.aload_n (pc' := 1) d_prog_11_method_5_0 rfl rfl rfl ?_
  refine Go.iconst (pc' := 2) d_prog_11_method_5_1 rfl ic_1 ?_
  refine Go.callP (pc' := 5) (z := N_33) (a := o) d_prog_11_method_5_2 rfl (w_48 hw) (w_49 hw) (own_selP (z := N_33) (u := ({ cls := "com/example/beleg/beleg/JsonOutput", name := "append", desc := "(Ljava/lang/String;II)Lcom/example/beleg/beleg/JsonOutput;" } : Jvm.MethodName)) (w_46 hw) rfl (by decide) (w_49 hw) (w_50 hw)) (w_50 hw) (w_51 hw) (by decide) E_o (argsL := [(.int (1 : Int32))]) (rest := []) (Pays.of_met (W := 0) (len := 3) (m_er0 hw hs o ch kc zc len cs (1 : Int32) h0 F_o_chars F_o_length V_ch (own_room1 hl0 cn hlt)) (w_51 hw) (w_33 hw) (by decide) (by decide)) rfl rfl (lenOf pd_26 rfl) rfl (Nat.le_of_eq rfl) mem0 (by decide) (by decide) ?_
  rintro _ _ _ - - ⟨rfl, rfl, rfl⟩
  change Go _ _ _ _ _ _ _ _ _ _ _ _ _ _ [o, ch] h0 0 0 5 #[.val (.ref o), .val (.int d)] []
  replace V_ch : Arv Z h0 ch kc .char zc ((cs ++ List.replicate (zc.toNatClampNeg - len.toNatClampNeg) (0 : Int32)).map Value.int) (.int (0 : Int32)) := V_ch.pad (fun i => (own_padr _ _ i).symm)
  have hid := own_idx hl0 hlt
  refine Go.aload_n (pc' := 6) d_prog_11_method_5_5 rfl rfl rfl ?_
  refine Go.getF (pc' := 9) d_prog_11_method_5_6 rfl (host := "") (Or.inl (w_41 hw)) Via.refl F_o_chars ?_
  refine Go.aload_n (pc' := 10) d_prog_11_method_5_9 rfl rfl rfl ?_
  refine Go.dup (pc' := 11) d_prog_11_method_5_10 rfl rfl ?_
  refine Go.getF (pc' := 14) d_prog_11_method_5_11 rfl (host := "") (Or.inl (w_52 hw)) Via.refl F_o_length ?_
  refine Go.dup_x1 (pc' := 15) d_prog_11_method_5_14 rfl rfl rfl ?_
  refine Go.iconst (pc' := 16) d_prog_11_method_5_15 rfl ic_1 ?_
  refine Go.iadd (pc' := 17) d_prog_11_method_5_16 rfl ?_
  refine Go.putF (pc' := 20) d_prog_11_method_5_17 rfl (List.mem_of_getElem? (i := 0) rfl) (host := "") (Or.inl (w_52 hw)) Via.refl F_o_length E_o (Or.inl (w_53 hw)) (w_32 hw) (ty := .int) (by decide) rfl rfl ?_
  intro h109 W110
  replace F_o_length := F_o_length.same W110
  replace E_o := E_o.wr W110
  replace F_o_chars := F_o_chars.other W110 (Or.inr (slot_ne (Or.inl (w_42 hw)) (Or.inl (w_53 hw)) (by decide) (t := (.array .char)) (t' := .int) (by decide) (by decide)))
  replace V_ch := V_ch.other W110 ne_ch_o
  change Go _ _ _ _ _ _ _ _ _ _ _ _ _ _ [o, ch] h109 0 0 20 #[.val (.ref o), .val (.int d)] [(.int len), (.ref ch)]
  refine Go.iload_n (pc' := 21) d_prog_11_method_5_20 rfl rfl ?_
  refine Go.castoreV (pc' := 22) (i := cs.length) d_prog_11_method_5_21 rfl (List.mem_of_getElem? (i := 1) rfl) V_ch ⟨hl0, hlt⟩ (hl) (by simp; omega) ?_
  rw [nar_char hd.1 hd.2]
  intro h111 W112 V_ch'
  replace E_o := E_o.wr W112
  replace F_o_chars := F_o_chars.other W112 (Or.inl (Ne.symm ne_ch_o))
  replace F_o_length := F_o_length.other W112 (Or.inl (Ne.symm ne_ch_o))
  change Go _ _ _ _ _ _ _ _ _ _ _ _ _ _ [o, ch] h111 0 0 22 #[.val (.ref o), .val (.int d)] []
  refine Go.aload_n (pc' := 23) d_prog_11_method_5_22 rfl rfl rfl ?_
  rw [own_set_map, own_push (m := (zc.toNatClampNeg - len.toNatClampNeg)) (by have := own_idx hl0 hlt; omega)] at V_ch'
  exact Go.retA d_prog_11_method_5_23 rfl rfl rfl (by decide) (by decide) [] sn0 ⟨rfl, rfl, E_o, F_o_chars, F_o_length, V_ch'.pad (fun i => own_padr _ _ i)⟩
abbrev R_m_apg : Room := { frames := 3, cells := 1, slots := 512, locals := 54 }
theorem pn_m_apg : plainFor (⟨"com/example/beleg/beleg/JsonOutput", "append", "(C)Lcom/example/beleg/beleg/JsonOutput;"⟩ : MethodName) = true := by first | (refine plainFor_of_name ?_; simp [plainName, overriddenIn]; done) | decide +kernel
abbrev Q_m_apg (Z : State) (o : Addr) (ch : Addr) (kc : ClassId) (cs : List Int32) (d : Int32) (h0 : Heap) : Option Value → Heap → List Addr → Prop := fun res h' SN => ∃ (nb : Addr) (kb : ClassId), res = some (.ref o) ∧ SN = [nb] ∧ Exa Z h' o "com/example/beleg/beleg/JsonOutput" ∧ Fld Z h' o "com/example/beleg/beleg/JsonOutput" "chars" "[C" (.ref nb) ∧ Fld Z h' o "com/example/beleg/beleg/JsonOutput" "length" "I" (.int (257 : Int32)) ∧ h0.size ≤ nb ∧ Arv Z h' nb kb .char (512 : Int32) ((cs ++ [d]).map Value.int) (.int (0 : Int32))
theorem ef_m_apg (mid : MethodId) (o : Addr) (ch : Addr) (kc : ClassId) (cs : List Int32) (d : Int32) : entryFrame mid #[(.ref o), (.int d)] 2 = mkF mid 0 #[.val (.ref o), .val (.int d)] [] := by first | (simp [entryFrame, mkF, argsToLocals, Value.category]; done) | rfl
set_option maxRecDepth 65536 in
set_option maxHeartbeats 40000000 in
theorem m_apg {l : Launch} {Z : State} {a0 : Array Value} {n0 : Nat} (hw : ∀ d ∈ tables_1, d.before a0 Z = true) (hs : Stat Z) (o : Addr) (ch : Addr) (kc : ClassId) (cs : List Int32) (d : Int32) (h0 : Heap) (E_o : Exa Z h0 o "com/example/beleg/beleg/JsonOutput") (F_o_chars : Fld Z h0 o "com/example/beleg/beleg/JsonOutput" "chars" "[C" (.ref ch)) (F_o_length : Fld Z h0 o "com/example/beleg/beleg/JsonOutput" "length" "I" (.int (256 : Int32))) (V_ch : Arv Z h0 ch kc .char (256 : Int32) (cs.map Value.int) (.int (0 : Int32))) (hl : cs.length = 256) (hd : ¬ d < 0 ∧ ¬ 65535 < d) (ne_ch_o : ch ≠ o) :
    Met l Z EL0 n0 NR0 KN0 N_38 prog_11_method_5_code 2 (Option.some (Jvm.ClassFile.FieldType.object "com/example/beleg/beleg/JsonOutput")) R_m_apg [o] #[(.ref o), (.int d)] h0 (Q_m_apg Z o ch kc cs d h0) := by
  refine Met.of_go pn_m_apg (fun mid => ef_m_apg mid o ch kc cs d ) ?_
  intro hO hWS
  have cn := arv_nn V_ch
  refine Go.aload_n (pc' := 1) d_prog_11_method_5_0 rfl rfl rfl ?_
  refine Go.iconst (pc' := 2) d_prog_11_method_5_1 rfl ic_1 ?_
  refine Go.callP (pc' := 5) (z := N_33) (a := o) d_prog_11_method_5_2 rfl (w_48 hw) (w_49 hw) (own_selP (z := N_33) (u := ({ cls := "com/example/beleg/beleg/JsonOutput", name := "append", desc := "(Ljava/lang/String;II)Lcom/example/beleg/beleg/JsonOutput;" } : Jvm.MethodName)) (w_46 hw) rfl (by decide) (w_49 hw) (w_50 hw)) (w_50 hw) (w_51 hw) (by decide) E_o (argsL := [(.int (1 : Int32))]) (rest := []) (Pays.of_met (W := 0) (len := 3) (m_er1 hw hs o ch kc cs h0 E_o F_o_chars F_o_length V_ch (hl) ne_ch_o) (w_51 hw) (w_33 hw) (by decide) (by decide)) rfl rfl (lenOf pd_26 rfl) rfl (Nat.le_of_eq rfl) (memS (List.mem_of_getElem? (i := 0) rfl) mem0) (by decide) (by decide) ?_
  rintro _ h115 _ K116 le117 ⟨b113, q114, rfl, rfl, p118, p119, p120, p121, p122⟩
  have o_o_b113 : o ≠ b113 := Nat.ne_of_lt (Nat.lt_of_lt_of_le E_o.lt p121)
  have o_ch_b113 : ch ≠ b113 := Nat.ne_of_lt (Nat.lt_of_lt_of_le V_ch.lt p121)
  have ge_b113 := Nat.le_trans le117 p121
  replace E_o := E_o.keep K116
  replace V_ch := V_ch.keep K116 (ninS ne_ch_o nin0)
  have F_o_chars := p119
  have F_o_length := p120
  have V_b113 := p122
  change Go _ _ _ _ _ _ _ _ _ _ _ _ _ _ [b113, o] h115 1 512 5 #[.val (.ref o), .val (.int d)] []
  replace V_b113 : Arv Z h115 b113 q114 .char (512 : Int32) ((cs ++ List.replicate ((512 : Int32).toNatClampNeg - (256 : Int32).toNatClampNeg) (0 : Int32)).map Value.int) (.int (0 : Int32)) := V_b113.pad (fun i => (own_padr _ _ i).symm)
  refine Go.aload_n (pc' := 6) d_prog_11_method_5_5 rfl rfl rfl ?_
  refine Go.getF (pc' := 9) d_prog_11_method_5_6 rfl (host := "") (Or.inl (w_41 hw)) Via.refl F_o_chars ?_
  refine Go.aload_n (pc' := 10) d_prog_11_method_5_9 rfl rfl rfl ?_
  refine Go.dup (pc' := 11) d_prog_11_method_5_10 rfl rfl ?_
  refine Go.getF (pc' := 14) d_prog_11_method_5_11 rfl (host := "") (Or.inl (w_52 hw)) Via.refl F_o_length ?_
  refine Go.dup_x1 (pc' := 15) d_prog_11_method_5_14 rfl rfl rfl ?_
  refine Go.iconst (pc' := 16) d_prog_11_method_5_15 rfl ic_1 ?_
  refine Go.iadd (pc' := 17) d_prog_11_method_5_16 rfl ?_
  rw [show ((256 : Int32) + (1 : Int32)) = (257 : Int32) from by decide]
  refine Go.putF (pc' := 20) d_prog_11_method_5_17 rfl (List.mem_of_getElem? (i := 1) rfl) (host := "") (Or.inl (w_52 hw)) Via.refl F_o_length E_o (Or.inl (w_53 hw)) (w_32 hw) (ty := .int) (by decide) rfl rfl ?_
  intro h123 W124
  replace F_o_length := F_o_length.same W124
  replace E_o := E_o.wr W124
  replace V_ch := V_ch.other W124 ne_ch_o
  replace F_o_chars := F_o_chars.other W124 (Or.inr (slot_ne (Or.inl (w_42 hw)) (Or.inl (w_53 hw)) (by decide) (t := (.array .char)) (t' := .int) (by decide) (by decide)))
  replace V_b113 := V_b113.other W124 (Ne.symm o_o_b113)
  change Go _ _ _ _ _ _ _ _ _ _ _ _ _ _ [b113, o] h123 1 512 20 #[.val (.ref o), .val (.int d)] [(.int (256 : Int32)), (.ref b113)]
  refine Go.iload_n (pc' := 21) d_prog_11_method_5_20 rfl rfl ?_
  refine Go.castoreV (pc' := 22) (i := cs.length) d_prog_11_method_5_21 rfl (List.mem_of_getElem? (i := 0) rfl) V_b113 ⟨(by decide), (by decide)⟩ (by rw [hl]; decide) (by simp) ?_
  rw [nar_char hd.1 hd.2]
  intro h125 W126 V_b113'
  replace E_o := E_o.wr W126
  replace V_ch := V_ch.other W126 o_ch_b113
  replace F_o_chars := F_o_chars.other W126 (Or.inl o_o_b113)
  replace F_o_length := F_o_length.other W126 (Or.inl o_o_b113)
  change Go _ _ _ _ _ _ _ _ _ _ _ _ _ _ [b113, o] h125 1 512 22 #[.val (.ref o), .val (.int d)] []
  refine Go.aload_n (pc' := 23) d_prog_11_method_5_22 rfl rfl rfl ?_
  rw [own_set_map, own_push (m := ((512 : Int32).toNatClampNeg - (256 : Int32).toNatClampNeg)) (by decide)] at V_b113'
  exact Go.retA d_prog_11_method_5_23 rfl rfl rfl (by decide) (by decide) [b113] (snS ⟨(List.mem_of_getElem? (i := 0) rfl), ge_b113⟩ sn0) ⟨b113, _, rfl, rfl, E_o, F_o_chars, F_o_length, ge_b113, V_b113'.pad (fun i => own_padr _ _ i)⟩
abbrev R_m_aps0 : Room := { frames := 3, cells := 0, slots := 0, locals := 49 }
theorem pn_m_aps0 : plainFor (⟨"com/example/beleg/beleg/JsonOutput", "append", "(Ljava/lang/String;II)Lcom/example/beleg/beleg/JsonOutput;"⟩ : MethodName) = true := by first | (refine plainFor_of_name ?_; simp [plainName, overriddenIn]; done) | decide +kernel
abbrev Q_m_aps0 (Z : State) (o : Addr) (ch : Addr) (kc : ClassId) (a : Addr) (t : Addr) (kt : ClassId) (cs : List Int32) (z : Int32) (n : Int32) (h0 : Heap) : Option Value → Heap → List Addr → Prop := fun res h' SN => res = some (.ref o) ∧ SN = [] ∧ Exa Z h' o "com/example/beleg/beleg/JsonOutput" ∧ Fld Z h' o "com/example/beleg/beleg/JsonOutput" "chars" "[C" (.ref ch) ∧ Fld Z h' o "com/example/beleg/beleg/JsonOutput" "length" "I" (.int n) ∧ Arv Z h' ch kc .char (256 : Int32) ((cs.take n.toNatClampNeg).map Value.int) (.int (0 : Int32))
theorem ef_m_aps0 (mid : MethodId) (o : Addr) (ch : Addr) (kc : ClassId) (a : Addr) (t : Addr) (kt : ClassId) (cs : List Int32) (z : Int32) (n : Int32) : entryFrame mid #[(.ref o), (.ref a), (.int (0 : Int32)), (.int n)] 4 = mkF mid 0 #[.val (.ref o), .val (.ref a), .val (.int (0 : Int32)), .val (.int n)] [] := by first | (simp [entryFrame, mkF, argsToLocals, Value.category]; done) | rfl
set_option maxRecDepth 65536 in
set_option maxHeartbeats 40000000 in
theorem m_aps0 {l : Launch} {Z : State} {a0 : Array Value} {n0 : Nat} (hw : ∀ d ∈ tables_1, d.before a0 Z = true) (hs : Stat Z) (o : Addr) (ch : Addr) (kc : ClassId) (a : Addr) (t : Addr) (kt : ClassId) (cs : List Int32) (z : Int32) (n : Int32) (h0 : Heap) (E_o : Exa Z h0 o "com/example/beleg/beleg/JsonOutput") (F_o_chars : Fld Z h0 o "com/example/beleg/beleg/JsonOutput" "chars" "[C" (.ref ch)) (F_o_length : Fld Z h0 o "com/example/beleg/beleg/JsonOutput" "length" "I" (.int (0 : Int32))) (V_ch : Arv Z h0 ch kc .char (256 : Int32) (([] : List Int32).map Value.int) (.int (0 : Int32))) (E_a : Exa Z h0 a "java/lang/String") (F_a_coder : Fld Z h0 a "java/lang/String" "coder" "B" (.int (0 : Int32))) (F_a_value : Fld Z h0 a "java/lang/String" "value" "[B" (.ref t)) (V_t : Arv Z h0 t kt .byte z (cs.map lowV) (.int (0 : Int32))) (hz : z.toNatClampNeg = cs.length) (hn0 : ¬ n < 0) (hnz : n.toNatClampNeg ≤ cs.length) (hn2 : n.toNatClampNeg ≤ 256) (hz0 : ¬ z < 0) (hl1 : z.toNatClampNeg < 1073741824) (h255 : ∀ x ∈ cs, ¬ x < 0 ∧ ¬ 255 < x) (ne_t_ch : t ≠ ch) (ne_ch_o : ch ≠ o) :
    Met l Z EL0 n0 NR0 KN0 N_39 prog_11_method_7_code 4 (Option.some (Jvm.ClassFile.FieldType.object "com/example/beleg/beleg/JsonOutput")) R_m_aps0 [o, ch] #[(.ref o), (.ref a), (.int (0 : Int32)), (.int n)] h0 (Q_m_aps0 Z o ch kc a t kt cs z n h0) := by
  refine Met.of_go pn_m_aps0 (fun mid => ef_m_aps0 mid o ch kc a t kt cs z n ) ?_
  intro hO hWS
  refine Go.aload_n (pc' := 1) d_prog_11_method_7_0 rfl rfl rfl ?_
  refine Go.iload_n (pc' := 2) d_prog_11_method_7_1 rfl rfl ?_
  refine Go.iload_n (pc' := 3) d_prog_11_method_7_2 rfl rfl ?_
  refine Go.isub (pc' := 4) d_prog_11_method_7_3 rfl ?_
  rw [own_sub0]
  refine Go.callP (pc' := 7) (z := N_33) (a := o) d_prog_11_method_7_4 rfl (w_48 hw) (w_49 hw) (own_selP (z := N_33) (u := ({ cls := "com/example/beleg/beleg/JsonOutput", name := "append", desc := "(Ljava/lang/String;II)Lcom/example/beleg/beleg/JsonOutput;" } : Jvm.MethodName)) (w_46 hw) rfl (by decide) (w_49 hw) (w_50 hw)) (w_50 hw) (w_51 hw) (by decide) E_o (argsL := [(.int n)]) (rest := []) (Pays.of_met (W := 0) (len := 3) (m_er0 hw hs o ch kc (256 : Int32) (0 : Int32) ([] : List Int32) n h0 F_o_chars F_o_length V_ch (own_gec (by decide) hn0 (by have e : ((256 : Int32) - (0 : Int32)).toNatClampNeg = 256 := (by decide); omega))) (w_51 hw) (w_33 hw) (by decide) (by decide)) rfl rfl (lenOf pd_26 rfl) rfl (Nat.le_of_eq rfl) mem0 (by decide) (by decide) ?_
  rintro _ _ _ - - ⟨rfl, rfl, rfl⟩
  change Go _ _ _ _ _ _ _ _ _ _ _ _ _ _ [o, ch] h0 0 0 7 #[.val (.ref o), .val (.ref a), .val (.int (0 : Int32)), .val (.int n)] []
  refine Go.aload_n (pc' := 8) d_prog_11_method_7_7 rfl rfl rfl ?_
  refine Go.iload_n (pc' := 9) d_prog_11_method_7_8 rfl rfl ?_
  refine Go.iload_n (pc' := 10) d_prog_11_method_7_9 rfl rfl ?_
  refine Go.aload_n (pc' := 11) d_prog_11_method_7_10 rfl rfl rfl ?_
  refine Go.getF (pc' := 14) d_prog_11_method_7_11 rfl (host := "") (Or.inl (w_41 hw)) Via.refl F_o_chars ?_
  refine Go.aload_n (pc' := 15) d_prog_11_method_7_14 rfl rfl rfl ?_
  refine Go.getF (pc' := 18) d_prog_11_method_7_15 rfl (host := "") (Or.inl (w_52 hw)) Via.refl F_o_length ?_
  refine Go.callV (pc' := 21) (u := N_30) (z := N_30) (a := a) d_prog_11_method_7_18 rfl (w_54 hw) (w_55 hw) (nf (w_57 hw) rfl) (w_57 hw) (w_56 hw) (by decide) E_a (argsL := [(.int (0 : Int32)), (.int n), (.ref ch), (.int (0 : Int32))]) (rest := []) (Pays.of_met (W := 0) (len := 3) (m_sgc0 hw hs a t ch kt kc cs z (256 : Int32) n h0 E_a F_a_coder F_a_value V_t V_ch (hz) (hn0) (hnz) (hn2) (hz0) (hl1) (h255) ne_t_ch) (w_58 hw) (w_4 hw) (by decide) (by decide)) rfl rfl (lenOf pd_27 rfl) rfl (Nat.le_of_eq rfl) (memS (List.mem_of_getElem? (i := 1) rfl) mem0) (by decide) (by decide) ?_
  rintro _ h127 _ K128 le129 ⟨rfl, rfl, p130⟩
  replace E_o := E_o.keep K128
  replace F_o_chars := F_o_chars.keep K128 (ninS (Ne.symm ne_ch_o) nin0)
  replace F_o_length := F_o_length.keep K128 (ninS (Ne.symm ne_ch_o) nin0)
  replace E_a := E_a.keep K128
  replace V_t := V_t.keep K128 (ninS ne_t_ch nin0)
  have V_ch := p130
  change Go _ _ _ _ _ _ _ _ _ _ _ _ _ _ [o, ch] h127 0 0 21 #[.val (.ref o), .val (.ref a), .val (.int (0 : Int32)), .val (.int n)] []
  refine Go.aload_n (pc' := 22) d_prog_11_method_7_21 rfl rfl rfl ?_
  refine Go.dup (pc' := 23) d_prog_11_method_7_22 rfl rfl ?_
  refine Go.getF (pc' := 26) d_prog_11_method_7_23 rfl (host := "") (Or.inl (w_52 hw)) Via.refl F_o_length ?_
  refine Go.iload_n (pc' := 27) d_prog_11_method_7_26 rfl rfl ?_
  refine Go.iload_n (pc' := 28) d_prog_11_method_7_27 rfl rfl ?_
  refine Go.isub (pc' := 29) d_prog_11_method_7_28 rfl ?_
  refine Go.iadd (pc' := 30) d_prog_11_method_7_29 rfl ?_
  rw [own_0add]
  refine Go.putF (pc' := 33) d_prog_11_method_7_30 rfl (List.mem_of_getElem? (i := 0) rfl) (host := "") (Or.inl (w_52 hw)) Via.refl F_o_length E_o (Or.inl (w_53 hw)) (w_32 hw) (ty := .int) (by decide) rfl rfl ?_
  intro h131 W132
  replace F_o_length := F_o_length.same W132
  replace E_o := E_o.wr W132
  replace F_o_chars := F_o_chars.other W132 (Or.inr (slot_ne (Or.inl (w_42 hw)) (Or.inl (w_53 hw)) (by decide) (t := (.array .char)) (t' := .int) (by decide) (by decide)))
  replace E_a := E_a.wr W132
  replace V_ch := V_ch.other W132 ne_ch_o
  change Go _ _ _ _ _ _ _ _ _ _ _ _ _ _ [o, ch] h131 0 0 33 #[.val (.ref o), .val (.ref a), .val (.int (0 : Int32)), .val (.int n)] []
  refine Go.aload_n (pc' := 34) d_prog_11_method_7_33 rfl rfl rfl ?_
  exact Go.retA d_prog_11_method_7_34 rfl rfl rfl (by decide) (by decide) [] sn0 ⟨rfl, rfl, E_o, F_o_chars, F_o_length, V_ch⟩
abbrev R_m_aps1 : Room := { frames := 6, cells := 0, slots := 0, locals := 133 }
theorem pn_m_aps1 : plainFor (⟨"com/example/beleg/beleg/JsonOutput", "append", "(Ljava/lang/String;II)Lcom/example/beleg/beleg/JsonOutput;"⟩ : MethodName) = true := by first | (refine plainFor_of_name ?_; simp [plainName, overriddenIn]; done) | decide +kernel
abbrev Q_m_aps1 (Z : State) (o : Addr) (ch : Addr) (kc : ClassId) (a : Addr) (t : Addr) (kt : ClassId) (bs : List Int32) (cs : List Int32) (z : Int32) (n : Int32) (h0 : Heap) : Option Value → Heap → List Addr → Prop := fun res h' SN => res = some (.ref o) ∧ SN = [] ∧ Exa Z h' o "com/example/beleg/beleg/JsonOutput" ∧ Fld Z h' o "com/example/beleg/beleg/JsonOutput" "chars" "[C" (.ref ch) ∧ Fld Z h' o "com/example/beleg/beleg/JsonOutput" "length" "I" (.int n) ∧ Arv Z h' ch kc .char (256 : Int32) ((cs.take n.toNatClampNeg).map Value.int) (.int (0 : Int32))
theorem ef_m_aps1 (mid : MethodId) (o : Addr) (ch : Addr) (kc : ClassId) (a : Addr) (t : Addr) (kt : ClassId) (bs : List Int32) (cs : List Int32) (z : Int32) (n : Int32) : entryFrame mid #[(.ref o), (.ref a), (.int (0 : Int32)), (.int n)] 4 = mkF mid 0 #[.val (.ref o), .val (.ref a), .val (.int (0 : Int32)), .val (.int n)] [] := by first | (simp [entryFrame, mkF, argsToLocals, Value.category]; done) | rfl
set_option maxRecDepth 65536 in
set_option maxHeartbeats 40000000 in
theorem m_aps1 {l : Launch} {Z : State} {a0 : Array Value} {n0 : Nat} (hw : ∀ d ∈ tables_1, d.before a0 Z = true) (hs : Stat Z) (o : Addr) (ch : Addr) (kc : ClassId) (a : Addr) (t : Addr) (kt : ClassId) (bs : List Int32) (cs : List Int32) (z : Int32) (n : Int32) (h0 : Heap) (E_o : Exa Z h0 o "com/example/beleg/beleg/JsonOutput") (F_o_chars : Fld Z h0 o "com/example/beleg/beleg/JsonOutput" "chars" "[C" (.ref ch)) (F_o_length : Fld Z h0 o "com/example/beleg/beleg/JsonOutput" "length" "I" (.int (0 : Int32))) (V_ch : Arv Z h0 ch kc .char (256 : Int32) (([] : List Int32).map Value.int) (.int (0 : Int32))) (E_a : Exa Z h0 a "java/lang/String") (F_a_coder : Fld Z h0 a "java/lang/String" "coder" "B" (.int (1 : Int32))) (F_a_value : Fld Z h0 a "java/lang/String" "value" "[B" (.ref t)) (V_t : Arv Z h0 t kt .byte (z <<< ((1 : Int32) &&& 31)) (bs.map Value.int) (.int (0 : Int32))) (hz : z.toNatClampNeg = cs.length) (hn0 : ¬ n < 0) (hnz : n.toNatClampNeg ≤ cs.length) (hn2 : n.toNatClampNeg ≤ 256) (hz0 : ¬ z < 0) (hl1 : z.toNatClampNeg < 1073741824) (hE : Enc bs cs cs.length) (h16 : ∀ x ∈ cs, ¬ x < 0 ∧ ¬ 65535 < x) (ne_t_ch : t ≠ ch) (ne_ch_o : ch ≠ o) :
    Met l Z EL0 n0 NR0 KN0 N_39 prog_11_method_7_code 4 (Option.some (Jvm.ClassFile.FieldType.object "com/example/beleg/beleg/JsonOutput")) R_m_aps1 [o, ch] #[(.ref o), (.ref a), (.int (0 : Int32)), (.int n)] h0 (Q_m_aps1 Z o ch kc a t kt bs cs z n h0) := by
  refine Met.of_go pn_m_aps1 (fun mid => ef_m_aps1 mid o ch kc a t kt bs cs z n ) ?_
  intro hO hWS
  refine Go.aload_n (pc' := 1) d_prog_11_method_7_0 rfl rfl rfl ?_
  refine Go.iload_n (pc' := 2) d_prog_11_method_7_1 rfl rfl ?_
  refine Go.iload_n (pc' := 3) d_prog_11_method_7_2 rfl rfl ?_
  refine Go.isub (pc' := 4) d_prog_11_method_7_3 rfl ?_
  rw [own_sub0]
  refine Go.callP (pc' := 7) (z := N_33) (a := o) d_prog_11_method_7_4 rfl (w_48 hw) (w_49 hw) (own_selP (z := N_33) (u := ({ cls := "com/example/beleg/beleg/JsonOutput", name := "append", desc := "(Ljava/lang/String;II)Lcom/example/beleg/beleg/JsonOutput;" } : Jvm.MethodName)) (w_46 hw) rfl (by decide) (w_49 hw) (w_50 hw)) (w_50 hw) (w_51 hw) (by decide) E_o (argsL := [(.int n)]) (rest := []) (Pays.of_met (W := 0) (len := 3) (m_er0 hw hs o ch kc (256 : Int32) (0 : Int32) ([] : List Int32) n h0 F_o_chars F_o_length V_ch (own_gec (by decide) hn0 (by have e : ((256 : Int32) - (0 : Int32)).toNatClampNeg = 256 := (by decide); omega))) (w_51 hw) (w_33 hw) (by decide) (by decide)) rfl rfl (lenOf pd_26 rfl) rfl (Nat.le_of_eq rfl) mem0 (by decide) (by decide) ?_
  rintro _ _ _ - - ⟨rfl, rfl, rfl⟩
  change Go _ _ _ _ _ _ _ _ _ _ _ _ _ _ [o, ch] h0 0 0 7 #[.val (.ref o), .val (.ref a), .val (.int (0 : Int32)), .val (.int n)] []
  refine Go.aload_n (pc' := 8) d_prog_11_method_7_7 rfl rfl rfl ?_
  refine Go.iload_n (pc' := 9) d_prog_11_method_7_8 rfl rfl ?_
  refine Go.iload_n (pc' := 10) d_prog_11_method_7_9 rfl rfl ?_
  refine Go.aload_n (pc' := 11) d_prog_11_method_7_10 rfl rfl rfl ?_
  refine Go.getF (pc' := 14) d_prog_11_method_7_11 rfl (host := "") (Or.inl (w_41 hw)) Via.refl F_o_chars ?_
  refine Go.aload_n (pc' := 15) d_prog_11_method_7_14 rfl rfl rfl ?_
  refine Go.getF (pc' := 18) d_prog_11_method_7_15 rfl (host := "") (Or.inl (w_52 hw)) Via.refl F_o_length ?_
  refine Go.callV (pc' := 21) (u := N_30) (z := N_30) (a := a) d_prog_11_method_7_18 rfl (w_54 hw) (w_55 hw) (nf (w_57 hw) rfl) (w_57 hw) (w_56 hw) (by decide) E_a (argsL := [(.int (0 : Int32)), (.int n), (.ref ch), (.int (0 : Int32))]) (rest := []) (Pays.of_met (W := 0) (len := 3) (m_sgc1 hw hs a t ch kt kc bs cs z (256 : Int32) n h0 E_a F_a_coder F_a_value V_t V_ch (hz) (hn0) (hnz) (hn2) (hz0) (hl1) (hE) (h16) ne_t_ch) (w_58 hw) (w_4 hw) (by decide) (by decide)) rfl rfl (lenOf pd_27 rfl) rfl (Nat.le_of_eq rfl) (memS (List.mem_of_getElem? (i := 1) rfl) mem0) (by decide) (by decide) ?_
  rintro _ h133 _ K134 le135 ⟨rfl, rfl, p136⟩
  replace E_o := E_o.keep K134
  replace F_o_chars := F_o_chars.keep K134 (ninS (Ne.symm ne_ch_o) nin0)
  replace F_o_length := F_o_length.keep K134 (ninS (Ne.symm ne_ch_o) nin0)
  replace E_a := E_a.keep K134
  replace V_t := V_t.keep K134 (ninS ne_t_ch nin0)
  have V_ch := p136
  change Go _ _ _ _ _ _ _ _ _ _ _ _ _ _ [o, ch] h133 0 0 21 #[.val (.ref o), .val (.ref a), .val (.int (0 : Int32)), .val (.int n)] []
  refine Go.aload_n (pc' := 22) d_prog_11_method_7_21 rfl rfl rfl ?_
  refine Go.dup (pc' := 23) d_prog_11_method_7_22 rfl rfl ?_
  refine Go.getF (pc' := 26) d_prog_11_method_7_23 rfl (host := "") (Or.inl (w_52 hw)) Via.refl F_o_length ?_
  refine Go.iload_n (pc' := 27) d_prog_11_method_7_26 rfl rfl ?_
  refine Go.iload_n (pc' := 28) d_prog_11_method_7_27 rfl rfl ?_
  refine Go.isub (pc' := 29) d_prog_11_method_7_28 rfl ?_
  refine Go.iadd (pc' := 30) d_prog_11_method_7_29 rfl ?_
  rw [own_0add]
  refine Go.putF (pc' := 33) d_prog_11_method_7_30 rfl (List.mem_of_getElem? (i := 0) rfl) (host := "") (Or.inl (w_52 hw)) Via.refl F_o_length E_o (Or.inl (w_53 hw)) (w_32 hw) (ty := .int) (by decide) rfl rfl ?_
  intro h137 W138
  replace F_o_length := F_o_length.same W138
  replace E_o := E_o.wr W138
  replace F_o_chars := F_o_chars.other W138 (Or.inr (slot_ne (Or.inl (w_42 hw)) (Or.inl (w_53 hw)) (by decide) (t := (.array .char)) (t' := .int) (by decide) (by decide)))
  replace E_a := E_a.wr W138
  replace V_ch := V_ch.other W138 ne_ch_o
  change Go _ _ _ _ _ _ _ _ _ _ _ _ _ _ [o, ch] h137 0 0 33 #[.val (.ref o), .val (.ref a), .val (.int (0 : Int32)), .val (.int n)] []
  refine Go.aload_n (pc' := 34) d_prog_11_method_7_33 rfl rfl rfl ?_
  exact Go.retA d_prog_11_method_7_34 rfl rfl rfl (by decide) (by decide) [] sn0 ⟨rfl, rfl, E_o, F_o_chars, F_o_length, V_ch⟩
abbrev R_m_jlen : Room := { frames := 0, cells := 0, slots := 0, locals := 0 }
theorem pn_m_jlen : plainFor (⟨"com/example/beleg/beleg/JsonOutput", "length", "()I"⟩ : MethodName) = true := by first | (refine plainFor_of_name ?_; simp [plainName, overriddenIn]; done) | decide +kernel
abbrev Q_m_jlen (Z : State) (o : Addr) (len : Int32) (h0 : Heap) : Option Value → Heap → List Addr → Prop := fun res h' SN => res = some (.int len) ∧ SN = [] ∧ h0 = h'
theorem ef_m_jlen (mid : MethodId) (o : Addr) (len : Int32) : entryFrame mid #[(.ref o)] 1 = mkF mid 0 #[.val (.ref o)] [] := by first | (simp [entryFrame, mkF, argsToLocals, Value.category]; done) | rfl
set_option maxRecDepth 65536 in
set_option maxHeartbeats 40000000 in
theorem m_jlen {l : Launch} {Z : State} {a0 : Array Value} {n0 : Nat} (hw : ∀ d ∈ tables_1, d.before a0 Z = true) (hs : Stat Z) (o : Addr) (len : Int32) (h0 : Heap) (F_o_length : Fld Z h0 o "com/example/beleg/beleg/JsonOutput" "length" "I" (.int len)) :
    Met l Z EL0 n0 NR0 KN0 N_40 prog_11_method_9_code 1 (Option.some Jvm.ClassFile.FieldType.int) R_m_jlen [] #[(.ref o)] h0 (Q_m_jlen Z o len h0) := by
  refine Met.of_go pn_m_jlen (fun mid => ef_m_jlen mid o len ) ?_
  intro hO hWS
  refine Go.aload_n (pc' := 1) d_prog_11_method_9_0 rfl rfl rfl ?_
  refine Go.getF (pc' := 4) d_prog_11_method_9_1 rfl (host := "") (Or.inl (w_52 hw)) Via.refl F_o_length ?_
  exact Go.retI d_prog_11_method_9_4 rfl (by decide) (by decide) [] sn0 ⟨rfl, rfl, rfl⟩
abbrev R_m_jstr : Room := { frames := 6, cells := 3, slots := 778, locals := 106 }
theorem pn_m_jstr : plainFor (⟨"com/example/beleg/beleg/JsonOutput", "toString", "()Ljava/lang/String;"⟩ : MethodName) = true := by first | (refine plainFor_of_name ?_; simp [plainName, overriddenIn]; done) | decide +kernel
abbrev Q_m_jstr (Z : State) (o : Addr) (c : Addr) (kc : ClassId) (cs : List Int32) (zc : Int32) (z : Int32) (h0 : Heap) : Option Value → Heap → List Addr → Prop := fun res h' SN => ∃ (a : Addr) (t : Addr) (kt : ClassId), res = some (.ref a) ∧ SN = [] ∧ Exa Z h' a "java/lang/String" ∧ h0.size ≤ a ∧ h0.size ≤ t ∧ (LatS Z h' a t kt z cs ∨ U16S Z h' a t kt z cs)
theorem ef_m_jstr (mid : MethodId) (o : Addr) (c : Addr) (kc : ClassId) (cs : List Int32) (zc : Int32) (z : Int32) : entryFrame mid #[(.ref o)] 1 = mkF mid 0 #[.val (.ref o)] [] := by first | (simp [entryFrame, mkF, argsToLocals, Value.category]; done) | rfl
set_option maxRecDepth 65536 in
set_option maxHeartbeats 40000000 in
theorem m_jstr {l : Launch} {Z : State} {a0 : Array Value} {n0 : Nat} (hw : ∀ d ∈ tables_1, d.before a0 Z = true) (hs : Stat Z) (o : Addr) (c : Addr) (kc : ClassId) (cs : List Int32) (zc : Int32) (z : Int32) (h0 : Heap) (E_o : Exa Z h0 o "com/example/beleg/beleg/JsonOutput") (F_o_chars : Fld Z h0 o "com/example/beleg/beleg/JsonOutput" "chars" "[C" (.ref c)) (F_o_length : Fld Z h0 o "com/example/beleg/beleg/JsonOutput" "length" "I" (.int z)) (V_c : Arv Z h0 c kc .char zc (cs.map Value.int) (.int (0 : Int32))) (hz : z.toNatClampNeg = cs.length) (hz0 : ¬ z < 0) (hle : ¬ zc < z) (hbig : z.toNatClampNeg ≤ CAP) (h16 : ∀ x ∈ cs, ¬ x < 0 ∧ ¬ 65535 < x) (hzn : ¬ z = 0) :
    Met l Z EL0 n0 NR0 KN0 N_41 prog_11_method_13_code 1 (Option.some (Jvm.ClassFile.FieldType.object "java/lang/String")) R_m_jstr [] #[(.ref o)] h0 (Q_m_jstr Z o c kc cs zc z h0) := by
  refine Met.of_go pn_m_jstr (fun mid => ef_m_jstr mid o c kc cs zc z ) ?_
  intro hO hWS
  refine Go.newO (pc' := 3) d_prog_11_method_13_0 rfl (w_110 hw) (w_3 hw) (w_4 hw) (by decide) (by decide) ?_
  intro h139 b140 g141 ge_b140 x142 E_b140 D_b140 U_b140
  have o_o_b140 : o ≠ b140 := Nat.ne_of_lt (Nat.lt_of_lt_of_le E_o.lt (Nat.le_of_eq g141))
  have o_c_b140 : c ≠ b140 := Nat.ne_of_lt (Nat.lt_of_lt_of_le V_c.lt (Nat.le_of_eq g141))
  replace E_o := E_o.ext x142
  replace F_o_chars := F_o_chars.ext x142
  replace F_o_length := F_o_length.ext x142
  replace V_c := V_c.ext x142
  have F_b140_coder : Fld Z h139 b140 "java/lang/String" "coder" "B" (.int (0 : Int32)) := D_b140 (Or.inr (w_28 hw)) (ty := .byte) (by decide)
  have F_b140_value : Fld Z h139 b140 "java/lang/String" "value" "[B" .null := D_b140 (Or.inr (w_30 hw)) (ty := (.array .byte)) (by decide)
  change Go _ _ _ _ _ _ _ _ _ _ _ _ _ _ [b140] h139 1 4 3 #[.val (.ref o)] [(.ref b140)]
  refine Go.dup (pc' := 4) d_prog_11_method_13_3 rfl rfl ?_
  refine Go.aload_n (pc' := 5) d_prog_11_method_13_4 rfl rfl rfl ?_
  refine Go.getF (pc' := 8) d_prog_11_method_13_5 rfl (host := "") (Or.inl (w_41 hw)) Via.refl F_o_chars ?_
  refine Go.iconst (pc' := 9) d_prog_11_method_13_8 rfl ic_0 ?_
  refine Go.aload_n (pc' := 10) d_prog_11_method_13_9 rfl rfl rfl ?_
  refine Go.getF (pc' := 13) d_prog_11_method_13_10 rfl (host := "") (Or.inl (w_52 hw)) Via.refl F_o_length ?_
  refine Go.callI (pc' := 16) (z := N_13) (a := b140) d_prog_11_method_13_13 rfl rfl (w_111 hw) (w_112 hw) (w_113 hw) (by decide) (argsL := [(.ref c), (.int (0 : Int32)), (.int z)]) (rest := [(.ref b140)]) (Pays.of_met (W := 1) (len := 3) (m_ustr3 hw hs b140 c kc cs zc z h139 E_b140 F_b140_coder F_b140_value V_c (hz) (hz0) (hle) (hbig) (h16) (hzn) o_c_b140) (w_113 hw) (w_4 hw) (by decide) (by decide)) rfl rfl (lenOf pd_28 rfl) rfl (Nat.le_of_eq rfl) (memS (List.mem_of_getElem? (i := 0) rfl) mem0) (by decide) (by decide) ?_
  rintro _ h145 _ K146 le147 ⟨b143, q144, rfl, rfl, p148, p149, p150⟩
  have o_o_b143 : o ≠ b143 := Nat.ne_of_lt (Nat.lt_of_lt_of_le E_o.lt p149)
  have o_c_b143 : c ≠ b143 := Nat.ne_of_lt (Nat.lt_of_lt_of_le V_c.lt p149)
  have o_b140_b143 : b140 ≠ b143 := Nat.ne_of_lt (Nat.lt_of_lt_of_le E_b140.lt p149)
  have ge_b143 := Nat.le_trans le147 p149
  replace E_o := E_o.keep K146
  replace F_o_chars := F_o_chars.keep K146 (ninS o_o_b140 nin0)
  replace F_o_length := F_o_length.keep K146 (ninS o_o_b140 nin0)
  replace V_c := V_c.keep K146 (ninS o_c_b140 nin0)
  replace E_b140 := E_b140.keep K146
  change Go _ _ _ _ _ _ _ _ _ _ _ _ _ _ [b140] h145 3 778 16 #[.val (.ref o)] [(.ref b140)]
  exact Go.retA d_prog_11_method_13_16 rfl rfl rfl (by decide) (by decide) [] sn0 ⟨b140, b143, _, rfl, rfl, E_b140, ge_b140, ge_b143, p150⟩
abbrev Q_m_law (Z : State) (p1 : Int32) (p2 : Int32) (p3 : Int32) (p4 : Int32) (p5 : Int32) (h0 : Heap) : Option Value → Heap → List Addr → Prop := fun res h' SN => res = some (.int (1 : Int32)) ∧ SN = []
set_option maxRecDepth 65536 in
set_option maxHeartbeats 40000000 in
theorem m_lawT0 {l : Launch} {Z : State} {a0 : Array Value} {n0 : Nat} (hw : ∀ d ∈ tables_1, d.before a0 Z = true) (hs : Stat Z) (p1 : Int32) (p2 : Int32) (p3 : Int32) (p4 : Int32) (p5 : Int32) (n : Int32) (c1 : Int32) (c2 : Int32) (fi : Int32) (la : Int32) (pad : Addr) (ps : Addr) (o : Addr) (s : Addr) (t : Addr) (kt : ClassId) (T : List Int32) (h0 h : Heap) (E_s : Exa Z h s "java/lang/String") (F_s_coder : Fld Z h s "java/lang/String" "coder" "B" (.int (0 : Int32))) (F_s_value : Fld Z h s "java/lang/String" "value" "[B" (.ref t)) (V_t : Arv Z h t kt .byte (n + (2 : Int32)) (T.map lowV) (.int (0 : Int32))) (nn0 : ¬ n < 0) (nle : n.toNatClampNeg ≤ 256) (hT0 : T.length = n.toNatClampNeg + 2) (h16 : ∀ x ∈ T, ¬ x < 0 ∧ ¬ 65535 < x) (hT1 : T.getD n.toNatClampNeg 0 = c1) (hT2 : T.getD (n.toNatClampNeg + 1) 0 = c2) (hT3 : (0 : Int32) < n → T.getD (n.toNatClampNeg - 1) 0 = la) (hT4 : (0 : Int32) < n → T.getD 0 0 = if n = (1 : Int32) then la else fi) (hT255 : ∀ x ∈ T, ¬ x < 0 ∧ ¬ 255 < x) :
    Go l Z EL0 n0 NR0 KN0 x code maxLocals ret room_1 h0 [] (Q_m_law Z p1 p2 p3 p4 p5 h0) [] h 24 5000 135 #[.val (.int p1), .val (.int p2), .val (.int p3), .val (.int p4), .val (.int p5), .val (.int n), .val (.int c1), .val (.int c2), .val (.int fi), .val (.int la), .val (.ref pad), .val (.ref ps), .val (.ref o), .val (.ref o), .val (.int (n + (1 : Int32))), .val (.ref o), .val (.int (n + (2 : Int32))), .unset, .unset] [(.ref s)] := by
  have b2 := own_add2 nn0 nle
  have b1 := own_add1 nn0 nle
  have hl1 : (n + (2 : Int32)).toNatClampNeg < 1073741824 := by rw [b2.2]; omega
  have hz : (n + (2 : Int32)).toNatClampNeg = T.length := by rw [b2.2, hT0]
  refine Go.astore (pc' := 137) (Ls' := #[.val (.int p1), .val (.int p2), .val (.int p3), .val (.int p4), .val (.int p5), .val (.int n), .val (.int c1), .val (.int c2), .val (.int fi), .val (.int la), .val (.ref pad), .val (.ref ps), .val (.ref o), .val (.ref o), .val (.int (n + (1 : Int32))), .val (.ref o), .val (.int (n + (2 : Int32))), .val (.ref s), .unset]) at_135 rfl rfl rfl ?_
  refine Go.aload (pc' := 139) at_137 rfl rfl rfl ?_
  refine Go.aload (pc' := 141) at_139 rfl rfl rfl ?_
  refine Go.acmp (pc' := 144) (same := true) at_141 rfl rfl (decide_eq_true rfl) (by decide) (by decide) ?_
  refine Go.aload (pc' := 146) at_144 rfl rfl rfl ?_
  refine Go.aload (pc' := 148) at_146 rfl rfl rfl ?_
  refine Go.acmp (pc' := 151) (same := true) at_148 rfl rfl (decide_eq_true rfl) (by decide) (by decide) ?_
  refine Go.iload (pc' := 153) at_151 rfl rfl ?_
  refine Go.iload (pc' := 155) at_153 rfl rfl ?_
  refine Go.iconst (pc' := 156) at_155 rfl ic_1 ?_
  refine Go.iadd (pc' := 157) at_156 rfl ?_
  refine Go.icmpN (pc' := 160) at_157 rfl (teq (rfl : (n + (1 : Int32)) = (n + (1 : Int32)))).2 ?_
  refine Go.iload (pc' := 162) at_160 rfl rfl ?_
  refine Go.iload (pc' := 164) at_162 rfl rfl ?_
  refine Go.iconst (pc' := 165) at_164 rfl ic_2 ?_
  refine Go.iadd (pc' := 166) at_165 rfl ?_
  refine Go.icmpN (pc' := 169) at_166 rfl (teq (rfl : (n + (2 : Int32)) = (n + (2 : Int32)))).2 ?_
  refine Go.aload (pc' := 171) at_169 rfl rfl rfl ?_
  refine Go.callV (pc' := 174) (u := N_16) (z := N_16) (a := s) at_171 rfl (w_117 hw) (w_60 hw) (nf (w_62 hw) rfl) (w_62 hw) (w_61 hw) (by decide) E_s (argsL := []) (rest := []) (Pays.of_met (W := 0) (len := 3) (m_length hw hs s t kt (n + (2 : Int32)) (T.map lowV) h E_s F_s_coder F_s_value V_t) (w_63 hw) (w_4 hw) (by decide) (by decide)) rfl rfl (lenOf pd_19 rfl) rfl (Nat.le_of_eq rfl) mem0 (by decide) (by decide) ?_
  rintro _ _ _ - - ⟨rfl, rfl, rfl⟩
  change Go _ _ _ _ _ _ _ _ _ _ _ _ _ _ [] h 24 5000 174 #[.val (.int p1), .val (.int p2), .val (.int p3), .val (.int p4), .val (.int p5), .val (.int n), .val (.int c1), .val (.int c2), .val (.int fi), .val (.int la), .val (.ref pad), .val (.ref ps), .val (.ref o), .val (.ref o), .val (.int (n + (1 : Int32))), .val (.ref o), .val (.int (n + (2 : Int32))), .val (.ref s), .unset] [(.int (n + (2 : Int32)))]
  refine Go.iload (pc' := 176) at_174 rfl rfl ?_
  refine Go.iconst (pc' := 177) at_176 rfl ic_2 ?_
  refine Go.iadd (pc' := 178) at_177 rfl ?_
  refine Go.icmpN (pc' := 181) at_178 rfl (teq (rfl : (n + (2 : Int32)) = (n + (2 : Int32)))).2 ?_
  refine Go.aload (pc' := 183) at_181 rfl rfl rfl ?_
  refine Go.iload (pc' := 185) at_183 rfl rfl ?_
  refine Go.callV (pc' := 188) (u := N_20) (z := N_20) (a := s) at_185 rfl (w_118 hw) (w_119 hw) (nf (w_121 hw) rfl) (w_121 hw) (w_120 hw) (by decide) E_s (argsL := [(.int n)]) (rest := []) (Pays.of_met (W := 0) (len := 3) (m_charAt hw hs s t kt (n + (2 : Int32)) (T.map lowV) n (T.getD n.toNatClampNeg 0).toInt8.toInt32 h E_s F_s_coder F_s_value V_t (⟨nn0, own_ltc nn0 b2.1 (by rw [b2.2]; omega)⟩) (getD_low T _ (by rw [show n.toNatClampNeg = n.toNatClampNeg from rfl]; omega))) (w_122 hw) (w_4 hw) (by decide) (by decide)) rfl rfl (lenOf pd_29 rfl) rfl (Nat.le_of_eq rfl) mem0 (by decide) (by decide) ?_
  rintro _ _ _ - - ⟨rfl, rfl, rfl⟩
  change Go _ _ _ _ _ _ _ _ _ _ _ _ _ _ [] h 24 5000 188 #[.val (.int p1), .val (.int p2), .val (.int p3), .val (.int p4), .val (.int p5), .val (.int n), .val (.int c1), .val (.int c2), .val (.int fi), .val (.int la), .val (.ref pad), .val (.ref ps), .val (.ref o), .val (.ref o), .val (.int (n + (1 : Int32))), .val (.ref o), .val (.int (n + (2 : Int32))), .val (.ref s), .unset] [(.int ((T.getD n.toNatClampNeg 0).toInt8.toInt32 &&& (255 : Int32)).toUInt32.toUInt16.toUInt32.toInt32)]
  have mm := getD_mem hT255 (i := n.toNatClampNeg) (by rw [show n.toNatClampNeg = n.toNatClampNeg from rfl]; omega)
  rw [own_lowback mm.1 mm.2]
  rw [show n.toNatClampNeg = n.toNatClampNeg from rfl, hT1]
  refine Go.iload (pc' := 190) at_188 rfl rfl ?_
  refine Go.icmpN (pc' := 193) at_190 rfl (teq (rfl : c1 = c1)).2 ?_
  refine Go.aload (pc' := 195) at_193 rfl rfl rfl ?_
  refine Go.iload (pc' := 197) at_195 rfl rfl ?_
  refine Go.iconst (pc' := 198) at_197 rfl ic_1 ?_
  refine Go.iadd (pc' := 199) at_198 rfl ?_
  refine Go.callV (pc' := 202) (u := N_20) (z := N_20) (a := s) at_199 rfl (w_118 hw) (w_119 hw) (nf (w_121 hw) rfl) (w_121 hw) (w_120 hw) (by decide) E_s (argsL := [(.int (n + (1 : Int32)))]) (rest := []) (Pays.of_met (W := 0) (len := 3) (m_charAt hw hs s t kt (n + (2 : Int32)) (T.map lowV) (n + (1 : Int32)) (T.getD (n + (1 : Int32)).toNatClampNeg 0).toInt8.toInt32 h E_s F_s_coder F_s_value V_t (⟨b1.1, own_ltc b1.1 b2.1 (by rw [b1.2, b2.2]; omega)⟩) (getD_low T _ (by rw [b1.2]; omega))) (w_122 hw) (w_4 hw) (by decide) (by decide)) rfl rfl (lenOf pd_29 rfl) rfl (Nat.le_of_eq rfl) mem0 (by decide) (by decide) ?_
  rintro _ _ _ - - ⟨rfl, rfl, rfl⟩
  change Go _ _ _ _ _ _ _ _ _ _ _ _ _ _ [] h 24 5000 202 #[.val (.int p1), .val (.int p2), .val (.int p3), .val (.int p4), .val (.int p5), .val (.int n), .val (.int c1), .val (.int c2), .val (.int fi), .val (.int la), .val (.ref pad), .val (.ref ps), .val (.ref o), .val (.ref o), .val (.int (n + (1 : Int32))), .val (.ref o), .val (.int (n + (2 : Int32))), .val (.ref s), .unset] [(.int ((T.getD (n + (1 : Int32)).toNatClampNeg 0).toInt8.toInt32 &&& (255 : Int32)).toUInt32.toUInt16.toUInt32.toInt32)]
  have mm := getD_mem hT255 (i := (n + (1 : Int32)).toNatClampNeg) (by rw [b1.2]; omega)
  rw [own_lowback mm.1 mm.2]
  rw [b1.2, hT2]
  refine Go.iload (pc' := 204) at_202 rfl rfl ?_
  refine Go.icmpN (pc' := 207) at_204 rfl (teq (rfl : c2 = c2)).2 ?_
  refine Go.iconst (pc' := 208) at_207 rfl ic_1 ?_
  refine Go.goto (pc' := 212) at_208 (by decide) (by decide) ?_
  refine Go.istore (pc' := 214) (Ls' := #[.val (.int p1), .val (.int p2), .val (.int p3), .val (.int p4), .val (.int p5), .val (.int n), .val (.int c1), .val (.int c2), .val (.int fi), .val (.int la), .val (.ref pad), .val (.ref ps), .val (.ref o), .val (.ref o), .val (.int (n + (1 : Int32))), .val (.ref o), .val (.int (n + (2 : Int32))), .val (.ref s), .val (.int (1 : Int32))]) at_212 rfl rfl ?_
  refine Go.iload (pc' := 216) at_214 rfl rfl ?_
  by_cases hp : (0 : Int32) < n
  · skip
    refine Go.ifN (pc' := 219) at_216 rfl ((if0 _ _).trans (tlt (hp : (0 : Int32) < n)).2.2.2) ?_
    refine Go.iload (pc' := 221) at_219 rfl rfl ?_
    refine Go.ifN (pc' := 224) at_221 rfl ((if0 _ _).trans (feq (by decide : ¬ ((1 : Int32) = (0 : Int32)))).1) ?_
    refine Go.aload (pc' := 226) at_224 rfl rfl rfl ?_
    refine Go.iload (pc' := 228) at_226 rfl rfl ?_
    refine Go.iconst (pc' := 229) at_228 rfl ic_1 ?_
    refine Go.isub (pc' := 230) at_229 rfl ?_
    have bm := own_subn hp nle
    refine Go.callV (pc' := 233) (u := N_20) (z := N_20) (a := s) at_230 rfl (w_118 hw) (w_119 hw) (nf (w_121 hw) rfl) (w_121 hw) (w_120 hw) (by decide) E_s (argsL := [(.int (n - (1 : Int32)))]) (rest := []) (Pays.of_met (W := 0) (len := 3) (m_charAt hw hs s t kt (n + (2 : Int32)) (T.map lowV) (n - (1 : Int32)) (T.getD (n - (1 : Int32)).toNatClampNeg 0).toInt8.toInt32 h E_s F_s_coder F_s_value V_t (⟨bm.1, own_ltc bm.1 b2.1 (by rw [bm.2, b2.2]; omega)⟩) (getD_low T _ (by rw [bm.2]; omega))) (w_122 hw) (w_4 hw) (by decide) (by decide)) rfl rfl (lenOf pd_29 rfl) rfl (Nat.le_of_eq rfl) mem0 (by decide) (by decide) ?_
    rintro _ _ _ - - ⟨rfl, rfl, rfl⟩
    change Go _ _ _ _ _ _ _ _ _ _ _ _ _ _ [] h 24 5000 233 #[.val (.int p1), .val (.int p2), .val (.int p3), .val (.int p4), .val (.int p5), .val (.int n), .val (.int c1), .val (.int c2), .val (.int fi), .val (.int la), .val (.ref pad), .val (.ref ps), .val (.ref o), .val (.ref o), .val (.int (n + (1 : Int32))), .val (.ref o), .val (.int (n + (2 : Int32))), .val (.ref s), .val (.int (1 : Int32))] [(.int ((T.getD (n - (1 : Int32)).toNatClampNeg 0).toInt8.toInt32 &&& (255 : Int32)).toUInt32.toUInt16.toUInt32.toInt32)]
    have mm := getD_mem hT255 (i := (n - (1 : Int32)).toNatClampNeg) (by rw [bm.2]; omega)
    rw [own_lowback mm.1 mm.2]
    rw [bm.2, hT3 hp]
    refine Go.iload (pc' := 235) at_233 rfl rfl ?_
    refine Go.icmpN (pc' := 238) at_235 rfl (teq (rfl : la = la)).2 ?_
    refine Go.aload (pc' := 240) at_238 rfl rfl rfl ?_
    refine Go.iconst (pc' := 241) at_240 rfl ic_0 ?_
    refine Go.callV (pc' := 244) (u := N_20) (z := N_20) (a := s) at_241 rfl (w_118 hw) (w_119 hw) (nf (w_121 hw) rfl) (w_121 hw) (w_120 hw) (by decide) E_s (argsL := [(.int (0 : Int32))]) (rest := []) (Pays.of_met (W := 0) (len := 3) (m_charAt hw hs s t kt (n + (2 : Int32)) (T.map lowV) (0 : Int32) (T.getD (0 : Int32).toNatClampNeg 0).toInt8.toInt32 h E_s F_s_coder F_s_value V_t (⟨by decide, own_ltc (by decide) b2.1 (by rw [b2.2]; exact Nat.lt_of_lt_of_le (show (0 : Int32).toNatClampNeg < 2 by decide) (Nat.le_add_left 2 _))⟩) (getD_low T _ (by rw [show (0 : Int32).toNatClampNeg = 0 from by decide]; omega))) (w_122 hw) (w_4 hw) (by decide) (by decide)) rfl rfl (lenOf pd_29 rfl) rfl (Nat.le_of_eq rfl) mem0 (by decide) (by decide) ?_
    rintro _ _ _ - - ⟨rfl, rfl, rfl⟩
    change Go _ _ _ _ _ _ _ _ _ _ _ _ _ _ [] h 24 5000 244 #[.val (.int p1), .val (.int p2), .val (.int p3), .val (.int p4), .val (.int p5), .val (.int n), .val (.int c1), .val (.int c2), .val (.int fi), .val (.int la), .val (.ref pad), .val (.ref ps), .val (.ref o), .val (.ref o), .val (.int (n + (1 : Int32))), .val (.ref o), .val (.int (n + (2 : Int32))), .val (.ref s), .val (.int (1 : Int32))] [(.int ((T.getD (0 : Int32).toNatClampNeg 0).toInt8.toInt32 &&& (255 : Int32)).toUInt32.toUInt16.toUInt32.toInt32)]
    have mm := getD_mem hT255 (i := (0 : Int32).toNatClampNeg) (by rw [show (0 : Int32).toNatClampNeg = 0 from by decide]; omega)
    rw [own_lowback mm.1 mm.2]
    rw [show (0 : Int32).toNatClampNeg = 0 from by decide, hT4 hp]
    refine Go.iload (pc' := 246) at_244 rfl rfl ?_
    refine Go.iconst (pc' := 247) at_246 rfl ic_1 ?_
    by_cases h1 : n = (1 : Int32)
    · skip
      refine Go.icmpN (pc' := 250) at_247 rfl (teq (h1 : n = (1 : Int32))).2 ?_
      rw [if_pos h1]
      refine Go.iload (pc' := 252) at_250 rfl rfl ?_
      refine Go.goto (pc' := 257) at_252 (by decide) (by decide) ?_
      refine Go.icmpN (pc' := 260) at_257 rfl (teq (rfl : la = la)).2 ?_
      refine Go.iconst (pc' := 261) at_260 rfl ic_1 ?_
      refine Go.goto (pc' := 265) at_261 (by decide) (by decide) ?_
      refine Go.istore (pc' := 267) (Ls' := #[.val (.int p1), .val (.int p2), .val (.int p3), .val (.int p4), .val (.int p5), .val (.int n), .val (.int c1), .val (.int c2), .val (.int fi), .val (.int la), .val (.ref pad), .val (.ref ps), .val (.ref o), .val (.ref o), .val (.int (n + (1 : Int32))), .val (.ref o), .val (.int (n + (2 : Int32))), .val (.ref s), .val (.int (1 : Int32))]) at_265 rfl rfl ?_
      refine Go.iload (pc' := 269) at_267 rfl rfl ?_
      exact Go.retS (ty := .boolean) at_269 rfl (by simp) rfl (by decide) (by decide) [] sn0 ⟨rfl, rfl⟩
    · skip
      refine Go.icmpY (pc' := 255) at_247 (by decide) (by decide) (feq (h1 : ¬ (n = (1 : Int32)))).2 ?_
      rw [if_neg h1]
      refine Go.iload (pc' := 257) at_255 rfl rfl ?_
      refine Go.icmpN (pc' := 260) at_257 rfl (teq (rfl : fi = fi)).2 ?_
      refine Go.iconst (pc' := 261) at_260 rfl ic_1 ?_
      refine Go.goto (pc' := 265) at_261 (by decide) (by decide) ?_
      refine Go.istore (pc' := 267) (Ls' := #[.val (.int p1), .val (.int p2), .val (.int p3), .val (.int p4), .val (.int p5), .val (.int n), .val (.int c1), .val (.int c2), .val (.int fi), .val (.int la), .val (.ref pad), .val (.ref ps), .val (.ref o), .val (.ref o), .val (.int (n + (1 : Int32))), .val (.ref o), .val (.int (n + (2 : Int32))), .val (.ref s), .val (.int (1 : Int32))]) at_265 rfl rfl ?_
      refine Go.iload (pc' := 269) at_267 rfl rfl ?_
      exact Go.retS (ty := .boolean) at_269 rfl (by simp) rfl (by decide) (by decide) [] sn0 ⟨rfl, rfl⟩
  · skip
    refine Go.ifY (pc' := 267) at_216 (by decide) (by decide) ((if0 _ _).trans (flt (hp : ¬ ((0 : Int32) < n))).2.2.2) ?_
    refine Go.iload (pc' := 269) at_267 rfl rfl ?_
    exact Go.retS (ty := .boolean) at_269 rfl (by simp) rfl (by decide) (by decide) [] sn0 ⟨rfl, rfl⟩
set_option maxRecDepth 65536 in
set_option maxHeartbeats 40000000 in
theorem m_lawT1 {l : Launch} {Z : State} {a0 : Array Value} {n0 : Nat} (hw : ∀ d ∈ tables_1, d.before a0 Z = true) (hs : Stat Z) (p1 : Int32) (p2 : Int32) (p3 : Int32) (p4 : Int32) (p5 : Int32) (n : Int32) (c1 : Int32) (c2 : Int32) (fi : Int32) (la : Int32) (pad : Addr) (ps : Addr) (o : Addr) (s : Addr) (t : Addr) (kt : ClassId) (bs : List Int32) (T : List Int32) (h0 h : Heap) (E_s : Exa Z h s "java/lang/String") (F_s_coder : Fld Z h s "java/lang/String" "coder" "B" (.int (1 : Int32))) (F_s_value : Fld Z h s "java/lang/String" "value" "[B" (.ref t)) (V_t : Arv Z h t kt .byte ((n + (2 : Int32)) <<< ((1 : Int32) &&& 31)) (bs.map Value.int) (.int (0 : Int32))) (nn0 : ¬ n < 0) (nle : n.toNatClampNeg ≤ 256) (hT0 : T.length = n.toNatClampNeg + 2) (h16 : ∀ x ∈ T, ¬ x < 0 ∧ ¬ 65535 < x) (hT1 : T.getD n.toNatClampNeg 0 = c1) (hT2 : T.getD (n.toNatClampNeg + 1) 0 = c2) (hT3 : (0 : Int32) < n → T.getD (n.toNatClampNeg - 1) 0 = la) (hT4 : (0 : Int32) < n → T.getD 0 0 = if n = (1 : Int32) then la else fi) (hE : Enc bs T T.length) :
    Go l Z EL0 n0 NR0 KN0 x code maxLocals ret room_1 h0 [] (Q_m_law Z p1 p2 p3 p4 p5 h0) [] h 24 5000 135 #[.val (.int p1), .val (.int p2), .val (.int p3), .val (.int p4), .val (.int p5), .val (.int n), .val (.int c1), .val (.int c2), .val (.int fi), .val (.int la), .val (.ref pad), .val (.ref ps), .val (.ref o), .val (.ref o), .val (.int (n + (1 : Int32))), .val (.ref o), .val (.int (n + (2 : Int32))), .unset, .unset] [(.ref s)] := by
  have b2 := own_add2 nn0 nle
  have b1 := own_add1 nn0 nle
  have hl1 : (n + (2 : Int32)).toNatClampNeg < 1073741824 := by rw [b2.2]; omega
  have hz : (n + (2 : Int32)).toNatClampNeg = T.length := by rw [b2.2, hT0]
  refine Go.astore (pc' := 137) (Ls' := #[.val (.int p1), .val (.int p2), .val (.int p3), .val (.int p4), .val (.int p5), .val (.int n), .val (.int c1), .val (.int c2), .val (.int fi), .val (.int la), .val (.ref pad), .val (.ref ps), .val (.ref o), .val (.ref o), .val (.int (n + (1 : Int32))), .val (.ref o), .val (.int (n + (2 : Int32))), .val (.ref s), .unset]) at_135 rfl rfl rfl ?_
  refine Go.aload (pc' := 139) at_137 rfl rfl rfl ?_
  refine Go.aload (pc' := 141) at_139 rfl rfl rfl ?_
  refine Go.acmp (pc' := 144) (same := true) at_141 rfl rfl (decide_eq_true rfl) (by decide) (by decide) ?_
  refine Go.aload (pc' := 146) at_144 rfl rfl rfl ?_
  refine Go.aload (pc' := 148) at_146 rfl rfl rfl ?_
  refine Go.acmp (pc' := 151) (same := true) at_148 rfl rfl (decide_eq_true rfl) (by decide) (by decide) ?_
  refine Go.iload (pc' := 153) at_151 rfl rfl ?_
  refine Go.iload (pc' := 155) at_153 rfl rfl ?_
  refine Go.iconst (pc' := 156) at_155 rfl ic_1 ?_
  refine Go.iadd (pc' := 157) at_156 rfl ?_
  refine Go.icmpN (pc' := 160) at_157 rfl (teq (rfl : (n + (1 : Int32)) = (n + (1 : Int32)))).2 ?_
  refine Go.iload (pc' := 162) at_160 rfl rfl ?_
  refine Go.iload (pc' := 164) at_162 rfl rfl ?_
  refine Go.iconst (pc' := 165) at_164 rfl ic_2 ?_
  refine Go.iadd (pc' := 166) at_165 rfl ?_
  refine Go.icmpN (pc' := 169) at_166 rfl (teq (rfl : (n + (2 : Int32)) = (n + (2 : Int32)))).2 ?_
  refine Go.aload (pc' := 171) at_169 rfl rfl rfl ?_
  refine Go.callV (pc' := 174) (u := N_16) (z := N_16) (a := s) at_171 rfl (w_117 hw) (w_60 hw) (nf (w_62 hw) rfl) (w_62 hw) (w_61 hw) (by decide) E_s (argsL := []) (rest := []) (Pays.of_met (W := 0) (len := 3) (m_ulen hw hs s t kt (n + (2 : Int32)) bs h E_s F_s_coder F_s_value V_t (b2.1) (hl1)) (w_63 hw) (w_4 hw) (by decide) (by decide)) rfl rfl (lenOf pd_19 rfl) rfl (Nat.le_of_eq rfl) mem0 (by decide) (by decide) ?_
  rintro _ _ _ - - ⟨rfl, rfl, rfl⟩
  change Go _ _ _ _ _ _ _ _ _ _ _ _ _ _ [] h 24 5000 174 #[.val (.int p1), .val (.int p2), .val (.int p3), .val (.int p4), .val (.int p5), .val (.int n), .val (.int c1), .val (.int c2), .val (.int fi), .val (.int la), .val (.ref pad), .val (.ref ps), .val (.ref o), .val (.ref o), .val (.int (n + (1 : Int32))), .val (.ref o), .val (.int (n + (2 : Int32))), .val (.ref s), .unset] [(.int (n + (2 : Int32)))]
  refine Go.iload (pc' := 176) at_174 rfl rfl ?_
  refine Go.iconst (pc' := 177) at_176 rfl ic_2 ?_
  refine Go.iadd (pc' := 178) at_177 rfl ?_
  refine Go.icmpN (pc' := 181) at_178 rfl (teq (rfl : (n + (2 : Int32)) = (n + (2 : Int32)))).2 ?_
  refine Go.aload (pc' := 183) at_181 rfl rfl rfl ?_
  refine Go.iload (pc' := 185) at_183 rfl rfl ?_
  refine Go.callV (pc' := 188) (u := N_20) (z := N_20) (a := s) at_185 rfl (w_118 hw) (w_119 hw) (nf (w_121 hw) rfl) (w_121 hw) (w_120 hw) (by decide) E_s (argsL := [(.int n)]) (rest := []) (Pays.of_met (W := 0) (len := 3) (m_ucA hw hs s t kt (n + (2 : Int32)) bs n T h E_s F_s_coder F_s_value V_t (b2.1) (hl1) (⟨nn0, own_ltc nn0 b2.1 (by rw [b2.2]; omega)⟩) (hz) (hE) (h16)) (w_122 hw) (w_4 hw) (by decide) (by decide)) rfl rfl (lenOf pd_29 rfl) rfl (Nat.le_of_eq rfl) mem0 (by decide) (by decide) ?_
  rintro _ _ _ - - ⟨rfl, rfl, rfl⟩
  change Go _ _ _ _ _ _ _ _ _ _ _ _ _ _ [] h 24 5000 188 #[.val (.int p1), .val (.int p2), .val (.int p3), .val (.int p4), .val (.int p5), .val (.int n), .val (.int c1), .val (.int c2), .val (.int fi), .val (.int la), .val (.ref pad), .val (.ref ps), .val (.ref o), .val (.ref o), .val (.int (n + (1 : Int32))), .val (.ref o), .val (.int (n + (2 : Int32))), .val (.ref s), .unset] [(.int (T.getD n.toNatClampNeg 0))]
  rw [show n.toNatClampNeg = n.toNatClampNeg from rfl, hT1]
  refine Go.iload (pc' := 190) at_188 rfl rfl ?_
  refine Go.icmpN (pc' := 193) at_190 rfl (teq (rfl : c1 = c1)).2 ?_
  refine Go.aload (pc' := 195) at_193 rfl rfl rfl ?_
  refine Go.iload (pc' := 197) at_195 rfl rfl ?_
  refine Go.iconst (pc' := 198) at_197 rfl ic_1 ?_
  refine Go.iadd (pc' := 199) at_198 rfl ?_
  refine Go.callV (pc' := 202) (u := N_20) (z := N_20) (a := s) at_199 rfl (w_118 hw) (w_119 hw) (nf (w_121 hw) rfl) (w_121 hw) (w_120 hw) (by decide) E_s (argsL := [(.int (n + (1 : Int32)))]) (rest := []) (Pays.of_met (W := 0) (len := 3) (m_ucA hw hs s t kt (n + (2 : Int32)) bs (n + (1 : Int32)) T h E_s F_s_coder F_s_value V_t (b2.1) (hl1) (⟨b1.1, own_ltc b1.1 b2.1 (by rw [b1.2, b2.2]; omega)⟩) (hz) (hE) (h16)) (w_122 hw) (w_4 hw) (by decide) (by decide)) rfl rfl (lenOf pd_29 rfl) rfl (Nat.le_of_eq rfl) mem0 (by decide) (by decide) ?_
  rintro _ _ _ - - ⟨rfl, rfl, rfl⟩
  change Go _ _ _ _ _ _ _ _ _ _ _ _ _ _ [] h 24 5000 202 #[.val (.int p1), .val (.int p2), .val (.int p3), .val (.int p4), .val (.int p5), .val (.int n), .val (.int c1), .val (.int c2), .val (.int fi), .val (.int la), .val (.ref pad), .val (.ref ps), .val (.ref o), .val (.ref o), .val (.int (n + (1 : Int32))), .val (.ref o), .val (.int (n + (2 : Int32))), .val (.ref s), .unset] [(.int (T.getD (n + (1 : Int32)).toNatClampNeg 0))]
  rw [b1.2, hT2]
  refine Go.iload (pc' := 204) at_202 rfl rfl ?_
  refine Go.icmpN (pc' := 207) at_204 rfl (teq (rfl : c2 = c2)).2 ?_
  refine Go.iconst (pc' := 208) at_207 rfl ic_1 ?_
  refine Go.goto (pc' := 212) at_208 (by decide) (by decide) ?_
  refine Go.istore (pc' := 214) (Ls' := #[.val (.int p1), .val (.int p2), .val (.int p3), .val (.int p4), .val (.int p5), .val (.int n), .val (.int c1), .val (.int c2), .val (.int fi), .val (.int la), .val (.ref pad), .val (.ref ps), .val (.ref o), .val (.ref o), .val (.int (n + (1 : Int32))), .val (.ref o), .val (.int (n + (2 : Int32))), .val (.ref s), .val (.int (1 : Int32))]) at_212 rfl rfl ?_
  refine Go.iload (pc' := 216) at_214 rfl rfl ?_
  by_cases hp : (0 : Int32) < n
  · skip
    refine Go.ifN (pc' := 219) at_216 rfl ((if0 _ _).trans (tlt (hp : (0 : Int32) < n)).2.2.2) ?_
    refine Go.iload (pc' := 221) at_219 rfl rfl ?_
    refine Go.ifN (pc' := 224) at_221 rfl ((if0 _ _).trans (feq (by decide : ¬ ((1 : Int32) = (0 : Int32)))).1) ?_
    refine Go.aload (pc' := 226) at_224 rfl rfl rfl ?_
    refine Go.iload (pc' := 228) at_226 rfl rfl ?_
    refine Go.iconst (pc' := 229) at_228 rfl ic_1 ?_
    refine Go.isub (pc' := 230) at_229 rfl ?_
    have bm := own_subn hp nle
    refine Go.callV (pc' := 233) (u := N_20) (z := N_20) (a := s) at_230 rfl (w_118 hw) (w_119 hw) (nf (w_121 hw) rfl) (w_121 hw) (w_120 hw) (by decide) E_s (argsL := [(.int (n - (1 : Int32)))]) (rest := []) (Pays.of_met (W := 0) (len := 3) (m_ucA hw hs s t kt (n + (2 : Int32)) bs (n - (1 : Int32)) T h E_s F_s_coder F_s_value V_t (b2.1) (hl1) (⟨bm.1, own_ltc bm.1 b2.1 (by rw [bm.2, b2.2]; omega)⟩) (hz) (hE) (h16)) (w_122 hw) (w_4 hw) (by decide) (by decide)) rfl rfl (lenOf pd_29 rfl) rfl (Nat.le_of_eq rfl) mem0 (by decide) (by decide) ?_
    rintro _ _ _ - - ⟨rfl, rfl, rfl⟩
    change Go _ _ _ _ _ _ _ _ _ _ _ _ _ _ [] h 24 5000 233 #[.val (.int p1), .val (.int p2), .val (.int p3), .val (.int p4), .val (.int p5), .val (.int n), .val (.int c1), .val (.int c2), .val (.int fi), .val (.int la), .val (.ref pad), .val (.ref ps), .val (.ref o), .val (.ref o), .val (.int (n + (1 : Int32))), .val (.ref o), .val (.int (n + (2 : Int32))), .val (.ref s), .val (.int (1 : Int32))] [(.int (T.getD (n - (1 : Int32)).toNatClampNeg 0))]
    rw [bm.2, hT3 hp]
    refine Go.iload (pc' := 235) at_233 rfl rfl ?_
    refine Go.icmpN (pc' := 238) at_235 rfl (teq (rfl : la = la)).2 ?_
    refine Go.aload (pc' := 240) at_238 rfl rfl rfl ?_
    refine Go.iconst (pc' := 241) at_240 rfl ic_0 ?_
    refine Go.callV (pc' := 244) (u := N_20) (z := N_20) (a := s) at_241 rfl (w_118 hw) (w_119 hw) (nf (w_121 hw) rfl) (w_121 hw) (w_120 hw) (by decide) E_s (argsL := [(.int (0 : Int32))]) (rest := []) (Pays.of_met (W := 0) (len := 3) (m_ucA hw hs s t kt (n + (2 : Int32)) bs (0 : Int32) T h E_s F_s_coder F_s_value V_t (b2.1) (hl1) (⟨by decide, own_ltc (by decide) b2.1 (by rw [b2.2]; exact Nat.lt_of_lt_of_le (show (0 : Int32).toNatClampNeg < 2 by decide) (Nat.le_add_left 2 _))⟩) (hz) (hE) (h16)) (w_122 hw) (w_4 hw) (by decide) (by decide)) rfl rfl (lenOf pd_29 rfl) rfl (Nat.le_of_eq rfl) mem0 (by decide) (by decide) ?_
    rintro _ _ _ - - ⟨rfl, rfl, rfl⟩
    change Go _ _ _ _ _ _ _ _ _ _ _ _ _ _ [] h 24 5000 244 #[.val (.int p1), .val (.int p2), .val (.int p3), .val (.int p4), .val (.int p5), .val (.int n), .val (.int c1), .val (.int c2), .val (.int fi), .val (.int la), .val (.ref pad), .val (.ref ps), .val (.ref o), .val (.ref o), .val (.int (n + (1 : Int32))), .val (.ref o), .val (.int (n + (2 : Int32))), .val (.ref s), .val (.int (1 : Int32))] [(.int (T.getD (0 : Int32).toNatClampNeg 0))]
    rw [show (0 : Int32).toNatClampNeg = 0 from by decide, hT4 hp]
    refine Go.iload (pc' := 246) at_244 rfl rfl ?_
    refine Go.iconst (pc' := 247) at_246 rfl ic_1 ?_
    by_cases h1 : n = (1 : Int32)
    · skip
      refine Go.icmpN (pc' := 250) at_247 rfl (teq (h1 : n = (1 : Int32))).2 ?_
      rw [if_pos h1]
      refine Go.iload (pc' := 252) at_250 rfl rfl ?_
      refine Go.goto (pc' := 257) at_252 (by decide) (by decide) ?_
      refine Go.icmpN (pc' := 260) at_257 rfl (teq (rfl : la = la)).2 ?_
      refine Go.iconst (pc' := 261) at_260 rfl ic_1 ?_
      refine Go.goto (pc' := 265) at_261 (by decide) (by decide) ?_
      refine Go.istore (pc' := 267) (Ls' := #[.val (.int p1), .val (.int p2), .val (.int p3), .val (.int p4), .val (.int p5), .val (.int n), .val (.int c1), .val (.int c2), .val (.int fi), .val (.int la), .val (.ref pad), .val (.ref ps), .val (.ref o), .val (.ref o), .val (.int (n + (1 : Int32))), .val (.ref o), .val (.int (n + (2 : Int32))), .val (.ref s), .val (.int (1 : Int32))]) at_265 rfl rfl ?_
      refine Go.iload (pc' := 269) at_267 rfl rfl ?_
      exact Go.retS (ty := .boolean) at_269 rfl (by simp) rfl (by decide) (by decide) [] sn0 ⟨rfl, rfl⟩
    · skip
      refine Go.icmpY (pc' := 255) at_247 (by decide) (by decide) (feq (h1 : ¬ (n = (1 : Int32)))).2 ?_
      rw [if_neg h1]
      refine Go.iload (pc' := 257) at_255 rfl rfl ?_
      refine Go.icmpN (pc' := 260) at_257 rfl (teq (rfl : fi = fi)).2 ?_
      refine Go.iconst (pc' := 261) at_260 rfl ic_1 ?_
      refine Go.goto (pc' := 265) at_261 (by decide) (by decide) ?_
      refine Go.istore (pc' := 267) (Ls' := #[.val (.int p1), .val (.int p2), .val (.int p3), .val (.int p4), .val (.int p5), .val (.int n), .val (.int c1), .val (.int c2), .val (.int fi), .val (.int la), .val (.ref pad), .val (.ref ps), .val (.ref o), .val (.ref o), .val (.int (n + (1 : Int32))), .val (.ref o), .val (.int (n + (2 : Int32))), .val (.ref s), .val (.int (1 : Int32))]) at_265 rfl rfl ?_
      refine Go.iload (pc' := 269) at_267 rfl rfl ?_
      exact Go.retS (ty := .boolean) at_269 rfl (by simp) rfl (by decide) (by decide) [] sn0 ⟨rfl, rfl⟩
  · skip
    refine Go.ifY (pc' := 267) at_216 (by decide) (by decide) ((if0 _ _).trans (flt (hp : ¬ ((0 : Int32) < n))).2.2.2) ?_
    refine Go.iload (pc' := 269) at_267 rfl rfl ?_
    exact Go.retS (ty := .boolean) at_269 rfl (by simp) rfl (by decide) (by decide) [] sn0 ⟨rfl, rfl⟩
set_option maxRecDepth 65536 in
set_option maxHeartbeats 40000000 in
theorem m_lawM {l : Launch} {Z : State} {a0 : Array Value} {n0 : Nat} (hw : ∀ d ∈ tables_1, d.before a0 Z = true) (hs : Stat Z) (p1 : Int32) (p2 : Int32) (p3 : Int32) (p4 : Int32) (p5 : Int32) (n : Int32) (c1 : Int32) (c2 : Int32) (fi : Int32) (la : Int32) (pad : Addr) (ps : Addr) (o : Addr) (ch : Addr) (kc : ClassId) (K : List Int32) (h0 h : Heap) (E_o : Exa Z h o "com/example/beleg/beleg/JsonOutput") (F_o_chars : Fld Z h o "com/example/beleg/beleg/JsonOutput" "chars" "[C" (.ref ch)) (F_o_length : Fld Z h o "com/example/beleg/beleg/JsonOutput" "length" "I" (.int n)) (V_ch : Arv Z h ch kc .char (256 : Int32) (K.map Value.int) (.int (0 : Int32))) (nn0 : ¬ n < 0) (nle : n.toNatClampNeg ≤ 256) (hK0 : n.toNatClampNeg = K.length) (h16 : ∀ x ∈ K, ¬ x < 0 ∧ ¬ 65535 < x) (hK3 : (0 : Int32) < n → K.getD (n.toNatClampNeg - 1) 0 = la) (hK4 : (0 : Int32) < n → K.getD 0 0 = if n = (1 : Int32) then la else fi) (hc1 : ¬ c1 < 0 ∧ ¬ 65535 < c1) (hc2 : ¬ c2 < 0 ∧ ¬ 65535 < c2) (ne_ch_o : ch ≠ o) :
    Go l Z EL0 n0 NR0 KN0 x code maxLocals ret room_1 h0 [] (Q_m_law Z p1 p2 p3 p4 p5 h0) [o, ch] h 12 2400 97 #[.val (.int p1), .val (.int p2), .val (.int p3), .val (.int p4), .val (.int p5), .val (.int n), .val (.int c1), .val (.int c2), .val (.int fi), .val (.int la), .val (.ref pad), .val (.ref ps), .val (.ref o), .unset, .unset, .unset, .unset, .unset, .unset] [(.ref o)] := by
  have b2 := own_add2 nn0 nle
  have b1 := own_add1 nn0 nle
  have e2 := own_add11 n
  refine Go.pop (pc' := 98) at_97 rfl rfl ?_
  refine Go.aload (pc' := 100) at_98 rfl rfl rfl ?_
  refine Go.iload (pc' := 102) at_100 rfl rfl ?_
  have h16' : ∀ x ∈ (K ++ [c1]) ++ [c2], ¬ x < 0 ∧ ¬ 65535 < x := own_all2 h16 hc1 hc2
  rcases own_cases256 nn0 nle with q0 | q0 | q0
  · skip
    refine Go.callV (pc' := 105) (u := N_38) (z := N_38) (a := o) at_102 rfl (w_95 hw) (w_96 hw) (nf (w_98 hw) rfl) (w_98 hw) (w_97 hw) (by decide) E_o (argsL := [(.int c1)]) (rest := []) (Pays.of_met (W := 0) (len := 3) (m_apc hw hs o ch kc K c1 (256 : Int32) n h E_o F_o_chars F_o_length V_ch (hK0) (nn0) (own_ltc nn0 (by decide) (Nat.lt_of_lt_of_le q0 (by decide))) (hc1) ne_ch_o) (w_99 hw) (w_33 hw) (by decide) (by decide)) rfl rfl (lenOf pd_30 rfl) rfl (Nat.le_of_eq rfl) (memS (List.mem_of_getElem? (i := 0) rfl) (memS (List.mem_of_getElem? (i := 1) rfl) mem0)) (by decide) (by decide) ?_
    rintro _ h151 _ K152 le153 ⟨rfl, rfl, p154, p155, p156, p157⟩
    replace E_o := E_o.keep K152
    have F_o_chars := p155
    have F_o_length := p156
    have V_ch := p157
    change Go _ _ _ _ _ _ _ _ _ _ _ _ _ _ [o, ch] h151 12 2400 105 #[.val (.int p1), .val (.int p2), .val (.int p3), .val (.int p4), .val (.int p5), .val (.int n), .val (.int c1), .val (.int c2), .val (.int fi), .val (.int la), .val (.ref pad), .val (.ref ps), .val (.ref o), .unset, .unset, .unset, .unset, .unset, .unset] [(.ref o)]
    refine Go.astore (pc' := 107) (Ls' := #[.val (.int p1), .val (.int p2), .val (.int p3), .val (.int p4), .val (.int p5), .val (.int n), .val (.int c1), .val (.int c2), .val (.int fi), .val (.int la), .val (.ref pad), .val (.ref ps), .val (.ref o), .val (.ref o), .unset, .unset, .unset, .unset, .unset]) at_105 rfl rfl rfl ?_
    refine Go.aload (pc' := 109) at_107 rfl rfl rfl ?_
    refine Go.callV (pc' := 112) (u := N_40) (z := N_40) (a := o) at_109 rfl (w_100 hw) (w_101 hw) (nf (w_103 hw) rfl) (w_103 hw) (w_102 hw) (by decide) E_o (argsL := []) (rest := []) (Pays.of_met (W := 0) (len := 3) (m_jlen hw hs o (n + (1 : Int32)) h151 F_o_length) (w_104 hw) (w_33 hw) (by decide) (by decide)) rfl rfl (lenOf pd_19 rfl) rfl (Nat.le_of_eq rfl) mem0 (by decide) (by decide) ?_
    rintro _ _ _ - - ⟨rfl, rfl, rfl⟩
    change Go _ _ _ _ _ _ _ _ _ _ _ _ _ _ [o, ch] h151 12 2400 112 #[.val (.int p1), .val (.int p2), .val (.int p3), .val (.int p4), .val (.int p5), .val (.int n), .val (.int c1), .val (.int c2), .val (.int fi), .val (.int la), .val (.ref pad), .val (.ref ps), .val (.ref o), .val (.ref o), .unset, .unset, .unset, .unset, .unset] [(.int (n + (1 : Int32)))]
    refine Go.istore (pc' := 114) (Ls' := #[.val (.int p1), .val (.int p2), .val (.int p3), .val (.int p4), .val (.int p5), .val (.int n), .val (.int c1), .val (.int c2), .val (.int fi), .val (.int la), .val (.ref pad), .val (.ref ps), .val (.ref o), .val (.ref o), .val (.int (n + (1 : Int32))), .unset, .unset, .unset, .unset]) at_112 rfl rfl ?_
    refine Go.aload (pc' := 116) at_114 rfl rfl rfl ?_
    refine Go.iload (pc' := 118) at_116 rfl rfl ?_
    refine Go.callV (pc' := 121) (u := N_38) (z := N_38) (a := o) at_118 rfl (w_95 hw) (w_96 hw) (nf (w_98 hw) rfl) (w_98 hw) (w_97 hw) (by decide) E_o (argsL := [(.int c2)]) (rest := []) (Pays.of_met (W := 0) (len := 3) (m_apc hw hs o ch kc (K ++ [c1]) c2 (256 : Int32) (n + (1 : Int32)) h151 E_o F_o_chars F_o_length V_ch (by simp [b1.2, hK0]) (b1.1) (own_ltc b1.1 (by decide) (by rw [b1.2]; exact Nat.lt_of_lt_of_le (Nat.add_lt_add_right q0 1) (by decide))) (hc2) ne_ch_o) (w_99 hw) (w_33 hw) (by decide) (by decide)) rfl rfl (lenOf pd_30 rfl) rfl (Nat.le_of_eq rfl) (memS (List.mem_of_getElem? (i := 0) rfl) (memS (List.mem_of_getElem? (i := 1) rfl) mem0)) (by decide) (by decide) ?_
    rintro _ h158 _ K159 le160 ⟨rfl, rfl, p161, p162, p163, p164⟩
    replace E_o := E_o.keep K159
    have F_o_chars := p162
    have F_o_length := p163
    have V_ch := p164
    change Go _ _ _ _ _ _ _ _ _ _ _ _ _ _ [o, ch] h158 12 2400 121 #[.val (.int p1), .val (.int p2), .val (.int p3), .val (.int p4), .val (.int p5), .val (.int n), .val (.int c1), .val (.int c2), .val (.int fi), .val (.int la), .val (.ref pad), .val (.ref ps), .val (.ref o), .val (.ref o), .val (.int (n + (1 : Int32))), .unset, .unset, .unset, .unset] [(.ref o)]
    refine Go.astore (pc' := 123) (Ls' := #[.val (.int p1), .val (.int p2), .val (.int p3), .val (.int p4), .val (.int p5), .val (.int n), .val (.int c1), .val (.int c2), .val (.int fi), .val (.int la), .val (.ref pad), .val (.ref ps), .val (.ref o), .val (.ref o), .val (.int (n + (1 : Int32))), .val (.ref o), .unset, .unset, .unset]) at_121 rfl rfl rfl ?_
    refine Go.aload (pc' := 125) at_123 rfl rfl rfl ?_
    refine Go.callV (pc' := 128) (u := N_40) (z := N_40) (a := o) at_125 rfl (w_100 hw) (w_101 hw) (nf (w_103 hw) rfl) (w_103 hw) (w_102 hw) (by decide) E_o (argsL := []) (rest := []) (Pays.of_met (W := 0) (len := 3) (m_jlen hw hs o ((n + (1 : Int32)) + (1 : Int32)) h158 F_o_length) (w_104 hw) (w_33 hw) (by decide) (by decide)) rfl rfl (lenOf pd_19 rfl) rfl (Nat.le_of_eq rfl) mem0 (by decide) (by decide) ?_
    rintro _ _ _ - - ⟨rfl, rfl, rfl⟩
    change Go _ _ _ _ _ _ _ _ _ _ _ _ _ _ [o, ch] h158 12 2400 128 #[.val (.int p1), .val (.int p2), .val (.int p3), .val (.int p4), .val (.int p5), .val (.int n), .val (.int c1), .val (.int c2), .val (.int fi), .val (.int la), .val (.ref pad), .val (.ref ps), .val (.ref o), .val (.ref o), .val (.int (n + (1 : Int32))), .val (.ref o), .unset, .unset, .unset] [(.int ((n + (1 : Int32)) + (1 : Int32)))]
    refine Go.istore (pc' := 130) (Ls' := #[.val (.int p1), .val (.int p2), .val (.int p3), .val (.int p4), .val (.int p5), .val (.int n), .val (.int c1), .val (.int c2), .val (.int fi), .val (.int la), .val (.ref pad), .val (.ref ps), .val (.ref o), .val (.ref o), .val (.int (n + (1 : Int32))), .val (.ref o), .val (.int ((n + (1 : Int32)) + (1 : Int32))), .unset, .unset]) at_128 rfl rfl ?_
    refine Go.aload (pc' := 132) at_130 rfl rfl rfl ?_
    have ez : ((n + (1 : Int32)) + (1 : Int32)) = (n + (2 : Int32)) := e2
    rw [ez] at F_o_length
    rw [ez]
    refine Go.callV (pc' := 135) (u := N_41) (z := N_41) (a := o) at_132 rfl (w_105 hw) (w_106 hw) (nf (w_108 hw) rfl) (w_108 hw) (w_107 hw) (by decide) E_o (argsL := []) (rest := []) (Pays.of_met (W := 0) (len := 3) (m_jstr hw hs o ch kc ((K ++ [c1]) ++ [c2]) (256 : Int32) (n + (2 : Int32)) h158 E_o F_o_chars F_o_length V_ch (by simp [b2.2, hK0]) (b2.1) (own_gec (by decide) b2.1 (by rw [b2.2]; have e : (256 : Int32).toNatClampNeg = 256 := (by decide); omega)) (by rw [b2.2]; exact Nat.add_le_add_right nle 2) (h16') (own_ne0 b2.2)) (w_109 hw) (w_33 hw) (by decide) (by decide)) rfl rfl (lenOf pd_31 rfl) rfl (Nat.le_of_eq rfl) mem0 (by decide) (by decide) ?_
    rintro _ h168 _ K169 le170 ⟨b165, b166, q167, rfl, rfl, p171, p172, p173, p174⟩
    have o_o_b165 : o ≠ b165 := Nat.ne_of_lt (Nat.lt_of_lt_of_le E_o.lt p172)
    have o_ch_b165 : ch ≠ b165 := Nat.ne_of_lt (Nat.lt_of_lt_of_le V_ch.lt p172)
    have ge_b165 := Nat.le_trans le170 p172
    have o_o_b166 : o ≠ b166 := Nat.ne_of_lt (Nat.lt_of_lt_of_le E_o.lt p173)
    have o_ch_b166 : ch ≠ b166 := Nat.ne_of_lt (Nat.lt_of_lt_of_le V_ch.lt p173)
    have ge_b166 := Nat.le_trans le170 p173
    replace E_o := E_o.keep K169
    replace F_o_chars := F_o_chars.keep K169 nin0
    replace F_o_length := F_o_length.keep K169 nin0
    replace V_ch := V_ch.keep K169 nin0
    have E_b165 := p171
    change Go _ _ _ _ _ _ _ _ _ _ _ _ _ _ [o, ch] h168 15 3178 135 #[.val (.int p1), .val (.int p2), .val (.int p3), .val (.int p4), .val (.int p5), .val (.int n), .val (.int c1), .val (.int c2), .val (.int fi), .val (.int la), .val (.ref pad), .val (.ref ps), .val (.ref o), .val (.ref o), .val (.int (n + (1 : Int32))), .val (.ref o), .val (.int (n + (2 : Int32))), .unset, .unset] [(.ref b165)]
    rcases p174 with ⟨F_c, F_v, V_t, ha⟩ | ⟨F_c, F_v, bs, V_t, hE⟩
    · skip
      exact Go.more (k' := 24) (n' := 5000) (by decide) (by decide) (Go.fewer mem0 (m_lawT0 hw hs p1 p2 p3 p4 p5 n c1 c2 fi la pad ps o b165 b166 q167 ((K ++ [c1]) ++ [c2]) h0 h168 E_b165 F_c F_v V_t (nn0) (nle) (by simp [hK0]) (h16') (own_T1 hK0) (own_T2 hK0) (fun p => (own_T3 hK0 (own_pos p)).trans (hK3 p)) (fun p => (own_T4 hK0 (own_pos p)).trans (hK4 p)) (fun x hx => ⟨(h16' x hx).1, ha x hx⟩)))
    · skip
      exact Go.more (k' := 24) (n' := 5000) (by decide) (by decide) (Go.fewer mem0 (m_lawT1 hw hs p1 p2 p3 p4 p5 n c1 c2 fi la pad ps o b165 b166 q167 bs ((K ++ [c1]) ++ [c2]) h0 h168 E_b165 F_c F_v V_t (nn0) (nle) (by simp [hK0]) (h16') (own_T1 hK0) (own_T2 hK0) (fun p => (own_T3 hK0 (own_pos p)).trans (hK3 p)) (fun p => (own_T4 hK0 (own_pos p)).trans (hK4 p)) (hE)))
  · skip
    have k256 : (K ++ [c1]).length = 256 := by rw [List.length_append, ← hK0, q0]; rfl
    refine Go.callV (pc' := 105) (u := N_38) (z := N_38) (a := o) at_102 rfl (w_95 hw) (w_96 hw) (nf (w_98 hw) rfl) (w_98 hw) (w_97 hw) (by decide) E_o (argsL := [(.int c1)]) (rest := []) (Pays.of_met (W := 0) (len := 3) (m_apc hw hs o ch kc K c1 (256 : Int32) n h E_o F_o_chars F_o_length V_ch (hK0) (nn0) (own_ltc nn0 (by decide) (by rw [q0]; decide)) (hc1) ne_ch_o) (w_99 hw) (w_33 hw) (by decide) (by decide)) rfl rfl (lenOf pd_30 rfl) rfl (Nat.le_of_eq rfl) (memS (List.mem_of_getElem? (i := 0) rfl) (memS (List.mem_of_getElem? (i := 1) rfl) mem0)) (by decide) (by decide) ?_
    rintro _ h175 _ K176 le177 ⟨rfl, rfl, p178, p179, p180, p181⟩
    replace E_o := E_o.keep K176
    have F_o_chars := p179
    have F_o_length := p180
    have V_ch := p181
    change Go _ _ _ _ _ _ _ _ _ _ _ _ _ _ [o, ch] h175 12 2400 105 #[.val (.int p1), .val (.int p2), .val (.int p3), .val (.int p4), .val (.int p5), .val (.int n), .val (.int c1), .val (.int c2), .val (.int fi), .val (.int la), .val (.ref pad), .val (.ref ps), .val (.ref o), .unset, .unset, .unset, .unset, .unset, .unset] [(.ref o)]
    refine Go.astore (pc' := 107) (Ls' := #[.val (.int p1), .val (.int p2), .val (.int p3), .val (.int p4), .val (.int p5), .val (.int n), .val (.int c1), .val (.int c2), .val (.int fi), .val (.int la), .val (.ref pad), .val (.ref ps), .val (.ref o), .val (.ref o), .unset, .unset, .unset, .unset, .unset]) at_105 rfl rfl rfl ?_
    refine Go.aload (pc' := 109) at_107 rfl rfl rfl ?_
    refine Go.callV (pc' := 112) (u := N_40) (z := N_40) (a := o) at_109 rfl (w_100 hw) (w_101 hw) (nf (w_103 hw) rfl) (w_103 hw) (w_102 hw) (by decide) E_o (argsL := []) (rest := []) (Pays.of_met (W := 0) (len := 3) (m_jlen hw hs o (n + (1 : Int32)) h175 F_o_length) (w_104 hw) (w_33 hw) (by decide) (by decide)) rfl rfl (lenOf pd_19 rfl) rfl (Nat.le_of_eq rfl) mem0 (by decide) (by decide) ?_
    rintro _ _ _ - - ⟨rfl, rfl, rfl⟩
    change Go _ _ _ _ _ _ _ _ _ _ _ _ _ _ [o, ch] h175 12 2400 112 #[.val (.int p1), .val (.int p2), .val (.int p3), .val (.int p4), .val (.int p5), .val (.int n), .val (.int c1), .val (.int c2), .val (.int fi), .val (.int la), .val (.ref pad), .val (.ref ps), .val (.ref o), .val (.ref o), .unset, .unset, .unset, .unset, .unset] [(.int (n + (1 : Int32)))]
    refine Go.istore (pc' := 114) (Ls' := #[.val (.int p1), .val (.int p2), .val (.int p3), .val (.int p4), .val (.int p5), .val (.int n), .val (.int c1), .val (.int c2), .val (.int fi), .val (.int la), .val (.ref pad), .val (.ref ps), .val (.ref o), .val (.ref o), .val (.int (n + (1 : Int32))), .unset, .unset, .unset, .unset]) at_112 rfl rfl ?_
    refine Go.aload (pc' := 116) at_114 rfl rfl rfl ?_
    refine Go.iload (pc' := 118) at_116 rfl rfl ?_
    have n1 : n + (1 : Int32) = (256 : Int32) := own_clamp_inj b1.1 (by decide) (by rw [b1.2, q0]; decide)
    have F_o_length' := F_o_length
    rw [n1] at F_o_length'
    refine Go.callV (pc' := 121) (u := N_38) (z := N_38) (a := o) at_118 rfl (w_95 hw) (w_96 hw) (nf (w_98 hw) rfl) (w_98 hw) (w_97 hw) (by decide) E_o (argsL := [(.int c2)]) (rest := []) (Pays.of_met (W := 0) (len := 3) (m_apg hw hs o ch kc (K ++ [c1]) c2 h175 E_o F_o_chars F_o_length' V_ch (k256) (hc2) ne_ch_o) (w_99 hw) (w_33 hw) (by decide) (by decide)) rfl rfl (lenOf pd_30 rfl) rfl (Nat.le_of_eq rfl) (memS (List.mem_of_getElem? (i := 0) rfl) mem0) (by decide) (by decide) ?_
    rintro _ h184 _ K185 le186 ⟨b182, q183, rfl, rfl, p187, p188, p189, p190, p191⟩
    have o_o_b182 : o ≠ b182 := Nat.ne_of_lt (Nat.lt_of_lt_of_le E_o.lt p190)
    have o_ch_b182 : ch ≠ b182 := Nat.ne_of_lt (Nat.lt_of_lt_of_le V_ch.lt p190)
    have ge_b182 := Nat.le_trans le186 p190
    replace E_o := E_o.keep K185
    replace V_ch := V_ch.keep K185 (ninS ne_ch_o nin0)
    have F_o_chars := p188
    have F_o_length := p189
    have V_b182 := p191
    change Go _ _ _ _ _ _ _ _ _ _ _ _ _ _ [b182, o, ch] h184 13 2912 121 #[.val (.int p1), .val (.int p2), .val (.int p3), .val (.int p4), .val (.int p5), .val (.int n), .val (.int c1), .val (.int c2), .val (.int fi), .val (.int la), .val (.ref pad), .val (.ref ps), .val (.ref o), .val (.ref o), .val (.int (n + (1 : Int32))), .unset, .unset, .unset, .unset] [(.ref o)]
    refine Go.astore (pc' := 123) (Ls' := #[.val (.int p1), .val (.int p2), .val (.int p3), .val (.int p4), .val (.int p5), .val (.int n), .val (.int c1), .val (.int c2), .val (.int fi), .val (.int la), .val (.ref pad), .val (.ref ps), .val (.ref o), .val (.ref o), .val (.int (n + (1 : Int32))), .val (.ref o), .unset, .unset, .unset]) at_121 rfl rfl rfl ?_
    refine Go.aload (pc' := 125) at_123 rfl rfl rfl ?_
    refine Go.callV (pc' := 128) (u := N_40) (z := N_40) (a := o) at_125 rfl (w_100 hw) (w_101 hw) (nf (w_103 hw) rfl) (w_103 hw) (w_102 hw) (by decide) E_o (argsL := []) (rest := []) (Pays.of_met (W := 0) (len := 3) (m_jlen hw hs o (257 : Int32) h184 F_o_length) (w_104 hw) (w_33 hw) (by decide) (by decide)) rfl rfl (lenOf pd_19 rfl) rfl (Nat.le_of_eq rfl) mem0 (by decide) (by decide) ?_
    rintro _ _ _ - - ⟨rfl, rfl, rfl⟩
    change Go _ _ _ _ _ _ _ _ _ _ _ _ _ _ [b182, o, ch] h184 13 2912 128 #[.val (.int p1), .val (.int p2), .val (.int p3), .val (.int p4), .val (.int p5), .val (.int n), .val (.int c1), .val (.int c2), .val (.int fi), .val (.int la), .val (.ref pad), .val (.ref ps), .val (.ref o), .val (.ref o), .val (.int (n + (1 : Int32))), .val (.ref o), .unset, .unset, .unset] [(.int (257 : Int32))]
    refine Go.istore (pc' := 130) (Ls' := #[.val (.int p1), .val (.int p2), .val (.int p3), .val (.int p4), .val (.int p5), .val (.int n), .val (.int c1), .val (.int c2), .val (.int fi), .val (.int la), .val (.ref pad), .val (.ref ps), .val (.ref o), .val (.ref o), .val (.int (n + (1 : Int32))), .val (.ref o), .val (.int (257 : Int32)), .unset, .unset]) at_128 rfl rfl ?_
    refine Go.aload (pc' := 132) at_130 rfl rfl rfl ?_
    have ez : (257 : Int32) = (n + (2 : Int32)) := by rw [← e2, n1]; decide
    rw [ez] at F_o_length
    rw [ez]
    refine Go.callV (pc' := 135) (u := N_41) (z := N_41) (a := o) at_132 rfl (w_105 hw) (w_106 hw) (nf (w_108 hw) rfl) (w_108 hw) (w_107 hw) (by decide) E_o (argsL := []) (rest := []) (Pays.of_met (W := 0) (len := 3) (m_jstr hw hs o b182 q183 ((K ++ [c1]) ++ [c2]) (512 : Int32) (n + (2 : Int32)) h184 E_o F_o_chars F_o_length V_b182 (by simp [b2.2, hK0]) (b2.1) (own_gec (by decide) b2.1 (by rw [b2.2]; have e : (512 : Int32).toNatClampNeg = 512 := (by decide); omega)) (by rw [b2.2]; exact Nat.add_le_add_right nle 2) (h16') (own_ne0 b2.2)) (w_109 hw) (w_33 hw) (by decide) (by decide)) rfl rfl (lenOf pd_31 rfl) rfl (Nat.le_of_eq rfl) mem0 (by decide) (by decide) ?_
    rintro _ h195 _ K196 le197 ⟨b192, b193, q194, rfl, rfl, p198, p199, p200, p201⟩
    have o_o_b192 : o ≠ b192 := Nat.ne_of_lt (Nat.lt_of_lt_of_le E_o.lt p199)
    have o_ch_b192 : ch ≠ b192 := Nat.ne_of_lt (Nat.lt_of_lt_of_le V_ch.lt p199)
    have o_b182_b192 : b182 ≠ b192 := Nat.ne_of_lt (Nat.lt_of_lt_of_le V_b182.lt p199)
    have ge_b192 := Nat.le_trans le197 p199
    have o_o_b193 : o ≠ b193 := Nat.ne_of_lt (Nat.lt_of_lt_of_le E_o.lt p200)
    have o_ch_b193 : ch ≠ b193 := Nat.ne_of_lt (Nat.lt_of_lt_of_le V_ch.lt p200)
    have o_b182_b193 : b182 ≠ b193 := Nat.ne_of_lt (Nat.lt_of_lt_of_le V_b182.lt p200)
    have ge_b193 := Nat.le_trans le197 p200
    replace E_o := E_o.keep K196
    replace V_ch := V_ch.keep K196 nin0
    replace F_o_chars := F_o_chars.keep K196 nin0
    replace F_o_length := F_o_length.keep K196 nin0
    replace V_b182 := V_b182.keep K196 nin0
    have E_b192 := p198
    change Go _ _ _ _ _ _ _ _ _ _ _ _ _ _ [b182, o, ch] h195 16 3690 135 #[.val (.int p1), .val (.int p2), .val (.int p3), .val (.int p4), .val (.int p5), .val (.int n), .val (.int c1), .val (.int c2), .val (.int fi), .val (.int la), .val (.ref pad), .val (.ref ps), .val (.ref o), .val (.ref o), .val (.int (n + (1 : Int32))), .val (.ref o), .val (.int (n + (2 : Int32))), .unset, .unset] [(.ref b192)]
    rcases p201 with ⟨F_c, F_v, V_t, ha⟩ | ⟨F_c, F_v, bs, V_t, hE⟩
    · skip
      exact Go.more (k' := 24) (n' := 5000) (by decide) (by decide) (Go.fewer mem0 (m_lawT0 hw hs p1 p2 p3 p4 p5 n c1 c2 fi la pad ps o b192 b193 q194 ((K ++ [c1]) ++ [c2]) h0 h195 E_b192 F_c F_v V_t (nn0) (nle) (by simp [hK0]) (h16') (own_T1 hK0) (own_T2 hK0) (fun p => (own_T3 hK0 (own_pos p)).trans (hK3 p)) (fun p => (own_T4 hK0 (own_pos p)).trans (hK4 p)) (fun x hx => ⟨(h16' x hx).1, ha x hx⟩)))
    · skip
      exact Go.more (k' := 24) (n' := 5000) (by decide) (by decide) (Go.fewer mem0 (m_lawT1 hw hs p1 p2 p3 p4 p5 n c1 c2 fi la pad ps o b192 b193 q194 bs ((K ++ [c1]) ++ [c2]) h0 h195 E_b192 F_c F_v V_t (nn0) (nle) (by simp [hK0]) (h16') (own_T1 hK0) (own_T2 hK0) (fun p => (own_T3 hK0 (own_pos p)).trans (hK3 p)) (fun p => (own_T4 hK0 (own_pos p)).trans (hK4 p)) (hE)))
  · skip
    have n256 : n = (256 : Int32) := own_clamp_inj nn0 (by decide) (by rw [q0]; decide)
    have k256 : K.length = 256 := by rw [← hK0, q0]
    have F_o_length' := F_o_length
    rw [n256] at F_o_length'
    refine Go.callV (pc' := 105) (u := N_38) (z := N_38) (a := o) at_102 rfl (w_95 hw) (w_96 hw) (nf (w_98 hw) rfl) (w_98 hw) (w_97 hw) (by decide) E_o (argsL := [(.int c1)]) (rest := []) (Pays.of_met (W := 0) (len := 3) (m_apg hw hs o ch kc K c1 h E_o F_o_chars F_o_length' V_ch (k256) (hc1) ne_ch_o) (w_99 hw) (w_33 hw) (by decide) (by decide)) rfl rfl (lenOf pd_30 rfl) rfl (Nat.le_of_eq rfl) (memS (List.mem_of_getElem? (i := 0) rfl) mem0) (by decide) (by decide) ?_
    rintro _ h204 _ K205 le206 ⟨b202, q203, rfl, rfl, p207, p208, p209, p210, p211⟩
    have o_o_b202 : o ≠ b202 := Nat.ne_of_lt (Nat.lt_of_lt_of_le E_o.lt p210)
    have o_ch_b202 : ch ≠ b202 := Nat.ne_of_lt (Nat.lt_of_lt_of_le V_ch.lt p210)
    have ge_b202 := Nat.le_trans le206 p210
    replace E_o := E_o.keep K205
    replace V_ch := V_ch.keep K205 (ninS ne_ch_o nin0)
    have F_o_chars := p208
    have F_o_length := p209
    have V_b202 := p211
    change Go _ _ _ _ _ _ _ _ _ _ _ _ _ _ [b202, o, ch] h204 13 2912 105 #[.val (.int p1), .val (.int p2), .val (.int p3), .val (.int p4), .val (.int p5), .val (.int n), .val (.int c1), .val (.int c2), .val (.int fi), .val (.int la), .val (.ref pad), .val (.ref ps), .val (.ref o), .unset, .unset, .unset, .unset, .unset, .unset] [(.ref o)]
    refine Go.astore (pc' := 107) (Ls' := #[.val (.int p1), .val (.int p2), .val (.int p3), .val (.int p4), .val (.int p5), .val (.int n), .val (.int c1), .val (.int c2), .val (.int fi), .val (.int la), .val (.ref pad), .val (.ref ps), .val (.ref o), .val (.ref o), .unset, .unset, .unset, .unset, .unset]) at_105 rfl rfl rfl ?_
    refine Go.aload (pc' := 109) at_107 rfl rfl rfl ?_
    refine Go.callV (pc' := 112) (u := N_40) (z := N_40) (a := o) at_109 rfl (w_100 hw) (w_101 hw) (nf (w_103 hw) rfl) (w_103 hw) (w_102 hw) (by decide) E_o (argsL := []) (rest := []) (Pays.of_met (W := 0) (len := 3) (m_jlen hw hs o (257 : Int32) h204 F_o_length) (w_104 hw) (w_33 hw) (by decide) (by decide)) rfl rfl (lenOf pd_19 rfl) rfl (Nat.le_of_eq rfl) mem0 (by decide) (by decide) ?_
    rintro _ _ _ - - ⟨rfl, rfl, rfl⟩
    change Go _ _ _ _ _ _ _ _ _ _ _ _ _ _ [b202, o, ch] h204 13 2912 112 #[.val (.int p1), .val (.int p2), .val (.int p3), .val (.int p4), .val (.int p5), .val (.int n), .val (.int c1), .val (.int c2), .val (.int fi), .val (.int la), .val (.ref pad), .val (.ref ps), .val (.ref o), .val (.ref o), .unset, .unset, .unset, .unset, .unset] [(.int (257 : Int32))]
    refine Go.istore (pc' := 114) (Ls' := #[.val (.int p1), .val (.int p2), .val (.int p3), .val (.int p4), .val (.int p5), .val (.int n), .val (.int c1), .val (.int c2), .val (.int fi), .val (.int la), .val (.ref pad), .val (.ref ps), .val (.ref o), .val (.ref o), .val (.int (257 : Int32)), .unset, .unset, .unset, .unset]) at_112 rfl rfl ?_
    refine Go.aload (pc' := 116) at_114 rfl rfl rfl ?_
    refine Go.iload (pc' := 118) at_116 rfl rfl ?_
    refine Go.callV (pc' := 121) (u := N_38) (z := N_38) (a := o) at_118 rfl (w_95 hw) (w_96 hw) (nf (w_98 hw) rfl) (w_98 hw) (w_97 hw) (by decide) E_o (argsL := [(.int c2)]) (rest := []) (Pays.of_met (W := 0) (len := 3) (m_apc hw hs o b202 q203 (K ++ [c1]) c2 (512 : Int32) (257 : Int32) h204 E_o F_o_chars F_o_length V_b202 (by rw [List.length_append, k256]; rfl) (by decide) (by decide) (hc2) (Ne.symm o_o_b202)) (w_99 hw) (w_33 hw) (by decide) (by decide)) rfl rfl (lenOf pd_30 rfl) rfl (Nat.le_of_eq rfl) (memS (List.mem_of_getElem? (i := 1) rfl) (memS (List.mem_of_getElem? (i := 0) rfl) mem0)) (by decide) (by decide) ?_
    rintro _ h212 _ K213 le214 ⟨rfl, rfl, p215, p216, p217, p218⟩
    replace E_o := E_o.keep K213
    replace V_ch := V_ch.keep K213 (ninS ne_ch_o (ninS o_ch_b202 nin0))
    have F_o_chars := p216
    have F_o_length := p217
    have V_b202 := p218
    change Go _ _ _ _ _ _ _ _ _ _ _ _ _ _ [b202, o, ch] h212 13 2912 121 #[.val (.int p1), .val (.int p2), .val (.int p3), .val (.int p4), .val (.int p5), .val (.int n), .val (.int c1), .val (.int c2), .val (.int fi), .val (.int la), .val (.ref pad), .val (.ref ps), .val (.ref o), .val (.ref o), .val (.int (257 : Int32)), .unset, .unset, .unset, .unset] [(.ref o)]
    refine Go.astore (pc' := 123) (Ls' := #[.val (.int p1), .val (.int p2), .val (.int p3), .val (.int p4), .val (.int p5), .val (.int n), .val (.int c1), .val (.int c2), .val (.int fi), .val (.int la), .val (.ref pad), .val (.ref ps), .val (.ref o), .val (.ref o), .val (.int (257 : Int32)), .val (.ref o), .unset, .unset, .unset]) at_121 rfl rfl rfl ?_
    refine Go.aload (pc' := 125) at_123 rfl rfl rfl ?_
    refine Go.callV (pc' := 128) (u := N_40) (z := N_40) (a := o) at_125 rfl (w_100 hw) (w_101 hw) (nf (w_103 hw) rfl) (w_103 hw) (w_102 hw) (by decide) E_o (argsL := []) (rest := []) (Pays.of_met (W := 0) (len := 3) (m_jlen hw hs o ((257 : Int32) + (1 : Int32)) h212 F_o_length) (w_104 hw) (w_33 hw) (by decide) (by decide)) rfl rfl (lenOf pd_19 rfl) rfl (Nat.le_of_eq rfl) mem0 (by decide) (by decide) ?_
    rintro _ _ _ - - ⟨rfl, rfl, rfl⟩
    change Go _ _ _ _ _ _ _ _ _ _ _ _ _ _ [b202, o, ch] h212 13 2912 128 #[.val (.int p1), .val (.int p2), .val (.int p3), .val (.int p4), .val (.int p5), .val (.int n), .val (.int c1), .val (.int c2), .val (.int fi), .val (.int la), .val (.ref pad), .val (.ref ps), .val (.ref o), .val (.ref o), .val (.int (257 : Int32)), .val (.ref o), .unset, .unset, .unset] [(.int ((257 : Int32) + (1 : Int32)))]
    refine Go.istore (pc' := 130) (Ls' := #[.val (.int p1), .val (.int p2), .val (.int p3), .val (.int p4), .val (.int p5), .val (.int n), .val (.int c1), .val (.int c2), .val (.int fi), .val (.int la), .val (.ref pad), .val (.ref ps), .val (.ref o), .val (.ref o), .val (.int (257 : Int32)), .val (.ref o), .val (.int ((257 : Int32) + (1 : Int32))), .unset, .unset]) at_128 rfl rfl ?_
    rw [show ((257 : Int32) + (1 : Int32)) = (258 : Int32) from by decide]
    refine Go.aload (pc' := 132) at_130 rfl rfl rfl ?_
    have ez : ((257 : Int32) + (1 : Int32)) = (n + (2 : Int32)) := by rw [n256]; decide
    rw [ez] at F_o_length
    rw [show (258 : Int32) = n + (2 : Int32) from by rw [n256]; decide]
    rw [show (257 : Int32) = n + (1 : Int32) from by rw [n256]; decide]
    refine Go.callV (pc' := 135) (u := N_41) (z := N_41) (a := o) at_132 rfl (w_105 hw) (w_106 hw) (nf (w_108 hw) rfl) (w_108 hw) (w_107 hw) (by decide) E_o (argsL := []) (rest := []) (Pays.of_met (W := 0) (len := 3) (m_jstr hw hs o b202 q203 ((K ++ [c1]) ++ [c2]) (512 : Int32) (n + (2 : Int32)) h212 E_o F_o_chars F_o_length V_b202 (by simp [b2.2, hK0]) (b2.1) (own_gec (by decide) b2.1 (by rw [b2.2]; have e : (512 : Int32).toNatClampNeg = 512 := (by decide); omega)) (by rw [b2.2]; exact Nat.add_le_add_right nle 2) (h16') (own_ne0 b2.2)) (w_109 hw) (w_33 hw) (by decide) (by decide)) rfl rfl (lenOf pd_31 rfl) rfl (Nat.le_of_eq rfl) mem0 (by decide) (by decide) ?_
    rintro _ h222 _ K223 le224 ⟨b219, b220, q221, rfl, rfl, p225, p226, p227, p228⟩
    have o_o_b219 : o ≠ b219 := Nat.ne_of_lt (Nat.lt_of_lt_of_le E_o.lt p226)
    have o_ch_b219 : ch ≠ b219 := Nat.ne_of_lt (Nat.lt_of_lt_of_le V_ch.lt p226)
    have o_b202_b219 : b202 ≠ b219 := Nat.ne_of_lt (Nat.lt_of_lt_of_le V_b202.lt p226)
    have ge_b219 := Nat.le_trans le224 p226
    have o_o_b220 : o ≠ b220 := Nat.ne_of_lt (Nat.lt_of_lt_of_le E_o.lt p227)
    have o_ch_b220 : ch ≠ b220 := Nat.ne_of_lt (Nat.lt_of_lt_of_le V_ch.lt p227)
    have o_b202_b220 : b202 ≠ b220 := Nat.ne_of_lt (Nat.lt_of_lt_of_le V_b202.lt p227)
    have ge_b220 := Nat.le_trans le224 p227
    replace E_o := E_o.keep K223
    replace V_ch := V_ch.keep K223 nin0
    replace F_o_chars := F_o_chars.keep K223 nin0
    replace F_o_length := F_o_length.keep K223 nin0
    replace V_b202 := V_b202.keep K223 nin0
    have E_b219 := p225
    change Go _ _ _ _ _ _ _ _ _ _ _ _ _ _ [b202, o, ch] h222 16 3690 135 #[.val (.int p1), .val (.int p2), .val (.int p3), .val (.int p4), .val (.int p5), .val (.int n), .val (.int c1), .val (.int c2), .val (.int fi), .val (.int la), .val (.ref pad), .val (.ref ps), .val (.ref o), .val (.ref o), .val (.int (n + (1 : Int32))), .val (.ref o), .val (.int (n + (2 : Int32))), .unset, .unset] [(.ref b219)]
    rcases p228 with ⟨F_c, F_v, V_t, ha⟩ | ⟨F_c, F_v, bs, V_t, hE⟩
    · skip
      exact Go.more (k' := 24) (n' := 5000) (by decide) (by decide) (Go.fewer mem0 (m_lawT0 hw hs p1 p2 p3 p4 p5 n c1 c2 fi la pad ps o b219 b220 q221 ((K ++ [c1]) ++ [c2]) h0 h222 E_b219 F_c F_v V_t (nn0) (nle) (by simp [hK0]) (h16') (own_T1 hK0) (own_T2 hK0) (fun p => (own_T3 hK0 (own_pos p)).trans (hK3 p)) (fun p => (own_T4 hK0 (own_pos p)).trans (hK4 p)) (fun x hx => ⟨(h16' x hx).1, ha x hx⟩)))
    · skip
      exact Go.more (k' := 24) (n' := 5000) (by decide) (by decide) (Go.fewer mem0 (m_lawT1 hw hs p1 p2 p3 p4 p5 n c1 c2 fi la pad ps o b219 b220 q221 bs ((K ++ [c1]) ++ [c2]) h0 h222 E_b219 F_c F_v V_t (nn0) (nle) (by simp [hK0]) (h16') (own_T1 hK0) (own_T2 hK0) (fun p => (own_T3 hK0 (own_pos p)).trans (hK3 p)) (fun p => (own_T4 hK0 (own_pos p)).trans (hK4 p)) (hE)))
set_option maxRecDepth 65536 in
set_option maxHeartbeats 40000000 in
theorem m_lawD {l : Launch} {Z : State} {a0 : Array Value} {n0 : Nat} (hw : ∀ d ∈ tables_1, d.before a0 Z = true) (hs : Stat Z) (p1 : Int32) (p2 : Int32) (p3 : Int32) (p4 : Int32) (p5 : Int32) (n : Int32) (c1 : Int32) (c2 : Int32) (fi : Int32) (la : Int32) (pad : Addr) (kp : ClassId) (D : List Int32) (h0 h : Heap) (V_pad : Arv Z h pad kp .char (256 : Int32) (D.map Value.int) (.int (0 : Int32))) (nn0 : ¬ n < 0) (nle : n.toNatClampNeg ≤ 256) (hD0 : D.length = 256) (h16 : ∀ x ∈ D, ¬ x < 0 ∧ ¬ 65535 < x) (hD3 : (0 : Int32) < n → D.getD (n.toNatClampNeg - 1) 0 = la) (hD4 : (0 : Int32) < n → D.getD 0 0 = if n = (1 : Int32) then la else fi) (hc1 : ¬ c1 < 0 ∧ ¬ 65535 < c1) (hc2 : ¬ c2 < 0 ∧ ¬ 65535 < c2) :
    Go l Z EL0 n0 NR0 KN0 x code maxLocals ret room_1 h0 [] (Q_m_law Z p1 p2 p3 p4 p5 h0) [] h 1 256 67 #[.val (.int p1), .val (.int p2), .val (.int p3), .val (.int p4), .val (.int p5), .val (.int n), .val (.int c1), .val (.int c2), .val (.int fi), .val (.int la), .val (.ref pad), .unset, .unset, .unset, .unset, .unset, .unset, .unset, .unset] [] := by
  refine Go.newO (pc' := 70) at_67 rfl (w_2 hw) (w_3 hw) (w_4 hw) (by decide) (by decide) ?_
  intro h229 b230 g231 ge_b230 x232 E_b230 D_b230 U_b230
  have o_pad_b230 : pad ≠ b230 := Nat.ne_of_lt (Nat.lt_of_lt_of_le V_pad.lt (Nat.le_of_eq g231))
  replace V_pad := V_pad.ext x232
  have F_b230_coder : Fld Z h229 b230 "java/lang/String" "coder" "B" (.int (0 : Int32)) := D_b230 (Or.inr (w_28 hw)) (ty := .byte) (by decide)
  have F_b230_value : Fld Z h229 b230 "java/lang/String" "value" "[B" .null := D_b230 (Or.inr (w_30 hw)) (ty := (.array .byte)) (by decide)
  change Go _ _ _ _ _ _ _ _ _ _ _ _ _ _ [b230] h229 2 260 70 #[.val (.int p1), .val (.int p2), .val (.int p3), .val (.int p4), .val (.int p5), .val (.int n), .val (.int c1), .val (.int c2), .val (.int fi), .val (.int la), .val (.ref pad), .unset, .unset, .unset, .unset, .unset, .unset, .unset, .unset] [(.ref b230)]
  refine Go.dup (pc' := 71) at_70 rfl rfl ?_
  refine Go.aload (pc' := 73) at_71 rfl rfl rfl ?_
  refine Go.callI (pc' := 76) (z := N_9) (a := b230) at_73 rfl rfl (w_5 hw) (w_6 hw) (w_7 hw) (by decide) (argsL := [(.ref pad)]) (rest := [(.ref b230)]) (Pays.of_met (W := 1) (len := 3) (m_ustr hw hs b230 pad kp D (256 : Int32) h229 E_b230 F_b230_coder F_b230_value V_pad (by rw [hD0]; decide) (by decide) (by decide) (h16) (by decide) o_pad_b230) (w_7 hw) (w_4 hw) (by decide) (by decide)) rfl rfl (lenOf pd_22 rfl) rfl (Nat.le_of_eq rfl) (memS (List.mem_of_getElem? (i := 0) rfl) mem0) (by decide) (by decide) ?_
  rintro _ h235 _ K236 le237 ⟨b233, q234, rfl, rfl, p238, p239, p240⟩
  have o_pad_b233 : pad ≠ b233 := Nat.ne_of_lt (Nat.lt_of_lt_of_le V_pad.lt p239)
  have o_b230_b233 : b230 ≠ b233 := Nat.ne_of_lt (Nat.lt_of_lt_of_le E_b230.lt p239)
  have ge_b233 := Nat.le_trans le237 p239
  replace V_pad := V_pad.keep K236 (ninS o_pad_b230 nin0)
  replace E_b230 := E_b230.keep K236
  change Go _ _ _ _ _ _ _ _ _ _ _ _ _ _ [b230] h235 4 1034 76 #[.val (.int p1), .val (.int p2), .val (.int p3), .val (.int p4), .val (.int p5), .val (.int n), .val (.int c1), .val (.int c2), .val (.int fi), .val (.int la), .val (.ref pad), .unset, .unset, .unset, .unset, .unset, .unset, .unset, .unset] [(.ref b230)]
  rcases p240 with ⟨F_c, F_v, V_t, ha⟩ | ⟨F_c, F_v, bs, V_t, hE⟩
  · skip
    refine Go.astore (pc' := 78) (Ls' := #[.val (.int p1), .val (.int p2), .val (.int p3), .val (.int p4), .val (.int p5), .val (.int n), .val (.int c1), .val (.int c2), .val (.int fi), .val (.int la), .val (.ref pad), .val (.ref b230), .unset, .unset, .unset, .unset, .unset, .unset, .unset]) at_76 rfl rfl rfl ?_
    refine Go.newO (pc' := 81) at_78 rfl (w_31 hw) (w_32 hw) (w_33 hw) (by decide) (by decide) ?_
    intro h241 b242 g243 ge_b242 x244 E_b242 D_b242 U_b242
    have o_pad_b242 : pad ≠ b242 := Nat.ne_of_lt (Nat.lt_of_lt_of_le V_pad.lt (Nat.le_of_eq g243))
    have o_b230_b242 : b230 ≠ b242 := Nat.ne_of_lt (Nat.lt_of_lt_of_le E_b230.lt (Nat.le_of_eq g243))
    have o_b233_b242 : b233 ≠ b242 := Nat.ne_of_lt (Nat.lt_of_lt_of_le V_t.lt (Nat.le_of_eq g243))
    replace V_pad := V_pad.ext x244
    replace E_b230 := E_b230.ext x244
    replace F_c := F_c.ext x244
    replace F_v := F_v.ext x244
    replace V_t := V_t.ext x244
    have F_b242_chars : Fld Z h241 b242 "com/example/beleg/beleg/JsonOutput" "chars" "[C" .null := D_b242 (Or.inl (w_42 hw)) (ty := (.array .char)) (by decide)
    have F_b242_length : Fld Z h241 b242 "com/example/beleg/beleg/JsonOutput" "length" "I" (.int (0 : Int32)) := D_b242 (Or.inl (w_53 hw)) (ty := .int) (by decide)
    change Go _ _ _ _ _ _ _ _ _ _ _ _ _ _ [b242, b230] h241 5 1037 81 #[.val (.int p1), .val (.int p2), .val (.int p3), .val (.int p4), .val (.int p5), .val (.int n), .val (.int c1), .val (.int c2), .val (.int fi), .val (.int la), .val (.ref pad), .val (.ref b230), .unset, .unset, .unset, .unset, .unset, .unset, .unset] [(.ref b242)]
    refine Go.dup (pc' := 82) at_81 rfl rfl ?_
    refine Go.callI (pc' := 85) (z := N_32) (a := b242) at_82 rfl rfl (w_34 hw) (w_35 hw) (w_36 hw) (by decide) (argsL := []) (rest := [(.ref b242)]) (Pays.of_met (W := 1) (len := 3) (m_jo hw hs b242 h241 E_b242 F_b242_chars F_b242_length) (w_36 hw) (w_33 hw) (by decide) (by decide)) rfl rfl (lenOf pd_32 rfl) rfl (Nat.le_of_eq rfl) (memS (List.mem_of_getElem? (i := 0) rfl) mem0) (by decide) (by decide) ?_
    rintro _ h247 _ K248 le249 ⟨b245, q246, rfl, rfl, p250, p251, p252, p253, p254⟩
    have o_pad_b245 : pad ≠ b245 := Nat.ne_of_lt (Nat.lt_of_lt_of_le V_pad.lt p253)
    have o_b230_b245 : b230 ≠ b245 := Nat.ne_of_lt (Nat.lt_of_lt_of_le E_b230.lt p253)
    have o_b233_b245 : b233 ≠ b245 := Nat.ne_of_lt (Nat.lt_of_lt_of_le V_t.lt p253)
    have o_b242_b245 : b242 ≠ b245 := Nat.ne_of_lt (Nat.lt_of_lt_of_le E_b242.lt p253)
    have ge_b245 := Nat.le_trans le249 p253
    replace V_pad := V_pad.keep K248 (ninS o_pad_b242 nin0)
    replace E_b230 := E_b230.keep K248
    replace F_c := F_c.keep K248 (ninS o_b230_b242 nin0)
    replace F_v := F_v.keep K248 (ninS o_b230_b242 nin0)
    replace V_t := V_t.keep K248 (ninS o_b233_b242 nin0)
    replace E_b242 := E_b242.keep K248
    have F_b242_chars := p251
    have F_b242_length := p252
    have V_b245 := p254
    change Go _ _ _ _ _ _ _ _ _ _ _ _ _ _ [b245, b242, b230] h247 6 1293 85 #[.val (.int p1), .val (.int p2), .val (.int p3), .val (.int p4), .val (.int p5), .val (.int n), .val (.int c1), .val (.int c2), .val (.int fi), .val (.int la), .val (.ref pad), .val (.ref b230), .unset, .unset, .unset, .unset, .unset, .unset, .unset] [(.ref b242)]
    refine Go.astore (pc' := 87) (Ls' := #[.val (.int p1), .val (.int p2), .val (.int p3), .val (.int p4), .val (.int p5), .val (.int n), .val (.int c1), .val (.int c2), .val (.int fi), .val (.int la), .val (.ref pad), .val (.ref b230), .val (.ref b242), .unset, .unset, .unset, .unset, .unset, .unset]) at_85 rfl rfl rfl ?_
    refine Go.aload (pc' := 89) at_87 rfl rfl rfl ?_
    refine Go.aload (pc' := 91) at_89 rfl rfl rfl ?_
    refine Go.iconst (pc' := 92) at_91 rfl ic_0 ?_
    refine Go.iload (pc' := 94) at_92 rfl rfl ?_
    refine Go.callV (pc' := 97) (u := N_39) (z := N_39) (a := b242) at_94 rfl (w_43 hw) (w_44 hw) (nf (w_46 hw) rfl) (w_46 hw) (w_45 hw) (by decide) E_b242 (argsL := [(.ref b230), (.int (0 : Int32)), (.int n)]) (rest := []) (Pays.of_met (W := 0) (len := 3) (m_aps0 hw hs b242 b245 q246 b230 b233 q234 D (256 : Int32) n h247 E_b242 F_b242_chars F_b242_length V_b245 E_b230 F_c F_v V_t (by rw [hD0]; decide) (nn0) (by rw [hD0]; exact nle) (nle) (by decide) (by decide) (fun x hx => ⟨(h16 x hx).1, ha x hx⟩) o_b233_b245 (Ne.symm o_b242_b245)) (w_47 hw) (w_33 hw) (by decide) (by decide)) rfl rfl (lenOf pd_33 rfl) rfl (Nat.le_of_eq rfl) (memS (List.mem_of_getElem? (i := 1) rfl) (memS (List.mem_of_getElem? (i := 0) rfl) mem0)) (by decide) (by decide) ?_
    rintro _ h255 _ K256 le257 ⟨rfl, rfl, p258, p259, p260, p261⟩
    replace V_pad := V_pad.keep K256 (ninS o_pad_b242 (ninS o_pad_b245 nin0))
    replace E_b230 := E_b230.keep K256
    replace F_c := F_c.keep K256 (ninS o_b230_b242 (ninS o_b230_b245 nin0))
    replace F_v := F_v.keep K256 (ninS o_b230_b242 (ninS o_b230_b245 nin0))
    replace V_t := V_t.keep K256 (ninS o_b233_b242 (ninS o_b233_b245 nin0))
    replace E_b242 := E_b242.keep K256
    have F_b242_chars := p259
    have F_b242_length := p260
    have V_b245 := p261
    change Go _ _ _ _ _ _ _ _ _ _ _ _ _ _ [b245, b242, b230] h255 6 1293 97 #[.val (.int p1), .val (.int p2), .val (.int p3), .val (.int p4), .val (.int p5), .val (.int n), .val (.int c1), .val (.int c2), .val (.int fi), .val (.int la), .val (.ref pad), .val (.ref b230), .val (.ref b242), .unset, .unset, .unset, .unset, .unset, .unset] [(.ref b242)]
    exact Go.more (k' := 12) (n' := 2400) (by decide) (by decide) (Go.fewer (memS (List.mem_of_getElem? (i := 1) rfl) (memS (List.mem_of_getElem? (i := 0) rfl) mem0)) (m_lawM hw hs p1 p2 p3 p4 p5 n c1 c2 fi la pad b230 b242 b245 q246 (D.take n.toNatClampNeg) h0 h255 E_b242 F_b242_chars F_b242_length V_b245 (nn0) (nle) (by rw [List.length_take, hD0]; omega) (fun x hx => h16 x (List.mem_of_mem_take hx)) (fun p => (own_takeD (by have := own_pos p; omega)).trans (hD3 p)) (fun p => (own_takeD (own_pos p)).trans (hD4 p)) (hc1) (hc2) (Ne.symm o_b242_b245)))
  · skip
    refine Go.astore (pc' := 78) (Ls' := #[.val (.int p1), .val (.int p2), .val (.int p3), .val (.int p4), .val (.int p5), .val (.int n), .val (.int c1), .val (.int c2), .val (.int fi), .val (.int la), .val (.ref pad), .val (.ref b230), .unset, .unset, .unset, .unset, .unset, .unset, .unset]) at_76 rfl rfl rfl ?_
    refine Go.newO (pc' := 81) at_78 rfl (w_31 hw) (w_32 hw) (w_33 hw) (by decide) (by decide) ?_
    intro h262 b263 g264 ge_b263 x265 E_b263 D_b263 U_b263
    have o_pad_b263 : pad ≠ b263 := Nat.ne_of_lt (Nat.lt_of_lt_of_le V_pad.lt (Nat.le_of_eq g264))
    have o_b230_b263 : b230 ≠ b263 := Nat.ne_of_lt (Nat.lt_of_lt_of_le E_b230.lt (Nat.le_of_eq g264))
    have o_b233_b263 : b233 ≠ b263 := Nat.ne_of_lt (Nat.lt_of_lt_of_le V_t.lt (Nat.le_of_eq g264))
    replace V_pad := V_pad.ext x265
    replace E_b230 := E_b230.ext x265
    replace F_c := F_c.ext x265
    replace F_v := F_v.ext x265
    replace V_t := V_t.ext x265
    have F_b263_chars : Fld Z h262 b263 "com/example/beleg/beleg/JsonOutput" "chars" "[C" .null := D_b263 (Or.inl (w_42 hw)) (ty := (.array .char)) (by decide)
    have F_b263_length : Fld Z h262 b263 "com/example/beleg/beleg/JsonOutput" "length" "I" (.int (0 : Int32)) := D_b263 (Or.inl (w_53 hw)) (ty := .int) (by decide)
    change Go _ _ _ _ _ _ _ _ _ _ _ _ _ _ [b263, b230] h262 5 1037 81 #[.val (.int p1), .val (.int p2), .val (.int p3), .val (.int p4), .val (.int p5), .val (.int n), .val (.int c1), .val (.int c2), .val (.int fi), .val (.int la), .val (.ref pad), .val (.ref b230), .unset, .unset, .unset, .unset, .unset, .unset, .unset] [(.ref b263)]
    refine Go.dup (pc' := 82) at_81 rfl rfl ?_
    refine Go.callI (pc' := 85) (z := N_32) (a := b263) at_82 rfl rfl (w_34 hw) (w_35 hw) (w_36 hw) (by decide) (argsL := []) (rest := [(.ref b263)]) (Pays.of_met (W := 1) (len := 3) (m_jo hw hs b263 h262 E_b263 F_b263_chars F_b263_length) (w_36 hw) (w_33 hw) (by decide) (by decide)) rfl rfl (lenOf pd_32 rfl) rfl (Nat.le_of_eq rfl) (memS (List.mem_of_getElem? (i := 0) rfl) mem0) (by decide) (by decide) ?_
    rintro _ h268 _ K269 le270 ⟨b266, q267, rfl, rfl, p271, p272, p273, p274, p275⟩
    have o_pad_b266 : pad ≠ b266 := Nat.ne_of_lt (Nat.lt_of_lt_of_le V_pad.lt p274)
    have o_b230_b266 : b230 ≠ b266 := Nat.ne_of_lt (Nat.lt_of_lt_of_le E_b230.lt p274)
    have o_b233_b266 : b233 ≠ b266 := Nat.ne_of_lt (Nat.lt_of_lt_of_le V_t.lt p274)
    have o_b263_b266 : b263 ≠ b266 := Nat.ne_of_lt (Nat.lt_of_lt_of_le E_b263.lt p274)
    have ge_b266 := Nat.le_trans le270 p274
    replace V_pad := V_pad.keep K269 (ninS o_pad_b263 nin0)
    replace E_b230 := E_b230.keep K269
    replace F_c := F_c.keep K269 (ninS o_b230_b263 nin0)
    replace F_v := F_v.keep K269 (ninS o_b230_b263 nin0)
    replace V_t := V_t.keep K269 (ninS o_b233_b263 nin0)
    replace E_b263 := E_b263.keep K269
    have F_b263_chars := p272
    have F_b263_length := p273
    have V_b266 := p275
    change Go _ _ _ _ _ _ _ _ _ _ _ _ _ _ [b266, b263, b230] h268 6 1293 85 #[.val (.int p1), .val (.int p2), .val (.int p3), .val (.int p4), .val (.int p5), .val (.int n), .val (.int c1), .val (.int c2), .val (.int fi), .val (.int la), .val (.ref pad), .val (.ref b230), .unset, .unset, .unset, .unset, .unset, .unset, .unset] [(.ref b263)]
    refine Go.astore (pc' := 87) (Ls' := #[.val (.int p1), .val (.int p2), .val (.int p3), .val (.int p4), .val (.int p5), .val (.int n), .val (.int c1), .val (.int c2), .val (.int fi), .val (.int la), .val (.ref pad), .val (.ref b230), .val (.ref b263), .unset, .unset, .unset, .unset, .unset, .unset]) at_85 rfl rfl rfl ?_
    refine Go.aload (pc' := 89) at_87 rfl rfl rfl ?_
    refine Go.aload (pc' := 91) at_89 rfl rfl rfl ?_
    refine Go.iconst (pc' := 92) at_91 rfl ic_0 ?_
    refine Go.iload (pc' := 94) at_92 rfl rfl ?_
    refine Go.callV (pc' := 97) (u := N_39) (z := N_39) (a := b263) at_94 rfl (w_43 hw) (w_44 hw) (nf (w_46 hw) rfl) (w_46 hw) (w_45 hw) (by decide) E_b263 (argsL := [(.ref b230), (.int (0 : Int32)), (.int n)]) (rest := []) (Pays.of_met (W := 0) (len := 3) (m_aps1 hw hs b263 b266 q267 b230 b233 q234 bs D (256 : Int32) n h268 E_b263 F_b263_chars F_b263_length V_b266 E_b230 F_c F_v V_t (by rw [hD0]; decide) (nn0) (by rw [hD0]; exact nle) (nle) (by decide) (by decide) (hE) (h16) o_b233_b266 (Ne.symm o_b263_b266)) (w_47 hw) (w_33 hw) (by decide) (by decide)) rfl rfl (lenOf pd_33 rfl) rfl (Nat.le_of_eq rfl) (memS (List.mem_of_getElem? (i := 1) rfl) (memS (List.mem_of_getElem? (i := 0) rfl) mem0)) (by decide) (by decide) ?_
    rintro _ h276 _ K277 le278 ⟨rfl, rfl, p279, p280, p281, p282⟩
    replace V_pad := V_pad.keep K277 (ninS o_pad_b263 (ninS o_pad_b266 nin0))
    replace E_b230 := E_b230.keep K277
    replace F_c := F_c.keep K277 (ninS o_b230_b263 (ninS o_b230_b266 nin0))
    replace F_v := F_v.keep K277 (ninS o_b230_b263 (ninS o_b230_b266 nin0))
    replace V_t := V_t.keep K277 (ninS o_b233_b263 (ninS o_b233_b266 nin0))
    replace E_b263 := E_b263.keep K277
    have F_b263_chars := p280
    have F_b263_length := p281
    have V_b266 := p282
    change Go _ _ _ _ _ _ _ _ _ _ _ _ _ _ [b266, b263, b230] h276 6 1293 97 #[.val (.int p1), .val (.int p2), .val (.int p3), .val (.int p4), .val (.int p5), .val (.int n), .val (.int c1), .val (.int c2), .val (.int fi), .val (.int la), .val (.ref pad), .val (.ref b230), .val (.ref b263), .unset, .unset, .unset, .unset, .unset, .unset] [(.ref b263)]
    exact Go.more (k' := 12) (n' := 2400) (by decide) (by decide) (Go.fewer (memS (List.mem_of_getElem? (i := 1) rfl) (memS (List.mem_of_getElem? (i := 0) rfl) mem0)) (m_lawM hw hs p1 p2 p3 p4 p5 n c1 c2 fi la pad b230 b263 b266 q267 (D.take n.toNatClampNeg) h0 h276 E_b263 F_b263_chars F_b263_length V_b266 (nn0) (nle) (by rw [List.length_take, hD0]; omega) (fun x hx => h16 x (List.mem_of_mem_take hx)) (fun p => (own_takeD (by have := own_pos p; omega)).trans (hD3 p)) (fun p => (own_takeD (own_pos p)).trans (hD4 p)) (hc1) (hc2) (Ne.symm o_b263_b266)))
theorem pn_m_law : plainFor (⟨"com/example/beleg/beleg/JsonOutputAppendPinLaw", "law", "(IIIII)Z"⟩ : MethodName) = true := by first | (refine plainFor_of_name ?_; simp [plainName, overriddenIn]; done) | decide +kernel
theorem ef_m_law (mid : MethodId) (p1 : Int32) (p2 : Int32) (p3 : Int32) (p4 : Int32) (p5 : Int32) : entryFrame mid #[(.int p1), (.int p2), (.int p3), (.int p4), (.int p5)] maxLocals = mkF mid 0 #[.val (.int p1), .val (.int p2), .val (.int p3), .val (.int p4), .val (.int p5), .unset, .unset, .unset, .unset, .unset, .unset, .unset, .unset, .unset, .unset, .unset, .unset, .unset, .unset] [] := by first | (simp [entryFrame, mkF, argsToLocals, Value.category, maxLocals]; done) | rfl
set_option maxRecDepth 65536 in
set_option maxHeartbeats 40000000 in
theorem m_law {l : Launch} {Z : State} {a0 : Array Value} {n0 : Nat} (hw : ∀ d ∈ tables_1, d.before a0 Z = true) (hs : Stat Z) (p1 : Int32) (p2 : Int32) (p3 : Int32) (p4 : Int32) (p5 : Int32) (h0 : Heap) :
    Met l Z EL0 n0 NR0 KN0 x code maxLocals ret room_1 [] #[(.int p1), (.int p2), (.int p3), (.int p4), (.int p5)] h0 (Q_m_law Z p1 p2 p3 p4 p5 h0) := by
  refine Met.of_go pn_m_law (fun mid => ef_m_law mid p1 p2 p3 p4 p5 ) ?_
  intro hO hWS
  refine Go.iload_n (pc' := 1) at_0 rfl rfl ?_
  refine Go.sipush (pc' := 4) at_1 rfl ics_511 ?_
  refine Go.iand (pc' := 5) at_4 rfl ?_
  refine Go.sipush (pc' := 8) at_5 rfl ics_257 ?_
  refine Go.irem (pc' := 9) at_8 rfl (by decide) ?_
  refine Go.istore (pc' := 11) (Ls' := #[.val (.int p1), .val (.int p2), .val (.int p3), .val (.int p4), .val (.int p5), .val (.int ((p3 &&& (511 : Int32)) % (257 : Int32))), .unset, .unset, .unset, .unset, .unset, .unset, .unset, .unset, .unset, .unset, .unset, .unset, .unset]) at_9 rfl rfl ?_
  refine Go.iload_n (pc' := 12) at_11 rfl rfl ?_
  have nn0 := (own_rem (own_maskn p3 511 (by decide)) (m := 257) (by decide)).1
  have nle := own_remcap (c := 256) (own_maskn p3 511 (by decide)) (m := 257) (by decide) (by decide)
  generalize hne : ((p3 &&& (511 : Int32)) % (257 : Int32)) = n at nn0 nle ⊢
  refine Go.ldcInt (pc' := 14) at_12 rfl (w_0 hw) ?_
  refine Go.iand (pc' := 15) at_14 rfl ?_
  refine Go.i2c (pc' := 16) at_15 rfl ?_
  refine Go.istore (pc' := 18) (Ls' := #[.val (.int p1), .val (.int p2), .val (.int p3), .val (.int p4), .val (.int p5), .val (.int n), .val (.int (p1 &&& (65535 : Int32)).toUInt32.toUInt16.toUInt32.toInt32), .unset, .unset, .unset, .unset, .unset, .unset, .unset, .unset, .unset, .unset, .unset, .unset]) at_16 rfl rfl ?_
  refine Go.iload_n (pc' := 19) at_18 rfl rfl ?_
  have b_c1 := mask65535 p1
  rw [i2c_in b_c1.1 b_c1.2]
  generalize h_c1 : (p1 &&& (65535 : Int32)) = c1 at b_c1 ⊢
  refine Go.ldcInt (pc' := 21) at_19 rfl (w_0 hw) ?_
  refine Go.iand (pc' := 22) at_21 rfl ?_
  refine Go.i2c (pc' := 23) at_22 rfl ?_
  refine Go.istore (pc' := 25) (Ls' := #[.val (.int p1), .val (.int p2), .val (.int p3), .val (.int p4), .val (.int p5), .val (.int n), .val (.int c1), .val (.int (p2 &&& (65535 : Int32)).toUInt32.toUInt16.toUInt32.toInt32), .unset, .unset, .unset, .unset, .unset, .unset, .unset, .unset, .unset, .unset, .unset]) at_23 rfl rfl ?_
  refine Go.iload_n (pc' := 26) at_25 rfl rfl ?_
  have b_c2 := mask65535 p2
  rw [i2c_in b_c2.1 b_c2.2]
  generalize h_c2 : (p2 &&& (65535 : Int32)) = c2 at b_c2 ⊢
  refine Go.ldcInt (pc' := 28) at_26 rfl (w_0 hw) ?_
  refine Go.iand (pc' := 29) at_28 rfl ?_
  refine Go.i2c (pc' := 30) at_29 rfl ?_
  refine Go.istore (pc' := 32) (Ls' := #[.val (.int p1), .val (.int p2), .val (.int p3), .val (.int p4), .val (.int p5), .val (.int n), .val (.int c1), .val (.int c2), .val (.int (p4 &&& (65535 : Int32)).toUInt32.toUInt16.toUInt32.toInt32), .unset, .unset, .unset, .unset, .unset, .unset, .unset, .unset, .unset, .unset]) at_30 rfl rfl ?_
  refine Go.iload (pc' := 34) at_32 rfl rfl ?_
  have b_fi := mask65535 p4
  rw [i2c_in b_fi.1 b_fi.2]
  generalize h_fi : (p4 &&& (65535 : Int32)) = fi at b_fi ⊢
  refine Go.ldcInt (pc' := 36) at_34 rfl (w_0 hw) ?_
  refine Go.iand (pc' := 37) at_36 rfl ?_
  refine Go.i2c (pc' := 38) at_37 rfl ?_
  refine Go.istore (pc' := 40) (Ls' := #[.val (.int p1), .val (.int p2), .val (.int p3), .val (.int p4), .val (.int p5), .val (.int n), .val (.int c1), .val (.int c2), .val (.int fi), .val (.int (p5 &&& (65535 : Int32)).toUInt32.toUInt16.toUInt32.toInt32), .unset, .unset, .unset, .unset, .unset, .unset, .unset, .unset, .unset]) at_38 rfl rfl ?_
  refine Go.sipush (pc' := 43) at_40 rfl ics_256 ?_
  have b_la := mask65535 p5
  rw [i2c_in b_la.1 b_la.2]
  generalize h_la : (p5 &&& (65535 : Int32)) = la at b_la ⊢
  refine Go.newP (pc' := 45) (cap := 256) (ad := "[C") at_43 rfl (w_1 hw) (by decide) (by decide) (by decide) (by decide) (by decide) (by decide) ?_
  intro h283 b284 g285 ge_b284 q287 x286 V_b284 E_b284
  replace V_b284 : Arv Z h283 b284 q287 .char (256 : Int32) [] (.int (0 : Int32)) := V_b284
  change Go _ _ _ _ _ _ _ _ _ _ _ _ _ _ [b284] h283 1 256 45 #[.val (.int p1), .val (.int p2), .val (.int p3), .val (.int p4), .val (.int p5), .val (.int n), .val (.int c1), .val (.int c2), .val (.int fi), .val (.int la), .unset, .unset, .unset, .unset, .unset, .unset, .unset, .unset, .unset] [(.ref b284)]
  replace V_b284 : Arv Z h283 b284 q287 .char (256 : Int32) ((List.replicate 256 (0 : Int32)).map Value.int) (.int (0 : Int32)) := V_b284.pad (own_pad0 256)
  refine Go.astore (pc' := 47) (Ls' := #[.val (.int p1), .val (.int p2), .val (.int p3), .val (.int p4), .val (.int p5), .val (.int n), .val (.int c1), .val (.int c2), .val (.int fi), .val (.int la), .val (.ref b284), .unset, .unset, .unset, .unset, .unset, .unset, .unset, .unset]) at_45 rfl rfl rfl ?_
  refine Go.iload (pc' := 49) at_47 rfl rfl ?_
  by_cases hp : (0 : Int32) < n
  · skip
    refine Go.ifN (pc' := 52) at_49 rfl ((if0 _ _).trans (tlt (hp : (0 : Int32) < n)).2.2.2) ?_
    have bm := own_subn hp nle
    refine Go.aload (pc' := 54) at_52 rfl rfl rfl ?_
    refine Go.iconst (pc' := 55) at_54 rfl ic_0 ?_
    refine Go.iload (pc' := 57) at_55 rfl rfl ?_
    refine Go.castoreV (pc' := 58) (i := 0) at_57 rfl (List.mem_of_getElem? (i := 0) rfl) V_b284 ⟨by decide, by decide⟩ (by decide) (by rw [List.length_map, List.length_replicate]; decide) ?_
    rw [nar_char (b_fi).1 (b_fi).2]
    intro h288 W289 V_b284'
    rw [own_set_map] at V_b284'
    replace E_b284 := E_b284.wr W289
    replace V_b284 : Arv Z h288 b284 q287 .char (256 : Int32) (((List.replicate 256 (0 : Int32)).set 0 fi).map Value.int) (.int (0 : Int32)) := V_b284'
    change Go _ _ _ _ _ _ _ _ _ _ _ _ _ _ [b284] h288 1 256 58 #[.val (.int p1), .val (.int p2), .val (.int p3), .val (.int p4), .val (.int p5), .val (.int n), .val (.int c1), .val (.int c2), .val (.int fi), .val (.int la), .val (.ref b284), .unset, .unset, .unset, .unset, .unset, .unset, .unset, .unset] []
    refine Go.aload (pc' := 60) at_58 rfl rfl rfl ?_
    refine Go.iload (pc' := 62) at_60 rfl rfl ?_
    refine Go.iconst (pc' := 63) at_62 rfl ic_1 ?_
    refine Go.isub (pc' := 64) at_63 rfl ?_
    refine Go.iload (pc' := 66) at_64 rfl rfl ?_
    refine Go.castoreV (pc' := 67) (i := n.toNatClampNeg - 1) at_66 rfl (List.mem_of_getElem? (i := 0) rfl) V_b284 ⟨bm.1, own_ltc bm.1 (by decide) (by rw [bm.2]; exact Nat.lt_of_le_of_lt (Nat.sub_le_sub_right nle 1) (by decide))⟩ bm.2 (by rw [List.length_map, List.length_set, List.length_replicate]; omega) ?_
    rw [nar_char (b_la).1 (b_la).2]
    intro h290 W291 V_b284'
    rw [own_set_map] at V_b284'
    replace E_b284 := E_b284.wr W291
    replace V_b284 : Arv Z h290 b284 q287 .char (256 : Int32) ((((List.replicate 256 (0 : Int32)).set 0 fi).set (n.toNatClampNeg - 1) la).map Value.int) (.int (0 : Int32)) := V_b284'
    change Go _ _ _ _ _ _ _ _ _ _ _ _ _ _ [b284] h290 1 256 67 #[.val (.int p1), .val (.int p2), .val (.int p3), .val (.int p4), .val (.int p5), .val (.int n), .val (.int c1), .val (.int c2), .val (.int fi), .val (.int la), .val (.ref b284), .unset, .unset, .unset, .unset, .unset, .unset, .unset, .unset] []
    exact Go.more (k' := 1) (n' := 256) (by decide) (by decide) (Go.fewer mem0 (m_lawD hw hs p1 p2 p3 p4 p5 n c1 c2 fi la b284 q287 (((List.replicate 256 (0 : Int32)).set 0 fi).set (n.toNatClampNeg - 1) la) h0 h290 V_b284 (nn0) (nle) (by rw [List.length_set, List.length_set, List.length_replicate]) (own_set_mem (own_set_mem (fun x hx => by rw [List.eq_of_mem_replicate hx]; decide) b_fi) b_la) (fun p => own_D3 (own_pos p) nle) (fun p => own_D4 nn0 (own_pos p) nle) (b_c1) (b_c2)))
  · skip
    refine Go.ifY (pc' := 67) at_49 (by decide) (by decide) ((if0 _ _).trans (flt (hp : ¬ ((0 : Int32) < n))).2.2.2) ?_
    exact Go.more (k' := 1) (n' := 256) (by decide) (by decide) (Go.fewer mem0 (m_lawD hw hs p1 p2 p3 p4 p5 n c1 c2 fi la b284 q287 (List.replicate 256 (0 : Int32)) h0 h283 V_b284 (nn0) (nle) (List.length_replicate) (fun x hx => by rw [List.eq_of_mem_replicate hx]; decide) (fun p => absurd p hp) (fun p => absurd p hp) (b_c1) (b_c2)))
set_option maxRecDepth 65536 in
set_option maxHeartbeats 40000000 in
theorem comes_1 {Post : Tables → Env → Array Value → State → Outcome → State → Prop} (hpost : ∀ tb e args s v u, (limb_1_1.after args s (.returned v) u = true ∧ limb_1_2.after args s (.returned v) u = true ∧ True) → FrameEnd s (.returned v) u (Jvm.fieldLocs frame_1_writes args s ++ Jvm.arrayLocs frame_1_arrays args s ++ Jvm.staticLocs frame_1_statics s) 32 5248 → Post tb e args s (.returned v) u) :
    ArmFor flags0 classFile x code maxLocals ret World_1 tables_1 room_1 Calls_1 rest_1 Pre_1 Post := by
  intro l hfl _ _ p e ha hc hk s m args below hf hA hF happ hP
  obtain ⟨hcalls, hrest, hpre⟩ := hP
  obtain ⟨-, -, -, hnamed, -, -, -, hat⟩ := (Spec.applies_iff hf).mp happ
  obtain ⟨hg, hn⟩ := and_e (Cond.before_iff.mp (show (Jvm.Cond.and given_1 narrow_1).before args s = true from hpre))
  have hgn := hg
  obtain ⟨h_c, hg⟩ := and_e hg
  obtain ⟨w0, w1, w2, w3, w4, rfl⟩ : ∃ w0 w1 w2 w3 w4 : Value, args = #[w0, w1, w2, w3, w4] := by
    have hs : args.size = 5 := by simpa [Cond.value, given_1] using h_c
    obtain ⟨L⟩ := args
    match L, hs with
    | [w0, w1, w2, w3, w4], _ => exact ⟨w0, w1, w2, w3, w4, rfl⟩
  obtain ⟨h_0, hg⟩ := and_e hg
  obtain ⟨i0, e_0⟩ := is_v h_0
  obtain rfl : w0 = (.int i0) := Option.some.inj e_0
  obtain ⟨h_1, hg⟩ := and_e hg
  obtain ⟨i1, e_1⟩ := is_v h_1
  obtain rfl : w1 = (.int i1) := Option.some.inj e_1
  obtain ⟨h_2, hg⟩ := and_e hg
  obtain ⟨i2, e_2⟩ := is_v h_2
  obtain rfl : w2 = (.int i2) := Option.some.inj e_2
  obtain ⟨h_3, hg⟩ := and_e hg
  obtain ⟨i3, e_3⟩ := is_v h_3
  obtain rfl : w3 = (.int i3) := Option.some.inj e_3
  have h_4 := hg
  obtain ⟨i4, e_4⟩ := is_v h_4
  obtain rfl : w4 = (.int i4) := Option.some.inj e_4
  have hw := fun d (hd : d ∈ tables_1) => atoms_spec (ws := Jvm.Cond.code x code maxLocals ret :: tables_1) hat d (List.mem_cons_of_mem _ hd)
  have hfit : Fit s := fun {y c} hc i hi => by
    obtain ⟨ha, rfl⟩ := Array.getElem?_eq_some_iff.mp hc
    have q := List.all_eq_true.mp ((Array.all_eq_true_iff_forall_mem.mp hF) _ (Array.getElem_mem ha)) i (List.mem_range.mpr hi)
    simpa [Array.getElem?_eq_getElem hi] using q
  have hsets := (atoms_of jdkStatics_1 (show (jdkStatics_1.foldr Jvm.Cond.and restOwn_1).before _ s = true from hrest)).1
  obtain ⟨zc, e_zc⟩ := is_v (Cond.before_iff.mp (hsets _ (List.mem_of_getElem? (i := 1) rfl)))
  have n_zc := gotF (Cond.eq_ints e_zc (Term.int_eval (0))) (not_v (Cond.before_iff.mp (hsets _ (List.mem_of_getElem? (i := 2) rfl))))
  have s_zc := Sta.start e_zc (Or.inl (hsets _ (List.mem_of_getElem? (i := 0) rfl)))
  obtain ⟨fm, e_fm, r_fm⟩ := isR_v (Cond.before_iff.mp (hsets _ (List.mem_of_getElem? (i := 8) rfl)))
  have s_fm := Sta.start e_fm (Or.inl (hsets _ (List.mem_of_getElem? (i := 7) rfl)))
  have s_u1 := Sta.start (eqv_i (Term.int_eval (1)) (Cond.before_iff.mp (hsets _ (List.mem_of_getElem? (i := 12) rfl)))) (Or.inl (hsets _ (List.mem_of_getElem? (i := 11) rfl)))
  have s_u0 := Sta.start (eqv_i (Term.int_eval (0)) (Cond.before_iff.mp (hsets _ (List.mem_of_getElem? (i := 15) rfl)))) (Or.inl (hsets _ (List.mem_of_getElem? (i := 14) rfl)))
  have s_u8 := Sta.start (eqv_i (Term.int_eval (8)) (Cond.before_iff.mp (hsets _ (List.mem_of_getElem? (i := 18) rfl)))) (Or.inl (hsets _ (List.mem_of_getElem? (i := 17) rfl)))
  have hs : Stat s := ⟨⟨zc, s_zc, n_zc⟩, ⟨fm, s_fm, r_fm⟩, ⟨s_u1, s_u0, s_u8⟩, trivial⟩
  obtain ⟨n, o, h1, h2, h3, v, L, SN, rfl, ⟨rfl, -⟩, hL, -, -, -, hN, hE⟩ := m_law hw hs i0 i1 i2 i3 i4 s.heap tables_1 p e ha hc hk s m _ below hf ((Spec.applies_iff_loose hf).mp happ).1 ⟨rfl, State.Warmed39.refl s, rfl, (fun p hp => nomatch hp), (fun x hx => nomatch hx), ⟨rfl, Ext.refl _⟩, _, (EW.nil (a0 := #[]))⟩ (fun q => nomatch q)
  refine ⟨n, _, h1, h2, h3, hpost _ _ _ _ _ _ ⟨Cond.after_iff.mpr rfl, Cond.after_iff.mpr (eq_i res_at (Term.int_eval (1)) rfl), trivial⟩ ⟨hE.1, hN rfl, (hE.2.2.2.sift fun y hy => Or.inr (hL y hy)).mono (by decide) (by decide)⟩⟩
theorem main_1_1 : Claimed_1_1 := comes_1 fun _ _ _ _ _ _ h hF => ⟨h.1, hF⟩
theorem main_1_2 : Claimed_1_2 := comes_1 fun _ _ _ _ _ _ h hF => ⟨h.2.1, hF⟩
end Jvm.Pilot.@@N@@
namespace Jvm.Pilot.@@N@@
open Jvm Jvm.ClassFile Sem Op Lib Jvm.Free Jvm.Stand Jvm.Pilot.@@N@@.Jvm.D
/-! MADE BY PROGRAM (witnessworld.py) out of the Statement's table words and the real class files: 23 classes; the members and pool entries that the words name. The judged class is class 1, her method 1. -/
namespace start1
open Jvm.ClassFile
def u (s : String) : CpInfo := .utf8 (stringToUtf16 s)
/-- a pool by its gaps: so many unusable entries, then the entry; so many at the end -/
def gap : Nat → List CpInfo → List CpInfo
  | 0, r => r
  | n + 1, r => .unusable :: gap n r
def poolList (es : List (Nat × CpInfo)) (last : Nat) : List CpInfo := es.foldr (fun e r => gap e.1 (e.2 :: r)) (gap last [])
def pool (es : List (Nat × CpInfo)) (last : Nat) : Array CpInfo := ⟨poolList es last⟩
def fileOf (pool : Array CpInfo) (this : Nat) (attrs : Array Attribute := #[]) (ms : Array MethodInfo := #[]) (fl : Nat := 33) (sup : Nat := 0) (ifs : Array Nat := #[]) (fds : Array FieldInfo := #[]) : ClassFile where
  minorVersion := 0
  majorVersion := 65
  constantPool := pool
  accessFlags := fl
  thisClass := this
  superClass := sup
  interfaces := ifs
  fields := fds
  methods := ms
  attributes := attrs
def plain (name : String) (sup : Option ClassId) : Class where
  name := name
  kind := .ordinary
  loader := none
  accessFlags := 33
  super := sup
  interfaces := #[]
  cf := none
  fields := #[]
  methods := #[]
  instanceTypes := #[]
  staticTypes := #[]
  resolved := #[]
  callSites := []
  init := .initialized
  statics := none
  mirror := none

def pool0 : Array CpInfo := pool [(5, u "<init>"), (0, u "()V"), (1, .class_ 10), (1, u "java/lang/Object")] 113

def k0c0 : Code := { maxStack := 0, maxLocals := 1, code := object_method_1_code, exceptionTable := #[], attributes := #[] }
def k0m0 : Method := { name := "<init>", desc := "()V", sig := { parameters := [], returnType := none }, accessFlags := 1, code := some k0c0 }
/-- java/lang/Object -/
def k0 : Class := { plain "java/lang/Object" none with
  accessFlags := 33
  interfaces := #[]
  cf := some (fileOf pool0 8 #[] #[{ accessFlags := 1, nameIndex := 5, descriptorIndex := 6, attributes := #[] }] 33 0 #[] #[])
  fields := #[]
  methods := #[k0m0]
  instanceTypes := #[]
  staticTypes := #[]
  resolved := Array.replicate 124 none
  statics := none }

def pool1 : Array CpInfo := pool [(2, .class_ 4), (0, .nameAndType 5 6), (0, u "java/lang/Object"), (0, u "<init>"), (0, u "()V"), (0, .integer 65535), (0, .class_ 9), (0, u "java/lang/String"), (0, .methodref 8 11), (0, .nameAndType 5 12), (0, u "([C)V"), (0, .class_ 14), (0, u "com/example/beleg/beleg/JsonOutput"), (0, .methodref 13 3), (0, .methodref 13 17), (0, .nameAndType 18 19), (0, u "append"), (0, u "(Ljava/lang/String;II)Lcom/example/beleg/beleg/JsonOutput;"), (0, .methodref 13 21), (0, .nameAndType 18 22), (0, u "(C)Lcom/example/beleg/beleg/JsonOutput;"), (0, .methodref 13 24), (0, .nameAndType 25 26), (0, u "length"), (0, u "()I"), (0, .methodref 13 28), (0, .nameAndType 29 30), (0, u "toString"), (0, u "()Ljava/lang/String;"), (0, .methodref 8 24), (0, .methodref 8 33), (0, .nameAndType 34 35), (0, u "charAt"), (0, u "(I)C"), (0, .class_ 37), (0, u "com/example/beleg/beleg/JsonOutputAppendPinLaw"), (2, u "law"), (0, u "(IIIII)Z")] 5

def k1m0 : Method := { name := "<init>", desc := "()V", sig := { parameters := [], returnType := none }, accessFlags := 1, code := none }
def k1c1 : Code := { maxStack := 4, maxLocals := 19, code := code, exceptionTable := #[], attributes := #[] }
def k1m1 : Method := { name := "law", desc := "(IIIII)Z", sig := { parameters := [.int, .int, .int, .int, .int], returnType := some .boolean }, accessFlags := 9, code := some k1c1 }
/-- com/example/beleg/beleg/JsonOutputAppendPinLaw -/
def k1 : Class := { plain "com/example/beleg/beleg/JsonOutputAppendPinLaw" (some 0) with
  accessFlags := 49
  interfaces := #[]
  cf := some (fileOf pool1 36 #[] #[{ accessFlags := 1, nameIndex := 5, descriptorIndex := 6, attributes := #[] }, { accessFlags := 9, nameIndex := 40, descriptorIndex := 41, attributes := #[] }] 49 2 #[] #[])
  fields := #[]
  methods := #[k1m0, k1m1]
  instanceTypes := #[]
  staticTypes := #[]
  resolved := Array.replicate 47 none
  statics := none }

def pool2 : Array CpInfo := pool [(1, .class_ 2), (0, u "java/io/Serializable"), (0, .class_ 4), (0, u "java/lang/Object")] 2

/-- java/io/Serializable -/
def k2 : Class := { plain "java/io/Serializable" (some 0) with
  accessFlags := 1537
  interfaces := #[]
  cf := some (fileOf pool2 1 #[] #[] 1537 3 #[] #[])
  fields := #[]
  methods := #[]
  instanceTypes := #[]
  staticTypes := #[]
  resolved := Array.replicate 7 none
  statics := none }

def pool3 : Array CpInfo := pool [(1, .class_ 2), (0, u "java/lang/Comparable"), (0, .class_ 4), (0, u "java/lang/Object")] 7

/-- java/lang/Comparable -/
def k3 : Class := { plain "java/lang/Comparable" (some 0) with
  accessFlags := 1537
  interfaces := #[]
  cf := some (fileOf pool3 1 #[] #[] 1537 3 #[] #[])
  fields := #[]
  methods := #[]
  instanceTypes := #[]
  staticTypes := #[]
  resolved := Array.replicate 12 none
  statics := none }

def pool4 : Array CpInfo := pool [(2, .class_ 4), (1, u "java/lang/CharSequence"), (42, .class_ 48), (0, u "java/lang/CharSequence$1CodePointIterator"), (10, .class_ 60), (0, u "java/lang/CharSequence$1CharIterator"), (5, .class_ 67), (0, u "java/lang/Object")] 63

/-- java/lang/CharSequence -/
def k4 : Class := { plain "java/lang/CharSequence" (some 0) with
  accessFlags := 1537
  interfaces := #[]
  cf := some (fileOf pool4 2 #[.nestMembers #[47, 59]] #[] 1537 66 #[] #[])
  fields := #[]
  methods := #[]
  instanceTypes := #[]
  staticTypes := #[]
  resolved := Array.replicate 131 none
  statics := none }

def pool5 : Array CpInfo := pool [(1, .class_ 2), (0, u "java/lang/constant/Constable"), (0, .class_ 4), (0, u "java/lang/Object")] 6

/-- java/lang/constant/Constable -/
def k5 : Class := { plain "java/lang/constant/Constable" (some 0) with
  accessFlags := 1537
  interfaces := #[]
  cf := some (fileOf pool5 1 #[] #[] 1537 3 #[] #[])
  fields := #[]
  methods := #[]
  instanceTypes := #[]
  staticTypes := #[]
  resolved := Array.replicate 11 none
  statics := none }

def pool6 : Array CpInfo := pool [(1, .class_ 2), (0, u "java/lang/constant/ConstantDesc"), (0, .class_ 4), (0, u "java/lang/Object")] 32

/-- java/lang/constant/ConstantDesc -/
def k6 : Class := { plain "java/lang/constant/ConstantDesc" (some 0) with
  accessFlags := 1537
  interfaces := #[]
  cf := some (fileOf pool6 1 #[] #[] 1537 3 #[] #[])
  fields := #[]
  methods := #[]
  instanceTypes := #[]
  staticTypes := #[]
  resolved := Array.replicate 37 none
  statics := none }

def pool7 : Array CpInfo := pool [(1, .methodref 2 3), (0, .class_ 4), (0, .nameAndType 5 6), (0, u "java/lang/Object"), (0, u "<init>"), (0, u "()V"), (2, .fieldref 10 11), (0, .class_ 12), (0, .nameAndType 13 14), (0, u "java/lang/String"), (0, u "value"), (0, u "[B"), (0, .fieldref 10 16), (0, .nameAndType 17 18), (0, u "coder"), (0, u "B"), (2, u "hash"), (0, u "I"), (2, u "hashIsZero"), (0, u "Z"), (0, .methodref 10 28), (0, .nameAndType 5 29), (0, u "([CIILjava/lang/Void;)V"), (0, .methodref 10 31), (0, .nameAndType 32 33), (0, u "rangeCheck"), (0, u "([CII)Ljava/lang/Void;"), (0, .methodref 10 35), (0, .nameAndType 36 37), (0, u "checkBoundsOffCount"), (0, u "(III)I"), (0, .fieldref 10 39), (0, .nameAndType 40 26), (0, u "COMPACT_STRINGS"), (1, .class_ 44), (1, u "java/lang/StringUTF16"), (0, u "compress"), (1, .methodref 42 48), (0, .nameAndType 49 50), (0, u "coderFromArrayLen"), (0, u "([BI)B"), (56, .class_ 109), (1, u "java/lang/StringLatin1"), (32, u "()Z"), (34, .methodref 42 178), (0, .nameAndType 45 179), (0, u "([CII)[B"), (154, u "()I"), (0, .methodref 10 336), (0, .nameAndType 17 337), (0, u "()B"), (25, u "([BI)C"), (27, u "(II)V"), (35, u "(I)C"), (64, .methodref 10 493), (0, .nameAndType 494 142), (0, u "isLatin1"), (0, .methodref 107 496), (0, .nameAndType 497 363), (0, u "charAt"), (0, .methodref 42 496), (2, u "checkIndex"), (3, .methodref 10 506), (0, .nameAndType 507 334), (0, u "length"), (5, u "checkFromToIndex"), (7, .methodref 10 522), (0, .nameAndType 523 524), (0, u "checkBoundsBeginEnd"), (0, u "(III)V"), (0, .methodref 107 526), (0, .nameAndType 527 528), (0, u "getChars"), (0, u "([BII[CI)V"), (0, .methodref 42 526), (45, .class_ 576), (0, u "java/lang/CharSequence"), (22, u "CASE_INSENSITIVE_ORDER"), (0, u "Ljava/util/Comparator;"), (371, u "([CII)V"), (37, u "([C)V"), (42, .fieldref 1054 1055), (0, .class_ 1056), (0, .nameAndType 1057 1058), (0, u "jdk/internal/util/Preconditions"), (0, u "SIOOBE_FORMATTER"), (0, u "Ljava/util/function/BiFunction;"), (0, .methodref 1054 1060), (0, .nameAndType 501 1061), (0, u "(IILjava/util/function/BiFunction;)I"), (0, .methodref 1054 1063), (0, .nameAndType 513 1064), (0, u "(IIILjava/util/function/BiFunction;)I"), (0, .methodref 1054 1066), (0, .nameAndType 1067 1064), (0, u "checkFromIndexSize"), (33, u "serialPersistentFields"), (0, u "[Ljava/io/ObjectStreamField;"), (0, .class_ 1104), (0, u "java/lang/String$CaseInsensitiveComparator"), (1, .class_ 1107), (0, u "java/io/Serializable"), (0, .class_ 1109), (0, u "java/lang/Comparable"), (0, .class_ 1111), (0, u "java/lang/constant/Constable"), (0, .class_ 1113), (0, u "java/lang/constant/ConstantDesc"), (2, u "serialVersionUID"), (0, u "J"), (3, u "REPL"), (0, u "C"), (2, u "LATIN1"), (1, u "UTF16"), (112, u "(II[CI)V")] 210

def k7m0 : Method := { name := "<init>", desc := "()V", sig := { parameters := [], returnType := none }, accessFlags := 1, code := none }
def k7c1 : Code := { maxStack := 5, maxLocals := 2, code := jdk_42_method_3_code, exceptionTable := #[], attributes := #[] }
def k7m1 : Method := { name := "<init>", desc := "([C)V", sig := { parameters := [(.array .char)], returnType := none }, accessFlags := 1, code := some k7c1 }
def k7c2 : Code := { maxStack := 7, maxLocals := 4, code := jdk_42_method_4_code, exceptionTable := #[], attributes := #[] }
def k7m2 : Method := { name := "<init>", desc := "([CII)V", sig := { parameters := [(.array .char), .int, .int], returnType := none }, accessFlags := 1, code := some k7c2 }
def k7c3 : Code := { maxStack := 3, maxLocals := 3, code := jdk_42_method_5_code, exceptionTable := #[], attributes := #[] }
def k7m3 : Method := { name := "rangeCheck", desc := "([CII)Ljava/lang/Void;", sig := { parameters := [(.array .char), .int, .int], returnType := some (.object "java/lang/Void") }, accessFlags := 10, code := some k7c3 }
def k7c4 : Code := { maxStack := 2, maxLocals := 1, code := jdk_42_method_54_code, exceptionTable := #[], attributes := #[] }
def k7m4 : Method := { name := "length", desc := "()I", sig := { parameters := [], returnType := some .int }, accessFlags := 1, code := some k7c4 }
def k7c5 : Code := { maxStack := 2, maxLocals := 2, code := jdk_42_method_56_code, exceptionTable := #[], attributes := #[] }
def k7m5 : Method := { name := "charAt", desc := "(I)C", sig := { parameters := [.int], returnType := some .char }, accessFlags := 1, code := some k7c5 }
def k7c6 : Code := { maxStack := 5, maxLocals := 5, code := jdk_42_method_61_code, exceptionTable := #[], attributes := #[] }
def k7m6 : Method := { name := "getChars", desc := "(II[CI)V", sig := { parameters := [.int, .int, (.array .char), .int], returnType := none }, accessFlags := 1, code := some k7c6 }
def k7c7 : Code := { maxStack := 4, maxLocals := 6, code := jdk_42_method_149_code, exceptionTable := #[], attributes := #[] }
def k7m7 : Method := { name := "<init>", desc := "([CIILjava/lang/Void;)V", sig := { parameters := [(.array .char), .int, .int, (.object "java/lang/Void")], returnType := none }, accessFlags := 2, code := some k7c7 }
def k7c8 : Code := { maxStack := 1, maxLocals := 1, code := jdk_42_method_152_code, exceptionTable := #[], attributes := #[] }
def k7m8 : Method := { name := "coder", desc := "()B", sig := { parameters := [], returnType := some .byte }, accessFlags := 0, code := some k7c8 }
def k7c9 : Code := { maxStack := 1, maxLocals := 1, code := jdk_42_method_154_code, exceptionTable := #[], attributes := #[] }
def k7m9 : Method := { name := "isLatin1", desc := "()Z", sig := { parameters := [], returnType := some .boolean }, accessFlags := 0, code := some k7c9 }
def k7c10 : Code := { maxStack := 3, maxLocals := 2, code := jdk_42_method_155_code, exceptionTable := #[], attributes := #[] }
def k7m10 : Method := { name := "checkIndex", desc := "(II)V", sig := { parameters := [.int, .int], returnType := none }, accessFlags := 8, code := some k7c10 }
def k7c11 : Code := { maxStack := 4, maxLocals := 3, code := jdk_42_method_157_code, exceptionTable := #[], attributes := #[] }
def k7m11 : Method := { name := "checkBoundsOffCount", desc := "(III)I", sig := { parameters := [.int, .int, .int], returnType := some .int }, accessFlags := 8, code := some k7c11 }
def k7c12 : Code := { maxStack := 4, maxLocals := 3, code := jdk_42_method_158_code, exceptionTable := #[], attributes := #[] }
def k7m12 : Method := { name := "checkBoundsBeginEnd", desc := "(III)V", sig := { parameters := [.int, .int, .int], returnType := none }, accessFlags := 8, code := some k7c12 }
/-- java/lang/String -/
def k7 : Class := { plain "java/lang/String" (some 0) with
  accessFlags := 49
  interfaces := #[2, 3, 4, 5, 6]
  cf := some (fileOf pool7 10 #[.nestMembers #[1103]] #[{ accessFlags := 1, nameIndex := 5, descriptorIndex := 6, attributes := #[] }, { accessFlags := 1, nameIndex := 5, descriptorIndex := 1010, attributes := #[] }, { accessFlags := 1, nameIndex := 5, descriptorIndex := 972, attributes := #[] }, { accessFlags := 10, nameIndex := 32, descriptorIndex := 33, attributes := #[] }, { accessFlags := 1, nameIndex := 507, descriptorIndex := 334, attributes := #[] }, { accessFlags := 1, nameIndex := 497, descriptorIndex := 427, attributes := #[] }, { accessFlags := 1, nameIndex := 527, descriptorIndex := 1240, attributes := #[] }, { accessFlags := 2, nameIndex := 5, descriptorIndex := 29, attributes := #[] }, { accessFlags := 0, nameIndex := 17, descriptorIndex := 337, attributes := #[] }, { accessFlags := 0, nameIndex := 494, descriptorIndex := 142, attributes := #[] }, { accessFlags := 8, nameIndex := 501, descriptorIndex := 391, attributes := #[] }, { accessFlags := 8, nameIndex := 36, descriptorIndex := 37, attributes := #[] }, { accessFlags := 8, nameIndex := 523, descriptorIndex := 524, attributes := #[] }] 49 2 #[1106, 1108, 575, 1110, 1112] #[{ accessFlags := 18, nameIndex := 13, descriptorIndex := 14, attributes := #[] }, { accessFlags := 18, nameIndex := 17, descriptorIndex := 18, attributes := #[] }, { accessFlags := 2, nameIndex := 21, descriptorIndex := 22, attributes := #[] }, { accessFlags := 2, nameIndex := 25, descriptorIndex := 26, attributes := #[] }, { accessFlags := 26, nameIndex := 1116, descriptorIndex := 1117, attributes := #[] }, { accessFlags := 24, nameIndex := 40, descriptorIndex := 26, attributes := #[] }, { accessFlags := 26, nameIndex := 1101, descriptorIndex := 1102, attributes := #[] }, { accessFlags := 26, nameIndex := 1121, descriptorIndex := 1122, attributes := #[] }, { accessFlags := 25, nameIndex := 599, descriptorIndex := 600, attributes := #[] }, { accessFlags := 24, nameIndex := 1125, descriptorIndex := 18, attributes := #[] }, { accessFlags := 24, nameIndex := 1127, descriptorIndex := 18, attributes := #[] }])
  fields := #[{ name := "value", type := (.array .byte), accessFlags := 18, slot := 0, constantValue := 0 }, { name := "coder", type := .byte, accessFlags := 18, slot := 1, constantValue := 0 }, { name := "hash", type := .int, accessFlags := 2, slot := 2, constantValue := 0 }, { name := "hashIsZero", type := .boolean, accessFlags := 2, slot := 3, constantValue := 0 }, { name := "serialVersionUID", type := .long, accessFlags := 26, slot := 0, constantValue := 0 }, { name := "COMPACT_STRINGS", type := .boolean, accessFlags := 24, slot := 1, constantValue := 0 }, { name := "serialPersistentFields", type := (.array (.object "java/io/ObjectStreamField")), accessFlags := 26, slot := 2, constantValue := 0 }, { name := "REPL", type := .char, accessFlags := 26, slot := 3, constantValue := 0 }, { name := "CASE_INSENSITIVE_ORDER", type := (.object "java/util/Comparator"), accessFlags := 25, slot := 4, constantValue := 0 }, { name := "LATIN1", type := .byte, accessFlags := 24, slot := 5, constantValue := 0 }, { name := "UTF16", type := .byte, accessFlags := 24, slot := 6, constantValue := 0 }]
  methods := #[k7m0, k7m1, k7m2, k7m3, k7m4, k7m5, k7m6, k7m7, k7m8, k7m9, k7m10, k7m11, k7m12]
  instanceTypes := #[(.array .byte), .byte, .int, .boolean]
  staticTypes := #[.long, .boolean, (.array (.object "java/io/ObjectStreamField")), .char, (.object "java/util/Comparator"), .byte, .byte]
  resolved := Array.replicate 1451 none
  statics := some 0 }

def pool8 : Array CpInfo := pool [(3, .class_ 4), (0, u "java/lang/String"), (1, .class_ 8), (1, u "java/lang/Object"), (0, u "<init>"), (0, u "()V"), (0, .methodref 12 13), (0, .class_ 14), (0, .nameAndType 15 16), (0, u "java/lang/StringUTF16"), (0, u "newBytesLength"), (0, u "(I)I"), (3, .integer 1073741823), (23, .fieldref 12 45), (0, .nameAndType 46 47), (0, u "$assertionsDisabled"), (0, u "Z"), (0, .methodref 12 49), (0, .nameAndType 50 51), (0, u "length"), (0, u "([B)I"), (7, .fieldref 12 60), (0, .nameAndType 61 62), (0, u "HI_BYTE_SHIFT"), (0, u "I"), (0, .fieldref 12 64), (0, .nameAndType 65 62), (0, u "LO_BYTE_SHIFT"), (1, .methodref 12 68), (0, .nameAndType 69 70), (0, u "checkIndex"), (0, u "(I[B)V"), (0, .methodref 12 72), (0, .nameAndType 73 74), (0, u "getChar"), (0, u "([BI)C"), (24, u "(II[B)V"), (5, u "getChars"), (0, u "([BII[CI)V"), (0, .methodref 12 108), (0, .nameAndType 109 110), (0, u "newBytesFor"), (0, u "(I)[B"), (0, .methodref 12 112), (0, .nameAndType 113 114), (0, u "putChar"), (0, u "([BII)V"), (0, .methodref 12 116), (0, .nameAndType 117 118), (0, u "compress"), (0, u "([CI[BII)I"), (0, .methodref 12 120), (0, .nameAndType 121 122), (0, u "toBytes"), (0, u "([CII)[B"), (50, .methodref 12 174), (0, .nameAndType 175 99), (0, u "checkBoundsOffCount"), (85, u "coderFromArrayLen"), (0, u "([BI)B"), (18, u "(III)I"), (87, .class_ 371), (1, u "java/lang/StringUTF16$LinesSpliterator"), (20, u "charAt"), (21, .methodref 3 415), (0, .nameAndType 69 416), (0, u "(II)V"), (2, .methodref 3 420), (0, .nameAndType 175 281), (9, u "MAX_LENGTH"), (196, .class_ 628), (0, u "java/lang/StringUTF16$CodePointsSpliterator"), (0, .class_ 630), (0, u "java/lang/StringUTF16$CharsSpliterator")] 4

def k8m0 : Method := { name := "<init>", desc := "()V", sig := { parameters := [], returnType := none }, accessFlags := 0, code := none }
def k8c1 : Code := { maxStack := 1, maxLocals := 1, code := jdk_52_method_2_code, exceptionTable := #[], attributes := #[] }
def k8m1 : Method := { name := "newBytesFor", desc := "(I)[B", sig := { parameters := [.int], returnType := some (.array .byte) }, accessFlags := 9, code := some k8c1 }
def k8c2 : Code := { maxStack := 4, maxLocals := 1, code := jdk_52_method_3_code, exceptionTable := #[], attributes := #[] }
def k8m2 : Method := { name := "newBytesLength", desc := "(I)I", sig := { parameters := [.int], returnType := some .int }, accessFlags := 9, code := some k8c2 }
def k8c3 : Code := { maxStack := 4, maxLocals := 3, code := jdk_52_method_4_code, exceptionTable := #[], attributes := #[] }
def k8m3 : Method := { name := "putChar", desc := "([BII)V", sig := { parameters := [(.array .byte), .int, .int], returnType := none }, accessFlags := 8, code := some k8c3 }
def k8c4 : Code := { maxStack := 3, maxLocals := 2, code := jdk_52_method_5_code, exceptionTable := #[], attributes := #[] }
def k8m4 : Method := { name := "getChar", desc := "([BI)C", sig := { parameters := [(.array .byte), .int], returnType := some .char }, accessFlags := 8, code := some k8c4 }
def k8c5 : Code := { maxStack := 2, maxLocals := 1, code := jdk_52_method_6_code, exceptionTable := #[], attributes := #[] }
def k8m5 : Method := { name := "length", desc := "([B)I", sig := { parameters := [(.array .byte)], returnType := some .int }, accessFlags := 9, code := some k8c5 }
def k8c6 : Code := { maxStack := 4, maxLocals := 5, code := jdk_52_method_14_code, exceptionTable := #[], attributes := #[] }
def k8m6 : Method := { name := "toBytes", desc := "([CII)[B", sig := { parameters := [(.array .char), .int, .int], returnType := some (.array .byte) }, accessFlags := 9, code := some k8c6 }
def k8c7 : Code := { maxStack := 2, maxLocals := 2, code := jdk_52_method_15_code, exceptionTable := #[], attributes := #[] }
def k8m7 : Method := { name := "coderFromArrayLen", desc := "([BI)B", sig := { parameters := [(.array .byte), .int], returnType := some .byte }, accessFlags := 8, code := some k8c7 }
def k8c8 : Code := { maxStack := 5, maxLocals := 6, code := jdk_52_method_16_code, exceptionTable := #[], attributes := #[] }
def k8m8 : Method := { name := "compress", desc := "([CII)[B", sig := { parameters := [(.array .char), .int, .int], returnType := some (.array .byte) }, accessFlags := 9, code := some k8c8 }
def k8c9 : Code := { maxStack := 3, maxLocals := 7, code := jdk_52_method_21_code, exceptionTable := #[], attributes := #[] }
def k8m9 : Method := { name := "compress", desc := "([CI[BII)I", sig := { parameters := [(.array .char), .int, (.array .byte), .int, .int], returnType := some .int }, accessFlags := 9, code := some k8c9 }
def k8c10 : Code := { maxStack := 4, maxLocals := 6, code := jdk_52_method_26_code, exceptionTable := #[], attributes := #[] }
def k8m10 : Method := { name := "getChars", desc := "([BII[CI)V", sig := { parameters := [(.array .byte), .int, .int, (.array .char), .int], returnType := none }, accessFlags := 9, code := some k8c10 }
def k8c11 : Code := { maxStack := 2, maxLocals := 2, code := jdk_52_method_83_code, exceptionTable := #[], attributes := #[] }
def k8m11 : Method := { name := "charAt", desc := "([BI)C", sig := { parameters := [(.array .byte), .int], returnType := some .char }, accessFlags := 9, code := some k8c11 }
def k8c12 : Code := { maxStack := 2, maxLocals := 2, code := jdk_52_method_91_code, exceptionTable := #[], attributes := #[] }
def k8m12 : Method := { name := "checkIndex", desc := "(I[B)V", sig := { parameters := [.int, (.array .byte)], returnType := none }, accessFlags := 9, code := some k8c12 }
def k8c13 : Code := { maxStack := 3, maxLocals := 3, code := jdk_52_method_94_code, exceptionTable := #[], attributes := #[] }
def k8m13 : Method := { name := "checkBoundsOffCount", desc := "(II[B)V", sig := { parameters := [.int, .int, (.array .byte)], returnType := none }, accessFlags := 9, code := some k8c13 }
/-- java/lang/StringUTF16 -/
def k8 : Class := { plain "java/lang/StringUTF16" (some 0) with
  accessFlags := 48
  interfaces := #[]
  cf := some (fileOf pool8 12 #[.nestMembers #[627, 629, 369]] #[{ accessFlags := 0, nameIndex := 9, descriptorIndex := 10, attributes := #[] }, { accessFlags := 9, nameIndex := 109, descriptorIndex := 110, attributes := #[] }, { accessFlags := 9, nameIndex := 15, descriptorIndex := 16, attributes := #[] }, { accessFlags := 8, nameIndex := 113, descriptorIndex := 114, attributes := #[] }, { accessFlags := 8, nameIndex := 73, descriptorIndex := 74, attributes := #[] }, { accessFlags := 9, nameIndex := 50, descriptorIndex := 51, attributes := #[] }, { accessFlags := 9, nameIndex := 121, descriptorIndex := 122, attributes := #[] }, { accessFlags := 8, nameIndex := 261, descriptorIndex := 262, attributes := #[] }, { accessFlags := 9, nameIndex := 117, descriptorIndex := 122, attributes := #[] }, { accessFlags := 9, nameIndex := 117, descriptorIndex := 118, attributes := #[] }, { accessFlags := 9, nameIndex := 105, descriptorIndex := 106, attributes := #[] }, { accessFlags := 9, nameIndex := 392, descriptorIndex := 74, attributes := #[] }, { accessFlags := 9, nameIndex := 69, descriptorIndex := 70, attributes := #[] }, { accessFlags := 9, nameIndex := 175, descriptorIndex := 99, attributes := #[] }] 48 6 #[] #[{ accessFlags := 26, nameIndex := 61, descriptorIndex := 62, attributes := #[] }, { accessFlags := 26, nameIndex := 65, descriptorIndex := 62, attributes := #[] }, { accessFlags := 24, nameIndex := 430, descriptorIndex := 62, attributes := #[] }, { accessFlags := 4120, nameIndex := 46, descriptorIndex := 47, attributes := #[] }])
  fields := #[{ name := "HI_BYTE_SHIFT", type := .int, accessFlags := 26, slot := 0, constantValue := 0 }, { name := "LO_BYTE_SHIFT", type := .int, accessFlags := 26, slot := 1, constantValue := 0 }, { name := "MAX_LENGTH", type := .int, accessFlags := 24, slot := 2, constantValue := 0 }, { name := "$assertionsDisabled", type := .boolean, accessFlags := 4120, slot := 3, constantValue := 0 }]
  methods := #[k8m0, k8m1, k8m2, k8m3, k8m4, k8m5, k8m6, k8m7, k8m8, k8m9, k8m10, k8m11, k8m12, k8m13]
  instanceTypes := #[]
  staticTypes := #[.int, .int, .int, .boolean]
  resolved := Array.replicate 635 none
  statics := some 1 }

def pool9 : Array CpInfo := pool [(1, .class_ 2), (0, u "com/example/beleg/beleg/JsonOutput"), (0, .methodref 1 4), (0, .nameAndType 5 6), (0, u "<init>"), (0, u "([C)V"), (0, .methodref 8 9), (0, .class_ 10), (0, .nameAndType 5 11), (0, u "java/lang/Object"), (0, u "()V"), (0, .fieldref 1 13), (0, .nameAndType 14 15), (0, u "chars"), (0, u "[C"), (2, u "SPARE"), (0, u "Ljava/lang/ThreadLocal;"), (21, .methodref 1 42), (0, .nameAndType 43 44), (0, u "ensureRoom"), (0, u "(I)V"), (0, .fieldref 1 46), (0, .nameAndType 47 48), (0, u "length"), (0, u "I"), (1, .class_ 52), (1, u "java/lang/String"), (0, u "()I"), (2, u "append"), (0, u "(Ljava/lang/String;II)Lcom/example/beleg/beleg/JsonOutput;"), (0, .methodref 50 59), (0, .nameAndType 60 61), (0, u "getChars"), (0, u "(II[CI)V"), (10, u "DIGIT_PAIRS"), (2, u "plainNames"), (0, u "[Ljava/lang/String;"), (3, .methodref 50 81), (0, .nameAndType 5 82), (0, u "([CII)V"), (2, .long 2147483639), (10, .long 2), (1, .methodref 99 100), (0, .class_ 101), (0, .nameAndType 102 103), (0, u "java/lang/Math"), (0, u "max"), (0, u "(JJ)J"), (0, .methodref 99 105), (0, .nameAndType 106 103), (0, u "min"), (0, .methodref 108 109), (0, .class_ 110), (0, .nameAndType 111 112), (0, u "java/util/Arrays"), (0, u "copyOf"), (0, u "([CI)[C"), (2, u "NEGATIVE_POWERS"), (0, u "[J"), (13, u "INITIAL_CAPACITY"), (2, u "MAX_SPARE_CAPACITY"), (2, u "PLAIN_NAMES"), (6, u "(C)Lcom/example/beleg/beleg/JsonOutput;"), (6, u "toString"), (0, u "()Ljava/lang/String;")] 19

def k9c0 : Code := { maxStack := 2, maxLocals := 1, code := prog_11_method_1_code, exceptionTable := #[], attributes := #[] }
def k9m0 : Method := { name := "<init>", desc := "()V", sig := { parameters := [], returnType := none }, accessFlags := 0, code := some k9c0 }
def k9c1 : Code := { maxStack := 2, maxLocals := 2, code := prog_11_method_2_code, exceptionTable := #[], attributes := #[] }
def k9m1 : Method := { name := "<init>", desc := "([C)V", sig := { parameters := [(.array .char)], returnType := none }, accessFlags := 2, code := some k9c1 }
def k9c2 : Code := { maxStack := 5, maxLocals := 2, code := prog_11_method_5_code, exceptionTable := #[], attributes := #[] }
def k9m2 : Method := { name := "append", desc := "(C)Lcom/example/beleg/beleg/JsonOutput;", sig := { parameters := [.char], returnType := some (.object "com/example/beleg/beleg/JsonOutput") }, accessFlags := 0, code := some k9c2 }
def k9c3 : Code := { maxStack := 5, maxLocals := 4, code := prog_11_method_7_code, exceptionTable := #[], attributes := #[] }
def k9m3 : Method := { name := "append", desc := "(Ljava/lang/String;II)Lcom/example/beleg/beleg/JsonOutput;", sig := { parameters := [(.object "java/lang/String"), .int, .int], returnType := some (.object "com/example/beleg/beleg/JsonOutput") }, accessFlags := 0, code := some k9c3 }
def k9c4 : Code := { maxStack := 1, maxLocals := 1, code := prog_11_method_9_code, exceptionTable := #[], attributes := #[] }
def k9m4 : Method := { name := "length", desc := "()I", sig := { parameters := [], returnType := some .int }, accessFlags := 0, code := some k9c4 }
def k9c5 : Code := { maxStack := 5, maxLocals := 1, code := prog_11_method_13_code, exceptionTable := #[], attributes := #[] }
def k9m5 : Method := { name := "toString", desc := "()Ljava/lang/String;", sig := { parameters := [], returnType := some (.object "java/lang/String") }, accessFlags := 1, code := some k9c5 }
def k9c6 : Code := { maxStack := 10, maxLocals := 4, code := prog_11_method_14_code, exceptionTable := #[], attributes := #[] }
def k9m6 : Method := { name := "ensureRoom", desc := "(I)V", sig := { parameters := [.int], returnType := none }, accessFlags := 2, code := some k9c6 }
/-- com/example/beleg/beleg/JsonOutput -/
def k9 : Class := { plain "com/example/beleg/beleg/JsonOutput" (some 0) with
  accessFlags := 48
  interfaces := #[]
  cf := some (fileOf pool9 1 #[] #[{ accessFlags := 0, nameIndex := 5, descriptorIndex := 11, attributes := #[] }, { accessFlags := 2, nameIndex := 5, descriptorIndex := 6, attributes := #[] }, { accessFlags := 0, nameIndex := 56, descriptorIndex := 143, attributes := #[] }, { accessFlags := 0, nameIndex := 56, descriptorIndex := 57, attributes := #[] }, { accessFlags := 0, nameIndex := 47, descriptorIndex := 53, attributes := #[] }, { accessFlags := 1, nameIndex := 150, descriptorIndex := 151, attributes := #[] }, { accessFlags := 2, nameIndex := 43, descriptorIndex := 44, attributes := #[] }] 48 8 #[] #[{ accessFlags := 26, nameIndex := 130, descriptorIndex := 48, attributes := #[] }, { accessFlags := 26, nameIndex := 133, descriptorIndex := 48, attributes := #[] }, { accessFlags := 26, nameIndex := 18, descriptorIndex := 19, attributes := #[] }, { accessFlags := 26, nameIndex := 72, descriptorIndex := 15, attributes := #[] }, { accessFlags := 26, nameIndex := 115, descriptorIndex := 116, attributes := #[] }, { accessFlags := 26, nameIndex := 136, descriptorIndex := 48, attributes := #[] }, { accessFlags := 2, nameIndex := 14, descriptorIndex := 15, attributes := #[] }, { accessFlags := 2, nameIndex := 47, descriptorIndex := 48, attributes := #[] }, { accessFlags := 2, nameIndex := 75, descriptorIndex := 76, attributes := #[] }])
  fields := #[{ name := "INITIAL_CAPACITY", type := .int, accessFlags := 26, slot := 0, constantValue := 0 }, { name := "MAX_SPARE_CAPACITY", type := .int, accessFlags := 26, slot := 1, constantValue := 0 }, { name := "SPARE", type := (.object "java/lang/ThreadLocal"), accessFlags := 26, slot := 2, constantValue := 0 }, { name := "DIGIT_PAIRS", type := (.array .char), accessFlags := 26, slot := 3, constantValue := 0 }, { name := "NEGATIVE_POWERS", type := (.array .long), accessFlags := 26, slot := 4, constantValue := 0 }, { name := "PLAIN_NAMES", type := .int, accessFlags := 26, slot := 5, constantValue := 0 }, { name := "chars", type := (.array .char), accessFlags := 2, slot := 0, constantValue := 0 }, { name := "length", type := .int, accessFlags := 2, slot := 1, constantValue := 0 }, { name := "plainNames", type := (.array (.object "java/lang/String")), accessFlags := 2, slot := 2, constantValue := 0 }]
  methods := #[k9m0, k9m1, k9m2, k9m3, k9m4, k9m5, k9m6]
  instanceTypes := #[(.array .char), .int, (.array (.object "java/lang/String"))]
  staticTypes := #[.int, .int, (.object "java/lang/ThreadLocal"), (.array .char), (.array .long), .int]
  resolved := Array.replicate 171 none
  statics := none }

def pool10 : Array CpInfo := pool [(2, .class_ 4), (1, u "java/lang/Object"), (0, u "<init>"), (0, u "()V"), (17, .class_ 26), (1, u "jdk/internal/util/Preconditions"), (6, u "checkIndex"), (13, u "checkFromToIndex"), (1, u "checkFromIndexSize"), (5, .class_ 56), (0, u "jdk/internal/util/Preconditions$4"), (57, .class_ 115), (0, u "jdk/internal/util/Preconditions$1"), (7, u "SIOOBE_FORMATTER"), (0, u "Ljava/util/function/BiFunction;"), (0, .class_ 126), (0, u "jdk/internal/util/Preconditions$2"), (3, u "AIOOBE_FORMATTER"), (0, .class_ 132), (0, u "jdk/internal/util/Preconditions$3"), (3, u "IOOBE_FORMATTER"), (41, u "(IILjava/util/function/BiFunction;)I"), (4, u "(IIILjava/util/function/BiFunction;)I")] 10

def k10m0 : Method := { name := "<init>", desc := "()V", sig := { parameters := [], returnType := none }, accessFlags := 1, code := none }
def k10c1 : Code := { maxStack := 3, maxLocals := 3, code := jdk_41_method_11_code, exceptionTable := #[], attributes := #[] }
def k10m1 : Method := { name := "checkIndex", desc := "(IILjava/util/function/BiFunction;)I", sig := { parameters := [.int, .int, (.object "java/util/function/BiFunction")], returnType := some .int }, accessFlags := 9, code := some k10c1 }
def k10c2 : Code := { maxStack := 4, maxLocals := 4, code := jdk_41_method_12_code, exceptionTable := #[], attributes := #[] }
def k10m2 : Method := { name := "checkFromToIndex", desc := "(IIILjava/util/function/BiFunction;)I", sig := { parameters := [.int, .int, .int, (.object "java/util/function/BiFunction")], returnType := some .int }, accessFlags := 9, code := some k10c2 }
def k10c3 : Code := { maxStack := 4, maxLocals := 4, code := jdk_41_method_13_code, exceptionTable := #[], attributes := #[] }
def k10m3 : Method := { name := "checkFromIndexSize", desc := "(IIILjava/util/function/BiFunction;)I", sig := { parameters := [.int, .int, .int, (.object "java/util/function/BiFunction")], returnType := some .int }, accessFlags := 9, code := some k10c3 }
/-- jdk/internal/util/Preconditions -/
def k10 : Class := { plain "jdk/internal/util/Preconditions" (some 0) with
  accessFlags := 33
  interfaces := #[]
  cf := some (fileOf pool10 24 #[.nestMembers #[55, 131, 125, 114]] #[{ accessFlags := 1, nameIndex := 5, descriptorIndex := 6, attributes := #[] }, { accessFlags := 9, nameIndex := 33, descriptorIndex := 178, attributes := #[] }, { accessFlags := 9, nameIndex := 47, descriptorIndex := 183, attributes := #[] }, { accessFlags := 9, nameIndex := 49, descriptorIndex := 183, attributes := #[] }] 33 2 #[] #[{ accessFlags := 25, nameIndex := 123, descriptorIndex := 124, attributes := #[] }, { accessFlags := 25, nameIndex := 130, descriptorIndex := 124, attributes := #[] }, { accessFlags := 25, nameIndex := 136, descriptorIndex := 124, attributes := #[] }])
  fields := #[{ name := "SIOOBE_FORMATTER", type := (.object "java/util/function/BiFunction"), accessFlags := 25, slot := 0, constantValue := 0 }, { name := "AIOOBE_FORMATTER", type := (.object "java/util/function/BiFunction"), accessFlags := 25, slot := 1, constantValue := 0 }, { name := "IOOBE_FORMATTER", type := (.object "java/util/function/BiFunction"), accessFlags := 25, slot := 2, constantValue := 0 }]
  methods := #[k10m0, k10m1, k10m2, k10m3]
  instanceTypes := #[]
  staticTypes := #[(.object "java/util/function/BiFunction"), (.object "java/util/function/BiFunction"), (.object "java/util/function/BiFunction")]
  resolved := Array.replicate 194 none
  statics := some 2 }

def pool11 : Array CpInfo := pool [(1, .class_ 2), (0, u "java/lang/String"), (1, .class_ 6), (1, u "java/lang/Object"), (0, u "<init>"), (0, u "()V"), (0, .methodref 1 10), (0, .nameAndType 11 12), (0, u "checkIndex"), (0, u "(II)V"), (0, .methodref 14 15), (0, .class_ 16), (0, .nameAndType 17 18), (0, u "java/lang/StringLatin1"), (0, u "inflate"), (0, u "([BI[CII)V"), (34, u "([BI)C"), (67, u "$assertionsDisabled"), (0, u "Z"), (98, .class_ 223), (1, u "java/lang/StringLatin1$LinesSpliterator"), (28, u "charAt"), (21, u "getChars"), (0, u "([BII[CI)V"), (114, .class_ 391), (0, u "java/lang/StringLatin1$CharsSpliterator")] 3

def k11m0 : Method := { name := "<init>", desc := "()V", sig := { parameters := [], returnType := none }, accessFlags := 0, code := none }
def k11c1 : Code := { maxStack := 2, maxLocals := 2, code := jdk_43_method_2_code, exceptionTable := #[], attributes := #[] }
def k11m1 : Method := { name := "charAt", desc := "([BI)C", sig := { parameters := [(.array .byte), .int], returnType := some .char }, accessFlags := 9, code := some k11c1 }
def k11c2 : Code := { maxStack := 6, maxLocals := 5, code := jdk_43_method_11_code, exceptionTable := #[], attributes := #[] }
def k11m2 : Method := { name := "getChars", desc := "([BII[CI)V", sig := { parameters := [(.array .byte), .int, .int, (.array .char), .int], returnType := none }, accessFlags := 9, code := some k11c2 }
def k11c3 : Code := { maxStack := 4, maxLocals := 6, code := jdk_43_method_49_code, exceptionTable := #[], attributes := #[] }
def k11m3 : Method := { name := "inflate", desc := "([BI[CII)V", sig := { parameters := [(.array .byte), .int, (.array .char), .int, .int], returnType := none }, accessFlags := 9, code := some k11c3 }
/-- java/lang/StringLatin1 -/
def k11 : Class := { plain "java/lang/StringLatin1" (some 0) with
  accessFlags := 48
  interfaces := #[]
  cf := some (fileOf pool11 14 #[.nestMembers #[390, 221]] #[{ accessFlags := 0, nameIndex := 7, descriptorIndex := 8, attributes := #[] }, { accessFlags := 9, nameIndex := 252, descriptorIndex := 53, attributes := #[] }, { accessFlags := 9, nameIndex := 274, descriptorIndex := 275, attributes := #[] }, { accessFlags := 9, nameIndex := 17, descriptorIndex := 18, attributes := #[] }] 48 4 #[] #[{ accessFlags := 4120, nameIndex := 121, descriptorIndex := 122, attributes := #[] }])
  fields := #[{ name := "$assertionsDisabled", type := .boolean, accessFlags := 4120, slot := 0, constantValue := 0 }]
  methods := #[k11m0, k11m1, k11m2, k11m3]
  instanceTypes := #[]
  staticTypes := #[.boolean]
  resolved := Array.replicate 395 none
  statics := none }

def pool12 : Array CpInfo := pool [(1, .class_ 2), (0, u "java/lang/Math"), (1, .class_ 6), (1, u "java/lang/Object"), (0, u "<init>"), (0, u "()V"), (89, .class_ 100), (1, u "java/lang/Math$RandomNumberGeneratorHolder"), (20, u "(JJ)J"), (50, u "negativeZeroFloatBits"), (0, u "J"), (2, u "negativeZeroDoubleBits"), (21, u "max"), (2, u "min"), (43, u "$assertionsDisabled"), (0, u "Z"), (88, u "(II)I"), (2, u "twoToTheDoubleScaleDown"), (0, u "D"), (4, u "twoToTheDoubleScaleUp"), (9, u "E"), (3, u "PI"), (2, u "TAU"), (2, u "DEGREES_TO_RADIANS"), (0, u "RADIANS_TO_DEGREES")] 94

def k12m0 : Method := { name := "<init>", desc := "()V", sig := { parameters := [], returnType := none }, accessFlags := 2, code := none }
def k12c1 : Code := { maxStack := 4, maxLocals := 4, code := jdk_29_method_66_code, exceptionTable := #[], attributes := #[] }
def k12m1 : Method := { name := "max", desc := "(JJ)J", sig := { parameters := [.long, .long], returnType := some .long }, accessFlags := 9, code := some k12c1 }
def k12c2 : Code := { maxStack := 2, maxLocals := 2, code := jdk_29_method_69_code, exceptionTable := #[], attributes := #[] }
def k12m2 : Method := { name := "min", desc := "(II)I", sig := { parameters := [.int, .int], returnType := some .int }, accessFlags := 9, code := some k12c2 }
def k12c3 : Code := { maxStack := 4, maxLocals := 4, code := jdk_29_method_70_code, exceptionTable := #[], attributes := #[] }
def k12m3 : Method := { name := "min", desc := "(JJ)J", sig := { parameters := [.long, .long], returnType := some .long }, accessFlags := 9, code := some k12c3 }
/-- java/lang/Math -/
def k12 : Class := { plain "java/lang/Math" (some 0) with
  accessFlags := 49
  interfaces := #[]
  cf := some (fileOf pool12 1 #[.nestMembers #[98]] #[{ accessFlags := 2, nameIndex := 7, descriptorIndex := 8, attributes := #[] }, { accessFlags := 9, nameIndex := 198, descriptorIndex := 121, attributes := #[] }, { accessFlags := 9, nameIndex := 201, descriptorIndex := 335, attributes := #[] }, { accessFlags := 9, nameIndex := 201, descriptorIndex := 121, attributes := #[] }] 49 4 #[] #[{ accessFlags := 25, nameIndex := 354, descriptorIndex := 339, attributes := #[] }, { accessFlags := 25, nameIndex := 358, descriptorIndex := 339, attributes := #[] }, { accessFlags := 25, nameIndex := 361, descriptorIndex := 339, attributes := #[] }, { accessFlags := 26, nameIndex := 364, descriptorIndex := 339, attributes := #[] }, { accessFlags := 26, nameIndex := 365, descriptorIndex := 339, attributes := #[] }, { accessFlags := 26, nameIndex := 172, descriptorIndex := 173, attributes := #[] }, { accessFlags := 26, nameIndex := 176, descriptorIndex := 173, attributes := #[] }, { accessFlags := 8, nameIndex := 344, descriptorIndex := 339, attributes := #[] }, { accessFlags := 8, nameIndex := 338, descriptorIndex := 339, attributes := #[] }, { accessFlags := 4120, nameIndex := 245, descriptorIndex := 246, attributes := #[] }])
  fields := #[{ name := "E", type := .double, accessFlags := 25, slot := 0, constantValue := 0 }, { name := "PI", type := .double, accessFlags := 25, slot := 1, constantValue := 0 }, { name := "TAU", type := .double, accessFlags := 25, slot := 2, constantValue := 0 }, { name := "DEGREES_TO_RADIANS", type := .double, accessFlags := 26, slot := 3, constantValue := 0 }, { name := "RADIANS_TO_DEGREES", type := .double, accessFlags := 26, slot := 4, constantValue := 0 }, { name := "negativeZeroFloatBits", type := .long, accessFlags := 26, slot := 5, constantValue := 0 }, { name := "negativeZeroDoubleBits", type := .long, accessFlags := 26, slot := 6, constantValue := 0 }, { name := "twoToTheDoubleScaleUp", type := .double, accessFlags := 8, slot := 7, constantValue := 0 }, { name := "twoToTheDoubleScaleDown", type := .double, accessFlags := 8, slot := 8, constantValue := 0 }, { name := "$assertionsDisabled", type := .boolean, accessFlags := 4120, slot := 9, constantValue := 0 }]
  methods := #[k12m0, k12m1, k12m2, k12m3]
  instanceTypes := #[]
  staticTypes := #[.double, .double, .double, .double, .double, .long, .long, .double, .double, .boolean]
  resolved := Array.replicate 460 none
  statics := none }

def pool13 : Array CpInfo := pool [(2, .class_ 4), (1, u "java/lang/Object"), (0, u "<init>"), (0, u "()V"), (7, .class_ 16), (1, u "java/util/Arrays"), (57, .class_ 76), (1, u "java/util/Arrays$NaturalOrder"), (36, .class_ 115), (1, u "java/util/Arrays$LegacyMergeSort"), (1, u "Z"), (32, .methodref 151 152), (0, .class_ 153), (0, .nameAndType 154 155), (0, u "java/lang/System"), (0, u "arraycopy"), (0, u "(Ljava/lang/Object;ILjava/lang/Object;II)V"), (146, u "copyOf"), (1, .methodref 305 306), (0, .class_ 307), (0, .nameAndType 308 309), (0, u "java/lang/Math"), (0, u "min"), (0, u "(II)I"), (65, .class_ 376), (0, u "java/util/Arrays$ArrayList"), (68, u "$assertionsDisabled"), (269, u "MIN_ARRAY_SORT_GRAN"), (0, u "I"), (2, u "INSERTIONSORT_THRESHOLD"), (153, u "([CI)[C"), (101, .class_ 976), (0, u "java/util/Arrays$ArrayItr")] 52

def k13m0 : Method := { name := "<init>", desc := "()V", sig := { parameters := [], returnType := none }, accessFlags := 2, code := none }
def k13c1 : Code := { maxStack := 6, maxLocals := 3, code := jdk_65_method_125_code, exceptionTable := #[], attributes := #[] }
def k13m1 : Method := { name := "copyOf", desc := "([CI)[C", sig := { parameters := [(.array .char), .int], returnType := some (.array .char) }, accessFlags := 9, code := some k13c1 }
/-- java/util/Arrays -/
def k13 : Class := { plain "java/util/Arrays" (some 0) with
  accessFlags := 49
  interfaces := #[]
  cf := some (fileOf pool13 14 #[.nestMembers #[975, 375, 113, 74]] #[{ accessFlags := 2, nameIndex := 5, descriptorIndex := 6, attributes := #[] }, { accessFlags := 9, nameIndex := 302, descriptorIndex := 873, attributes := #[] }] 49 2 #[] #[{ accessFlags := 26, nameIndex := 715, descriptorIndex := 716, attributes := #[] }, { accessFlags := 26, nameIndex := 719, descriptorIndex := 716, attributes := #[] }, { accessFlags := 4120, nameIndex := 445, descriptorIndex := 117, attributes := #[] }])
  fields := #[{ name := "MIN_ARRAY_SORT_GRAN", type := .int, accessFlags := 26, slot := 0, constantValue := 0 }, { name := "INSERTIONSORT_THRESHOLD", type := .int, accessFlags := 26, slot := 1, constantValue := 0 }, { name := "$assertionsDisabled", type := .boolean, accessFlags := 4120, slot := 2, constantValue := 0 }]
  methods := #[k13m0, k13m1]
  instanceTypes := #[]
  staticTypes := #[.int, .int, .boolean]
  resolved := Array.replicate 1029 none
  statics := none }

def pool14 : Array CpInfo := pool [(2, .class_ 4), (1, u "java/lang/Object"), (0, u "<init>"), (0, u "()V"), (1, .class_ 10), (1, u "java/lang/System"), (0, u "allowSecurityManager"), (0, u "I"), (16, u "cons"), (0, u "Ljava/io/Console;"), (77, .class_ 110), (1, u "java/lang/System$CallersHolder"), (43, u "initialErrStream"), (0, u "Ljava/io/PrintStream;"), (19, u "security"), (0, u "Ljava/lang/SecurityManager;"), (31, .class_ 209), (0, u "java/lang/System$1"), (7, u "props"), (0, u "Ljava/util/Properties;"), (2, u "lineSeparator"), (0, u "Ljava/lang/String;"), (96, .class_ 321), (1, u "java/lang/System$LoggerFinder"), (5, .class_ 328), (0, u "java/lang/System$Logger"), (67, u "err"), (2, u "out"), (91, u "notSupportedJnuEncoding"), (15, u "in"), (17, u "initialIn"), (0, u "Ljava/io/InputStream;"), (35, u "bootLayer"), (0, u "Ljava/lang/ModuleLayer;"), (99, .class_ 664), (0, u "java/lang/System$2"), (9, u "NEVER"), (2, u "MAYBE"), (49, u "arraycopy"), (0, u "(Ljava/lang/Object;ILjava/lang/Object;II)V"), (72, .class_ 802), (0, u "java/lang/System$Logger$Level")] 31

def k14m0 : Method := { name := "<init>", desc := "()V", sig := { parameters := [], returnType := none }, accessFlags := 2, code := none }
def k14m1 : Method := { name := "arraycopy", desc := "(Ljava/lang/Object;ILjava/lang/Object;II)V", sig := { parameters := [(.object "java/lang/Object"), .int, (.object "java/lang/Object"), .int, .int], returnType := none }, accessFlags := 265, code := none }
/-- java/lang/System -/
def k14 : Class := { plain "java/lang/System" (some 0) with
  accessFlags := 49
  interfaces := #[]
  cf := some (fileOf pool14 8 #[.nestMembers #[319, 327, 801, 108, 663, 208]] #[{ accessFlags := 2, nameIndex := 5, descriptorIndex := 6, attributes := #[] }, { accessFlags := 265, nameIndex := 727, descriptorIndex := 728, attributes := #[] }] 49 2 #[] #[{ accessFlags := 25, nameIndex := 507, descriptorIndex := 526, attributes := #[] }, { accessFlags := 25, nameIndex := 399, descriptorIndex := 155, attributes := #[] }, { accessFlags := 25, nameIndex := 396, descriptorIndex := 155, attributes := #[] }, { accessFlags := 10, nameIndex := 525, descriptorIndex := 526, attributes := #[] }, { accessFlags := 26, nameIndex := 674, descriptorIndex := 12, attributes := #[] }, { accessFlags := 26, nameIndex := 677, descriptorIndex := 12, attributes := #[] }, { accessFlags := 10, nameIndex := 11, descriptorIndex := 12, attributes := #[] }, { accessFlags := 74, nameIndex := 175, descriptorIndex := 176, attributes := #[] }, { accessFlags := 10, nameIndex := 491, descriptorIndex := 222, attributes := #[] }, { accessFlags := 74, nameIndex := 29, descriptorIndex := 30, attributes := #[] }, { accessFlags := 74, nameIndex := 154, descriptorIndex := 155, attributes := #[] }, { accessFlags := 10, nameIndex := 217, descriptorIndex := 218, attributes := #[] }, { accessFlags := 10, nameIndex := 221, descriptorIndex := 222, attributes := #[] }, { accessFlags := 8, nameIndex := 562, descriptorIndex := 563, attributes := #[] }])
  fields := #[{ name := "in", type := (.object "java/io/InputStream"), accessFlags := 25, slot := 0, constantValue := 0 }, { name := "out", type := (.object "java/io/PrintStream"), accessFlags := 25, slot := 1, constantValue := 0 }, { name := "err", type := (.object "java/io/PrintStream"), accessFlags := 25, slot := 2, constantValue := 0 }, { name := "initialIn", type := (.object "java/io/InputStream"), accessFlags := 10, slot := 3, constantValue := 0 }, { name := "NEVER", type := .int, accessFlags := 26, slot := 4, constantValue := 0 }, { name := "MAYBE", type := .int, accessFlags := 26, slot := 5, constantValue := 0 }, { name := "allowSecurityManager", type := .int, accessFlags := 10, slot := 6, constantValue := 0 }, { name := "security", type := (.object "java/lang/SecurityManager"), accessFlags := 74, slot := 7, constantValue := 0 }, { name := "notSupportedJnuEncoding", type := (.object "java/lang/String"), accessFlags := 10, slot := 8, constantValue := 0 }, { name := "cons", type := (.object "java/io/Console"), accessFlags := 74, slot := 9, constantValue := 0 }, { name := "initialErrStream", type := (.object "java/io/PrintStream"), accessFlags := 74, slot := 10, constantValue := 0 }, { name := "props", type := (.object "java/util/Properties"), accessFlags := 10, slot := 11, constantValue := 0 }, { name := "lineSeparator", type := (.object "java/lang/String"), accessFlags := 10, slot := 12, constantValue := 0 }, { name := "bootLayer", type := (.object "java/lang/ModuleLayer"), accessFlags := 8, slot := 13, constantValue := 0 }]
  methods := #[k14m0, k14m1]
  instanceTypes := #[]
  staticTypes := #[(.object "java/io/InputStream"), (.object "java/io/PrintStream"), (.object "java/io/PrintStream"), (.object "java/io/InputStream"), .int, .int, .int, (.object "java/lang/SecurityManager"), (.object "java/lang/String"), (.object "java/io/Console"), (.object "java/io/PrintStream"), (.object "java/util/Properties"), (.object "java/lang/String"), (.object "java/lang/ModuleLayer")]
  resolved := Array.replicate 834 none
  statics := none }

def pool15 : Array CpInfo := pool [(9, u "<init>"), (6, .class_ 18), (1, u "java/lang/Object"), (0, u "()V"), (1, .class_ 23), (1, u "jdk/internal/util/ArraysSupport"), (0, u "LOG2_ARRAY_LONG_INDEX_SCALE"), (0, u "I"), (2, u "U"), (0, u "Ljdk/internal/misc/Unsafe;"), (8, u "BIG_ENDIAN"), (0, u "Z"), (8, u "LOG2_BYTE_BIT_SIZE"), (4, u "LOG2_ARRAY_INT_INDEX_SCALE"), (54, u "JLA"), (0, u "Ljdk/internal/access/JavaLangAccess;"), (11, u "LOG2_ARRAY_BOOLEAN_INDEX_SCALE"), (9, u "LOG2_ARRAY_BYTE_INDEX_SCALE"), (5, u "LOG2_ARRAY_CHAR_INDEX_SCALE"), (5, u "LOG2_ARRAY_SHORT_INDEX_SCALE"), (18, u "LOG2_ARRAY_FLOAT_INDEX_SCALE"), (24, u "LOG2_ARRAY_DOUBLE_INDEX_SCALE"), (89, u "T_BOOLEAN"), (2, u "T_CHAR"), (1, u "T_FLOAT"), (1, u "T_DOUBLE"), (1, u "T_BYTE"), (1, u "T_SHORT"), (1, u "T_INT"), (1, u "T_LONG"), (1, u "SOFT_MAX_ARRAY_LENGTH")] 83

def k15m0 : Method := { name := "<init>", desc := "()V", sig := { parameters := [], returnType := none }, accessFlags := 2, code := none }
/-- jdk/internal/util/ArraysSupport -/
def k15 : Class := { plain "jdk/internal/util/ArraysSupport" (some 0) with
  accessFlags := 33
  interfaces := #[]
  cf := some (fileOf pool15 21 #[] #[{ accessFlags := 2, nameIndex := 9, descriptorIndex := 19, attributes := #[] }] 33 16 #[] #[{ accessFlags := 24, nameIndex := 28, descriptorIndex := 29, attributes := #[] }, { accessFlags := 26, nameIndex := 38, descriptorIndex := 39, attributes := #[] }, { accessFlags := 25, nameIndex := 121, descriptorIndex := 25, attributes := #[] }, { accessFlags := 25, nameIndex := 131, descriptorIndex := 25, attributes := #[] }, { accessFlags := 25, nameIndex := 137, descriptorIndex := 25, attributes := #[] }, { accessFlags := 25, nameIndex := 143, descriptorIndex := 25, attributes := #[] }, { accessFlags := 25, nameIndex := 53, descriptorIndex := 25, attributes := #[] }, { accessFlags := 25, nameIndex := 24, descriptorIndex := 25, attributes := #[] }, { accessFlags := 25, nameIndex := 162, descriptorIndex := 25, attributes := #[] }, { accessFlags := 25, nameIndex := 187, descriptorIndex := 25, attributes := #[] }, { accessFlags := 26, nameIndex := 48, descriptorIndex := 25, attributes := #[] }, { accessFlags := 25, nameIndex := 277, descriptorIndex := 25, attributes := #[] }, { accessFlags := 25, nameIndex := 280, descriptorIndex := 25, attributes := #[] }, { accessFlags := 25, nameIndex := 282, descriptorIndex := 25, attributes := #[] }, { accessFlags := 25, nameIndex := 284, descriptorIndex := 25, attributes := #[] }, { accessFlags := 25, nameIndex := 286, descriptorIndex := 25, attributes := #[] }, { accessFlags := 25, nameIndex := 288, descriptorIndex := 25, attributes := #[] }, { accessFlags := 25, nameIndex := 290, descriptorIndex := 25, attributes := #[] }, { accessFlags := 25, nameIndex := 292, descriptorIndex := 25, attributes := #[] }, { accessFlags := 26, nameIndex := 108, descriptorIndex := 109, attributes := #[] }, { accessFlags := 25, nameIndex := 294, descriptorIndex := 25, attributes := #[] }])
  fields := #[{ name := "U", type := (.object "jdk/internal/misc/Unsafe"), accessFlags := 24, slot := 0, constantValue := 0 }, { name := "BIG_ENDIAN", type := .boolean, accessFlags := 26, slot := 1, constantValue := 0 }, { name := "LOG2_ARRAY_BOOLEAN_INDEX_SCALE", type := .int, accessFlags := 25, slot := 2, constantValue := 0 }, { name := "LOG2_ARRAY_BYTE_INDEX_SCALE", type := .int, accessFlags := 25, slot := 3, constantValue := 0 }, { name := "LOG2_ARRAY_CHAR_INDEX_SCALE", type := .int, accessFlags := 25, slot := 4, constantValue := 0 }, { name := "LOG2_ARRAY_SHORT_INDEX_SCALE", type := .int, accessFlags := 25, slot := 5, constantValue := 0 }, { name := "LOG2_ARRAY_INT_INDEX_SCALE", type := .int, accessFlags := 25, slot := 6, constantValue := 0 }, { name := "LOG2_ARRAY_LONG_INDEX_SCALE", type := .int, accessFlags := 25, slot := 7, constantValue := 0 }, { name := "LOG2_ARRAY_FLOAT_INDEX_SCALE", type := .int, accessFlags := 25, slot := 8, constantValue := 0 }, { name := "LOG2_ARRAY_DOUBLE_INDEX_SCALE", type := .int, accessFlags := 25, slot := 9, constantValue := 0 }, { name := "LOG2_BYTE_BIT_SIZE", type := .int, accessFlags := 26, slot := 10, constantValue := 0 }, { name := "T_BOOLEAN", type := .int, accessFlags := 25, slot := 11, constantValue := 0 }, { name := "T_CHAR", type := .int, accessFlags := 25, slot := 12, constantValue := 0 }, { name := "T_FLOAT", type := .int, accessFlags := 25, slot := 13, constantValue := 0 }, { name := "T_DOUBLE", type := .int, accessFlags := 25, slot := 14, constantValue := 0 }, { name := "T_BYTE", type := .int, accessFlags := 25, slot := 15, constantValue := 0 }, { name := "T_SHORT", type := .int, accessFlags := 25, slot := 16, constantValue := 0 }, { name := "T_INT", type := .int, accessFlags := 25, slot := 17, constantValue := 0 }, { name := "T_LONG", type := .int, accessFlags := 25, slot := 18, constantValue := 0 }, { name := "JLA", type := (.object "jdk/internal/access/JavaLangAccess"), accessFlags := 26, slot := 19, constantValue := 0 }, { name := "SOFT_MAX_ARRAY_LENGTH", type := .int, accessFlags := 25, slot := 20, constantValue := 0 }]
  methods := #[k15m0]
  instanceTypes := #[]
  staticTypes := #[(.object "jdk/internal/misc/Unsafe"), .boolean, .int, .int, .int, .int, .int, .int, .int, .int, .int, .int, .int, .int, .int, .int, .int, .int, .int, (.object "jdk/internal/access/JavaLangAccess"), .int]
  resolved := Array.replicate 378 none
  statics := none }

def pool16 : Array CpInfo := pool [(1, u "java/lang/Cloneable"), (0, .class_ 1), (0, u "java/lang/Object"), (0, .class_ 3)] 3

/-- java/lang/Cloneable -/
def k16 : Class := { plain "java/lang/Cloneable" (some 0) with
  accessFlags := 1537
  interfaces := #[]
  cf := some (fileOf pool16 2 #[] #[] 1537 4 #[] #[])
  fields := #[]
  methods := #[]
  instanceTypes := #[]
  staticTypes := #[]
  resolved := Array.replicate 8 none
  statics := none }

/-- the primitive byte -/
def k17 : Class := { plain "byte" none with kind := .primitive 'B', accessFlags := 0x411 }
/-- [B -/
def k18 : Class := { plain "[B" (some 0) with kind := .array 17 .byte, interfaces := #[16, 2], accessFlags := 1041 }

/-- the primitive char -/
def k19 : Class := { plain "char" none with kind := .primitive 'C', accessFlags := 0x411 }
/-- [C -/
def k20 : Class := { plain "[C" (some 0) with kind := .array 19 .char, interfaces := #[16, 2], accessFlags := 1041 }

/-- the primitive int -/
def k21 : Class := { plain "int" none with kind := .primitive 'I', accessFlags := 0x411 }
/-- [I -/
def k22 : Class := { plain "[I" (some 0) with kind := .array 21 .int, interfaces := #[16, 2], accessFlags := 1041 }

def heap : Heap := #[{ cls := 7, slots := #[.long 0, .int 1, .null, .int 0, .null, .int 0, .int 0], vm := .statics 7 },
  { cls := 8, slots := #[.int 0, .int 8, .int 0, .int 1], vm := .statics 8 },
  { cls := 10, slots := #[.null, .null, .null], vm := .statics 10 }]
def classes : Array Class := #[k0, k1, k2, k3, k4, k5, k6, k7, k8, k9, k10, k11, k12, k13, k14, k15, k16, k17, k18, k19, k20, k21, k22]
def interned : List (Array UInt16 × Addr) := []
def slotsUsed : Nat := 14
def theMethod : MethodId := ⟨1, 1⟩
def args0 : Array Value := #[.int 5, .int 6, .int 7, .int 2, .int 3]
def aboutOver (below : List Frame) : State where
  vm := { classes := classes, interned := interned.toArray }
  heap := heap
  slotsUsed := slotsUsed
  threads := #[{ frames := .invoking theMethod args0 :: below }]
def below0 : List Frame := [.native { method := ⟨0, 0⟩, args := #[] }]
def about1 : State := aboutOver below0
def p0 : Program := .bare "" "" ""
def e0 : Env := launch0.env 0 0 0
theorem w_frames : about1.frames = Frame.invoking theMethod args0 :: below0 := rfl
set_option maxRecDepth 65536 in
theorem w_args : argsFit about1.vm theMethod args0 = true := by decide +kernel
set_option maxRecDepth 65536 in
theorem w_heap : heapFits about1 = true := by decide +kernel
set_option maxRecDepth 65536 in
theorem w_runnable : about1.curStatus? = some .runnable := by decide +kernel
set_option maxRecDepth 65536 in
theorem w_alone : about1.alone = true := by decide +kernel
set_option maxRecDepth 65536 in
theorem w_named : about1.methodNamed? x = some theMethod := by decide +kernel
set_option maxRecDepth 65536 in
theorem w_hears : about1.hears theMethod below0 = true := by decide +kernel
set_option maxRecDepth 65536 in
theorem w_ripe : about1.ripe theMethod args0 below0 = true := by decide +kernel
theorem w_running : about1.status = .running := rfl
set_option maxRecDepth 65536 in
theorem w_room : about1.hasRoom e0.platform room_1 = true :=
  launch0.hasRoom_least _ room_1 (by decide +kernel) (by decide +kernel) (by decide +kernel) (by decide +kernel) (by decide +kernel) (by decide +kernel)
theorem allAtoms_all (ts : List Jvm.Cond) (a : Array Jvm.Value) (st : Jvm.State) : (allAtoms ts).before a st = ts.all (fun c => c.before a st) := by
  induction ts with
  | nil => rfl
  | cons c t ih =>
    show (Jvm.Cond.and c (allAtoms t)).before a st = _
    rw [Jvm.Cond.before_and, ih, List.all_cons]
def words1 : List Jvm.Cond := Jvm.Cond.code x code maxLocals ret :: tables_1
/-- a 'code' word, met by the world's own term for the bytes: nothing is compared byte by byte -/
theorem code_word {y : MethodName} {bytes : ByteArray} {mx : Nat} {rt : Option FieldType} {a : Array Value} {s : State} {m : MethodId} {meth : Method} {c : Code} (h1 : s.methodNamed? y = some m) (h2 : s.vm.method? m = some meth) (h3 : meth.code = some c) (h4 : c.code = bytes)
    (h5 : (c.maxLocals == mx && c.exceptionTable.isEmpty && decide (c.maxStack ≤ mostOperands) && decide (meth.sig.returnType = rt) && !meth.locks && decide (parseMethodDescriptor y.desc = some meth.sig)) = true) : (Jvm.Cond.code y bytes mx rt).before a s = true := by
  simp only [Bool.and_eq_true, beq_iff_eq, Bool.not_eq_true', decide_eq_true_eq] at h5
  obtain ⟨⟨⟨⟨⟨g1, g2⟩, g3⟩, g4⟩, g5⟩, g6⟩ := h5
  simp [Cond.before, Cond.holds, Cond.value, h1, h2, h3, h4, g1, g2, g3, g4, g5, g6]
def isCode : Jvm.Cond → Bool
  | .code _ _ _ _ => true
  | _ => false
theorem all_split {L : List Jvm.Cond} {P : Jvm.Cond → Bool} (h1 : L.all (fun c => isCode c || P c) = true) (h2 : ∀ c ∈ L.filter isCode, P c = true) : L.all P = true := by
  refine List.all_eq_true.mpr fun c hc => ?_
  have h := List.all_eq_true.mp h1 c hc
  rcases Bool.eq_false_or_eq_true (isCode c) with hi | hi
  · exact h2 c (List.mem_filter.mpr ⟨hc, hi⟩)
  · simpa [hi] using h
set_option maxRecDepth 65536 in
theorem w_c0 : (Jvm.Cond.code x code maxLocals ret).before args0 about1 = true := code_word (m := ⟨1, 1⟩) (meth := k1m1) (c := k1c1) (by decide +kernel) rfl rfl rfl (by decide +kernel)
set_option maxRecDepth 65536 in
theorem w_c1 : (Jvm.Cond.code ({ cls := "java/lang/String", name := "<init>", desc := "([C)V" } : Jvm.MethodName) jdk_42_method_3_code (2 : Nat) (Option.none : Option Jvm.ClassFile.FieldType)).before args0 about1 = true := code_word (m := ⟨7, 1⟩) (meth := k7m1) (c := k7c1) (by decide +kernel) rfl rfl rfl (by decide +kernel)
set_option maxRecDepth 65536 in
theorem w_c2 : (Jvm.Cond.code ({ cls := "java/lang/String", name := "<init>", desc := "([CIILjava/lang/Void;)V" } : Jvm.MethodName) jdk_42_method_149_code (6 : Nat) (Option.none : Option Jvm.ClassFile.FieldType)).before args0 about1 = true := code_word (m := ⟨7, 7⟩) (meth := k7m7) (c := k7c7) (by decide +kernel) rfl rfl rfl (by decide +kernel)
set_option maxRecDepth 65536 in
theorem w_c3 : (Jvm.Cond.code ({ cls := "java/lang/Object", name := "<init>", desc := "()V" } : Jvm.MethodName) object_method_1_code (1 : Nat) (Option.none : Option Jvm.ClassFile.FieldType)).before args0 about1 = true := code_word (m := ⟨0, 0⟩) (meth := k0m0) (c := k0c0) (by decide +kernel) rfl rfl rfl (by decide +kernel)
set_option maxRecDepth 65536 in
theorem w_c4 : (Jvm.Cond.code ({ cls := "java/lang/StringUTF16", name := "compress", desc := "([CII)[B" } : Jvm.MethodName) jdk_52_method_16_code (6 : Nat) (Option.some (Jvm.ClassFile.FieldType.array Jvm.ClassFile.FieldType.byte))).before args0 about1 = true := code_word (m := ⟨8, 8⟩) (meth := k8m8) (c := k8c8) (by decide +kernel) rfl rfl rfl (by decide +kernel)
set_option maxRecDepth 65536 in
theorem w_c5 : (Jvm.Cond.code ({ cls := "java/lang/StringUTF16", name := "compress", desc := "([CI[BII)I" } : Jvm.MethodName) jdk_52_method_21_code (7 : Nat) (Option.some Jvm.ClassFile.FieldType.int)).before args0 about1 = true := code_word (m := ⟨8, 9⟩) (meth := k8m9) (c := k8c9) (by decide +kernel) rfl rfl rfl (by decide +kernel)
set_option maxRecDepth 65536 in
theorem w_c6 : (Jvm.Cond.code ({ cls := "java/lang/StringUTF16", name := "coderFromArrayLen", desc := "([BI)B" } : Jvm.MethodName) jdk_52_method_15_code (2 : Nat) (Option.some Jvm.ClassFile.FieldType.byte)).before args0 about1 = true := code_word (m := ⟨8, 7⟩) (meth := k8m7) (c := k8c7) (by decide +kernel) rfl rfl rfl (by decide +kernel)
set_option maxRecDepth 65536 in
theorem w_c7 : (Jvm.Cond.code ({ cls := "com/example/beleg/beleg/JsonOutput", name := "<init>", desc := "()V" } : Jvm.MethodName) prog_11_method_1_code (1 : Nat) (Option.none : Option Jvm.ClassFile.FieldType)).before args0 about1 = true := code_word (m := ⟨9, 0⟩) (meth := k9m0) (c := k9c0) (by decide +kernel) rfl rfl rfl (by decide +kernel)
set_option maxRecDepth 65536 in
theorem w_c8 : (Jvm.Cond.code ({ cls := "com/example/beleg/beleg/JsonOutput", name := "<init>", desc := "([C)V" } : Jvm.MethodName) prog_11_method_2_code (2 : Nat) (Option.none : Option Jvm.ClassFile.FieldType)).before args0 about1 = true := code_word (m := ⟨9, 1⟩) (meth := k9m1) (c := k9c1) (by decide +kernel) rfl rfl rfl (by decide +kernel)
set_option maxRecDepth 65536 in
theorem w_c9 : (Jvm.Cond.code ({ cls := "com/example/beleg/beleg/JsonOutput", name := "append", desc := "(Ljava/lang/String;II)Lcom/example/beleg/beleg/JsonOutput;" } : Jvm.MethodName) prog_11_method_7_code (4 : Nat) (Option.some (Jvm.ClassFile.FieldType.object "com/example/beleg/beleg/JsonOutput"))).before args0 about1 = true := code_word (m := ⟨9, 3⟩) (meth := k9m3) (c := k9c3) (by decide +kernel) rfl rfl rfl (by decide +kernel)
set_option maxRecDepth 65536 in
theorem w_c10 : (Jvm.Cond.code ({ cls := "com/example/beleg/beleg/JsonOutput", name := "ensureRoom", desc := "(I)V" } : Jvm.MethodName) prog_11_method_14_code (4 : Nat) (Option.none : Option Jvm.ClassFile.FieldType)).before args0 about1 = true := code_word (m := ⟨9, 6⟩) (meth := k9m6) (c := k9c6) (by decide +kernel) rfl rfl rfl (by decide +kernel)
set_option maxRecDepth 65536 in
theorem w_c11 : (Jvm.Cond.code ({ cls := "java/lang/String", name := "getChars", desc := "(II[CI)V" } : Jvm.MethodName) jdk_42_method_61_code (5 : Nat) (Option.none : Option Jvm.ClassFile.FieldType)).before args0 about1 = true := code_word (m := ⟨7, 6⟩) (meth := k7m6) (c := k7c6) (by decide +kernel) rfl rfl rfl (by decide +kernel)
set_option maxRecDepth 65536 in
theorem w_c12 : (Jvm.Cond.code ({ cls := "java/lang/String", name := "length", desc := "()I" } : Jvm.MethodName) jdk_42_method_54_code (1 : Nat) (Option.some Jvm.ClassFile.FieldType.int)).before args0 about1 = true := code_word (m := ⟨7, 4⟩) (meth := k7m4) (c := k7c4) (by decide +kernel) rfl rfl rfl (by decide +kernel)
set_option maxRecDepth 65536 in
theorem w_c13 : (Jvm.Cond.code ({ cls := "java/lang/String", name := "coder", desc := "()B" } : Jvm.MethodName) jdk_42_method_152_code (1 : Nat) (Option.some Jvm.ClassFile.FieldType.byte)).before args0 about1 = true := code_word (m := ⟨7, 8⟩) (meth := k7m8) (c := k7c8) (by decide +kernel) rfl rfl rfl (by decide +kernel)
set_option maxRecDepth 65536 in
theorem w_c14 : (Jvm.Cond.code ({ cls := "java/lang/String", name := "checkBoundsBeginEnd", desc := "(III)V" } : Jvm.MethodName) jdk_42_method_158_code (3 : Nat) (Option.none : Option Jvm.ClassFile.FieldType)).before args0 about1 = true := code_word (m := ⟨7, 12⟩) (meth := k7m12) (c := k7c12) (by decide +kernel) rfl rfl rfl (by decide +kernel)
set_option maxRecDepth 65536 in
theorem w_c15 : (Jvm.Cond.code ({ cls := "jdk/internal/util/Preconditions", name := "checkFromToIndex", desc := "(IIILjava/util/function/BiFunction;)I" } : Jvm.MethodName) jdk_41_method_12_code (4 : Nat) (Option.some Jvm.ClassFile.FieldType.int)).before args0 about1 = true := code_word (m := ⟨10, 2⟩) (meth := k10m2) (c := k10c2) (by decide +kernel) rfl rfl rfl (by decide +kernel)
set_option maxRecDepth 65536 in
theorem w_c16 : (Jvm.Cond.code ({ cls := "java/lang/String", name := "checkBoundsOffCount", desc := "(III)I" } : Jvm.MethodName) jdk_42_method_157_code (3 : Nat) (Option.some Jvm.ClassFile.FieldType.int)).before args0 about1 = true := code_word (m := ⟨7, 11⟩) (meth := k7m11) (c := k7c11) (by decide +kernel) rfl rfl rfl (by decide +kernel)
set_option maxRecDepth 65536 in
theorem w_c17 : (Jvm.Cond.code ({ cls := "jdk/internal/util/Preconditions", name := "checkFromIndexSize", desc := "(IIILjava/util/function/BiFunction;)I" } : Jvm.MethodName) jdk_41_method_13_code (4 : Nat) (Option.some Jvm.ClassFile.FieldType.int)).before args0 about1 = true := code_word (m := ⟨10, 3⟩) (meth := k10m3) (c := k10c3) (by decide +kernel) rfl rfl rfl (by decide +kernel)
set_option maxRecDepth 65536 in
theorem w_c18 : (Jvm.Cond.code ({ cls := "java/lang/String", name := "isLatin1", desc := "()Z" } : Jvm.MethodName) jdk_42_method_154_code (1 : Nat) (Option.some Jvm.ClassFile.FieldType.boolean)).before args0 about1 = true := code_word (m := ⟨7, 9⟩) (meth := k7m9) (c := k7c9) (by decide +kernel) rfl rfl rfl (by decide +kernel)
set_option maxRecDepth 65536 in
theorem w_c19 : (Jvm.Cond.code ({ cls := "java/lang/StringLatin1", name := "getChars", desc := "([BII[CI)V" } : Jvm.MethodName) jdk_43_method_11_code (5 : Nat) (Option.none : Option Jvm.ClassFile.FieldType)).before args0 about1 = true := code_word (m := ⟨11, 2⟩) (meth := k11m2) (c := k11c2) (by decide +kernel) rfl rfl rfl (by decide +kernel)
set_option maxRecDepth 65536 in
theorem w_c20 : (Jvm.Cond.code ({ cls := "java/lang/StringLatin1", name := "inflate", desc := "([BI[CII)V" } : Jvm.MethodName) jdk_43_method_49_code (6 : Nat) (Option.none : Option Jvm.ClassFile.FieldType)).before args0 about1 = true := code_word (m := ⟨11, 3⟩) (meth := k11m3) (c := k11c3) (by decide +kernel) rfl rfl rfl (by decide +kernel)
set_option maxRecDepth 65536 in
theorem w_c21 : (Jvm.Cond.code ({ cls := "com/example/beleg/beleg/JsonOutput", name := "append", desc := "(C)Lcom/example/beleg/beleg/JsonOutput;" } : Jvm.MethodName) prog_11_method_5_code (2 : Nat) (Option.some (Jvm.ClassFile.FieldType.object "com/example/beleg/beleg/JsonOutput"))).before args0 about1 = true := code_word (m := ⟨9, 2⟩) (meth := k9m2) (c := k9c2) (by decide +kernel) rfl rfl rfl (by decide +kernel)
set_option maxRecDepth 65536 in
theorem w_c22 : (Jvm.Cond.code ({ cls := "com/example/beleg/beleg/JsonOutput", name := "length", desc := "()I" } : Jvm.MethodName) prog_11_method_9_code (1 : Nat) (Option.some Jvm.ClassFile.FieldType.int)).before args0 about1 = true := code_word (m := ⟨9, 4⟩) (meth := k9m4) (c := k9c4) (by decide +kernel) rfl rfl rfl (by decide +kernel)
set_option maxRecDepth 65536 in
theorem w_c23 : (Jvm.Cond.code ({ cls := "com/example/beleg/beleg/JsonOutput", name := "toString", desc := "()Ljava/lang/String;" } : Jvm.MethodName) prog_11_method_13_code (1 : Nat) (Option.some (Jvm.ClassFile.FieldType.object "java/lang/String"))).before args0 about1 = true := code_word (m := ⟨9, 5⟩) (meth := k9m5) (c := k9c5) (by decide +kernel) rfl rfl rfl (by decide +kernel)
set_option maxRecDepth 65536 in
theorem w_c24 : (Jvm.Cond.code ({ cls := "java/lang/String", name := "<init>", desc := "([CII)V" } : Jvm.MethodName) jdk_42_method_4_code (4 : Nat) (Option.none : Option Jvm.ClassFile.FieldType)).before args0 about1 = true := code_word (m := ⟨7, 2⟩) (meth := k7m2) (c := k7c2) (by decide +kernel) rfl rfl rfl (by decide +kernel)
set_option maxRecDepth 65536 in
theorem w_c25 : (Jvm.Cond.code ({ cls := "java/lang/String", name := "rangeCheck", desc := "([CII)Ljava/lang/Void;" } : Jvm.MethodName) jdk_42_method_5_code (3 : Nat) (Option.some (Jvm.ClassFile.FieldType.object "java/lang/Void"))).before args0 about1 = true := code_word (m := ⟨7, 3⟩) (meth := k7m3) (c := k7c3) (by decide +kernel) rfl rfl rfl (by decide +kernel)
set_option maxRecDepth 65536 in
theorem w_c26 : (Jvm.Cond.code ({ cls := "java/lang/String", name := "charAt", desc := "(I)C" } : Jvm.MethodName) jdk_42_method_56_code (2 : Nat) (Option.some Jvm.ClassFile.FieldType.char)).before args0 about1 = true := code_word (m := ⟨7, 5⟩) (meth := k7m5) (c := k7c5) (by decide +kernel) rfl rfl rfl (by decide +kernel)
set_option maxRecDepth 65536 in
theorem w_c27 : (Jvm.Cond.code ({ cls := "java/lang/StringLatin1", name := "charAt", desc := "([BI)C" } : Jvm.MethodName) jdk_43_method_2_code (2 : Nat) (Option.some Jvm.ClassFile.FieldType.char)).before args0 about1 = true := code_word (m := ⟨11, 1⟩) (meth := k11m1) (c := k11c1) (by decide +kernel) rfl rfl rfl (by decide +kernel)
set_option maxRecDepth 65536 in
theorem w_c28 : (Jvm.Cond.code ({ cls := "java/lang/String", name := "checkIndex", desc := "(II)V" } : Jvm.MethodName) jdk_42_method_155_code (2 : Nat) (Option.none : Option Jvm.ClassFile.FieldType)).before args0 about1 = true := code_word (m := ⟨7, 10⟩) (meth := k7m10) (c := k7c10) (by decide +kernel) rfl rfl rfl (by decide +kernel)
set_option maxRecDepth 65536 in
theorem w_c29 : (Jvm.Cond.code ({ cls := "jdk/internal/util/Preconditions", name := "checkIndex", desc := "(IILjava/util/function/BiFunction;)I" } : Jvm.MethodName) jdk_41_method_11_code (3 : Nat) (Option.some Jvm.ClassFile.FieldType.int)).before args0 about1 = true := code_word (m := ⟨10, 1⟩) (meth := k10m1) (c := k10c1) (by decide +kernel) rfl rfl rfl (by decide +kernel)
set_option maxRecDepth 65536 in
theorem w_c30 : (Jvm.Cond.code ({ cls := "java/lang/StringUTF16", name := "toBytes", desc := "([CII)[B" } : Jvm.MethodName) jdk_52_method_14_code (5 : Nat) (Option.some (Jvm.ClassFile.FieldType.array Jvm.ClassFile.FieldType.byte))).before args0 about1 = true := code_word (m := ⟨8, 6⟩) (meth := k8m6) (c := k8c6) (by decide +kernel) rfl rfl rfl (by decide +kernel)
set_option maxRecDepth 65536 in
theorem w_c31 : (Jvm.Cond.code ({ cls := "java/lang/StringUTF16", name := "newBytesFor", desc := "(I)[B" } : Jvm.MethodName) jdk_52_method_2_code (1 : Nat) (Option.some (Jvm.ClassFile.FieldType.array Jvm.ClassFile.FieldType.byte))).before args0 about1 = true := code_word (m := ⟨8, 1⟩) (meth := k8m1) (c := k8c1) (by decide +kernel) rfl rfl rfl (by decide +kernel)
set_option maxRecDepth 65536 in
theorem w_c32 : (Jvm.Cond.code ({ cls := "java/lang/StringUTF16", name := "newBytesLength", desc := "(I)I" } : Jvm.MethodName) jdk_52_method_3_code (1 : Nat) (Option.some Jvm.ClassFile.FieldType.int)).before args0 about1 = true := code_word (m := ⟨8, 2⟩) (meth := k8m2) (c := k8c2) (by decide +kernel) rfl rfl rfl (by decide +kernel)
set_option maxRecDepth 65536 in
theorem w_c33 : (Jvm.Cond.code ({ cls := "java/lang/StringUTF16", name := "putChar", desc := "([BII)V" } : Jvm.MethodName) jdk_52_method_4_code (3 : Nat) (Option.none : Option Jvm.ClassFile.FieldType)).before args0 about1 = true := code_word (m := ⟨8, 3⟩) (meth := k8m3) (c := k8c3) (by decide +kernel) rfl rfl rfl (by decide +kernel)
set_option maxRecDepth 65536 in
theorem w_c34 : (Jvm.Cond.code ({ cls := "java/lang/StringUTF16", name := "getChar", desc := "([BI)C" } : Jvm.MethodName) jdk_52_method_5_code (2 : Nat) (Option.some Jvm.ClassFile.FieldType.char)).before args0 about1 = true := code_word (m := ⟨8, 4⟩) (meth := k8m4) (c := k8c4) (by decide +kernel) rfl rfl rfl (by decide +kernel)
set_option maxRecDepth 65536 in
theorem w_c35 : (Jvm.Cond.code ({ cls := "java/lang/StringUTF16", name := "getChars", desc := "([BII[CI)V" } : Jvm.MethodName) jdk_52_method_26_code (6 : Nat) (Option.none : Option Jvm.ClassFile.FieldType)).before args0 about1 = true := code_word (m := ⟨8, 10⟩) (meth := k8m10) (c := k8c10) (by decide +kernel) rfl rfl rfl (by decide +kernel)
set_option maxRecDepth 65536 in
theorem w_c36 : (Jvm.Cond.code ({ cls := "java/lang/StringUTF16", name := "checkBoundsOffCount", desc := "(II[B)V" } : Jvm.MethodName) jdk_52_method_94_code (3 : Nat) (Option.none : Option Jvm.ClassFile.FieldType)).before args0 about1 = true := code_word (m := ⟨8, 13⟩) (meth := k8m13) (c := k8c13) (by decide +kernel) rfl rfl rfl (by decide +kernel)
set_option maxRecDepth 65536 in
theorem w_c37 : (Jvm.Cond.code ({ cls := "java/lang/StringUTF16", name := "length", desc := "([B)I" } : Jvm.MethodName) jdk_52_method_6_code (1 : Nat) (Option.some Jvm.ClassFile.FieldType.int)).before args0 about1 = true := code_word (m := ⟨8, 5⟩) (meth := k8m5) (c := k8c5) (by decide +kernel) rfl rfl rfl (by decide +kernel)
set_option maxRecDepth 65536 in
theorem w_c38 : (Jvm.Cond.code ({ cls := "java/lang/StringUTF16", name := "charAt", desc := "([BI)C" } : Jvm.MethodName) jdk_52_method_83_code (2 : Nat) (Option.some Jvm.ClassFile.FieldType.char)).before args0 about1 = true := code_word (m := ⟨8, 11⟩) (meth := k8m11) (c := k8c11) (by decide +kernel) rfl rfl rfl (by decide +kernel)
set_option maxRecDepth 65536 in
theorem w_c39 : (Jvm.Cond.code ({ cls := "java/lang/StringUTF16", name := "checkIndex", desc := "(I[B)V" } : Jvm.MethodName) jdk_52_method_91_code (2 : Nat) (Option.none : Option Jvm.ClassFile.FieldType)).before args0 about1 = true := code_word (m := ⟨8, 12⟩) (meth := k8m12) (c := k8c12) (by decide +kernel) rfl rfl rfl (by decide +kernel)
set_option maxRecDepth 65536 in
theorem w_c40 : (Jvm.Cond.code ({ cls := "java/lang/Math", name := "max", desc := "(JJ)J" } : Jvm.MethodName) jdk_29_method_66_code (4 : Nat) (Option.some Jvm.ClassFile.FieldType.long)).before args0 about1 = true := code_word (m := ⟨12, 1⟩) (meth := k12m1) (c := k12c1) (by decide +kernel) rfl rfl rfl (by decide +kernel)
set_option maxRecDepth 65536 in
theorem w_c41 : (Jvm.Cond.code ({ cls := "java/lang/Math", name := "min", desc := "(JJ)J" } : Jvm.MethodName) jdk_29_method_70_code (4 : Nat) (Option.some Jvm.ClassFile.FieldType.long)).before args0 about1 = true := code_word (m := ⟨12, 3⟩) (meth := k12m3) (c := k12c3) (by decide +kernel) rfl rfl rfl (by decide +kernel)
set_option maxRecDepth 65536 in
theorem w_c42 : (Jvm.Cond.code ({ cls := "java/util/Arrays", name := "copyOf", desc := "([CI)[C" } : Jvm.MethodName) jdk_65_method_125_code (3 : Nat) (Option.some (Jvm.ClassFile.FieldType.array Jvm.ClassFile.FieldType.char))).before args0 about1 = true := code_word (m := ⟨13, 1⟩) (meth := k13m1) (c := k13c1) (by decide +kernel) rfl rfl rfl (by decide +kernel)
set_option maxRecDepth 65536 in
theorem w_c43 : (Jvm.Cond.code ({ cls := "java/lang/Math", name := "min", desc := "(II)I" } : Jvm.MethodName) jdk_29_method_69_code (2 : Nat) (Option.some Jvm.ClassFile.FieldType.int)).before args0 about1 = true := code_word (m := ⟨12, 2⟩) (meth := k12m2) (c := k12c2) (by decide +kernel) rfl rfl rfl (by decide +kernel)
def codes1 : List Jvm.Cond := [Jvm.Cond.code x code maxLocals ret, Jvm.Cond.code ({ cls := "java/lang/String", name := "<init>", desc := "([C)V" } : Jvm.MethodName) jdk_42_method_3_code (2 : Nat) (Option.none : Option Jvm.ClassFile.FieldType), Jvm.Cond.code ({ cls := "java/lang/String", name := "<init>", desc := "([CIILjava/lang/Void;)V" } : Jvm.MethodName) jdk_42_method_149_code (6 : Nat) (Option.none : Option Jvm.ClassFile.FieldType), Jvm.Cond.code ({ cls := "java/lang/Object", name := "<init>", desc := "()V" } : Jvm.MethodName) object_method_1_code (1 : Nat) (Option.none : Option Jvm.ClassFile.FieldType), Jvm.Cond.code ({ cls := "java/lang/StringUTF16", name := "compress", desc := "([CII)[B" } : Jvm.MethodName) jdk_52_method_16_code (6 : Nat) (Option.some (Jvm.ClassFile.FieldType.array Jvm.ClassFile.FieldType.byte)), Jvm.Cond.code ({ cls := "java/lang/StringUTF16", name := "compress", desc := "([CI[BII)I" } : Jvm.MethodName) jdk_52_method_21_code (7 : Nat) (Option.some Jvm.ClassFile.FieldType.int), Jvm.Cond.code ({ cls := "java/lang/StringUTF16", name := "coderFromArrayLen", desc := "([BI)B" } : Jvm.MethodName) jdk_52_method_15_code (2 : Nat) (Option.some Jvm.ClassFile.FieldType.byte), Jvm.Cond.code ({ cls := "com/example/beleg/beleg/JsonOutput", name := "<init>", desc := "()V" } : Jvm.MethodName) prog_11_method_1_code (1 : Nat) (Option.none : Option Jvm.ClassFile.FieldType), Jvm.Cond.code ({ cls := "com/example/beleg/beleg/JsonOutput", name := "<init>", desc := "([C)V" } : Jvm.MethodName) prog_11_method_2_code (2 : Nat) (Option.none : Option Jvm.ClassFile.FieldType), Jvm.Cond.code ({ cls := "com/example/beleg/beleg/JsonOutput", name := "append", desc := "(Ljava/lang/String;II)Lcom/example/beleg/beleg/JsonOutput;" } : Jvm.MethodName) prog_11_method_7_code (4 : Nat) (Option.some (Jvm.ClassFile.FieldType.object "com/example/beleg/beleg/JsonOutput")), Jvm.Cond.code ({ cls := "com/example/beleg/beleg/JsonOutput", name := "ensureRoom", desc := "(I)V" } : Jvm.MethodName) prog_11_method_14_code (4 : Nat) (Option.none : Option Jvm.ClassFile.FieldType), Jvm.Cond.code ({ cls := "java/lang/String", name := "getChars", desc := "(II[CI)V" } : Jvm.MethodName) jdk_42_method_61_code (5 : Nat) (Option.none : Option Jvm.ClassFile.FieldType), Jvm.Cond.code ({ cls := "java/lang/String", name := "length", desc := "()I" } : Jvm.MethodName) jdk_42_method_54_code (1 : Nat) (Option.some Jvm.ClassFile.FieldType.int), Jvm.Cond.code ({ cls := "java/lang/String", name := "coder", desc := "()B" } : Jvm.MethodName) jdk_42_method_152_code (1 : Nat) (Option.some Jvm.ClassFile.FieldType.byte), Jvm.Cond.code ({ cls := "java/lang/String", name := "checkBoundsBeginEnd", desc := "(III)V" } : Jvm.MethodName) jdk_42_method_158_code (3 : Nat) (Option.none : Option Jvm.ClassFile.FieldType), Jvm.Cond.code ({ cls := "jdk/internal/util/Preconditions", name := "checkFromToIndex", desc := "(IIILjava/util/function/BiFunction;)I" } : Jvm.MethodName) jdk_41_method_12_code (4 : Nat) (Option.some Jvm.ClassFile.FieldType.int), Jvm.Cond.code ({ cls := "java/lang/String", name := "checkBoundsOffCount", desc := "(III)I" } : Jvm.MethodName) jdk_42_method_157_code (3 : Nat) (Option.some Jvm.ClassFile.FieldType.int), Jvm.Cond.code ({ cls := "jdk/internal/util/Preconditions", name := "checkFromIndexSize", desc := "(IIILjava/util/function/BiFunction;)I" } : Jvm.MethodName) jdk_41_method_13_code (4 : Nat) (Option.some Jvm.ClassFile.FieldType.int), Jvm.Cond.code ({ cls := "java/lang/String", name := "isLatin1", desc := "()Z" } : Jvm.MethodName) jdk_42_method_154_code (1 : Nat) (Option.some Jvm.ClassFile.FieldType.boolean), Jvm.Cond.code ({ cls := "java/lang/StringLatin1", name := "getChars", desc := "([BII[CI)V" } : Jvm.MethodName) jdk_43_method_11_code (5 : Nat) (Option.none : Option Jvm.ClassFile.FieldType), Jvm.Cond.code ({ cls := "java/lang/StringLatin1", name := "inflate", desc := "([BI[CII)V" } : Jvm.MethodName) jdk_43_method_49_code (6 : Nat) (Option.none : Option Jvm.ClassFile.FieldType), Jvm.Cond.code ({ cls := "com/example/beleg/beleg/JsonOutput", name := "append", desc := "(C)Lcom/example/beleg/beleg/JsonOutput;" } : Jvm.MethodName) prog_11_method_5_code (2 : Nat) (Option.some (Jvm.ClassFile.FieldType.object "com/example/beleg/beleg/JsonOutput")), Jvm.Cond.code ({ cls := "com/example/beleg/beleg/JsonOutput", name := "length", desc := "()I" } : Jvm.MethodName) prog_11_method_9_code (1 : Nat) (Option.some Jvm.ClassFile.FieldType.int), Jvm.Cond.code ({ cls := "com/example/beleg/beleg/JsonOutput", name := "toString", desc := "()Ljava/lang/String;" } : Jvm.MethodName) prog_11_method_13_code (1 : Nat) (Option.some (Jvm.ClassFile.FieldType.object "java/lang/String")), Jvm.Cond.code ({ cls := "java/lang/String", name := "<init>", desc := "([CII)V" } : Jvm.MethodName) jdk_42_method_4_code (4 : Nat) (Option.none : Option Jvm.ClassFile.FieldType), Jvm.Cond.code ({ cls := "java/lang/String", name := "rangeCheck", desc := "([CII)Ljava/lang/Void;" } : Jvm.MethodName) jdk_42_method_5_code (3 : Nat) (Option.some (Jvm.ClassFile.FieldType.object "java/lang/Void")), Jvm.Cond.code ({ cls := "java/lang/String", name := "charAt", desc := "(I)C" } : Jvm.MethodName) jdk_42_method_56_code (2 : Nat) (Option.some Jvm.ClassFile.FieldType.char), Jvm.Cond.code ({ cls := "java/lang/StringLatin1", name := "charAt", desc := "([BI)C" } : Jvm.MethodName) jdk_43_method_2_code (2 : Nat) (Option.some Jvm.ClassFile.FieldType.char), Jvm.Cond.code ({ cls := "java/lang/String", name := "checkIndex", desc := "(II)V" } : Jvm.MethodName) jdk_42_method_155_code (2 : Nat) (Option.none : Option Jvm.ClassFile.FieldType), Jvm.Cond.code ({ cls := "jdk/internal/util/Preconditions", name := "checkIndex", desc := "(IILjava/util/function/BiFunction;)I" } : Jvm.MethodName) jdk_41_method_11_code (3 : Nat) (Option.some Jvm.ClassFile.FieldType.int), Jvm.Cond.code ({ cls := "java/lang/StringUTF16", name := "toBytes", desc := "([CII)[B" } : Jvm.MethodName) jdk_52_method_14_code (5 : Nat) (Option.some (Jvm.ClassFile.FieldType.array Jvm.ClassFile.FieldType.byte)), Jvm.Cond.code ({ cls := "java/lang/StringUTF16", name := "newBytesFor", desc := "(I)[B" } : Jvm.MethodName) jdk_52_method_2_code (1 : Nat) (Option.some (Jvm.ClassFile.FieldType.array Jvm.ClassFile.FieldType.byte)), Jvm.Cond.code ({ cls := "java/lang/StringUTF16", name := "newBytesLength", desc := "(I)I" } : Jvm.MethodName) jdk_52_method_3_code (1 : Nat) (Option.some Jvm.ClassFile.FieldType.int), Jvm.Cond.code ({ cls := "java/lang/StringUTF16", name := "putChar", desc := "([BII)V" } : Jvm.MethodName) jdk_52_method_4_code (3 : Nat) (Option.none : Option Jvm.ClassFile.FieldType), Jvm.Cond.code ({ cls := "java/lang/StringUTF16", name := "getChar", desc := "([BI)C" } : Jvm.MethodName) jdk_52_method_5_code (2 : Nat) (Option.some Jvm.ClassFile.FieldType.char), Jvm.Cond.code ({ cls := "java/lang/StringUTF16", name := "getChars", desc := "([BII[CI)V" } : Jvm.MethodName) jdk_52_method_26_code (6 : Nat) (Option.none : Option Jvm.ClassFile.FieldType), Jvm.Cond.code ({ cls := "java/lang/StringUTF16", name := "checkBoundsOffCount", desc := "(II[B)V" } : Jvm.MethodName) jdk_52_method_94_code (3 : Nat) (Option.none : Option Jvm.ClassFile.FieldType), Jvm.Cond.code ({ cls := "java/lang/StringUTF16", name := "length", desc := "([B)I" } : Jvm.MethodName) jdk_52_method_6_code (1 : Nat) (Option.some Jvm.ClassFile.FieldType.int), Jvm.Cond.code ({ cls := "java/lang/StringUTF16", name := "charAt", desc := "([BI)C" } : Jvm.MethodName) jdk_52_method_83_code (2 : Nat) (Option.some Jvm.ClassFile.FieldType.char), Jvm.Cond.code ({ cls := "java/lang/StringUTF16", name := "checkIndex", desc := "(I[B)V" } : Jvm.MethodName) jdk_52_method_91_code (2 : Nat) (Option.none : Option Jvm.ClassFile.FieldType), Jvm.Cond.code ({ cls := "java/lang/Math", name := "max", desc := "(JJ)J" } : Jvm.MethodName) jdk_29_method_66_code (4 : Nat) (Option.some Jvm.ClassFile.FieldType.long), Jvm.Cond.code ({ cls := "java/lang/Math", name := "min", desc := "(JJ)J" } : Jvm.MethodName) jdk_29_method_70_code (4 : Nat) (Option.some Jvm.ClassFile.FieldType.long), Jvm.Cond.code ({ cls := "java/util/Arrays", name := "copyOf", desc := "([CI)[C" } : Jvm.MethodName) jdk_65_method_125_code (3 : Nat) (Option.some (Jvm.ClassFile.FieldType.array Jvm.ClassFile.FieldType.char)), Jvm.Cond.code ({ cls := "java/lang/Math", name := "min", desc := "(II)I" } : Jvm.MethodName) jdk_29_method_69_code (2 : Nat) (Option.some Jvm.ClassFile.FieldType.int)]
set_option maxRecDepth 65536 in
theorem codes_eq : words1.filter isCode = codes1 := rfl
theorem w_codes : ∀ c ∈ words1.filter isCode, c.before args0 about1 = true := by
  rw [codes_eq]
  intro c hc
  simp only [codes1, List.mem_cons, List.not_mem_nil, or_false] at hc
  rcases hc with rfl | rfl | rfl | rfl | rfl | rfl | rfl | rfl | rfl | rfl | rfl | rfl | rfl | rfl | rfl | rfl | rfl | rfl | rfl | rfl | rfl | rfl | rfl | rfl | rfl | rfl | rfl | rfl | rfl | rfl | rfl | rfl | rfl | rfl | rfl | rfl | rfl | rfl | rfl | rfl | rfl | rfl | rfl | rfl
  · exact w_c0
  · exact w_c1
  · exact w_c2
  · exact w_c3
  · exact w_c4
  · exact w_c5
  · exact w_c6
  · exact w_c7
  · exact w_c8
  · exact w_c9
  · exact w_c10
  · exact w_c11
  · exact w_c12
  · exact w_c13
  · exact w_c14
  · exact w_c15
  · exact w_c16
  · exact w_c17
  · exact w_c18
  · exact w_c19
  · exact w_c20
  · exact w_c21
  · exact w_c22
  · exact w_c23
  · exact w_c24
  · exact w_c25
  · exact w_c26
  · exact w_c27
  · exact w_c28
  · exact w_c29
  · exact w_c30
  · exact w_c31
  · exact w_c32
  · exact w_c33
  · exact w_c34
  · exact w_c35
  · exact w_c36
  · exact w_c37
  · exact w_c38
  · exact w_c39
  · exact w_c40
  · exact w_c41
  · exact w_c42
  · exact w_c43
set_option maxRecDepth 65536 in
theorem w_t1 : (words1.take 24).all (fun c => isCode c || c.before args0 about1) = true := by decide +kernel
set_option maxRecDepth 65536 in
theorem w_t2 : ((words1.drop 24).take 24).all (fun c => isCode c || c.before args0 about1) = true := by decide +kernel
set_option maxRecDepth 65536 in
theorem w_t3 : (((words1.drop 24).drop 24).take 24).all (fun c => isCode c || c.before args0 about1) = true := by decide +kernel
set_option maxRecDepth 65536 in
theorem w_t4 : ((((words1.drop 24).drop 24).drop 24).take 24).all (fun c => isCode c || c.before args0 about1) = true := by decide +kernel
set_option maxRecDepth 65536 in
theorem w_t5 : (((((words1.drop 24).drop 24).drop 24).drop 24).take 24).all (fun c => isCode c || c.before args0 about1) = true := by decide +kernel
set_option maxRecDepth 65536 in
theorem w_t6 : ((((((words1.drop 24).drop 24).drop 24).drop 24).drop 24).take 24).all (fun c => isCode c || c.before args0 about1) = true := by decide +kernel
set_option maxRecDepth 65536 in
theorem w_t7 : (((((((words1.drop 24).drop 24).drop 24).drop 24).drop 24).drop 24).take 24).all (fun c => isCode c || c.before args0 about1) = true := by decide +kernel
set_option maxRecDepth 65536 in
theorem w_t8 : (((((((words1.drop 24).drop 24).drop 24).drop 24).drop 24).drop 24).drop 24).all (fun c => isCode c || c.before args0 about1) = true := by decide +kernel
theorem w_tables : (allAtoms (Jvm.Cond.code x code maxLocals ret :: tables_1)).before args0 about1 = true := by
  rw [allAtoms_all]
  show words1.all (fun c => c.before args0 about1) = true
  refine all_split ?_ w_codes
  rw [← List.take_append_drop 24 words1, List.all_append, w_t1, ← List.take_append_drop 24 (words1.drop 24), List.all_append, w_t2, ← List.take_append_drop 24 ((words1.drop 24).drop 24), List.all_append, w_t3, ← List.take_append_drop 24 (((words1.drop 24).drop 24).drop 24), List.all_append, w_t4, ← List.take_append_drop 24 ((((words1.drop 24).drop 24).drop 24).drop 24), List.all_append, w_t5, ← List.take_append_drop 24 (((((words1.drop 24).drop 24).drop 24).drop 24).drop 24), List.all_append, w_t6, ← List.take_append_drop 24 ((((((words1.drop 24).drop 24).drop 24).drop 24).drop 24).drop 24), List.all_append, w_t7, w_t8]
  rfl
set_option maxRecDepth 65536 in
theorem w_rest : rest_1_c.before args0 about1 = true := by decide +kernel
set_option maxRecDepth 65536 in
theorem w_case : (Jvm.Cond.and given_1 narrow_1).before args0 about1 = true := by decide +kernel
theorem w_applies : (headSpec (Jvm.Cond.code x code maxLocals ret :: tables_1) room_1).applies x e0.platform about1 = true :=
  (Spec.applies_iff w_frames).mpr ⟨w_running, w_runnable, w_alone, w_named, w_hears, w_ripe, w_room, w_tables⟩
theorem atStart : AtStart classFile x code maxLocals ret World_1 tables_1 room_1 Calls_1 rest_1 Pre_1 launch0 p0 e0 about1 theMethod args0 below0 :=
  ⟨lists_1, trivial, launch0.admits_env _ _ _, launch0.least_env, fairChoices_fair.cas, fairChoices_fair.clock, w_frames, w_args, w_heap, w_applies, trivial, w_rest, w_case⟩
end start1
theorem witness_1 : WitnessClaimed_1 := ⟨start1.p0, start1.e0, start1.about1, start1.theMethod, start1.args0, start1.below0, start1.atStart⟩
end Jvm.Pilot.@@N@@
