import JvmDerived
import JvmDerived.Pilot.@@N@@Statement
import JvmDerived.Pilot.@@N@@Code
set_option linter.unusedVariables false
set_option linter.unusedSimpArgs false
namespace Jvm.Pilot.@@N@@
open Jvm Jvm.ClassFile Sem Op Lib Jvm.Free Jvm.Stand Jvm.LawKit Jvm.RoadKit Bundle Jvm.Pilot.@@N@@.Jvm.D
/-! OWN KIT: a walk as a judgement on (heap, frame) alone. Wl says: from every state that stands at this pc, with these locals and this stack over the heap h, the body runs to its return and Q holds there. -/
/-- own objects: no literal's cells, made since the law began, and there -/
def Mine (Z : State) (EL : List (String × Nat)) (vm : Vm) (h : Heap) (sf : List Addr) : Prop := ∀ x ∈ sf, Safe Z EL vm h x ∧ Z.heap.size ≤ x ∧ x < h.size
def Wk (l : Launch) (Z : State) (a0 : Array Value) (EL : List (String × Nat)) (y : MethodName) (bs : ByteArray) (ml : Nat) (rt : Option FieldType) (R : Room) (as : Array Value)
    (p : Program) (e : Env) (s : State) (m : MethodId) (below : List Frame) (meth : Method) (c : Code) (sf : List Addr) (T : State) (h : Heap) (k n : Nat) : Prop :=
  (p.tables.exec = Jvm.exec ∧ c.code = bs ∧ c.maxLocals = ml ∧ meth.sig.returnType = rt ∧ meth.locks = false ∧ meth.name = y.name ∧ s.vm.findClass y.cls = some m.cls ∧ EW Z a0 EL ∧ Ext Z.heap s.heap) ∧
  ∃ (vm0 : Vm) (locs : List Loc) (k0 : Nat), Stand p l e R (s.setVm vm0) m as below meth c T locs k n ∧ T.heap = h ∧ s.Since vm0 k0 ∧ k0 ≤ h.size ∧ Fr Z.heap.size locs ∧ Z.Warmed39 vm0 ∧ CHr Z EL s.vm s.heap vm0 h ∧ Mine Z EL vm0 h sf ∧ (EL = [] → s.WarmedH vm0)
def Go (Z : State) (EL : List (String × Nat)) (out : List Addr) (p : Program) (e : Env) (s : State) (below : List Frame) (C S : Nat) (Q : Option Value → Heap → Prop) (U : State) : Prop :=
  ∃ s₂ o, Steps p.tables e below U s₂ ∧ s₂.status = .running ∧ Ended s₂ below o ∧ ∃ v L, o = .returned v ∧ (Q v s₂.heap ∧ Fr Z.heap.size L) ∧ CHr Z EL s.vm s.heap s₂.vm s₂.heap ∧ ReturnedEndW s o s₂ L C S ∧ (EL = [] → s.WarmedH s₂.vm) ∧ Mine Z EL s₂.vm s₂.heap out
def WlO (l : Launch) (Z : State) (a0 : Array Value) (EL : List (String × Nat)) (y : MethodName) (bs : ByteArray) (ml : Nat) (rt : Option FieldType) (R : Room) (as : Array Value) (out : List Addr) (Q : Option Value → Heap → Prop)
    (sf : List Addr) (h : Heap) (k n : Nat) (pc : Nat) (Ls : Array Slot) (st : List Value) : Prop :=
  ∀ (p : Program) (e : Env) (s : State) (m : MethodId) (below : List Frame) (meth : Method) (c : Code) (T : State), Wk l Z a0 EL y bs ml rt R as p e s m below meth c sf T h k n → Go Z EL out p e s below R.cells R.slots Q (T.setTop (mkF m pc Ls st))
abbrev Wl (l : Launch) (Z : State) (a0 : Array Value) (EL : List (String × Nat)) (y : MethodName) (bs : ByteArray) (ml : Nat) (rt : Option FieldType) (R : Room) (as : Array Value) (Q : Option Value → Heap → Prop)
    (sf : List Addr) (h : Heap) (k n : Nat) (pc : Nat) (Ls : Array Slot) (st : List Value) : Prop := WlO l Z a0 EL y bs ml rt R as [] Q sf h k n pc Ls st
/-- the contract of a body at given arguments and a given heap -/
def MetO (l : Launch) (Z : State) (EL : List (String × Nat)) (y : MethodName) (bs : ByteArray) (ml : Nat) (rt : Option FieldType) (ws : List Jvm.Cond) (rm : Room) (as : Array Value) (h : Heap) (sf out : List Addr) (Q : Option Value → Heap → Prop) : Prop :=
  MetFree l y (head1 (Jvm.Cond.code y bs ml rt :: ws) rm) (fun a U => a = as ∧ Z.Warmed39 U.vm ∧ U.heap = h ∧ CHv Z EL U.vm h ∧ Ext Z.heap h ∧ Mine Z EL U.vm h sf) (fun _ _ _ _ _ => True)
    (fun _ U o U' => ∃ v L, o = .returned v ∧ (Q v U'.heap ∧ Fr Z.heap.size L) ∧ CHr Z EL U.vm U.heap U'.vm U'.heap ∧ ReturnedEndW U o U' L rm.cells rm.slots ∧ (EL = [] → U.WarmedH U'.vm) ∧ Mine Z EL U'.vm U'.heap out)
abbrev Met (l : Launch) (Z : State) (EL : List (String × Nat)) (y : MethodName) (bs : ByteArray) (ml : Nat) (rt : Option FieldType) (ws : List Jvm.Cond) (rm : Room) (as : Array Value) (h : Heap) (sf : List Addr) (Q : Option Value → Heap → Prop) : Prop := MetO l Z EL y bs ml rt ws rm as h sf [] Q
section OwnKit
variable {l : Launch} {Z : State} {a0 : Array Value} {EL : List (String × Nat)} {y : MethodName} {bs : ByteArray} {ml : Nat} {rt : Option FieldType} {R : Room} {as : Array Value} {Q : Option Value → Heap → Prop}
variable {p : Program} {e : Env} {s : State} {m : MethodId} {below : List Frame} {meth : Method} {c : Code} {T : State} {sf out : List Addr} {h h' : Heap} {k n pc : Nat} {Ls : Array Slot} {st : List Value} {C S : Nat}
theorem Go.of {U U' : State} (f : ∀ t, Steps p.tables e below U' t → Steps p.tables e below U t) (g : Go Z EL out p e s below C S Q U') : Go Z EL out p e s below C S Q U := by
  obtain ⟨s₂, o, h1, r⟩ := g
  exact ⟨s₂, o, f _ h1, r⟩
theorem Mine.nil {vm : Vm} : Mine Z EL vm h [] := fun _ q => nomatch q
theorem Mine.sub {vm : Vm} {sf' : List Addr} (M : Mine Z EL vm h sf) (q : ∀ x ∈ sf', x ∈ sf) : Mine Z EL vm h sf' := fun x hx => M x (q x hx)
theorem Mine.chr {vm vm1 : Vm} (M : Mine Z EL vm h sf) (A : CHr Z EL vm h vm1 h') : Mine Z EL vm1 h' sf := fun x hx => ⟨A.safe (M x hx).2.2 (M x hx).1, (M x hx).2.1, Nat.lt_of_lt_of_le (M x hx).2.2 A.2.1⟩
theorem Mine.cons {vm : Vm} {x : Addr} (M : Mine Z EL vm h sf) (q : Safe Z EL vm h x ∧ Z.heap.size ≤ x ∧ x < h.size) : Mine Z EL vm h (x :: sf) := fun z hz => (List.mem_cons.mp hz).elim (fun u => u ▸ q) (M z)
/-- the cells that stood when the law began stand -/
theorem Wk.old (W : Wk l Z a0 EL y bs ml rt R as p e s m below meth c sf T h k n) : Ext Z.heap h := by
  obtain ⟨⟨-, -, -, -, -, -, -, -, hO⟩, vm0, locs, k0, X, eT, -, -, hF, -, hC, -, -⟩ := W
  refine ⟨Nat.le_trans hO.1 hC.2.1, fun b cl hb => ?_⟩
  have hs := hO.2 b cl hb
  obtain ⟨c', h1, h2, -, h4⟩ := X.same.2.2.2.2.2 b cl hs
  have hlt := (Array.getElem?_eq_some_iff.mp hb).1
  have hsl : c'.slots = cl.slots := Array.ext_getElem? fun i => h4 i fun hm => absurd (hF _ hm) (Nat.not_le.mpr hlt)
  have hcc : c' = cl := by rw [h2, hsl]
  rw [← hcc, ← eT]; exact h1
theorem Wl.old (f : Ext Z.heap h → WlO l Z a0 EL y bs ml rt R as out Q sf h k n pc Ls st) : WlO l Z a0 EL y bs ml rt R as out Q sf h k n pc Ls st :=
  fun p e s m below meth c T W => f W.old p e s m below meth c T W
theorem Wl.mine {x : Addr} (hx : x ∈ sf) (f : Z.heap.size ≤ x → x < h.size → WlO l Z a0 EL y bs ml rt R as out Q sf h k n pc Ls st) : WlO l Z a0 EL y bs ml rt R as out Q sf h k n pc Ls st :=
  fun p e s m below meth c T W => by
    have W' := W
    obtain ⟨-, vm0, locs, k0, -, -, -, -, -, -, -, M, -⟩ := W'
    exact f (M x hx).2.1 (M x hx).2.2 p e s m below meth c T W
/-- fewer own objects, more room used -/
theorem Wl.weak {sf' : List Addr} {k' n' : Nat} (q : ∀ x ∈ sf', x ∈ sf) (hk : k ≤ k') (hn : n ≤ n') (hr : WlO l Z a0 EL y bs ml rt R as out Q sf' h k' n' pc Ls st) : WlO l Z a0 EL y bs ml rt R as out Q sf h k n pc Ls st :=
  fun p e s m below meth c T W => by
    obtain ⟨A, vm0, locs, k0, X, eT, hS, hk0, hF, hZ, hC, hM, hH⟩ := W
    exact hr p e s m below meth c T ⟨A, vm0, locs, k0, X.mono hk hn, eT, hS, hk0, hF, hZ, hC, hM.sub q, hH⟩
/-- a step that leaves the heap and writes nothing -/
theorem Wl.same {pc' : Nat} {Ls' : Array Slot} {st' : List Value}
    (f : ∀ (p : Program) (e : Env) (s : State) (m : MethodId) (below : List Frame) (meth : Method) (c : Code) (T : State) (vm0 : Vm) (locs : List Loc),
      p.tables.exec = Jvm.exec → c.code = bs → c.maxLocals = ml → vm0.findClass y.cls = some m.cls → Z.Warmed39 vm0 → Stand p l e R (s.setVm vm0) m as below meth c T locs k n → T.heap = h → Ext Z.heap h →
      ∃ T', Stand p l e R (s.setVm vm0) m as below meth c T' locs k n ∧ T'.heap = h ∧ ∀ t, Steps p.tables e below (T'.setTop (mkF m pc' Ls' st')) t → Steps p.tables e below (T.setTop (mkF m pc Ls st)) t)
    (hr : WlO l Z a0 EL y bs ml rt R as out Q sf h k n pc' Ls' st') : WlO l Z a0 EL y bs ml rt R as out Q sf h k n pc Ls st := by
  intro p e s m below meth c T W
  have hO := W.old
  obtain ⟨A, vm0, locs, k0, X, eT, hS, hk, hF, hZ, hC, hM, hH⟩ := W
  obtain ⟨T', X', e', stp⟩ := f p e s m below meth c T vm0 locs A.1 A.2.1 A.2.2.1 (by rw [hS.1.alike.findClass]; exact A.2.2.2.2.2.2.1) hZ X eT hO
  exact Go.of stp (hr p e s m below meth c T' ⟨A, vm0, locs, k0, X', e', hS, hk, hF, hZ, hC, hM, hH⟩)
theorem Wl.plain {pc' : Nat} {Ls' : Array Slot} {st' : List Value}
    (f : ∀ (p : Program) (e : Env) (m : MethodId) (below : List Frame) (c : Code) (T : State), p.tables.exec = Jvm.exec → c.code = bs → At T m c below → ∀ t, Steps p.tables e below (T.setTop (mkF m pc' Ls' st')) t → Steps p.tables e below (T.setTop (mkF m pc Ls st)) t)
    (hr : WlO l Z a0 EL y bs ml rt R as out Q sf h k n pc' Ls' st') : WlO l Z a0 EL y bs ml rt R as out Q sf h k n pc Ls st :=
  Wl.same (fun p e s m below meth c T vm0 locs hx hby _ _ _ X eT _ => ⟨T, X, eT, f p e m below c T hx hby X.here⟩) hr
/-- a step that makes one cell -/
theorem Wl.grow {pc' : Nat} {Ls' : Array Slot} {st' : Addr → List Value} {dk dn : Nat} {F : Heap → Addr → Prop}
    (f : ∀ (p : Program) (e : Env) (s : State) (m : MethodId) (below : List Frame) (meth : Method) (c : Code) (T : State) (vm0 : Vm) (locs : List Loc),
      p.tables.exec = Jvm.exec → c.code = bs → c.maxLocals = ml → vm0.findClass y.cls = some m.cls → Z.Warmed39 vm0 → Stand p l e R (s.setVm vm0) m as below meth c T locs k n → T.heap = h → Ext Z.heap h →
      ∃ T' h', Stand p l e R (s.setVm vm0) m as below meth c T' locs (k + dk) (n + dn) ∧ T'.heap = h' ∧ Ext h h' ∧ h.size < h'.size ∧ F h' h.size ∧ ∀ t, Steps p.tables e below (T'.setTop (mkF m pc' Ls' (st' h.size))) t → Steps p.tables e below (T.setTop (mkF m pc Ls st)) t)
    (hr : ∀ (a : Addr) (h' : Heap), a = h.size → Ext h h' → F h' a → WlO l Z a0 EL y bs ml rt R as out Q (a :: sf) h' (k + dk) (n + dn) pc' Ls' (st' a)) : WlO l Z a0 EL y bs ml rt R as out Q sf h k n pc Ls st := by
  intro p e s m below meth c T W
  have hO := W.old
  obtain ⟨A, vm0, locs, k0, X, eT, hS, hk, hF, hZ, hC, hM, hH⟩ := W
  obtain ⟨T', h', X', e', E, hlt, G, stp⟩ := f p e s m below meth c T vm0 locs A.1 A.2.1 A.2.2.1 (by rw [hS.1.alike.findClass]; exact A.2.2.2.2.2.2.1) hZ X eT hO
  have B := CHr.ext (Z := Z) (EL := EL) (vm := vm0) E hC.1
  exact Go.of stp (hr h.size h' rfl E G p e s m below meth c T' ⟨A, vm0, locs, k0, X', e', hS, Nat.le_trans hk E.1, hF, hZ, hC.trans B, (hM.chr B).cons ⟨Safe.ext E hC.1 (Safe.new (Nat.le_refl _)), hO.1, hlt⟩, hH⟩)
/-- a step that writes one place of an own object -/
theorem Wl.write {pc' : Nat} {Ls' : Array Slot} {st' : List Value} {a : Addr} {sl : Nat} {v : Value} (ha : a ∈ sf)
    (f : ∀ (p : Program) (e : Env) (s : State) (m : MethodId) (below : List Frame) (meth : Method) (c : Code) (T : State) (vm0 : Vm) (locs : List Loc),
      p.tables.exec = Jvm.exec → c.code = bs → meth.name = y.name → vm0.findClass y.cls = some m.cls → Z.Warmed39 vm0 → Stand p l e R (s.setVm vm0) m as below meth c T locs k n → T.heap = h →
      ∃ T' h', Stand p l e R (s.setVm vm0) m as below meth c T' (locs ++ [⟨a, sl⟩]) k n ∧ T'.heap = h' ∧ Wr h h' a sl v ∧ ∀ t, Steps p.tables e below (T'.setTop (mkF m pc' Ls' st')) t → Steps p.tables e below (T.setTop (mkF m pc Ls st)) t)
    (hr : ∀ h', Wr h h' a sl v → WlO l Z a0 EL y bs ml rt R as out Q sf h' k n pc' Ls' st') : WlO l Z a0 EL y bs ml rt R as out Q sf h k n pc Ls st := by
  intro p e s m below meth c T W
  obtain ⟨A, vm0, locs, k0, X, eT, hS, hk, hF, hZ, hC, hM, hH⟩ := W
  obtain ⟨T', h', X', e', Wv, stp⟩ := f p e s m below meth c T vm0 locs A.1 A.2.1 A.2.2.2.2.2.1 (by rw [hS.1.alike.findClass]; exact A.2.2.2.2.2.2.1) hZ X eT
  have B := CHr.wr (Z := Z) (EL := EL) (vm := vm0) Wv (hM a ha).1 hC.1
  exact Go.of stp (hr h' Wv p e s m below meth c T' ⟨A, vm0, locs ++ [⟨a, sl⟩], k0, X', e', hS, by rw [Wv.size]; exact hk, Fr.snoc X' hF (hM a ha).2.1, hZ, hC.trans B, hM.chr B, hH⟩)
/-! plain steps -/
theorem Wl.aload_n (pc' : Nat) {i : Fin 4} {v : Value} (hd : decode bs pc = .ok (.aload_n i, 1)) (hl : Ls[i.val]? = some (.val v)) (hv : v.isRef = true) (hr : WlO l Z a0 EL y bs ml rt R as out Q sf h k n pc' Ls (v :: st)) (hp : pc + 1 = pc' := by rfl) : WlO l Z a0 EL y bs ml rt R as out Q sf h k n pc Ls st := by
  subst hp; exact Wl.plain (fun p e m below c T hx hby A t kk => XS.aloadN A hx rfl (hb hby hd) hl hv kk) hr
theorem Wl.aload (pc' : Nat) {i : Nat} {v : Value} (hd : decode bs pc = .ok (.aload i, 2)) (hl : Ls[i]? = some (.val v)) (hv : v.isRef = true) (hr : WlO l Z a0 EL y bs ml rt R as out Q sf h k n pc' Ls (v :: st)) (hp : pc + 2 = pc' := by rfl) : WlO l Z a0 EL y bs ml rt R as out Q sf h k n pc Ls st := by
  subst hp; exact Wl.plain (fun p e m below c T hx hby A t kk => XS.aload A hx rfl (hb hby hd) hl hv kk) hr
theorem Wl.iload_n (pc' : Nat) {i : Fin 4} {v : Int32} (hd : decode bs pc = .ok (.iload_n i, 1)) (hl : Ls[i.val]? = some (.val (.int v))) (hr : WlO l Z a0 EL y bs ml rt R as out Q sf h k n pc' Ls (.int v :: st)) (hp : pc + 1 = pc' := by rfl) : WlO l Z a0 EL y bs ml rt R as out Q sf h k n pc Ls st := by
  subst hp; exact Wl.plain (fun p e m below c T hx hby A t kk => XS.iloadN A hx rfl (hb hby hd) hl kk) hr
theorem Wl.iload (pc' : Nat) {i : Nat} {v : Int32} (hd : decode bs pc = .ok (.iload i, 2)) (hl : Ls[i]? = some (.val (.int v))) (hr : WlO l Z a0 EL y bs ml rt R as out Q sf h k n pc' Ls (.int v :: st)) (hp : pc + 2 = pc' := by rfl) : WlO l Z a0 EL y bs ml rt R as out Q sf h k n pc Ls st := by
  subst hp; exact Wl.plain (fun p e m below c T hx hby A t kk => XS.iload A hx rfl (hb hby hd) hl kk) hr
theorem Wl.lload_n (pc' : Nat) {i : Fin 4} {v : Int64} (hd : decode bs pc = .ok (.lload_n i, 1)) (hl : Ls[i.val]? = some (.val (.long v))) (hr : WlO l Z a0 EL y bs ml rt R as out Q sf h k n pc' Ls (.long v :: st)) (hp : pc + 1 = pc' := by rfl) : WlO l Z a0 EL y bs ml rt R as out Q sf h k n pc Ls st := by
  subst hp; exact Wl.plain (fun p e m below c T hx hby A t kk => XS.lloadN A hx rfl (hb hby hd) hl kk) hr
theorem Wl.lload (pc' : Nat) {i : Nat} {v : Int64} (hd : decode bs pc = .ok (.lload i, 2)) (hl : Ls[i]? = some (.val (.long v))) (hr : WlO l Z a0 EL y bs ml rt R as out Q sf h k n pc' Ls (.long v :: st)) (hp : pc + 2 = pc' := by rfl) : WlO l Z a0 EL y bs ml rt R as out Q sf h k n pc Ls st := by
  subst hp; exact Wl.plain (fun p e m below c T hx hby A t kk => XS.lload A hx rfl (hb hby hd) hl kk) hr
theorem Wl.istore_n (pc' : Nat) (Ls' : Array Slot) {i : Fin 4} {v : Int32} (hd : decode bs pc = .ok (.istore_n i, 1)) (hl : storeLocals Ls i.val (.int v) = some Ls') (hr : WlO l Z a0 EL y bs ml rt R as out Q sf h k n pc' Ls' st) (hp : pc + 1 = pc' := by rfl) : WlO l Z a0 EL y bs ml rt R as out Q sf h k n pc Ls (.int v :: st) := by
  subst hp; exact Wl.plain (fun p e m below c T hx hby A t kk => XS.istoreN A hx rfl (hb hby hd) rfl hl kk) hr
theorem Wl.istore (pc' : Nat) (Ls' : Array Slot) {i : Nat} {v : Int32} (hd : decode bs pc = .ok (.istore i, 2)) (hl : storeLocals Ls i (.int v) = some Ls') (hr : WlO l Z a0 EL y bs ml rt R as out Q sf h k n pc' Ls' st) (hp : pc + 2 = pc' := by rfl) : WlO l Z a0 EL y bs ml rt R as out Q sf h k n pc Ls (.int v :: st) := by
  subst hp; exact Wl.plain (fun p e m below c T hx hby A t kk => XS.istore A hx rfl (hb hby hd) rfl hl kk) hr
theorem Wl.lstore (pc' : Nat) (Ls' : Array Slot) {i : Nat} {v : Int64} (hd : decode bs pc = .ok (.lstore i, 2)) (hl : storeLocals Ls i (.long v) = some Ls') (hr : WlO l Z a0 EL y bs ml rt R as out Q sf h k n pc' Ls' st) (hp : pc + 2 = pc' := by rfl) : WlO l Z a0 EL y bs ml rt R as out Q sf h k n pc Ls (.long v :: st) := by
  subst hp; exact Wl.plain (fun p e m below c T hx hby A t kk => XS.lstore A hx rfl (hb hby hd) rfl hl kk) hr
theorem Wl.astore_n (pc' : Nat) (Ls' : Array Slot) {i : Fin 4} {v : Value} (hd : decode bs pc = .ok (.astore_n i, 1)) (hv : v.isRef = true) (hl : storeLocals Ls i.val v = some Ls') (hr : WlO l Z a0 EL y bs ml rt R as out Q sf h k n pc' Ls' st) (hp : pc + 1 = pc' := by rfl) : WlO l Z a0 EL y bs ml rt R as out Q sf h k n pc Ls (v :: st) := by
  subst hp; exact Wl.plain (fun p e m below c T hx hby A t kk => XS.astoreN A hx rfl (hb hby hd) rfl hv hl kk) hr
theorem Wl.astore (pc' : Nat) (Ls' : Array Slot) {i : Nat} {v : Value} (hd : decode bs pc = .ok (.astore i, 2)) (hv : v.isRef = true) (hl : storeLocals Ls i v = some Ls') (hr : WlO l Z a0 EL y bs ml rt R as out Q sf h k n pc' Ls' st) (hp : pc + 2 = pc' := by rfl) : WlO l Z a0 EL y bs ml rt R as out Q sf h k n pc Ls (v :: st) := by
  subst hp; exact Wl.plain (fun p e m below c T hx hby A t kk => XS.astore A hx rfl (hb hby hd) rfl hv hl kk) hr
theorem Wl.iinc (pc' : Nat) (Ls' : Array Slot) {i : Nat} {cst : Int} {x : Int32} (v : Int32) (hd : decode bs pc = .ok (.iinc i cst, 3)) (hv : Int32.ofInt cst = v) (hl : Ls[i]? = some (.val (.int x))) (hl' : storeLocals Ls i (.int (x + v)) = some Ls') (hr : WlO l Z a0 EL y bs ml rt R as out Q sf h k n pc' Ls' st) (hp : pc + 3 = pc' := by rfl) : WlO l Z a0 EL y bs ml rt R as out Q sf h k n pc Ls st := by
  subst hp hv; exact Wl.plain (fun p e m below c T hx hby A t kk => XS.iinc A hx rfl (hb hby hd) hl hl' kk) hr
theorem Wl.iconst (pc' : Nat) (v : Int32) {i : Int} (hd : decode bs pc = .ok (.iconst i, 1)) (hv : Int32.ofInt i = v) (hr : WlO l Z a0 EL y bs ml rt R as out Q sf h k n pc' Ls (.int v :: st)) (hp : pc + 1 = pc' := by rfl) : WlO l Z a0 EL y bs ml rt R as out Q sf h k n pc Ls st := by
  subst hp hv; exact Wl.plain (fun p e m below c T hx hby A t kk => XS.iconst A hx rfl (hb hby hd) kk) hr
theorem Wl.bipush (pc' : Nat) (v : Int32) {i : Int} (hd : decode bs pc = .ok (.bipush i, 2)) (hv : (Int8.ofInt i).toInt32 = v) (hr : WlO l Z a0 EL y bs ml rt R as out Q sf h k n pc' Ls (.int v :: st)) (hp : pc + 2 = pc' := by rfl) : WlO l Z a0 EL y bs ml rt R as out Q sf h k n pc Ls st := by
  subst hp hv; exact Wl.plain (fun p e m below c T hx hby A t kk => XS.bipush A hx rfl (hb hby hd) kk) hr
theorem Wl.sipush (pc' : Nat) (v : Int32) {i : Int} (hd : decode bs pc = .ok (.sipush i, 3)) (hv : (Int16.ofInt i).toInt32 = v) (hr : WlO l Z a0 EL y bs ml rt R as out Q sf h k n pc' Ls (.int v :: st)) (hp : pc + 3 = pc' := by rfl) : WlO l Z a0 EL y bs ml rt R as out Q sf h k n pc Ls st := by
  subst hp hv; exact Wl.plain (fun p e m below c T hx hby A t kk => XS.sipush A hx rfl (hb hby hd) kk) hr
theorem Wl.aconst_null (pc' : Nat) (hd : decode bs pc = .ok (.aconst_null, 1)) (hr : WlO l Z a0 EL y bs ml rt R as out Q sf h k n pc' Ls (.null :: st)) (hp : pc + 1 = pc' := by rfl) : WlO l Z a0 EL y bs ml rt R as out Q sf h k n pc Ls st := by
  subst hp; exact Wl.plain (fun p e m below c T hx hby A t kk => XS.aconstNull A hx rfl (hb hby hd) kk) hr
theorem Wl.iadd (pc' : Nat) {x z : Int32} (hd : decode bs pc = .ok (.iadd, 1)) (hr : WlO l Z a0 EL y bs ml rt R as out Q sf h k n pc' Ls (.int (x + z) :: st)) (hp : pc + 1 = pc' := by rfl) : WlO l Z a0 EL y bs ml rt R as out Q sf h k n pc Ls (.int z :: .int x :: st) := by
  subst hp; exact Wl.plain (fun p e m below c T hx hby A t kk => XS.iadd A hx rfl (hb hby hd) rfl kk) hr
theorem Wl.isub (pc' : Nat) {x z : Int32} (hd : decode bs pc = .ok (.isub, 1)) (hr : WlO l Z a0 EL y bs ml rt R as out Q sf h k n pc' Ls (.int (x - z) :: st)) (hp : pc + 1 = pc' := by rfl) : WlO l Z a0 EL y bs ml rt R as out Q sf h k n pc Ls (.int z :: .int x :: st) := by
  subst hp; exact Wl.plain (fun p e m below c T hx hby A t kk => XS.isub A hx rfl (hb hby hd) rfl kk) hr
theorem Wl.imul (pc' : Nat) {x z : Int32} (hd : decode bs pc = .ok (.imul, 1)) (hr : WlO l Z a0 EL y bs ml rt R as out Q sf h k n pc' Ls (.int (x * z) :: st)) (hp : pc + 1 = pc' := by rfl) : WlO l Z a0 EL y bs ml rt R as out Q sf h k n pc Ls (.int z :: .int x :: st) := by
  subst hp; exact Wl.plain (fun p e m below c T hx hby A t kk => XS.imul A hx rfl (hb hby hd) rfl kk) hr
theorem Wl.irem (pc' : Nat) {x z : Int32} (hd : decode bs pc = .ok (.irem, 1)) (hz : z ≠ 0) (hr : WlO l Z a0 EL y bs ml rt R as out Q sf h k n pc' Ls (.int (x % z) :: st)) (hp : pc + 1 = pc' := by rfl) : WlO l Z a0 EL y bs ml rt R as out Q sf h k n pc Ls (.int z :: .int x :: st) := by
  subst hp; exact Wl.same (fun p e s m below meth c T vm0 locs hx hby _ _ _ X eT _ => ⟨T, X, eT, fun t kk => iremM X hx rfl (hb hby hd) rfl hz kk⟩) hr
theorem Wl.iand (pc' : Nat) {x z : Int32} (hd : decode bs pc = .ok (.iand, 1)) (hr : WlO l Z a0 EL y bs ml rt R as out Q sf h k n pc' Ls (.int (x &&& z) :: st)) (hp : pc + 1 = pc' := by rfl) : WlO l Z a0 EL y bs ml rt R as out Q sf h k n pc Ls (.int z :: .int x :: st) := by
  subst hp; exact Wl.plain (fun p e m below c T hx hby A t kk => XS.iand A hx rfl (hb hby hd) rfl kk) hr
theorem Wl.ior (pc' : Nat) {x z : Int32} (hd : decode bs pc = .ok (.ior, 1)) (hr : WlO l Z a0 EL y bs ml rt R as out Q sf h k n pc' Ls (.int (x ||| z) :: st)) (hp : pc + 1 = pc' := by rfl) : WlO l Z a0 EL y bs ml rt R as out Q sf h k n pc Ls (.int z :: .int x :: st) := by
  subst hp; exact Wl.plain (fun p e m below c T hx hby A t kk => XT.ior A hx rfl (hb hby hd) rfl kk) hr
theorem Wl.ixor (pc' : Nat) {x z : Int32} (hd : decode bs pc = .ok (.ixor, 1)) (hr : WlO l Z a0 EL y bs ml rt R as out Q sf h k n pc' Ls (.int (x ^^^ z) :: st)) (hp : pc + 1 = pc' := by rfl) : WlO l Z a0 EL y bs ml rt R as out Q sf h k n pc Ls (.int z :: .int x :: st) := by
  subst hp; exact Wl.plain (fun p e m below c T hx hby A t kk => XT.ixor A hx rfl (hb hby hd) rfl kk) hr
theorem Wl.ishl (pc' : Nat) {x z : Int32} (hd : decode bs pc = .ok (.ishl, 1)) (hr : WlO l Z a0 EL y bs ml rt R as out Q sf h k n pc' Ls (.int (x <<< (z &&& 31)) :: st)) (hp : pc + 1 = pc' := by rfl) : WlO l Z a0 EL y bs ml rt R as out Q sf h k n pc Ls (.int z :: .int x :: st) := by
  subst hp; exact Wl.plain (fun p e m below c T hx hby A t kk => XT.ishl A hx rfl (hb hby hd) rfl kk) hr
theorem Wl.ishr (pc' : Nat) {x z : Int32} (hd : decode bs pc = .ok (.ishr, 1)) (hr : WlO l Z a0 EL y bs ml rt R as out Q sf h k n pc' Ls (.int (x >>> (z &&& 31)) :: st)) (hp : pc + 1 = pc' := by rfl) : WlO l Z a0 EL y bs ml rt R as out Q sf h k n pc Ls (.int z :: .int x :: st) := by
  subst hp; exact Wl.plain (fun p e m below c T hx hby A t kk => XT.ishr A hx rfl (hb hby hd) rfl kk) hr
theorem Wl.iushr (pc' : Nat) {x z : Int32} (hd : decode bs pc = .ok (.iushr, 1)) (hr : WlO l Z a0 EL y bs ml rt R as out Q sf h k n pc' Ls (.int ((x.toUInt32 >>> (z &&& 31).toUInt32).toInt32) :: st)) (hp : pc + 1 = pc' := by rfl) : WlO l Z a0 EL y bs ml rt R as out Q sf h k n pc Ls (.int z :: .int x :: st) := by
  subst hp; exact Wl.plain (fun p e m below c T hx hby A t kk => XT.iushr A hx rfl (hb hby hd) rfl kk) hr
theorem Wl.ladd (pc' : Nat) {x z : Int64} (hd : decode bs pc = .ok (.ladd, 1)) (hr : WlO l Z a0 EL y bs ml rt R as out Q sf h k n pc' Ls (.long (x + z) :: st)) (hp : pc + 1 = pc' := by rfl) : WlO l Z a0 EL y bs ml rt R as out Q sf h k n pc Ls (.long z :: .long x :: st) := by
  subst hp; exact Wl.plain (fun p e m below c T hx hby A t kk => XT.ladd A hx rfl (hb hby hd) rfl kk) hr
theorem Wl.land (pc' : Nat) {x z : Int64} (hd : decode bs pc = .ok (.land, 1)) (hr : WlO l Z a0 EL y bs ml rt R as out Q sf h k n pc' Ls (.long (x &&& z) :: st)) (hp : pc + 1 = pc' := by rfl) : WlO l Z a0 EL y bs ml rt R as out Q sf h k n pc Ls (.long z :: .long x :: st) := by
  subst hp; exact Wl.plain (fun p e m below c T hx hby A t kk => XT.land A hx rfl (hb hby hd) rfl kk) hr
theorem Wl.lushr (pc' : Nat) {x : Int64} {z : Int32} (hd : decode bs pc = .ok (.lushr, 1)) (hr : WlO l Z a0 EL y bs ml rt R as out Q sf h k n pc' Ls (.long (Jvm.Free.XT.ushrL x z) :: st)) (hp : pc + 1 = pc' := by rfl) : WlO l Z a0 EL y bs ml rt R as out Q sf h k n pc Ls (.int z :: .long x :: st) := by
  subst hp; exact Wl.plain (fun p e m below c T hx hby A t kk => XT.lushr A hx rfl (hb hby hd) rfl kk) hr
theorem Wl.lcmp (pc' : Nat) {x z : Int64} (hd : decode bs pc = .ok (.lcmp, 1)) (hr : WlO l Z a0 EL y bs ml rt R as out Q sf h k n pc' Ls (.int (lcmpW x z) :: st)) (hp : pc + 1 = pc' := by rfl) : WlO l Z a0 EL y bs ml rt R as out Q sf h k n pc Ls (.long z :: .long x :: st) := by
  subst hp; exact Wl.plain (fun p e m below c T hx hby A t kk => XT.lcmp A hx rfl (hb hby hd) rfl kk) hr
theorem Wl.i2l (pc' : Nat) {x : Int32} (hd : decode bs pc = .ok (.i2l, 1)) (hr : WlO l Z a0 EL y bs ml rt R as out Q sf h k n pc' Ls (.long x.toInt64 :: st)) (hp : pc + 1 = pc' := by rfl) : WlO l Z a0 EL y bs ml rt R as out Q sf h k n pc Ls (.int x :: st) := by
  subst hp; exact Wl.plain (fun p e m below c T hx hby A t kk => XT.i2l A hx rfl (hb hby hd) rfl kk) hr
theorem Wl.l2i (pc' : Nat) {x : Int64} (hd : decode bs pc = .ok (.l2i, 1)) (hr : WlO l Z a0 EL y bs ml rt R as out Q sf h k n pc' Ls (.int x.toInt32 :: st)) (hp : pc + 1 = pc' := by rfl) : WlO l Z a0 EL y bs ml rt R as out Q sf h k n pc Ls (.long x :: st) := by
  subst hp; exact Wl.plain (fun p e m below c T hx hby A t kk => XT.l2i A hx rfl (hb hby hd) rfl kk) hr
theorem Wl.i2b (pc' : Nat) {x : Int32} (hd : decode bs pc = .ok (.i2b, 1)) (hr : WlO l Z a0 EL y bs ml rt R as out Q sf h k n pc' Ls (.int x.toInt8.toInt32 :: st)) (hp : pc + 1 = pc' := by rfl) : WlO l Z a0 EL y bs ml rt R as out Q sf h k n pc Ls (.int x :: st) := by
  subst hp; exact Wl.plain (fun p e m below c T hx hby A t kk => XT.i2b A hx rfl (hb hby hd) rfl kk) hr
theorem Wl.i2c (pc' : Nat) {x : Int32} (hd : decode bs pc = .ok (.i2c, 1)) (hr : WlO l Z a0 EL y bs ml rt R as out Q sf h k n pc' Ls (.int x.toUInt32.toUInt16.toUInt32.toInt32 :: st)) (hp : pc + 1 = pc' := by rfl) : WlO l Z a0 EL y bs ml rt R as out Q sf h k n pc Ls (.int x :: st) := by
  subst hp; exact Wl.plain (fun p e m below c T hx hby A t kk => XT.i2c A hx rfl (hb hby hd) rfl kk) hr
theorem Wl.dup (pc' : Nat) {v : Value} (hd : decode bs pc = .ok (.dup, 1)) (hc : v.category = 1) (hr : WlO l Z a0 EL y bs ml rt R as out Q sf h k n pc' Ls (v :: v :: st)) (hp : pc + 1 = pc' := by rfl) : WlO l Z a0 EL y bs ml rt R as out Q sf h k n pc Ls (v :: st) := by
  subst hp; exact Wl.plain (fun p e m below c T hx hby A t kk => XS.dup A hx rfl (hb hby hd) rfl hc kk) hr
theorem Wl.pop (pc' : Nat) {v : Value} (hd : decode bs pc = .ok (.pop, 1)) (hc : v.category = 1) (hr : WlO l Z a0 EL y bs ml rt R as out Q sf h k n pc' Ls st) (hp : pc + 1 = pc' := by rfl) : WlO l Z a0 EL y bs ml rt R as out Q sf h k n pc Ls (v :: st) := by
  subst hp; exact Wl.plain (fun p e m below c T hx hby A t kk => XT.pop A hx rfl (hb hby hd) rfl hc kk) hr
theorem Wl.goto (pc' : Nat) {o : Int} (hd : decode bs pc = .ok (.goto o, 3)) (hr : WlO l Z a0 EL y bs ml rt R as out Q sf h k n pc' Ls st) (ho : 0 ≤ (pc : Int) + o := by decide) (hp : ((pc : Int) + o).toNat = pc' := by decide) : WlO l Z a0 EL y bs ml rt R as out Q sf h k n pc Ls st :=
  Wl.plain (fun p e m below c T hx hby A t kk => XS.goto A hx rfl rfl (hb hby hd) ho hp kk) hr
theorem Wl.ifY (pc' : Nat) {cd : ClassFile.Cond} {o : Int} {x : Int32} (hd : decode bs pc = .ok (.ifCond cd o, 3)) (hc : if_icmp.holds cd x 0 = true) (hr : WlO l Z a0 EL y bs ml rt R as out Q sf h k n pc' Ls st) (ho : 0 ≤ (pc : Int) + o := by decide) (hp : ((pc : Int) + o).toNat = pc' := by decide) : WlO l Z a0 EL y bs ml rt R as out Q sf h k n pc Ls (.int x :: st) :=
  Wl.plain (fun p e m below c T hx hby A t kk => XS.ifYes A hx rfl rfl (hb hby hd) rfl ((if0 _ _).trans hc) ho hp kk) hr
theorem Wl.ifN (pc' : Nat) {cd : ClassFile.Cond} {o : Int} {x : Int32} (hd : decode bs pc = .ok (.ifCond cd o, 3)) (hc : if_icmp.holds cd x 0 = false) (hr : WlO l Z a0 EL y bs ml rt R as out Q sf h k n pc' Ls st) (hp : pc + 3 = pc' := by rfl) : WlO l Z a0 EL y bs ml rt R as out Q sf h k n pc Ls (.int x :: st) := by
  subst hp; exact Wl.plain (fun p e m below c T hx hby A t kk => XS.ifNo A hx rfl (hb hby hd) rfl ((if0 _ _).trans hc) kk) hr
theorem Wl.icmpY (pc' : Nat) {cd : ClassFile.Cond} {o : Int} {x z : Int32} (hd : decode bs pc = .ok (.if_icmp cd o, 3)) (hc : if_icmp.holds cd x z = true) (hr : WlO l Z a0 EL y bs ml rt R as out Q sf h k n pc' Ls st) (ho : 0 ≤ (pc : Int) + o := by decide) (hp : ((pc : Int) + o).toNat = pc' := by decide) : WlO l Z a0 EL y bs ml rt R as out Q sf h k n pc Ls (.int z :: .int x :: st) :=
  Wl.plain (fun p e m below c T hx hby A t kk => XS.icmpYes A hx rfl rfl (hb hby hd) rfl hc ho hp kk) hr
theorem Wl.icmpN (pc' : Nat) {cd : ClassFile.Cond} {o : Int} {x z : Int32} (hd : decode bs pc = .ok (.if_icmp cd o, 3)) (hc : if_icmp.holds cd x z = false) (hr : WlO l Z a0 EL y bs ml rt R as out Q sf h k n pc' Ls st) (hp : pc + 3 = pc' := by rfl) : WlO l Z a0 EL y bs ml rt R as out Q sf h k n pc Ls (.int z :: .int x :: st) := by
  subst hp; exact Wl.plain (fun p e m below c T hx hby A t kk => XS.icmpNo A hx rfl (hb hby hd) rfl hc kk) hr
theorem Wl.ifnullY (pc' : Nat) {o : Int} (hd : decode bs pc = .ok (.ifnull o, 3)) (hr : WlO l Z a0 EL y bs ml rt R as out Q sf h k n pc' Ls st) (ho : 0 ≤ (pc : Int) + o := by decide) (hp : ((pc : Int) + o).toNat = pc' := by decide) : WlO l Z a0 EL y bs ml rt R as out Q sf h k n pc Ls (.null :: st) :=
  Wl.plain (fun p e m below c T hx hby A t kk => XS.ifnullYes A hx rfl rfl (hb hby hd) rfl ho hp kk) hr
theorem Wl.ifnullN (pc' : Nat) {o : Int} {b : Addr} (hd : decode bs pc = .ok (.ifnull o, 3)) (hr : WlO l Z a0 EL y bs ml rt R as out Q sf h k n pc' Ls st) (hp : pc + 3 = pc' := by rfl) : WlO l Z a0 EL y bs ml rt R as out Q sf h k n pc Ls (.ref b :: st) := by
  subst hp; exact Wl.plain (fun p e m below c T hx hby A t kk => XS.ifnullNo A hx rfl (hb hby hd) rfl kk) hr
theorem Wl.ifnonnullY (pc' : Nat) {o : Int} {b : Addr} (hd : decode bs pc = .ok (.ifnonnull o, 3)) (hr : WlO l Z a0 EL y bs ml rt R as out Q sf h k n pc' Ls st) (ho : 0 ≤ (pc : Int) + o := by decide) (hp : ((pc : Int) + o).toNat = pc' := by decide) : WlO l Z a0 EL y bs ml rt R as out Q sf h k n pc Ls (.ref b :: st) :=
  Wl.plain (fun p e m below c T hx hby A t kk => XT.ifnonnullYes A hx rfl rfl (hb hby hd) rfl ho hp kk) hr
theorem Wl.ifnonnullN (pc' : Nat) {o : Int} (hd : decode bs pc = .ok (.ifnonnull o, 3)) (hr : WlO l Z a0 EL y bs ml rt R as out Q sf h k n pc' Ls st) (hp : pc + 3 = pc' := by rfl) : WlO l Z a0 EL y bs ml rt R as out Q sf h k n pc Ls (.null :: st) := by
  subst hp; exact Wl.plain (fun p e m below c T hx hby A t kk => XT.ifnonnullNo A hx rfl (hb hby hd) rfl kk) hr
theorem Wl.acmp (pc' : Nat) {cd : ACond} {o : Int} {v w : Value} (same : Bool) (hd : decode bs pc = .ok (.if_acmp cd o, 3)) (h1 : v.isRef = true) (h2 : w.isRef = true) (hq : decide (v = w) = same) (hr : WlO l Z a0 EL y bs ml rt R as out Q sf h k n pc' Ls st) (ho : 0 ≤ (pc : Int) + o := by decide) (hp : pc' = if acV cd same = true then ((pc : Int) + o).toNat else pc + 3 := by decide) : WlO l Z a0 EL y bs ml rt R as out Q sf h k n pc Ls (w :: v :: st) :=
  Wl.same (fun p e s m below meth c T vm0 locs hx hby _ _ _ X eT _ => ⟨T, X, eT, fun t kk => Jvm.RoadKit.acmp (g := mkF m pc Ls (w :: v :: st)) X hx rfl h1 h2 rfl (hb hby hd) rfl hq ho hp kk⟩) hr
/-! constants of the pool -/
theorem Wl.ldcI (pc' : Nat) {i : Nat} {v : Int32} (hd : decode bs pc = .ok (.ldc i, 2)) (w : (Jvm.Cond.constant y.cls i v).before a0 Z = true) (hr : WlO l Z a0 EL y bs ml rt R as out Q sf h k n pc' Ls (.int v :: st)) (hp : pc + 2 = pc' := by rfl) : WlO l Z a0 EL y bs ml rt R as out Q sf h k n pc Ls st := by
  subst hp; exact Wl.same (fun p e s m below meth c T vm0 locs hx hby _ hown hZ X eT _ => ⟨T, X, eT, fun t kk => Jvm.Stand.ldcI X hx (s := s.setVm vm0) hown (mv hZ w) rfl (hb hby hd) kk⟩) hr
theorem Wl.ldc_wI (pc' : Nat) {i : Nat} {v : Int32} (hd : decode bs pc = .ok (.ldc_w i, 3)) (w : (Jvm.Cond.constant y.cls i v).before a0 Z = true) (hr : WlO l Z a0 EL y bs ml rt R as out Q sf h k n pc' Ls (.int v :: st)) (hp : pc + 3 = pc' := by rfl) : WlO l Z a0 EL y bs ml rt R as out Q sf h k n pc Ls st := by
  subst hp; exact Wl.same (fun p e s m below meth c T vm0 locs hx hby _ hown hZ X eT _ => ⟨T, X, eT, fun t kk => Jvm.Stand.ldcWI X hx (s := s.setVm vm0) hown (mv hZ w) rfl (hb hby hd) kk⟩) hr
theorem Wl.ldc2J (pc' : Nat) {i : Nat} {v : Int64} (hd : decode bs pc = .ok (.ldc2_w i, 3)) (w : (Jvm.Cond.constantLong y.cls i v).before a0 Z = true) (hr : WlO l Z a0 EL y bs ml rt R as out Q sf h k n pc' Ls (.long v :: st)) (hp : pc + 3 = pc' := by rfl) : WlO l Z a0 EL y bs ml rt R as out Q sf h k n pc Ls st := by
  subst hp; exact Wl.same (fun p e s m below meth c T vm0 locs hx hby _ hown hZ X eT _ => ⟨T, X, eT, fun t kk => Jvm.Stand.ldc2J X hx (s := s.setVm vm0) hown (mv hZ w) rfl (hb hby hd) kk⟩) hr
/-! fields -/
theorem Wl.getfield (pc' : Nat) {i : Nat} {O fn d : String} {a : Addr} {v : Value} (hd : decode bs pc = .ok (.getfield i, 3)) (w : (Jvm.Cond.fieldLink y.cls i O fn d).before a0 Z = true) (F : Fld Z h a O fn d v) (hr : WlO l Z a0 EL y bs ml rt R as out Q sf h k n pc' Ls (v :: st)) (hp : pc + 3 = pc' := by rfl) : WlO l Z a0 EL y bs ml rt R as out Q sf h k n pc Ls (.ref a :: st) := by
  subst hp; exact Wl.same (fun p e s m below meth c T vm0 locs hx hby _ hown hZ X eT _ => getF X hx (s := s.setVm vm0) hZ hown (host := "") (Or.inl w) Via.refl eT F (g := mkF m pc Ls (.ref a :: st)) rfl rfl (hb hby hd)) hr
theorem Wl.getstatic (pc' : Nat) {i : Nat} {O fn d : String} {v : Value} (hd : decode bs pc = .ok (.getstatic i, 3)) (w : (Jvm.Cond.fieldLink y.cls i O fn d).before a0 Z = true) (F : Sta Z Z.heap O fn d v) (hr : WlO l Z a0 EL y bs ml rt R as out Q sf h k n pc' Ls (v :: st)) (hp : pc + 3 = pc' := by rfl) : WlO l Z a0 EL y bs ml rt R as out Q sf h k n pc Ls st := by
  subst hp; exact Wl.same (fun p e s m below meth c T vm0 locs hx hby _ hown hZ X eT hO => getS (host := "") X hx (s := s.setVm vm0) hZ hown w Via.refl eT (F.ext hO) (g := mkF m pc Ls st) rfl (hb hby hd)) hr
theorem Wl.getstaticN (pc' : Nat) {i : Nat} {O fn d host : String} {v : Value} (hd : decode bs pc = .ok (.getstatic i, 3)) (w : (Jvm.Cond.fieldLinkNest y.cls i O fn d host).before a0 Z = true) (F : Sta Z Z.heap O fn d v) (hr : WlO l Z a0 EL y bs ml rt R as out Q sf h k n pc' Ls (v :: st)) (hp : pc + 3 = pc' := by rfl) : WlO l Z a0 EL y bs ml rt R as out Q sf h k n pc Ls st := by
  subst hp; exact Wl.same (fun p e s m below meth c T vm0 locs hx hby _ hown hZ X eT hO => getS2 X hx (s := s.setVm vm0) hZ hown (Or.inr w) Via.refl eT (F.ext hO) (g := mkF m pc Ls st) rfl (hb hby hd)) hr
theorem Wl.putfield (pc' : Nat) {i kk : Nat} {O fn d K : String} {ty : FieldType} {a : Addr} {v old : Value} (hd : decode bs pc = .ok (.putfield i, 3)) (w : (Jvm.Cond.fieldLink y.cls i O fn d).before a0 Z = true) (F : Fld Z h a O fn d old) (E : Exa Z h a K)
    (L : (Jvm.Cond.lays K O fn d).before a0 Z = true ∨ ((Jvm.Cond.laysFinal K O fn d).before a0 Z = true ∧ y.cls = O ∧ y.name = "<init>")) (wi : (Jvm.Cond.instantiable K kk).before a0 Z = true) (hty : parseFieldDescriptor d = some ty) (hn : narrow ty v = v) (hf : fits ty v = true) (ha : a ∈ sf)
    (hr : ∀ h', Wr h h' a (Jvm.RoadKit.slotOf Z O fn d) v → WlO l Z a0 EL y bs ml rt R as out Q sf h' k n pc' Ls st) (hp : pc + 3 = pc' := by rfl) : WlO l Z a0 EL y bs ml rt R as out Q sf h k n pc Ls (v :: .ref a :: st) := by
  subst hp; exact Wl.write ha (fun p e s m below meth c T vm0 locs hx hby hnm hown hZ X eT => putF X hx (s := s.setVm vm0) hZ hown (host := "") (Or.inl w) Via.refl eT F E (L.imp id fun q => ⟨q.1, q.2.1, hnm.trans q.2.2⟩) wi hty hn hf (g := mkF m pc Ls (v :: .ref a :: st)) rfl rfl (hb hby hd)) hr
/-! new things -/
theorem Wl.new (pc' : Nat) {i cnt : Nat} {K : String} (hd : decode bs pc = .ok (.new i, 3)) (w : (Jvm.Cond.classLink y.cls i K).before a0 Z = true) (wi : (Jvm.Cond.instantiable K cnt).before a0 Z = true) (wz : (Jvm.Cond.initialized K).before a0 Z = true) (hc : k + 1 ≤ R.cells) (hl : n + cnt ≤ R.slots)
    (hr : ∀ (a : Addr) (h' : Heap), a = h.size → Ext h h' → Exa Z h' a K → (∀ {O nm d : String} {ty : FieldType}, Laid Z a0 K O nm d → parseFieldDescriptor d = some ty → Fld Z h' a O nm d (defaultValue ty)) → WlO l Z a0 EL y bs ml rt R as out Q (a :: sf) h' (k + 1) (n + cnt) pc' Ls (.ref a :: st)) (hp : pc + 3 = pc' := by rfl) : WlO l Z a0 EL y bs ml rt R as out Q sf h k n pc Ls st := by
  subst hp
  refine Wl.grow (st' := fun a => .ref a :: st) (F := fun h' a => Exa Z h' a K ∧ ∀ {O nm d : String} {ty : FieldType}, Laid Z a0 K O nm d → parseFieldDescriptor d = some ty → Fld Z h' a O nm d (defaultValue ty)) (fun p e s m below meth c T vm0 locs hx hby _ hown hZ X eT _ => ?_) (fun a h' ea E G => hr a h' ea E G.1 G.2)
  obtain ⟨T', h', X', e', E, G, D, -, stp⟩ := newO X hx (s := s.setVm vm0) hZ hown w wi wz eT (g := mkF m pc Ls st) rfl (hb hby hd) hc hl
  exact ⟨T', h', X', e', E, G.lt, ⟨G, D⟩, stp⟩
theorem Wl.newarray (pc' : Nat) {aty : ArrayType} {z : Int32} (cap : Nat) (hd : decode bs pc = .ok (.newarray aty, 2)) (w : (Jvm.Cond.arrayClass (newarray.typeOf aty)).before a0 Z = true) (hz : ¬ z < 0) (hcap : z.toNatClampNeg ≤ cap) (hb8 : cap * 8 ≤ 536870912) (hc : k + 1 ≤ R.cells) (hl : n + cap ≤ R.slots)
    (hr : ∀ (a : Addr) (h' : Heap) (cA : ClassId), a = h.size → Ext h h' → Arv Z h' a cA (newarray.typeOf aty) z (List.replicate z.toNatClampNeg (defaultValue (newarray.typeOf aty))) (defaultValue (newarray.typeOf aty)) → WlO l Z a0 EL y bs ml rt R as out Q (a :: sf) h' (k + 1) (n + cap) pc' Ls (.ref a :: st)) (hp : pc + 2 = pc' := by rfl) : WlO l Z a0 EL y bs ml rt R as out Q sf h k n pc Ls (.int z :: st) := by
  subst hp
  refine Wl.grow (st' := fun a => .ref a :: st) (F := fun h' a => ∃ cA, Arv Z h' a cA (newarray.typeOf aty) z (List.replicate z.toNatClampNeg (defaultValue (newarray.typeOf aty))) (defaultValue (newarray.typeOf aty))) (fun p e s m below meth c T vm0 locs hx hby _ hown hZ X eT _ => ?_) (fun a h' ea E G => by obtain ⟨cA, G⟩ := G; exact hr a h' cA ea E G)
  obtain ⟨T', h', cA, X', e', E, G, stp⟩ := newP X hx (s := s.setVm vm0) hZ w eT (g := mkF m pc Ls (.int z :: st)) rfl (hb hby hd) rfl hz hcap hb8 hc hl
  exact ⟨T', h', X', e', E, G.lt, ⟨cA, (Arv.new G hz).pad fun i => by simpa using pad_rep [] (defaultValue (newarray.typeOf aty)) z.toNatClampNeg i⟩, stp⟩
/-! arrays -/
theorem Wl.arraylength (pc' : Nat) {a : Addr} {kc : ClassId} {ty : FieldType} {z : Int32} {vs : List Value} {dv : Value} (hd : decode bs pc = .ok (.arraylength, 1)) (F : Arv Z h a kc ty z vs dv) (hr : WlO l Z a0 EL y bs ml rt R as out Q sf h k n pc' Ls (.int z :: st)) (hp : pc + 1 = pc' := by rfl) : WlO l Z a0 EL y bs ml rt R as out Q sf h k n pc Ls (.ref a :: st) := by
  subst hp
  refine Wl.same (fun p e s m below meth c T vm0 locs hx hby _ hown hZ X eT _ => ⟨T, X, eT, fun t kk => ?_⟩) hr
  obtain ⟨cl, A, q1, q2, q3, -⟩ := F
  refine X.arraylength hx (by rw [eT]; exact A.1) (State.isArrayOf_alike (T := s.setVm vm0) hZ.alike A.2.1) (g := mkF m pc Ls (.ref a :: st)) rfl rfl (hb hby hd) t ?_
  rw [len_of q2 q3]; exact kk
theorem inb {cl : Cell} {z j : Int32} {i : Nat} (S : cl.slots.size = z.toNatClampNeg) (hj : ¬ j < 0) (e : j.toNatClampNeg = i) (hi : i < z.toNatClampNeg) : ¬ (j < 0 ∨ cl.slots.size ≤ j.toNatClampNeg) := fun q => by
  rcases q with q | q
  · exact hj q
  · rw [S, e] at q; omega
theorem Wl.caload (pc' : Nat) {a : Addr} {kc : ClassId} {z j : Int32} {vs : List Value} {dv v : Value} (i : Nat) (hd : decode bs pc = .ok (.caload, 1)) (F : Arv Z h a kc .char z vs dv) (hj : ¬ j < 0) (ej : j.toNatClampNeg = i) (hi : i < z.toNatClampNeg) (hv : vs.getD i dv = v) (hr : WlO l Z a0 EL y bs ml rt R as out Q sf h k n pc' Ls (v :: st)) (hp : pc + 1 = pc' := by rfl) : WlO l Z a0 EL y bs ml rt R as out Q sf h k n pc Ls (.int j :: .ref a :: st) := by
  subst hp
  refine Wl.same (fun p e s m below meth c T vm0 locs hx hby _ hown hZ X eT _ => ⟨T, X, eT, fun t kk => ?_⟩) hr
  obtain ⟨cl, A, q1, q2, q3, H, -⟩ := F
  exact X.caload hx (by rw [eT]; exact A.1) (State.isArrayOf_alike (T := s.setVm vm0) hZ.alike A.2.1) A.2.2 (inb q2 hj ej hi) (H.at (inb q2 hj ej hi) (by rw [ej]; exact hv)) (g := mkF m pc Ls (.int j :: .ref a :: st)) rfl rfl (hb hby hd) t kk
theorem Wl.baload (pc' : Nat) {a : Addr} {kc : ClassId} {z j : Int32} {vs : List Value} {dv v : Value} (i : Nat) (hd : decode bs pc = .ok (.baload, 1)) (F : Arv Z h a kc .byte z vs dv) (hj : ¬ j < 0) (ej : j.toNatClampNeg = i) (hi : i < z.toNatClampNeg) (hv : vs.getD i dv = v) (hr : WlO l Z a0 EL y bs ml rt R as out Q sf h k n pc' Ls (v :: st)) (hp : pc + 1 = pc' := by rfl) : WlO l Z a0 EL y bs ml rt R as out Q sf h k n pc Ls (.int j :: .ref a :: st) := by
  subst hp
  refine Wl.same (fun p e s m below meth c T vm0 locs hx hby _ hown hZ X eT _ => ⟨T, X, eT, fun t kk => ?_⟩) hr
  obtain ⟨cl, A, q1, q2, q3, H, -⟩ := F
  exact X.baloadBytes hx (by rw [eT]; exact A.1) (State.isArrayOf_alike (T := s.setVm vm0) hZ.alike A.2.1) A.2.2 (inb q2 hj ej hi) (H.at (inb q2 hj ej hi) (by rw [ej]; exact hv)) (g := mkF m pc Ls (.int j :: .ref a :: st)) rfl rfl (hb hby hd) t kk
theorem Wl.castore (pc' : Nat) {a : Addr} {kc : ClassId} {z j x : Int32} {vs : List Value} {dv : Value} (i : Nat) (hd : decode bs pc = .ok (.castore, 1)) (F : Arv Z h a kc .char z vs dv) (ha : a ∈ sf) (hj : ¬ j < 0) (ej : j.toNatClampNeg = i) (hi : i < z.toNatClampNeg) (hi' : i < vs.length)
    (hr : ∀ h', Wr h h' a i (.int (nar .char x)) → Arv Z h' a kc .char z (vs.set i (.int (nar .char x))) dv → WlO l Z a0 EL y bs ml rt R as out Q sf h' k n pc' Ls st) (hp : pc + 1 = pc' := by rfl) : WlO l Z a0 EL y bs ml rt R as out Q sf h k n pc Ls (.int x :: .int j :: .ref a :: st) := by
  subst hp
  obtain ⟨cl, A, q1, q2, q3, H, G⟩ := F
  refine Wl.write (sl := i) (v := .int (nar .char x)) ha (fun p e s m below meth c T vm0 locs hx hby _ hown hZ X eT => ?_) (fun h' Wv => hr h' Wv (Arv.set A q1 q2 q3 H G (fits_nar_char x) (ej ▸ Wv) i ej hi'))
  subst ej
  exact stC X hx (s := s.setVm vm0) hZ eT A (inb q2 hj rfl hi) (g := mkF m pc Ls (.int x :: .int j :: .ref a :: st)) rfl rfl (hb hby hd)
theorem Wl.bastore (pc' : Nat) {a : Addr} {kc : ClassId} {z j x : Int32} {vs : List Value} {dv : Value} (i : Nat) (hd : decode bs pc = .ok (.bastore, 1)) (F : Arv Z h a kc .byte z vs dv) (ha : a ∈ sf) (hj : ¬ j < 0) (ej : j.toNatClampNeg = i) (hi : i < z.toNatClampNeg) (hi' : i < vs.length)
    (hr : ∀ h', Wr h h' a i (.int (nar .byte x)) → Arv Z h' a kc .byte z (vs.set i (.int (nar .byte x))) dv → WlO l Z a0 EL y bs ml rt R as out Q sf h' k n pc' Ls st) (hp : pc + 1 = pc' := by rfl) : WlO l Z a0 EL y bs ml rt R as out Q sf h k n pc Ls (.int x :: .int j :: .ref a :: st) := by
  subst hp
  obtain ⟨cl, A, q1, q2, q3, H, G⟩ := F
  refine Wl.write (sl := i) (v := .int (nar .byte x)) ha (fun p e s m below meth c T vm0 locs hx hby _ hown hZ X eT => ?_) (fun h' Wv => hr h' Wv (Arv.set A q1 q2 q3 H G (fits_nar_byte x) (ej ▸ Wv) i ej hi'))
  subst ej
  exact stB X hx (s := s.setVm vm0) hZ eT A (inb q2 hj rfl hi) (g := mkF m pc Ls (.int x :: .int j :: .ref a :: st)) rfl rfl (hb hby hd)
/-- System.arraycopy between arrays of one primitive kind, into an own array -/
theorem Wl.arraycopy (pc' : Nat) {i : Nat} {a b : Addr} {kc kc' : ClassId} {ty : FieldType} {z z' sp dp nn : Int32} {vs vd : List Value} {dv dd : Value} (hd : decode bs pc = .ok (.invokestatic i, 3))
    (w1 : (Jvm.Cond.methodLink y.cls i Jvm.Stand.acN).before a0 Z = true) (w2 : (Jvm.Cond.native Jvm.Stand.acN).before a0 Z = true) (w3 : (Jvm.Cond.static Jvm.Stand.acN).before a0 Z = true) (w4 : (Jvm.Cond.initialized "java/lang/System").before a0 Z = true)
    (A : Arv Z h a kc ty z vs dv) (B : Arv Z h b kc' ty z' vd dd) (hty : refKind ty = false) (h1 : ¬ sp < 0) (h2 : ¬ dp < 0) (h3 : ¬ nn < 0) (h4 : sp.toNatClampNeg + nn.toNatClampNeg ≤ z.toNatClampNeg) (h5 : dp.toNatClampNeg + nn.toNatClampNeg ≤ z'.toNatClampNeg) (hl : dp.toNatClampNeg + nn.toNatClampNeg ≤ vd.length) (hbs : b ∈ sf) (hsz : Ls.size = ml) (hf : 1 ≤ R.frames) (hlo : (st.map fun v => v.category).sum + (nativeFrameWords "java/lang/System" "arraycopy" 5 + 11) ≤ R.locals)
    (hr : ∀ h', Keep h h' [b] → Arv Z h' b kc' ty z' (vd.take dp.toNatClampNeg ++ ((List.range nn.toNatClampNeg).map fun i => vs.getD (sp.toNatClampNeg + i) dv) ++ vd.drop (dp.toNatClampNeg + nn.toNatClampNeg)) dd → WlO l Z a0 EL y bs ml rt R as out Q sf h' k n pc' Ls st) (hp : pc + 3 = pc' := by rfl) : WlO l Z a0 EL y bs ml rt R as out Q sf h k n pc Ls (.int nn :: .int dp :: .ref b :: .int sp :: .ref a :: st) := by
  subst hp
  intro p e s m below meth c T W
  obtain ⟨A0, vm0, locs, k0, X, eT, hS, hk, hF, hZ, hC, hM, hH⟩ := W
  obtain ⟨T', h', L', X', e', hF', K, G, stp⟩ := cpA X A0.1 (s := s.setVm vm0) hZ (by show vm0.findClass y.cls = _; rw [hS.1.alike.findClass]; exact A0.2.2.2.2.2.2.1) w1 w2 w3 w4 eT A B (Or.inl ⟨rfl, hty⟩) h1 h2 h3 h4 h5 rfl hl hF (hM b hbs).2.1 (g := mkF m pc Ls (.int nn :: .int dp :: .ref b :: .int sp :: .ref a :: st)) rfl (by rw [A0.2.2.1]; exact hsz) rfl (hb A0.2.1 hd) hf (W := (st.map fun v => v.category).sum) (by show 2 * 0 + _ ≤ _; omega) hlo
  have Bc := CHr.keep (Z := Z) (EL := EL) (vm := vm0) K (fun x hx => by cases List.mem_singleton.mp hx; exact (hM b hbs).1) hC.1
  exact Go.of stp (hr h' K G p e s m below meth c T' ⟨A0, vm0, L', k0, X', e', hS, Nat.le_trans hk K.1, hF', hZ, hC.trans Bc, hM.chr Bc, hH⟩)
/-! Object.<init>, classes -/
theorem Wl.initO (pc' : Nat) {i : Nat} {a : Addr} (hd : decode bs pc = .ok (.invokespecial i, 3)) (w1 : (Jvm.Cond.methodLink y.cls i Lib.objectInit).before a0 Z = true) (w2 : (Jvm.Cond.instanceMethod Lib.objectInit).before a0 Z = true) (w3 : (Jvm.Cond.code Lib.objectInit ⟨#[0xb1]⟩ 1 none).before a0 Z = true) (hsz : Ls.size = ml) (hf : 1 ≤ R.frames) (hl : (st.map fun v => v.category).sum + 12 ≤ R.locals)
    (hr : WlO l Z a0 EL y bs ml rt R as out Q sf h k n pc' Ls st) (hp : pc + 3 = pc' := by rfl) : WlO l Z a0 EL y bs ml rt R as out Q sf h k n pc Ls (.ref a :: st) := by
  subst hp; exact Wl.same (fun p e s m below meth c T vm0 locs hx hby hml hown hZ X eT _ => Jvm.RoadKit.initO X hx (s := s.setVm vm0) hZ hown w1 w2 w3 eT (g := mkF m pc Ls (.ref a :: st)) rfl (by rw [hml]; exact hsz) rfl (hb hby hd) hf (W := (st.map fun v => v.category).sum) (by show 2 * 0 + _ ≤ _; omega) hl) hr
theorem Wl.checkcast (pc' : Nat) {i : Nat} {K : String} {a : Addr} (hd : decode bs pc = .ok (.checkcast i, 3)) (w : (Jvm.Cond.classLink y.cls i K).before a0 Z = true) (F : Ins Z h a K true) (hr : WlO l Z a0 EL y bs ml rt R as out Q sf h k n pc' Ls (.ref a :: st)) (hp : pc + 3 = pc' := by rfl) : WlO l Z a0 EL y bs ml rt R as out Q sf h k n pc Ls (.ref a :: st) := by
  subst hp; exact Wl.same (fun p e s m below meth c T vm0 locs hx hby hml hown hZ X eT _ => castY X hx (s := s.setVm vm0) hZ hown w eT F (g := mkF m pc Ls (.ref a :: st)) rfl rfl (hb hby hd)) hr
theorem Wl.instY (pc' : Nat) {i : Nat} {K : String} {a : Addr} (hd : decode bs pc = .ok (.instanceof i, 3)) (w : (Jvm.Cond.classLink y.cls i K).before a0 Z = true) (F : Ins Z h a K true) (hr : WlO l Z a0 EL y bs ml rt R as out Q sf h k n pc' Ls (.int 1 :: st)) (hp : pc + 3 = pc' := by rfl) : WlO l Z a0 EL y bs ml rt R as out Q sf h k n pc Ls (.ref a :: st) := by
  subst hp; exact Wl.same (fun p e s m below meth c T vm0 locs hx hby hml hown hZ X eT _ => Jvm.RoadKit.instY X hx (s := s.setVm vm0) hZ hown w eT F (g := mkF m pc Ls (.ref a :: st)) rfl rfl (hb hby hd)) hr
theorem Wl.instN (pc' : Nat) {i : Nat} {K K' : String} {a : Addr} (hd : decode bs pc = .ok (.instanceof i, 3)) (w : (Jvm.Cond.classLink y.cls i K).before a0 Z = true) (E : Exa Z h a K') (F : ∃ c t, Z.vm.findClass K' = some c ∧ Z.vm.findClass K = some t ∧ Z.vm.assignable c t = false) (hr : WlO l Z a0 EL y bs ml rt R as out Q sf h k n pc' Ls (.int 0 :: st)) (hp : pc + 3 = pc' := by rfl) : WlO l Z a0 EL y bs ml rt R as out Q sf h k n pc Ls (.ref a :: st) := by
  subst hp; exact Wl.same (fun p e s m below meth c T vm0 locs hx hby hml hown hZ X eT _ => instNo X hx (s := s.setVm vm0) hZ hown w eT E F (g := mkF m pc Ls (.ref a :: st)) rfl rfl (hb hby hd)) hr
theorem Wl.instNull (pc' : Nat) {i : Nat} (hd : decode bs pc = .ok (.instanceof i, 3)) (hr : WlO l Z a0 EL y bs ml rt R as out Q sf h k n pc' Ls (.int 0 :: st)) (hp : pc + 3 = pc' := by rfl) : WlO l Z a0 EL y bs ml rt R as out Q sf h k n pc Ls (.null :: st) := by
  subst hp; exact Wl.same (fun p e s m below meth c T vm0 locs hx hby hml hown hZ X eT _ => ⟨T, X, eT, X.instanceofNull hx (g := mkF m pc Ls (.null :: st)) rfl rfl (hb hby hd)⟩) hr
/-- C's only superclass is S, who has none; K is another plain class -/
theorem notInst {K' S K : String} {cnt : Nat} (w : (Jvm.Cond.superclass K' S).before a0 Z = true) (wo : (Jvm.Cond.noSuperclass S).before a0 Z = true) (wi : (Jvm.Cond.instantiable K cnt).before a0 Z = true) (h1 : S ≠ K) (h2 : K' ≠ K) : ∃ c t, Z.vm.findClass K' = some c ∧ Z.vm.findClass K = some t ∧ Z.vm.assignable c t = false := by
  obtain ⟨t, kt, g0, g2, g5, g7, -⟩ := Cond.instantiable_spec wi
  obtain ⟨c', k', s1, s2, s3, -, -⟩ := Cond.noSuperclass_spec wo
  obtain ⟨c, h0⟩ := found_sup w
  obtain ⟨p, k, kp, q1, q2, q3, q4, q5, -, q7⟩ := Cond.superclass_spec h0 w
  cases s1.symm.trans q1
  have ne := ids_ne h0 g0 h2
  have ne' := ids_ne s1 g0 h1
  have hi : kt.isInterface = false := by
    cases hq : kt.isInterface with
    | false => rfl
    | true => rw [hq] at g7; simp at g7
  have n3 : ∀ fuel, Z.vm.isSubclassAux fuel c t = false := fun fuel => by
    cases fuel with
    | zero => rfl
    | succ f =>
      have m3 : Z.vm.isSubclassAux f c' t = false := by
        cases f with
        | zero => rfl
        | succ f => simp [Vm.isSubclassAux, ne', s2, s3]
      simp [Vm.isSubclassAux, ne, q2, q4, m3]
  refine ⟨c, t, h0, g0, ?_⟩
  show Z.vm.assignableAux (255 + 1) c t = false
  simp [Vm.assignableAux, ne, q2, g2, q5, g5, hi, Vm.isSubclass, n3]
/-! returns -/
theorem Wl.ret {v : Option Value} (hv : rt = none → v = none) (hk : k ≤ R.cells) (hn : n ≤ R.slots)
    (f : ∀ (p : Program) (e : Env) (s : State) (m : MethodId) (below : List Frame) (meth : Method) (c : Code) (T : State) (vm0 : Vm) (locs : List Loc) (fs : List Frame), p.tables.exec = Jvm.exec → c.code = bs → meth.sig.returnType = rt → Stand p l e R (s.setVm vm0) m as below meth c T locs k n →
      (∀ (f : JFrame) (acts : List Action), f.method = m → f.locked = none → f.entered = [] → (doReturn e (T.setTop f) acts v).1 = T.setFrames fs) → Steps p.tables e below (T.setTop (mkF m pc Ls st)) (T.setFrames fs))
    (hq : Q v h) (ho : ∀ x ∈ out, x ∈ sf) : WlO l Z a0 EL y bs ml rt R as out Q sf h k n pc Ls st := by
  intro p e s m below meth c T W
  obtain ⟨⟨hx, hby, hml, hrt, hlk, hnm, hown, hEL, hO⟩, vm0, locs, k0, X, eT, hS, hk0, hF, hZ, hC, hM, hH⟩ := W
  obtain ⟨fs, hr, hrun, hend, hE⟩ := X.leaveW hS (by rw [eT]; exact hk0) (v := v) (fun q => hv (hrt ▸ q)) hlk
  refine ⟨_, _, f p e s m below meth c T vm0 locs fs hx hby hrt X hr, hrun, hend, v, locs, rfl, ⟨by show Q v T.heap; rw [eT]; exact hq, hF⟩, ?_, ⟨hE.1, hE.2.1, hE.2.2.1, hE.2.2.2.mono hk hn⟩, fun q => State.WarmedH.trans (t := s.setVm vm0) (hH q) X.warmed, ?_⟩
  · show CHr Z EL s.vm s.heap T.vm T.heap
    rw [eT]
    exact hC.trans (CHv.at X hZ hEL hC.1)
  · show Mine Z EL T.vm T.heap out
    rw [eT]
    exact (hM.chr (CHv.at X hZ hEL hC.1)).sub ho
theorem Wl.return_ (hd : decode bs pc = .ok (.return_, 1)) (hrt : rt = none) (hk : k ≤ R.cells) (hn : n ≤ R.slots) (hq : Q none h) (ho : ∀ x ∈ out, x ∈ sf := by exact fun _ q => nomatch q) : WlO l Z a0 EL y bs ml rt R as out Q sf h k n pc Ls [] :=
  Wl.ret (fun _ => rfl) hk hn (fun p e s m below meth c T vm0 locs fs hx hby hr X hl => X.returnOut hx (hr.trans hrt) (hb hby hd) hl) hq ho
theorem Wl.areturn {v : Value} {t : FieldType} (hd : decode bs pc = .ok (.areturn, 1)) (hrt : rt = some t) (ht : t.isReference = true) (hv : v.isRef = true) (hk : k ≤ R.cells) (hn : n ≤ R.slots) (hq : Q (some v) h) (ho : ∀ x ∈ out, x ∈ sf := by exact fun _ q => nomatch q) : WlO l Z a0 EL y bs ml rt R as out Q sf h k n pc Ls [v] :=
  Wl.ret (fun q => by rw [hrt] at q; cases q) hk hn (fun p e s m below meth c T vm0 locs fs hx hby hr X hl => X.areturnOut hx hv (hr.trans hrt) ht (hb hby hd) hl) hq ho
theorem Wl.ireturn {x : Int32} {t : FieldType} (hd : decode bs pc = .ok (.ireturn, 1)) (hrt : rt = some t) (hn1 : narrow t (.int x) = .int x) (ht : t = .int ∨ t = .boolean ∨ t = .byte ∨ t = .char ∨ t = .short) (hk : k ≤ R.cells) (hn : n ≤ R.slots) (hq : Q (some (.int x)) h) (ho : ∀ x ∈ out, x ∈ sf := by exact fun _ q => nomatch q) : WlO l Z a0 EL y bs ml rt R as out Q sf h k n pc Ls [.int x] :=
  Wl.ret (fun q => by rw [hrt] at q; cases q) hk hn (fun p e s m below meth c T vm0 locs fs hx hby hr X hl => X.ireturnOut hx (hr.trans hrt) hn1 ht (hb hby hd) hl) hq ho
/-! a body's walk is its contract; a contract pays a call -/
theorem Met.of_walk {ws : List Jvm.Cond} (hpn : plainFor y = true) (hEL : EW Z a0 EL) (hE : argsToLocals as ml = Ls) (hw : WlO l Z a0 EL y bs ml rt R as out Q sf h 0 0 0 Ls []) : MetO l Z EL y bs ml rt ws R as h sf out Q := by
  refine MetFree.of_bodySF hpn hisR ?_
  intro p e s m args below meth c s₁ Bd hml0 hP hK
  obtain ⟨rfl, hZ, hh, hC, hO, hM⟩ := hP
  have X0 : Stand p l e R s m args below meth c s₁ [] 0 0 := Stand.of_body Bd
  have e0 : s₁.heap = h := by rw [← hh, Bd.state]; rfl
  have hown : s.vm.findClass y.cls = some m.cls := findClass_of_methodNamed Bd.named
  have g := hw p e s m below meth c s₁ ⟨⟨Bd.exec, Bd.bytes, hml0, Bd.returns, Bd.notSynchronized, (name_of_methodNamed Bd.named Bd.method).1, hown, hEL, by rw [hh]; exact hO⟩, s.vm, [], h.size, X0, e0, (State.WarmedH.refl s).since _, Nat.le_refl _, Fr.nil _, hZ, by rw [hh]; exact CHr.refl hC, hM, fun _ => State.WarmedH.refl s⟩
  obtain ⟨s₂, o, g1, g2, g3, g4⟩ := g
  refine ⟨s₂, o, ?_, g2, g3, g4⟩
  have q : entryFrame m args ml = mkF m 0 Ls [] := by rw [← hE]; rfl
  exact castTop q g1
theorem Met.back {y2 : MethodName} {bs2 : ByteArray} {ml2 : Nat} {rt2 : Option FieldType} {rm : Room} {as2 : Array Value} {sf2 out2 : List Addr} {Q2 : Option Value → Heap → Prop} {len W : Nat} {vm0 : Vm} {args : Array Value}
    (hM : MetO l Z EL y2 bs2 ml2 rt2 [] rm as2 h sf2 out2 Q2) (hZ : Z.Warmed39 vm0) (wc : (Jvm.Cond.code y2 bs2 ml2 rt2).before a0 Z = true) (wz : (Jvm.Cond.initialized y2.cls).before a0 Z = true) (hf : rm.frames + 1 ≤ R.frames) (hl : W + (ml2 + 11) + rm.locals ≤ R.locals) (hEL : EW Z a0 EL) (H : CHv Z EL vm0 h) (hO : Ext Z.heap h) (hS : Mine Z EL vm0 h sf2) :
    BackS l R p e below (s.setVm vm0) args y2 len W (fun A a => a = as2 ∧ A.U.heap = h ∧ A.cells + rm.cells ≤ R.cells ∧ A.slots + rm.slots ≤ R.slots)
      (fun A _ v B => ∃ L, (Q2 v B.U.heap ∧ Fr Z.heap.size L) ∧ B.locs = A.locs ++ L ∧ B.cells = A.cells + rm.cells ∧ B.slots = A.slots + rm.slots ∧ CHr Z EL vm0 h B.U.vm B.U.heap ∧ (EL = [] → (s.setVm vm0).WarmedH B.U.vm) ∧ Mine Z EL B.U.vm B.U.heap out2) :=
  BackS.of_freeW (bytes := bs2) (maxL := ml2) (ret := rt2) (E := fun _ first o t L k n => k = rm.cells ∧ n = rm.slots ∧ (∃ v, o = .returned v ∧ (Q2 v t.heap ∧ Fr Z.heap.size L)) ∧ CHr Z EL first.vm first.heap t.vm t.heap ∧ (EL = [] → first.WarmedH t.vm) ∧ Mine Z EL t.vm t.heap out2) hM hf hl
    (fun m meth c A a Y hp => have hU : Z.Warmed39 A.U.vm := wtrans (s := s.setVm vm0) hZ Y.warmed
      ⟨by show (Jvm.Cond.and _ .tt).before a A.U = true; rw [Cond.before_and, mv hU wc]; rfl, mv hU wc, mv hU wz, hp.2.2.1, hp.2.2.2⟩)
    (fun m meth c A a g mk Y hp => ⟨hp.1, wtrans (s := s.setVm vm0) hZ Y.warmed, hp.2.1, (show CHv Z EL A.U.vm h from (CHv.at Y hZ hEL H).1), hO, (show Mine Z EL A.U.vm h sf2 from hS.chr (CHv.at Y hZ hEL H))⟩) (fun _ _ _ _ _ _ _ _ _ => trivial)
    (fun _ _ _ _ ⟨v, L, h1, h2, h3, h4, h5⟩ => ⟨L, _, _, h4, rfl, rfl, ⟨v, h1, h2⟩, h3, h5⟩)
    (fun m meth c A a g mk v t L k n Y hp _ _ ⟨e1, e2, ⟨v', e3, e4⟩, e5, e6, e7⟩ => by
      cases e3; subst e1 e2
      refine ⟨L, e4, rfl, rfl, rfl, (CHv.at Y hZ hEL H).trans ?_, fun q => State.WarmedH.trans (t := A.U.calling g mk a) Y.warmed (e6 q), e7⟩
      rw [← hp.2.1]; exact e5)
/-- a call: what the three kinds share -/
theorem Wl.call {st0 : List Value} {y2 : MethodName} {bs2 : ByteArray} {ml2 : Nat} {rt2 : Option FieldType} {rm : Room} {as2 : Array Value} {sf2 out2 sf' : List Addr} {Q2 : Option Value → Heap → Prop} {len pc' : Nat}
    (hM : MetO l Z EL y2 bs2 ml2 rt2 [] rm as2 h sf2 out2 Q2) (wc : (Jvm.Cond.code y2 bs2 ml2 rt2).before a0 Z = true) (wz : (Jvm.Cond.initialized y2.cls).before a0 Z = true) (hsub : ∀ x ∈ sf2, x ∈ sf) (hf : rm.frames + 1 ≤ R.frames) (hl : (st.map fun v => v.category).sum + (ml2 + 11) + rm.locals ≤ R.locals) (hc : k + rm.cells ≤ R.cells) (hs : n + rm.slots ≤ R.slots)
    (f : ∀ (p : Program) (e : Env) (s : State) (m : MethodId) (below : List Frame) (meth : Method) (c : Code) (T : State) (vm0 : Vm) (locs : List Loc),
      p.tables.exec = Jvm.exec → c.code = bs → c.maxLocals = ml → vm0.findClass y.cls = some m.cls → Z.Warmed39 vm0 → Stand p l e R (s.setVm vm0) m as below meth c T locs k n → T.heap = h →
      ∀ {Post : Pt → Array Value → Option Value → Pt → Prop}, BackS l R p e below (s.setVm vm0) as y2 len (st.map fun v => v.category).sum (fun A a => a = as2 ∧ A.U.heap = h ∧ A.cells + rm.cells ≤ R.cells ∧ A.slots + rm.slots ≤ R.slots) Post →
      ∃ (v : Option Value) (vm₁ : Vm) (B : Pt), (s.setVm vm0).WarmedH vm₁ ∧ Stand p l e R ((s.setVm vm0).setVm B.U.vm) m as below meth c B.U B.locs B.cells B.slots ∧ (s.setVm vm0).Since B.U.vm B.U.heap.size ∧ T.heap.size ≤ B.U.heap.size ∧ Post ⟨T.setVm vm₁, locs, k, n⟩ as2 v B ∧
        Steps p.tables e below (T.setTop (mkF m pc Ls st0)) (B.U.setTop (mkF m pc' Ls (v.toList ++ st))))
    (hsf' : ∀ x ∈ sf', x ∈ out2 ∨ x ∈ sf) (hr : ∀ v h', Q2 v h' → h.size ≤ h'.size → WlO l Z a0 EL y bs ml rt R as out Q sf' h' (k + rm.cells) (n + rm.slots) pc' Ls (v.toList ++ st)) : WlO l Z a0 EL y bs ml rt R as out Q sf h k n pc Ls st0 := by
  intro p e s m below meth c T W
  have hO := W.old
  obtain ⟨A, vm0, locs, k0, X, eT, hS, hk, hF, hZ, hC, hMi, hH⟩ := W
  obtain ⟨v, vm₁, ⟨T', L', k', n'⟩, -, X', hS', hg, ⟨Lc, ⟨hq, hFc⟩, l1, l2, l3, hC', hH', hMo⟩, stp⟩ := f p e s m below meth c T vm0 locs A.1 A.2.1 A.2.2.1 (by rw [hS.1.alike.findClass]; exact A.2.2.2.2.2.2.1) hZ X eT (Met.back (W := (st.map fun v => v.category).sum) (R := R) (a0 := a0) hM hZ wc wz hf hl A.2.2.2.2.2.2.2.1 hC.1 hO (hMi.sub hsub))
  dsimp only [Pt.U, Pt.locs, Pt.cells, Pt.slots] at X' hS' hg hq l1 l2 l3 hC' hH' hMo stp
  subst l1 l2 l3
  have hS2 := hS.trans hS' (Nat.le_trans hk (by rw [← eT]; exact hg))
  refine Go.of (fun t kk => stp.trans kk) (hr v T'.heap hq hC'.2.1 p e s m below meth c T' ⟨A, T'.vm, locs ++ Lc, T'.heap.size, X', rfl, hS2, Nat.le_refl _, Fr.app hF hFc, State.Warmed39.trans (t := s.setVm vm0) hZ hS'.1, hC.trans hC', fun x hx => (hsf' x hx).elim (hMo x) ((hMi.chr hC') x), fun q => State.WarmedH.trans (s := s) (t := s.setVm vm0) (hH q) (hH' q)⟩)
theorem Wl.static (pc' : Nat) {st0 : List Value} {i : Nat} {y2 : MethodName} {bs2 : ByteArray} {ml2 : Nat} {rt2 : Option FieldType} {rm : Room} {argsL : List Value} {sf2 out2 : List Addr} {Q2 : Option Value → Heap → Prop} {ps : List FieldType} {r : Option FieldType}
    (hd : decode bs pc = .ok (.invokestatic i, 3)) (w1 : (Jvm.Cond.methodLink y.cls i y2).before a0 Z = true) (w2 : (Jvm.Cond.static y2).before a0 Z = true) (wz : (Jvm.Cond.initialized y2.cls).before a0 Z = true) (wc : (Jvm.Cond.code y2 bs2 ml2 rt2).before a0 Z = true)
    (hsig : parseMethodDescriptor y2.desc = some ⟨ps, r⟩) (hlen : argsL.length = ps.length) (hM : MetO l Z EL y2 bs2 ml2 rt2 [] rm argsL.toArray h sf2 out2 Q2) (hsub : ∀ x ∈ sf2, x ∈ sf) (hst : st0 = argsL.reverse ++ st) (hsz : Ls.size = ml) (hp : pc + 3 = pc') (hy : y2.cls ≠ "java/lang/invoke/MethodHandle" ∧ y2.cls ≠ "java/lang/invoke/VarHandle")
    (hroom : (rm.frames + 1 ≤ R.frames ∧ (st.map fun v => v.category).sum + (ml2 + 11) + rm.locals ≤ R.locals) ∧ k + rm.cells ≤ R.cells ∧ n + rm.slots ≤ R.slots)
    (hr : ∀ v h', Q2 v h' → h.size ≤ h'.size → WlO l Z a0 EL y bs ml rt R as out Q sf h' (k + rm.cells) (n + rm.slots) pc' Ls (v.toList ++ st)) : WlO l Z a0 EL y bs ml rt R as out Q sf h k n pc Ls st0 := by
  subst hp
  exact Wl.call (len := 3) hM wc wz hsub hroom.1.1 hroom.1.2 hroom.2.1 hroom.2.2 (fun p e s m below meth c T vm0 locs hx hby hml hown hZ X eT {Post} hK =>
    callSS X hx (s := s.setVm vm0) hown (mvT hZ w1) (mvT hZ w2) (mvT hZ wz) (mvT hZ wc) hy hK (g := mkF m pc Ls st0) rfl (by rw [hml]; exact hsz) (argsL := argsL) (rest := st) (lenOf hsig hlen) hst (by show 2 * 0 + _ ≤ _; omega) (hb hby hd) (fun _ _ => ⟨rfl, eT, hroom.2.1, hroom.2.2⟩)) (fun _ q => Or.inr q) hr
theorem Wl.staticO (pc' : Nat) {st0 : List Value} {i : Nat} {y2 : MethodName} {bs2 : ByteArray} {ml2 : Nat} {rt2 : Option FieldType} {rm : Room} {argsL : List Value} {sf2 : List Addr} {d : Addr} {Q2 : Option Value → Heap → Prop} {ps : List FieldType} {r : Option FieldType}
    (hd : decode bs pc = .ok (.invokestatic i, 3)) (w1 : (Jvm.Cond.methodLink y.cls i y2).before a0 Z = true) (w2 : (Jvm.Cond.static y2).before a0 Z = true) (wz : (Jvm.Cond.initialized y2.cls).before a0 Z = true) (wc : (Jvm.Cond.code y2 bs2 ml2 rt2).before a0 Z = true)
    (hsig : parseMethodDescriptor y2.desc = some ⟨ps, r⟩) (hlen : argsL.length = ps.length) (hM : MetO l Z EL y2 bs2 ml2 rt2 [] rm argsL.toArray h sf2 [d] Q2) (hsub : ∀ x ∈ sf2, x ∈ sf) (hst : st0 = argsL.reverse ++ st) (hsz : Ls.size = ml) (hp : pc + 3 = pc') (hy : y2.cls ≠ "java/lang/invoke/MethodHandle" ∧ y2.cls ≠ "java/lang/invoke/VarHandle")
    (hroom : (rm.frames + 1 ≤ R.frames ∧ (st.map fun v => v.category).sum + (ml2 + 11) + rm.locals ≤ R.locals) ∧ k + rm.cells ≤ R.cells ∧ n + rm.slots ≤ R.slots)
    (hr : ∀ v h', Q2 v h' → h.size ≤ h'.size → WlO l Z a0 EL y bs ml rt R as out Q (d :: sf) h' (k + rm.cells) (n + rm.slots) pc' Ls (v.toList ++ st)) : WlO l Z a0 EL y bs ml rt R as out Q sf h k n pc Ls st0 := by
  subst hp
  exact Wl.call (len := 3) hM wc wz hsub hroom.1.1 hroom.1.2 hroom.2.1 hroom.2.2 (fun p e s m below meth c T vm0 locs hx hby hml hown hZ X eT {Post} hK =>
    callSS X hx (s := s.setVm vm0) hown (mvT hZ w1) (mvT hZ w2) (mvT hZ wz) (mvT hZ wc) hy hK (g := mkF m pc Ls st0) rfl (by rw [hml]; exact hsz) (argsL := argsL) (rest := st) (lenOf hsig hlen) hst (by show 2 * 0 + _ ≤ _; omega) (hb hby hd) (fun _ _ => ⟨rfl, eT, hroom.2.1, hroom.2.2⟩)) (fun x q => (List.mem_cons.mp q).elim (fun e => Or.inl (e ▸ List.mem_singleton.mpr rfl)) Or.inr) hr
theorem Wl.special (pc' : Nat) {st0 : List Value} {i : Nat} {y2 : MethodName} {bs2 : ByteArray} {ml2 : Nat} {rm : Room} {a : Addr} {argsL : List Value} {sf2 out2 : List Addr} {Q2 : Option Value → Heap → Prop} {ps : List FieldType} {r : Option FieldType}
    (hd : decode bs pc = .ok (.invokespecial i, 3)) (w1 : (Jvm.Cond.methodLink y.cls i y2).before a0 Z = true) (w2 : (Jvm.Cond.instanceMethod y2).before a0 Z = true) (wz : (Jvm.Cond.initialized y2.cls).before a0 Z = true) (wc : (Jvm.Cond.code y2 bs2 ml2 none).before a0 Z = true)
    (hsig : parseMethodDescriptor y2.desc = some ⟨ps, r⟩) (hlen : argsL.length = ps.length) (hM : MetO l Z EL y2 bs2 ml2 none [] rm (.ref a :: argsL).toArray h sf2 out2 Q2) (hsub : ∀ x ∈ sf2, x ∈ sf) (hst : st0 = argsL.reverse ++ .ref a :: st) (hsz : Ls.size = ml) (hp : pc + 3 = pc') (hni : y2.name = "<init>") (hy : y2.cls ≠ "java/lang/invoke/MethodHandle" ∧ y2.cls ≠ "java/lang/invoke/VarHandle")
    (hroom : (rm.frames + 1 ≤ R.frames ∧ (st.map fun v => v.category).sum + (ml2 + 11) + rm.locals ≤ R.locals) ∧ k + rm.cells ≤ R.cells ∧ n + rm.slots ≤ R.slots)
    (hr : ∀ v h', Q2 v h' → h.size ≤ h'.size → WlO l Z a0 EL y bs ml rt R as out Q sf h' (k + rm.cells) (n + rm.slots) pc' Ls (v.toList ++ st)) : WlO l Z a0 EL y bs ml rt R as out Q sf h k n pc Ls st0 := by
  subst hp
  exact Wl.call (len := 3) hM wc wz hsub hroom.1.1 hroom.1.2 hroom.2.1 hroom.2.2 (fun p e s m below meth c T vm0 locs hx hby hml hown hZ X eT {Post} hK =>
    X.specialBackS hx (s := s.setVm vm0) hni hown (mvT hZ w1) (mvT hZ w2) (mvT hZ wc) hy hK (g := mkF m pc Ls st0) rfl (by rw [hml]; exact hsz) (Steps.refl _) (a := a) (argsL := argsL) (rest := st) (lenOf hsig hlen) hst (by show 2 * 0 + _ ≤ _; omega) (hb hby hd) (fun _ _ => ⟨rfl, eT, hroom.2.1, hroom.2.2⟩)) (fun _ q => Or.inr q) hr
theorem Wl.specialO (pc' : Nat) {st0 : List Value} {i : Nat} {y2 : MethodName} {bs2 : ByteArray} {ml2 : Nat} {rm : Room} {a : Addr} {argsL : List Value} {sf2 : List Addr} {d : Addr} {Q2 : Option Value → Heap → Prop} {ps : List FieldType} {r : Option FieldType}
    (hd : decode bs pc = .ok (.invokespecial i, 3)) (w1 : (Jvm.Cond.methodLink y.cls i y2).before a0 Z = true) (w2 : (Jvm.Cond.instanceMethod y2).before a0 Z = true) (wz : (Jvm.Cond.initialized y2.cls).before a0 Z = true) (wc : (Jvm.Cond.code y2 bs2 ml2 none).before a0 Z = true)
    (hsig : parseMethodDescriptor y2.desc = some ⟨ps, r⟩) (hlen : argsL.length = ps.length) (hM : MetO l Z EL y2 bs2 ml2 none [] rm (.ref a :: argsL).toArray h sf2 [d] Q2) (hsub : ∀ x ∈ sf2, x ∈ sf) (hst : st0 = argsL.reverse ++ .ref a :: st) (hsz : Ls.size = ml) (hp : pc + 3 = pc') (hni : y2.name = "<init>") (hy : y2.cls ≠ "java/lang/invoke/MethodHandle" ∧ y2.cls ≠ "java/lang/invoke/VarHandle")
    (hroom : (rm.frames + 1 ≤ R.frames ∧ (st.map fun v => v.category).sum + (ml2 + 11) + rm.locals ≤ R.locals) ∧ k + rm.cells ≤ R.cells ∧ n + rm.slots ≤ R.slots)
    (hr : ∀ v h', Q2 v h' → h.size ≤ h'.size → WlO l Z a0 EL y bs ml rt R as out Q (d :: sf) h' (k + rm.cells) (n + rm.slots) pc' Ls (v.toList ++ st)) : WlO l Z a0 EL y bs ml rt R as out Q sf h k n pc Ls st0 := by
  subst hp
  exact Wl.call (len := 3) hM wc wz hsub hroom.1.1 hroom.1.2 hroom.2.1 hroom.2.2 (fun p e s m below meth c T vm0 locs hx hby hml hown hZ X eT {Post} hK =>
    X.specialBackS hx (s := s.setVm vm0) hni hown (mvT hZ w1) (mvT hZ w2) (mvT hZ wc) hy hK (g := mkF m pc Ls st0) rfl (by rw [hml]; exact hsz) (Steps.refl _) (a := a) (argsL := argsL) (rest := st) (lenOf hsig hlen) hst (by show 2 * 0 + _ ≤ _; omega) (hb hby hd) (fun _ _ => ⟨rfl, eT, hroom.2.1, hroom.2.2⟩)) (fun x q => (List.mem_cons.mp q).elim (fun e => Or.inl (e ▸ List.mem_singleton.mpr rfl)) Or.inr) hr
theorem Wl.virtual (pc' : Nat) {st0 : List Value} {i : Nat} {y1 y2 : MethodName} {K : String} {bs2 : ByteArray} {ml2 : Nat} {rt2 : Option FieldType} {rm : Room} {a : Addr} {argsL : List Value} {sf2 out2 : List Addr} {Q2 : Option Value → Heap → Prop} {ps : List FieldType} {r : Option FieldType}
    (hd : decode bs pc = .ok (.invokevirtual i, 3)) (w1 : (Jvm.Cond.methodLink y.cls i y1).before a0 Z = true) (w2 : (Jvm.Cond.declares y1).before a0 Z = true) (w3 : (Jvm.Cond.selects K y1 y2).before a0 Z = true) (w4 : (Jvm.Cond.instanceMethod y2).before a0 Z = true) (wz : (Jvm.Cond.initialized y2.cls).before a0 Z = true) (wc : (Jvm.Cond.code y2 bs2 ml2 rt2).before a0 Z = true) (hnf : ∀ {vm0 : Vm} {s : State}, Z.Warmed39 vm0 → NotFace (s.setVm vm0) y1)
    (hE : Exa Z h a K) (hsig : parseMethodDescriptor y1.desc = some ⟨ps, r⟩) (hlen : argsL.length = ps.length) (hM : MetO l Z EL y2 bs2 ml2 rt2 [] rm (.ref a :: argsL).toArray h sf2 out2 Q2) (hsub : ∀ x ∈ sf2, x ∈ sf) (hst : st0 = argsL.reverse ++ .ref a :: st) (hsz : Ls.size = ml) (hp : pc + 3 = pc') (hy : y1.cls ≠ "java/lang/invoke/MethodHandle" ∧ y1.cls ≠ "java/lang/invoke/VarHandle")
    (hroom : (rm.frames + 1 ≤ R.frames ∧ (st.map fun v => v.category).sum + (ml2 + 11) + rm.locals ≤ R.locals) ∧ k + rm.cells ≤ R.cells ∧ n + rm.slots ≤ R.slots)
    (hr : ∀ v h', Q2 v h' → h.size ≤ h'.size → WlO l Z a0 EL y bs ml rt R as out Q sf h' (k + rm.cells) (n + rm.slots) pc' Ls (v.toList ++ st)) : WlO l Z a0 EL y bs ml rt R as out Q sf h k n pc Ls st0 := by
  subst hp
  refine Wl.call (len := 3) hM wc wz hsub hroom.1.1 hroom.1.2 hroom.2.1 hroom.2.2 (fun p e s m below meth c T vm0 locs hx hby hml hown hZ X eT {Post} hK => ?_) (fun _ q => Or.inr q) hr
  obtain ⟨cB, kB, i1, i2, i3⟩ := isOf (s := s.setVm vm0) hZ eT hE
  exact X.virtualBackS hx (s := s.setVm vm0) hown (mvT hZ w1) (mvT hZ w2) (hnf hZ) (mvT hZ w3) (mvT hZ w4) hy hK i1 i3 (g := mkF m pc Ls st0) rfl (by rw [hml]; exact hsz) (Steps.refl _) (argsL := argsL) (rest := st) (lenOf hsig hlen) hst (by show 2 * 0 + _ ≤ _; omega) (hb hby hd) (fun _ _ => ⟨rfl, eT, hroom.2.1, hroom.2.2⟩)
theorem Wl.virtualO (pc' : Nat) {st0 : List Value} {i : Nat} {y1 y2 : MethodName} {K : String} {bs2 : ByteArray} {ml2 : Nat} {rt2 : Option FieldType} {rm : Room} {a : Addr} {argsL : List Value} {sf2 : List Addr} {d : Addr} {Q2 : Option Value → Heap → Prop} {ps : List FieldType} {r : Option FieldType}
    (hd : decode bs pc = .ok (.invokevirtual i, 3)) (w1 : (Jvm.Cond.methodLink y.cls i y1).before a0 Z = true) (w2 : (Jvm.Cond.declares y1).before a0 Z = true) (w3 : (Jvm.Cond.selects K y1 y2).before a0 Z = true) (w4 : (Jvm.Cond.instanceMethod y2).before a0 Z = true) (wz : (Jvm.Cond.initialized y2.cls).before a0 Z = true) (wc : (Jvm.Cond.code y2 bs2 ml2 rt2).before a0 Z = true) (hnf : ∀ {vm0 : Vm} {s : State}, Z.Warmed39 vm0 → NotFace (s.setVm vm0) y1)
    (hE : Exa Z h a K) (hsig : parseMethodDescriptor y1.desc = some ⟨ps, r⟩) (hlen : argsL.length = ps.length) (hM : MetO l Z EL y2 bs2 ml2 rt2 [] rm (.ref a :: argsL).toArray h sf2 [d] Q2) (hsub : ∀ x ∈ sf2, x ∈ sf) (hst : st0 = argsL.reverse ++ .ref a :: st) (hsz : Ls.size = ml) (hp : pc + 3 = pc') (hy : y1.cls ≠ "java/lang/invoke/MethodHandle" ∧ y1.cls ≠ "java/lang/invoke/VarHandle")
    (hroom : (rm.frames + 1 ≤ R.frames ∧ (st.map fun v => v.category).sum + (ml2 + 11) + rm.locals ≤ R.locals) ∧ k + rm.cells ≤ R.cells ∧ n + rm.slots ≤ R.slots)
    (hr : ∀ v h', Q2 v h' → h.size ≤ h'.size → WlO l Z a0 EL y bs ml rt R as out Q (d :: sf) h' (k + rm.cells) (n + rm.slots) pc' Ls (v.toList ++ st)) : WlO l Z a0 EL y bs ml rt R as out Q sf h k n pc Ls st0 := by
  subst hp
  refine Wl.call (len := 3) hM wc wz hsub hroom.1.1 hroom.1.2 hroom.2.1 hroom.2.2 (fun p e s m below meth c T vm0 locs hx hby hml hown hZ X eT {Post} hK => ?_) (fun x q => (List.mem_cons.mp q).elim (fun e => Or.inl (e ▸ List.mem_singleton.mpr rfl)) Or.inr) hr
  obtain ⟨cB, kB, i1, i2, i3⟩ := isOf (s := s.setVm vm0) hZ eT hE
  exact X.virtualBackS hx (s := s.setVm vm0) hown (mvT hZ w1) (mvT hZ w2) (hnf hZ) (mvT hZ w3) (mvT hZ w4) hy hK i1 i3 (g := mkF m pc Ls st0) rfl (by rw [hml]; exact hsz) (Steps.refl _) (argsL := argsL) (rest := st) (lenOf hsig hlen) hst (by show 2 * 0 + _ ≤ _; omega) (hb hby hd) (fun _ _ => ⟨rfl, eT, hroom.2.1, hroom.2.2⟩)
theorem nf_sel {K : String} {y1 y2 : MethodName} (w : (Jvm.Cond.selects K y1 y2).before a0 Z = true) (e : y1 = y2) : ∀ {vm0 : Vm} {s : State}, Z.Warmed39 vm0 → NotFace (s.setVm vm0) y1 := fun {vm0 s} hZ => by
  subst e; exact notFace_of_selects (args := #[]) (mvT (s := s.setVm vm0) hZ w)
theorem Wl.interface (pc' : Nat) {st0 : List Value} {i cnt : Nat} {y1 y2 : MethodName} {K : String} {bs2 : ByteArray} {ml2 : Nat} {rt2 : Option FieldType} {rm : Room} {a : Addr} {argsL : List Value} {sf2 out2 : List Addr} {Q2 : Option Value → Heap → Prop} {ps : List FieldType} {r : Option FieldType}
    (hd : decode bs pc = .ok (.invokeinterface i cnt, 5)) (w1 : (Jvm.Cond.methodLink y.cls i y1).before a0 Z = true) (w2 : (Jvm.Cond.declares y1).before a0 Z = true) (w3 : ∀ {vm0 : Vm} {s : State}, Z.Warmed39 vm0 → (Jvm.Cond.interfaceMethod y1.cls y1.cls y1.name y1.desc).before as (s.setVm vm0) = true) (w4 : (Jvm.Cond.selects K y1 y2).before a0 Z = true) (w5 : (Jvm.Cond.instanceMethod y2).before a0 Z = true) (w6 : (Jvm.Cond.publicMethod y2).before a0 Z = true) (w7 : (Jvm.Cond.unhidden K y1.name y1.desc).before a0 Z = true) (w8 : (Jvm.Cond.castable K y1.cls).before a0 Z = true) (wz : (Jvm.Cond.initialized y2.cls).before a0 Z = true) (wc : (Jvm.Cond.code y2 bs2 ml2 rt2).before a0 Z = true)
    (hE : Exa Z h a K) (hsig : parseMethodDescriptor y1.desc = some ⟨ps, r⟩) (hlen : argsL.length = ps.length) (hM : MetO l Z EL y2 bs2 ml2 rt2 [] rm (.ref a :: argsL).toArray h sf2 out2 Q2) (hsub : ∀ x ∈ sf2, x ∈ sf) (hst : st0 = argsL.reverse ++ .ref a :: st) (hsz : Ls.size = ml) (hp : pc + 5 = pc') (hy : y1.cls ≠ "java/lang/invoke/MethodHandle" ∧ y1.cls ≠ "java/lang/invoke/VarHandle")
    (hroom : (rm.frames + 1 ≤ R.frames ∧ (st.map fun v => v.category).sum + (ml2 + 11) + rm.locals ≤ R.locals) ∧ k + rm.cells ≤ R.cells ∧ n + rm.slots ≤ R.slots)
    (hr : ∀ v h', Q2 v h' → h.size ≤ h'.size → WlO l Z a0 EL y bs ml rt R as out Q sf h' (k + rm.cells) (n + rm.slots) pc' Ls (v.toList ++ st)) : WlO l Z a0 EL y bs ml rt R as out Q sf h k n pc Ls st0 := by
  subst hp
  refine Wl.call (len := 5) hM wc wz hsub hroom.1.1 hroom.1.2 hroom.2.1 hroom.2.2 (fun p e s m below meth c T vm0 locs hx hby hml hown hZ X eT {Post} hK => ?_) (fun _ q => Or.inr q) hr
  obtain ⟨cB, kB, i1, i2, i3⟩ := isOf (s := s.setVm vm0) hZ eT hE
  exact X.interfaceBackS hx (s := s.setVm vm0) hown (mvT hZ w1) (mvT hZ w2) (w3 hZ) (mvT hZ w4) (mvT hZ w5) (mvT hZ w6) (mvT hZ w7) (mvT hZ w8) hy hK i1 i2 i3 (g := mkF m pc Ls st0) rfl (by rw [hml]; exact hsz) (Steps.refl _) (argsL := argsL) (rest := st) (lenOf hsig hlen) hst (by show 2 * 0 + _ ≤ _; omega) (hb hby hd) (fun _ _ => ⟨rfl, eT, hroom.2.1, hroom.2.2⟩)
theorem Wl.interfaceO (pc' : Nat) {st0 : List Value} {i cnt : Nat} {y1 y2 : MethodName} {K : String} {bs2 : ByteArray} {ml2 : Nat} {rt2 : Option FieldType} {rm : Room} {a : Addr} {argsL : List Value} {sf2 : List Addr} {d : Addr} {Q2 : Option Value → Heap → Prop} {ps : List FieldType} {r : Option FieldType}
    (hd : decode bs pc = .ok (.invokeinterface i cnt, 5)) (w1 : (Jvm.Cond.methodLink y.cls i y1).before a0 Z = true) (w2 : (Jvm.Cond.declares y1).before a0 Z = true) (w3 : ∀ {vm0 : Vm} {s : State}, Z.Warmed39 vm0 → (Jvm.Cond.interfaceMethod y1.cls y1.cls y1.name y1.desc).before as (s.setVm vm0) = true) (w4 : (Jvm.Cond.selects K y1 y2).before a0 Z = true) (w5 : (Jvm.Cond.instanceMethod y2).before a0 Z = true) (w6 : (Jvm.Cond.publicMethod y2).before a0 Z = true) (w7 : (Jvm.Cond.unhidden K y1.name y1.desc).before a0 Z = true) (w8 : (Jvm.Cond.castable K y1.cls).before a0 Z = true) (wz : (Jvm.Cond.initialized y2.cls).before a0 Z = true) (wc : (Jvm.Cond.code y2 bs2 ml2 rt2).before a0 Z = true)
    (hE : Exa Z h a K) (hsig : parseMethodDescriptor y1.desc = some ⟨ps, r⟩) (hlen : argsL.length = ps.length) (hM : MetO l Z EL y2 bs2 ml2 rt2 [] rm (.ref a :: argsL).toArray h sf2 [d] Q2) (hsub : ∀ x ∈ sf2, x ∈ sf) (hst : st0 = argsL.reverse ++ .ref a :: st) (hsz : Ls.size = ml) (hp : pc + 5 = pc') (hy : y1.cls ≠ "java/lang/invoke/MethodHandle" ∧ y1.cls ≠ "java/lang/invoke/VarHandle")
    (hroom : (rm.frames + 1 ≤ R.frames ∧ (st.map fun v => v.category).sum + (ml2 + 11) + rm.locals ≤ R.locals) ∧ k + rm.cells ≤ R.cells ∧ n + rm.slots ≤ R.slots)
    (hr : ∀ v h', Q2 v h' → h.size ≤ h'.size → WlO l Z a0 EL y bs ml rt R as out Q (d :: sf) h' (k + rm.cells) (n + rm.slots) pc' Ls (v.toList ++ st)) : WlO l Z a0 EL y bs ml rt R as out Q sf h k n pc Ls st0 := by
  subst hp
  refine Wl.call (len := 5) hM wc wz hsub hroom.1.1 hroom.1.2 hroom.2.1 hroom.2.2 (fun p e s m below meth c T vm0 locs hx hby hml hown hZ X eT {Post} hK => ?_) (fun x q => (List.mem_cons.mp q).elim (fun e => Or.inl (e ▸ List.mem_singleton.mpr rfl)) Or.inr) hr
  obtain ⟨cB, kB, i1, i2, i3⟩ := isOf (s := s.setVm vm0) hZ eT hE
  exact X.interfaceBackS hx (s := s.setVm vm0) hown (mvT hZ w1) (mvT hZ w2) (w3 hZ) (mvT hZ w4) (mvT hZ w5) (mvT hZ w6) (mvT hZ w7) (mvT hZ w8) hy hK i1 i2 i3 (g := mkF m pc Ls st0) rfl (by rw [hml]; exact hsz) (Steps.refl _) (argsL := argsL) (rest := st) (lenOf hsig hlen) hst (by show 2 * 0 + _ ≤ _; omega) (hb hby hd) (fun _ _ => ⟨rfl, eT, hroom.2.1, hroom.2.2⟩)
/-- invokevirtual of a private method -/
theorem Wl.priv (pc' : Nat) {st0 : List Value} {i : Nat} {y2 : MethodName} {K : String} {bs2 : ByteArray} {ml2 : Nat} {rt2 : Option FieldType} {rm : Room} {a : Addr} {argsL : List Value} {sf2 out2 : List Addr} {Q2 : Option Value → Heap → Prop} {ps : List FieldType} {r : Option FieldType}
    (hd : decode bs pc = .ok (.invokevirtual i, 3)) (w1 : (Jvm.Cond.methodLink y.cls i y2).before a0 Z = true) (w2 : (Jvm.Cond.privateMethod y2).before a0 Z = true) (w3 : (Jvm.Cond.selects K y2 y2).before a0 Z = true) (w4 : (Jvm.Cond.instanceMethod y2).before a0 Z = true) (wz : (Jvm.Cond.initialized y2.cls).before a0 Z = true) (wc : (Jvm.Cond.code y2 bs2 ml2 rt2).before a0 Z = true)
    (hE : Exa Z h a K) (hsig : parseMethodDescriptor y2.desc = some ⟨ps, r⟩) (hlen : argsL.length = ps.length) (hM : MetO l Z EL y2 bs2 ml2 rt2 [] rm (.ref a :: argsL).toArray h sf2 out2 Q2) (hsub : ∀ x ∈ sf2, x ∈ sf) (hst : st0 = argsL.reverse ++ .ref a :: st) (hsz : Ls.size = ml) (hp : pc + 3 = pc') (hy : y2.cls ≠ "java/lang/invoke/MethodHandle" ∧ y2.cls ≠ "java/lang/invoke/VarHandle")
    (hroom : (rm.frames + 1 ≤ R.frames ∧ (st.map fun v => v.category).sum + (ml2 + 11) + rm.locals ≤ R.locals) ∧ k + rm.cells ≤ R.cells ∧ n + rm.slots ≤ R.slots)
    (hr : ∀ v h', Q2 v h' → h.size ≤ h'.size → WlO l Z a0 EL y bs ml rt R as out Q sf h' (k + rm.cells) (n + rm.slots) pc' Ls (v.toList ++ st)) : WlO l Z a0 EL y bs ml rt R as out Q sf h k n pc Ls st0 := by
  subst hp
  refine Wl.call (len := 3) hM wc wz hsub hroom.1.1 hroom.1.2 hroom.2.1 hroom.2.2 (fun p e s m below meth c T vm0 locs hx hby hml hown hZ X eT {Post} hK => ?_) (fun _ q => Or.inr q) hr
  obtain ⟨cB, kB, i1, i2, cell, i3, i4, i5⟩ := isOf (s := s.setVm vm0) hZ eT hE
  obtain ⟨mk, methM, hnamed, hmethM, hstM, habM⟩ := Cond.instanceMethod_spec (mvT (s := s.setVm vm0) (args := as) hZ w4)
  obtain ⟨methM', cM, hmethM', -, -, -, -, -, -, hsigM⟩ := Cond.code_spec hnamed (mvT (s := s.setVm vm0) (args := as) hZ wc)
  cases hmethM.symm.trans hmethM'
  obtain ⟨c2, r2, m2, -, -, q3, -, kP, hkP, hkPi⟩ := Cond.selects_spec (mvT (s := s.setVm vm0) (args := as) hZ w3)
  cases hnamed.symm.trans q3
  have hselP : selectMethod e.platform (s.setVm vm0).vm cell.cls mk = .method mk := selectMethod_private hmethM (Cond.privateMethod_at (mvP (s := s.setVm vm0) (args := as) hZ w2) mk methM hnamed hmethM)
  obtain ⟨vm₁, X₁, hstep₁⟩ := X.invokevirtual hx hown (mvT hZ w1) hnamed hmethM hstM hkP hkPi hy (a := a) (cell := cell) i3 (fun z h => by rw [h] at i5; cases i5) hselP hmethM habM hkP hkPi (g := mkF m pc Ls st0) rfl (argsL := argsL) (rest := st) (lenOf hsig hlen _ hsigM) hst (hb hby hd)
  obtain ⟨v, B, X', hS, hgr, hpost, hsteps⟩ := hK m meth c ⟨T.setVm vm₁, locs, k, n⟩ { mkF m pc Ls st0 with stack := st } (.invokevirtual i) mk (.ref a :: argsL).toArray X₁ rfl (by show Ls.size = c.maxLocals; rw [hml]; exact hsz) (hb hby hd) (by show 2 * 0 + (st.map fun v => v.category).sum ≤ (st.map fun v => v.category).sum; omega) (X₁.named hnamed) ⟨rfl, eT, hroom.2.1, hroom.2.2⟩
  exact ⟨v, vm₁, B, X₁.warmed, X', hS, hgr, hpost, (hstep₁ _ fun acts => by rw [doInvoke_state]; exact Steps.refl _).trans hsteps⟩
/-- invokespecial of the superclass's method -/
theorem Wl.up (pc' : Nat) {st0 : List Value} {i : Nat} {y2 : MethodName} {K : String} {bs2 : ByteArray} {ml2 : Nat} {rt2 : Option FieldType} {rm : Room} {a : Addr} {argsL : List Value} {sf2 out2 : List Addr} {Q2 : Option Value → Heap → Prop} {ps : List FieldType} {r : Option FieldType}
    (hd : decode bs pc = .ok (.invokespecial i, 3)) (w1 : (Jvm.Cond.methodLink y.cls i y2).before a0 Z = true) (w2 : (Jvm.Cond.sameMethod y2.cls y2.cls y2.name y2.desc).before a0 Z = true) (w3 : (Jvm.Cond.instanceMethod y2).before a0 Z = true) (w4 : (Jvm.Cond.superclass y.cls y2.cls).before a0 Z = true) (wz : (Jvm.Cond.initialized y2.cls).before a0 Z = true) (wc : (Jvm.Cond.code y2 bs2 ml2 rt2).before a0 Z = true)
    (hE : Exa Z h a K) (hsig : parseMethodDescriptor y2.desc = some ⟨ps, r⟩) (hlen : argsL.length = ps.length) (hM : MetO l Z EL y2 bs2 ml2 rt2 [] rm (.ref a :: argsL).toArray h sf2 out2 Q2) (hsub : ∀ x ∈ sf2, x ∈ sf) (hst : st0 = argsL.reverse ++ .ref a :: st) (hsz : Ls.size = ml) (hp : pc + 3 = pc') (hni : y2.name ≠ "<init>")
    (hroom : (rm.frames + 1 ≤ R.frames ∧ (st.map fun v => v.category).sum + (ml2 + 11) + rm.locals ≤ R.locals) ∧ k + rm.cells ≤ R.cells ∧ n + rm.slots ≤ R.slots)
    (hr : ∀ v h', Q2 v h' → h.size ≤ h'.size → WlO l Z a0 EL y bs ml rt R as out Q sf h' (k + rm.cells) (n + rm.slots) pc' Ls (v.toList ++ st)) : WlO l Z a0 EL y bs ml rt R as out Q sf h k n pc Ls st0 := by
  subst hp
  refine Wl.call (len := 3) hM wc wz hsub hroom.1.1 hroom.1.2 hroom.2.1 hroom.2.2 (fun p e s m below meth c T vm0 locs hx hby hml hown hZ X eT {Post} hK => ?_) (fun _ q => Or.inr q) hr
  exact superBackS X hx (s := s.setVm vm0) hZ hown w1 w2 w3 w4 hni hK eT (Ins.self hE) (g := mkF m pc Ls st0) rfl (by rw [hml]; exact hsz) wc (argsL := argsL) (rest := st) (lenOf hsig hlen) hst (by show 2 * 0 + _ ≤ _; omega) (hb hby hd) (fun _ _ => ⟨rfl, eT, hroom.2.1, hroom.2.2⟩)
/-- a class that declares y and is seen as no interface elsewhere -/
theorem nf_cls {K : String} {y1 y2 : MethodName} (wd : (Jvm.Cond.declares y1).before a0 Z = true) (w : (Jvm.Cond.selects K y2 y2).before a0 Z = true) (e : y2.cls = y1.cls) : ∀ {vm0 : Vm} {s : State}, Z.Warmed39 vm0 → NotFace (s.setVm vm0) y1 := fun {vm0 s} hZ r0 h0 => by
  obtain ⟨c2, r2, m2, q1, q2, q3, q4, kP, hkP, hkPi⟩ := Cond.selects_spec (mvT (s := s.setVm vm0) (args := #[]) hZ w)
  have hc0 := findClass_of_methodNamed h0
  have hc1 := findClass_of_methodNamed q3
  rw [e] at hc1
  have q := Option.some.inj (hc0.symm.trans hc1)
  exact ⟨kP, by rw [q]; exact hkP, hkPi⟩
/-- a String constant of the pool, read -/
theorem Wl.ldcS (pc' : Nat) {i : Nat} {text : String} {vs : List Value} {z : Int32} (cap : Nat) (hd : decode bs pc = .ok (.ldc i, 2)) (w : (Jvm.Cond.stringLink y.cls i text).before a0 Z = true) (wS : ∀ a ∈ Bundle.stringAtoms, a.before a0 Z = true) (hmem : (y.cls, i) ∈ EL)
    (ht : (∀ c ∈ text.toList, c.toNat < 256) ∧ text.toList.map (fun c => Value.int (Jvm.Lit.byteI c.toNat.toUInt16)) = vs) (hz : ¬ z < 0) (hl : z.toNatClampNeg = vs.length) (hn : 4 * text.toList.length ≤ cap) (hbig : cap ≤ 536870912) (hc : k + 2 ≤ R.cells) (hl' : n + (cap + 4) ≤ R.slots)
    (hr : ∀ (a : Addr) (h' : Heap) (b : Addr) (kc : ClassId), Ext h h' → Exa Z h' a "java/lang/String" → Fld Z h' a "java/lang/String" "coder" "B" (.int 0) → Fld Z h' a "java/lang/String" "value" "[B" (.ref b) → Arv Z h' b kc .byte z vs (.int 0) → (∀ x ∈ sf, x ≠ a ∧ x ≠ b) → WlO l Z a0 EL y bs ml rt R as out Q sf h' (k + 2) (n + (cap + 4)) pc' Ls (.ref a :: st)) (hp : pc + 2 = pc' := by rfl) : WlO l Z a0 EL y bs ml rt R as out Q sf h k n pc Ls st := by
  subst hp
  intro p e s m below meth c T W
  obtain ⟨A, vm0, locs, k0, X, eT, hS, hk, hF, hZ, hC, hM, hH⟩ := W
  obtain ⟨a, T', h', k1, b, kc, X', e', E, hS', hk', hZ', hown', r1, r2, r3, r4, r5, r6, hC', r7, r8, stp⟩ := ldcCH X A.1 hZ (by rw [hS.1.alike.findClass]; exact A.2.2.2.2.2.2.1) w wS eT hS hk A.2.2.2.2.2.2.2.1 hmem hC.1 ht hz hl (g := mkF m pc Ls st) rfl (hb A.2.1 hd) hn hbig hc hl'
  exact Go.of stp (hr a h' b kc E r1 r2 r3 r4 (fun x hx => r8 x ((hM.chr hC') x hx).1) p e s m below meth c T' ⟨A, T'.vm, locs, k1, X', e', hS', hk', hF, hZ', hC.trans hC', hM.chr hC', fun q => by rw [q] at hmem; cases hmem⟩)
end OwnKit

/-! own small facts on ints, chars, lists and heaps -/
section OwnNums
theorem extTr {h h1 h2 : Heap} (A : Ext h h1) (B : Ext h1 h2) : Ext h h2 := ⟨Nat.le_trans A.1 B.1, fun a c q => B.2 a c (A.2 a c q)⟩
theorem ext_rfl (h : Heap) : Ext h h := ⟨Nat.le_refl _, fun _ _ q => q⟩
theorem extKeep {h h1 h2 : Heap} {ws : List Addr} (A : Ext h h1) (K : Keep h1 h2 ws) (q : ∀ x ∈ ws, h.size ≤ x) : Ext h h2 :=
  ⟨Nat.le_trans A.1 K.1, fun a c r => K.2.1 a c (A.2 a c r) fun z => absurd (Array.getElem?_eq_some_iff.mp r).1 (Nat.not_lt.mpr (q a z))⟩
theorem extWr {h h1 h2 : Heap} {a : Addr} {sl : Nat} {v : Value} (A : Ext h h1) (W : Wr h1 h2 a sl v) (q : h.size ≤ a) : Ext h h2 := extKeep A (Keep.of_wr W) (allS q all0)
/-- a char; a char below 256 -/
abbrev Ch (x : Int32) : Prop := 0 ≤ x.toInt ∧ x.toInt < 65536
abbrev Lat (x : Int32) : Prop := 0 ≤ x.toInt ∧ x.toInt < 256
theorem Lat.ch {x : Int32} (q : Lat x) : Ch x := ⟨q.1, by have := q.2; omega⟩
theorem i2c_ch (x : Int32) : Ch x.toUInt32.toUInt16.toUInt32.toInt32 := (c_i2c x).2
theorem i2c_id {x : Int32} (q : Ch x) : x.toUInt32.toUInt16.toUInt32.toInt32 = x := by
  have h := c_i2c x
  apply Int32.toInt_inj.mp
  have := q.1; have := q.2
  omega
theorem nar_ch {x : Int32} (q : Ch x) : nar .char x = x := i2c_id q
theorem mask_lat (x : Int32) : Lat (x &&& 255) := by
  have h := c_and x 255 (by decide)
  have e : (255 : Int32).toInt = 255 := by decide
  exact ⟨h.1, by have := h.2; omega⟩
theorem i2c_mask_lat (x : Int32) : Lat ((x &&& 255).toUInt32.toUInt16.toUInt32.toInt32) := by rw [i2c_id (mask_lat x).ch]; exact mask_lat x
theorem i2b_id (x : Int32) : x.toInt8.toInt32.toInt8.toInt32 = x.toInt8.toInt32 := by simp
/-- small nats as ints -/
theorem nI {i : Nat} (hi : i < 2147483648) : (Int32.ofNat i).toInt = i := Int32.toInt_ofNat_small hi
theorem nCl {i : Nat} (hi : i < 2147483648) : (Int32.ofNat i).toNatClampNeg = i := by rw [Int32.toNatClampNeg, nI hi]; simp
theorem nNn {i : Nat} (hi : i < 2147483648) : ¬ Int32.ofNat i < 0 := by rw [Int32.lt_iff_toInt_lt, nI hi]; simp
theorem nLt {i j : Nat} (hi : i < 2147483648) (hj : j < 2147483648) : Int32.ofNat i < Int32.ofNat j ↔ i < j := by rw [Int32.lt_iff_toInt_lt, nI hi, nI hj]; omega
theorem nEq {i j : Nat} (hi : i < 2147483648) (hj : j < 2147483648) : Int32.ofNat i = Int32.ofNat j ↔ i = j := by rw [← Int32.toInt_inj, nI hi, nI hj]; omega
theorem nS (i : Nat) : Int32.ofNat i + 1 = Int32.ofNat (i + 1) := by simp [Int32.ofNat_add]
theorem nAdd (i j : Nat) : Int32.ofNat i + Int32.ofNat j = Int32.ofNat (i + j) := by simp [Int32.ofNat_add]
theorem nSub {i j : Nat} (hj : j ≤ i) (hi : i < 2147483648) : Int32.ofNat i - Int32.ofNat j = Int32.ofNat (i - j) := by
  apply Int32.toInt_inj.mp
  have h := c_isub (Int32.ofNat i) (Int32.ofNat j)
  have r := rng32 (Int32.ofNat i - Int32.ofNat j)
  rw [nI hi, nI (by omega)] at h
  rw [nI (by omega)]
  omega
/-- a byte read back -/
theorem lo8 {c : Int32} (q : Lat c) : c.toInt8.toInt32 &&& 255 = c := by
  apply Int32.toInt_inj.mp
  have h1 := c_mask c.toInt8.toInt32 255 8 (by decide) (by decide)
  have h2 := c_i2b c
  have := q.1; have := q.2
  omega
theorem lat_le {c : Int32} (q : Lat c) : ¬ (255 : Int32) < c := by
  rw [Int32.lt_iff_toInt_lt]
  have e : (255 : Int32).toInt = 255 := by decide
  have := q.2; omega
def byV (c : Int32) : Value := .int c.toInt8.toInt32
/-- a list filled from the left -/
def fil {α : Type} (xs : List α) (z : α) (i : Nat) : List α := xs.take i ++ List.replicate (xs.length - i) z
theorem fil_len {α : Type} (xs : List α) (z : α) (i : Nat) (hi : i ≤ xs.length) : (fil xs z i).length = xs.length := by simp [fil]; omega
theorem fil_zero {α : Type} (xs : List α) (z : α) : fil xs z 0 = List.replicate xs.length z := by simp [fil]
theorem fil_all {α : Type} (xs : List α) (z : α) : fil xs z xs.length = xs := by simp [fil]
theorem fil_set {α : Type} (xs : List α) (z v : α) (i : Nat) (hi : i < xs.length) (hv : xs[i] = v) : (fil xs z i).set i v = fil xs z (i + 1) := by
  subst hv
  apply List.ext_getElem?
  intro j
  simp only [fil, List.getElem?_set, List.getElem?_append, List.length_take, List.getElem?_take, List.getElem?_replicate, List.length_append, List.length_replicate]
  rw [show min i xs.length = i by omega, show min (i + 1) xs.length = i + 1 by omega]
  by_cases h1 : i = j
  · subst h1
    rw [if_pos rfl, if_pos (by omega), if_pos (by omega), if_pos (by omega)]
    exact (List.getElem?_eq_getElem hi).symm
  · rw [if_neg h1]
    by_cases h2 : j < i
    · rw [if_pos h2, if_pos h2, if_pos (by omega), if_pos (by omega)]
    · rw [if_neg h2, if_neg (show ¬ j < i + 1 by omega)]
      by_cases h3 : j - i < xs.length - i
      · rw [if_pos h3, if_pos (by omega)]
      · rw [if_neg h3, if_neg (by omega)]
theorem narC {x : Int32} (q : Ch x) : narrow .char (.int x) = .int x := by have := Jvm.Free.XT.narrow_c x; rwa [i2c_id q] at this
theorem ref_cat {v : Value} (r : v.isRef = true) : v.category = 1 := by cases v <;> first | rfl | (simp [Value.isRef] at r)
end OwnNums
/-! a Latin-1 String: its chars -/
def Stl (Z : State) (h : Heap) (a : Addr) (cs : List Int32) : Prop :=
  ∃ (b : Addr) (kb : ClassId), Exa Z h a "java/lang/String" ∧ Fld Z h a "java/lang/String" "coder" "B" (.int 0) ∧ Fld Z h a "java/lang/String" "value" "[B" (.ref b) ∧ Arv Z h b kb .byte (Int32.ofNat cs.length) (cs.map byV) (.int 0) ∧ (∀ c ∈ cs, Lat c) ∧ cs.length < 65536
theorem Stl.ext {Z : State} {h h' : Heap} {a : Addr} {cs : List Int32} (S : Stl Z h a cs) (E : Ext h h') : Stl Z h' a cs := by
  obtain ⟨b, kb, h1, h2, h3, h4, r⟩ := S
  exact ⟨b, kb, h1.ext E, h2.ext E, h3.ext E, h4.ext E, r⟩
theorem Stl.exa {Z : State} {h : Heap} {a : Addr} {cs : List Int32} (S : Stl Z h a cs) : Exa Z h a "java/lang/String" := by obtain ⟨b, kb, h1, -⟩ := S; exact h1
/-- a char[] that holds cs -/
def Cha (Z : State) (h : Heap) (b : Addr) (cs : List Int32) : Prop := ∃ kb, Arv Z h b kb .char (Int32.ofNat cs.length) (cs.map Value.int) (.int 0)
theorem Cha.ext {Z : State} {h h' : Heap} {a : Addr} {cs : List Int32} (S : Cha Z h a cs) (E : Ext h h') : Cha Z h' a cs := by obtain ⟨k, A⟩ := S; exact ⟨k, A.ext E⟩
/-- compact strings are on -/
def CSon (Z : State) : Prop := ∃ c : Int32, Sta Z Z.heap "java/lang/String" "COMPACT_STRINGS" "Z" (.int c) ∧ c ≠ 0
theorem nle {n m : Nat} (h : Nat.ble n m = true) : n ≤ m := Nat.le_of_ble_eq_true h
theorem narO {v : Value} {s : String} (r : v.isRef = true) : narrow (.object s) v = v := by cases v <;> first | rfl | (simp [Value.isRef] at r)
theorem fitO {v : Value} {s : String} (r : v.isRef = true) : fits (.object s) v = true := by cases v <;> first | rfl | (simp [Value.isRef] at r)
theorem latN : ∀ c ∈ ([] : List Int32), Lat c := fun _ q => nomatch q
theorem latC {x : Int32} {xs : List Int32} (p : Lat x) (r : ∀ c ∈ xs, Lat c) : ∀ c ∈ x :: xs, Lat c := fun c q => (List.mem_cons.mp q).elim (fun e => e ▸ p) (r c)

theorem pn_str : plainName "java/lang/String" = true := by first | (simp [plainName, overriddenIn]; done) | decide +kernel
section Words
variable {Z : State} {a0 : Array Value}
theorem w0 (hw : ∀ d ∈ tables_1, d.before a0 Z = true) : (Jvm.Cond.methodLink "com/example/tallyfold/tallyfold/io/InstanceOrElsePinLaw" (7 : Nat) ({ cls := "com/example/tallyfold/tallyfold/io/InstanceOrElsePinLaw", name := "drawn", desc := "(III)Ljava/lang/String;" } : Jvm.MethodName)).before a0 Z = true := hw _ (List.mem_of_getElem? (i := 0) rfl)
theorem w1 (hw : ∀ d ∈ tables_1, d.before a0 Z = true) : (Jvm.Cond.static ({ cls := "com/example/tallyfold/tallyfold/io/InstanceOrElsePinLaw", name := "drawn", desc := "(III)Ljava/lang/String;" } : Jvm.MethodName)).before a0 Z = true := hw _ (List.mem_of_getElem? (i := 1) rfl)
theorem w2 (hw : ∀ d ∈ tables_1, d.before a0 Z = true) : (Jvm.Cond.initialized "com/example/tallyfold/tallyfold/io/InstanceOrElsePinLaw").before a0 Z = true := hw _ (List.mem_of_getElem? (i := 2) rfl)
theorem w3 (hw : ∀ d ∈ tables_1, d.before a0 Z = true) : (Jvm.Cond.code ({ cls := "com/example/tallyfold/tallyfold/io/InstanceOrElsePinLaw", name := "drawn", desc := "(III)Ljava/lang/String;" } : Jvm.MethodName) method_3_code (4 : Nat) (Option.some (Jvm.ClassFile.FieldType.object "java/lang/String"))).before a0 Z = true := hw _ (List.mem_of_getElem? (i := 3) rfl)
theorem w4 (hw : ∀ d ∈ tables_1, d.before a0 Z = true) : (Jvm.Cond.arrayClass Jvm.ClassFile.FieldType.char).before a0 Z = true := hw _ (List.mem_of_getElem? (i := 4) rfl)
theorem w5 (hw : ∀ d ∈ tables_1, d.before a0 Z = true) : (Jvm.Cond.classLink "com/example/tallyfold/tallyfold/io/InstanceOrElsePinLaw" (36 : Nat) "java/lang/String").before a0 Z = true := hw _ (List.mem_of_getElem? (i := 5) rfl)
theorem w6 (hw : ∀ d ∈ tables_1, d.before a0 Z = true) : (Jvm.Cond.instantiable "java/lang/String" (4 : Nat)).before a0 Z = true := hw _ (List.mem_of_getElem? (i := 6) rfl)
theorem w7 (hw : ∀ d ∈ tables_1, d.before a0 Z = true) : (Jvm.Cond.initialized "java/lang/String").before a0 Z = true := hw _ (List.mem_of_getElem? (i := 7) rfl)
theorem w8 (hw : ∀ d ∈ tables_1, d.before a0 Z = true) : (Jvm.Cond.methodLink "com/example/tallyfold/tallyfold/io/InstanceOrElsePinLaw" (38 : Nat) ({ cls := "java/lang/String", name := "<init>", desc := "([C)V" } : Jvm.MethodName)).before a0 Z = true := hw _ (List.mem_of_getElem? (i := 8) rfl)
theorem w9 (hw : ∀ d ∈ tables_1, d.before a0 Z = true) : (Jvm.Cond.instanceMethod ({ cls := "java/lang/String", name := "<init>", desc := "([C)V" } : Jvm.MethodName)).before a0 Z = true := hw _ (List.mem_of_getElem? (i := 9) rfl)
theorem w10 (hw : ∀ d ∈ tables_1, d.before a0 Z = true) : (Jvm.Cond.code ({ cls := "java/lang/String", name := "<init>", desc := "([C)V" } : Jvm.MethodName) jdk_42_method_3_code (2 : Nat) (Option.none : Option Jvm.ClassFile.FieldType)).before a0 Z = true := hw _ (List.mem_of_getElem? (i := 10) rfl)
theorem w11 (hw : ∀ d ∈ tables_1, d.before a0 Z = true) : (Jvm.Cond.methodLink "java/lang/String" (27 : Nat) ({ cls := "java/lang/String", name := "<init>", desc := "([CIILjava/lang/Void;)V" } : Jvm.MethodName)).before a0 Z = true := hw _ (List.mem_of_getElem? (i := 11) rfl)
theorem w12 (hw : ∀ d ∈ tables_1, d.before a0 Z = true) : (Jvm.Cond.instanceMethod ({ cls := "java/lang/String", name := "<init>", desc := "([CIILjava/lang/Void;)V" } : Jvm.MethodName)).before a0 Z = true := hw _ (List.mem_of_getElem? (i := 12) rfl)
theorem w14 (hw : ∀ d ∈ tables_1, d.before a0 Z = true) : (Jvm.Cond.code ({ cls := "java/lang/String", name := "<init>", desc := "([CIILjava/lang/Void;)V" } : Jvm.MethodName) jdk_42_method_149_code (6 : Nat) (Option.none : Option Jvm.ClassFile.FieldType)).before a0 Z = true := hw _ (List.mem_of_getElem? (i := 14) rfl)
theorem w15 (hw : ∀ d ∈ tables_1, d.before a0 Z = true) : (Jvm.Cond.methodLink "java/lang/String" (1 : Nat) ({ cls := "java/lang/Object", name := "<init>", desc := "()V" } : Jvm.MethodName)).before a0 Z = true := hw _ (List.mem_of_getElem? (i := 15) rfl)
theorem w16 (hw : ∀ d ∈ tables_1, d.before a0 Z = true) : (Jvm.Cond.instanceMethod ({ cls := "java/lang/Object", name := "<init>", desc := "()V" } : Jvm.MethodName)).before a0 Z = true := hw _ (List.mem_of_getElem? (i := 16) rfl)
theorem w17 (hw : ∀ d ∈ tables_1, d.before a0 Z = true) : (Jvm.Cond.code ({ cls := "java/lang/Object", name := "<init>", desc := "()V" } : Jvm.MethodName) object_method_1_code (1 : Nat) (Option.none : Option Jvm.ClassFile.FieldType)).before a0 Z = true := hw _ (List.mem_of_getElem? (i := 17) rfl)
theorem w18 (hw : ∀ d ∈ tables_1, d.before a0 Z = true) : (Jvm.Cond.fieldLink "java/lang/String" (38 : Nat) "java/lang/String" "COMPACT_STRINGS" "Z").before a0 Z = true := hw _ (List.mem_of_getElem? (i := 18) rfl)
theorem w19 (hw : ∀ d ∈ tables_1, d.before a0 Z = true) : (Jvm.Cond.methodLink "java/lang/String" (177 : Nat) ({ cls := "java/lang/StringUTF16", name := "compress", desc := "([CII)[B" } : Jvm.MethodName)).before a0 Z = true := hw _ (List.mem_of_getElem? (i := 19) rfl)
theorem w20 (hw : ∀ d ∈ tables_1, d.before a0 Z = true) : (Jvm.Cond.static ({ cls := "java/lang/StringUTF16", name := "compress", desc := "([CII)[B" } : Jvm.MethodName)).before a0 Z = true := hw _ (List.mem_of_getElem? (i := 20) rfl)
theorem w21 (hw : ∀ d ∈ tables_1, d.before a0 Z = true) : (Jvm.Cond.initialized "java/lang/StringUTF16").before a0 Z = true := hw _ (List.mem_of_getElem? (i := 21) rfl)
theorem w22 (hw : ∀ d ∈ tables_1, d.before a0 Z = true) : (Jvm.Cond.code ({ cls := "java/lang/StringUTF16", name := "compress", desc := "([CII)[B" } : Jvm.MethodName) jdk_52_method_16_code (6 : Nat) (Option.some (Jvm.ClassFile.FieldType.array Jvm.ClassFile.FieldType.byte))).before a0 Z = true := hw _ (List.mem_of_getElem? (i := 22) rfl)
theorem w23 (hw : ∀ d ∈ tables_1, d.before a0 Z = true) : (Jvm.Cond.arrayClass Jvm.ClassFile.FieldType.byte).before a0 Z = true := hw _ (List.mem_of_getElem? (i := 23) rfl)
theorem w24 (hw : ∀ d ∈ tables_1, d.before a0 Z = true) : (Jvm.Cond.methodLink "java/lang/StringUTF16" (115 : Nat) ({ cls := "java/lang/StringUTF16", name := "compress", desc := "([CI[BII)I" } : Jvm.MethodName)).before a0 Z = true := hw _ (List.mem_of_getElem? (i := 24) rfl)
theorem w25 (hw : ∀ d ∈ tables_1, d.before a0 Z = true) : (Jvm.Cond.static ({ cls := "java/lang/StringUTF16", name := "compress", desc := "([CI[BII)I" } : Jvm.MethodName)).before a0 Z = true := hw _ (List.mem_of_getElem? (i := 25) rfl)
theorem w26 (hw : ∀ d ∈ tables_1, d.before a0 Z = true) : (Jvm.Cond.code ({ cls := "java/lang/StringUTF16", name := "compress", desc := "([CI[BII)I" } : Jvm.MethodName) jdk_52_method_21_code (7 : Nat) (Option.some Jvm.ClassFile.FieldType.int)).before a0 Z = true := hw _ (List.mem_of_getElem? (i := 26) rfl)
theorem w27 (hw : ∀ d ∈ tables_1, d.before a0 Z = true) : (Jvm.Cond.methodLink "java/lang/String" (47 : Nat) ({ cls := "java/lang/StringUTF16", name := "coderFromArrayLen", desc := "([BI)B" } : Jvm.MethodName)).before a0 Z = true := hw _ (List.mem_of_getElem? (i := 27) rfl)
theorem w28 (hw : ∀ d ∈ tables_1, d.before a0 Z = true) : (Jvm.Cond.static ({ cls := "java/lang/StringUTF16", name := "coderFromArrayLen", desc := "([BI)B" } : Jvm.MethodName)).before a0 Z = true := hw _ (List.mem_of_getElem? (i := 28) rfl)
theorem w29 (hw : ∀ d ∈ tables_1, d.before a0 Z = true) : (Jvm.Cond.code ({ cls := "java/lang/StringUTF16", name := "coderFromArrayLen", desc := "([BI)B" } : Jvm.MethodName) jdk_52_method_15_code (2 : Nat) (Option.some Jvm.ClassFile.FieldType.byte)).before a0 Z = true := hw _ (List.mem_of_getElem? (i := 29) rfl)
theorem w30 (hw : ∀ d ∈ tables_1, d.before a0 Z = true) : (Jvm.Cond.fieldLink "java/lang/String" (15 : Nat) "java/lang/String" "coder" "B").before a0 Z = true := hw _ (List.mem_of_getElem? (i := 30) rfl)
theorem w31 (hw : ∀ d ∈ tables_1, d.before a0 Z = true) : (Jvm.Cond.laysFinal "java/lang/String" "java/lang/String" "coder" "B").before a0 Z = true := hw _ (List.mem_of_getElem? (i := 31) rfl)
theorem w32 (hw : ∀ d ∈ tables_1, d.before a0 Z = true) : (Jvm.Cond.fieldLink "java/lang/String" (9 : Nat) "java/lang/String" "value" "[B").before a0 Z = true := hw _ (List.mem_of_getElem? (i := 32) rfl)
theorem w33 (hw : ∀ d ∈ tables_1, d.before a0 Z = true) : (Jvm.Cond.laysFinal "java/lang/String" "java/lang/String" "value" "[B").before a0 Z = true := hw _ (List.mem_of_getElem? (i := 33) rfl)
theorem w34 (hw : ∀ d ∈ tables_1, d.before a0 Z = true) : (Jvm.Cond.classLink "com/example/tallyfold/tallyfold/io/InstanceOrElsePinLaw" (13 : Nat) "com/example/tallyfold/tallyfold/io/Instance").before a0 Z = true := hw _ (List.mem_of_getElem? (i := 34) rfl)
theorem w35 (hw : ∀ d ∈ tables_1, d.before a0 Z = true) : (Jvm.Cond.instantiable "com/example/tallyfold/tallyfold/io/Instance" (3 : Nat)).before a0 Z = true := hw _ (List.mem_of_getElem? (i := 35) rfl)
theorem w36 (hw : ∀ d ∈ tables_1, d.before a0 Z = true) : (Jvm.Cond.initialized "com/example/tallyfold/tallyfold/io/Instance").before a0 Z = true := hw _ (List.mem_of_getElem? (i := 36) rfl)
theorem w37 (hw : ∀ d ∈ tables_1, d.before a0 Z = true) : (Jvm.Cond.methodLink "com/example/tallyfold/tallyfold/io/InstanceOrElsePinLaw" (15 : Nat) ({ cls := "com/example/tallyfold/tallyfold/io/Instance", name := "<init>", desc := "(Ljava/lang/String;Ljava/lang/String;Ljava/lang/String;)V" } : Jvm.MethodName)).before a0 Z = true := hw _ (List.mem_of_getElem? (i := 37) rfl)
theorem w38 (hw : ∀ d ∈ tables_1, d.before a0 Z = true) : (Jvm.Cond.instanceMethod ({ cls := "com/example/tallyfold/tallyfold/io/Instance", name := "<init>", desc := "(Ljava/lang/String;Ljava/lang/String;Ljava/lang/String;)V" } : Jvm.MethodName)).before a0 Z = true := hw _ (List.mem_of_getElem? (i := 38) rfl)
theorem w39 (hw : ∀ d ∈ tables_1, d.before a0 Z = true) : (Jvm.Cond.code ({ cls := "com/example/tallyfold/tallyfold/io/Instance", name := "<init>", desc := "(Ljava/lang/String;Ljava/lang/String;Ljava/lang/String;)V" } : Jvm.MethodName) prog_102_method_1_code (4 : Nat) (Option.none : Option Jvm.ClassFile.FieldType)).before a0 Z = true := hw _ (List.mem_of_getElem? (i := 39) rfl)
theorem w40 (hw : ∀ d ∈ tables_1, d.before a0 Z = true) : (Jvm.Cond.methodLink "com/example/tallyfold/tallyfold/io/Instance" (3 : Nat) ({ cls := "java/lang/Object", name := "<init>", desc := "()V" } : Jvm.MethodName)).before a0 Z = true := hw _ (List.mem_of_getElem? (i := 40) rfl)
theorem w41 (hw : ∀ d ∈ tables_1, d.before a0 Z = true) : (Jvm.Cond.fieldLink "com/example/tallyfold/tallyfold/io/Instance" (9 : Nat) "com/example/tallyfold/tallyfold/io/Instance" "type" "Ljava/lang/String;").before a0 Z = true := hw _ (List.mem_of_getElem? (i := 41) rfl)
theorem w42 (hw : ∀ d ∈ tables_1, d.before a0 Z = true) : (Jvm.Cond.laysFinal "com/example/tallyfold/tallyfold/io/Instance" "com/example/tallyfold/tallyfold/io/Instance" "type" "Ljava/lang/String;").before a0 Z = true := hw _ (List.mem_of_getElem? (i := 42) rfl)
theorem w43 (hw : ∀ d ∈ tables_1, d.before a0 Z = true) : (Jvm.Cond.fieldLink "com/example/tallyfold/tallyfold/io/Instance" (15 : Nat) "com/example/tallyfold/tallyfold/io/Instance" "platform" "Ljava/lang/String;").before a0 Z = true := hw _ (List.mem_of_getElem? (i := 43) rfl)
theorem w44 (hw : ∀ d ∈ tables_1, d.before a0 Z = true) : (Jvm.Cond.laysFinal "com/example/tallyfold/tallyfold/io/Instance" "com/example/tallyfold/tallyfold/io/Instance" "platform" "Ljava/lang/String;").before a0 Z = true := hw _ (List.mem_of_getElem? (i := 44) rfl)
theorem w45 (hw : ∀ d ∈ tables_1, d.before a0 Z = true) : (Jvm.Cond.fieldLink "com/example/tallyfold/tallyfold/io/Instance" (18 : Nat) "com/example/tallyfold/tallyfold/io/Instance" "tenancy" "Ljava/lang/String;").before a0 Z = true := hw _ (List.mem_of_getElem? (i := 45) rfl)
theorem w46 (hw : ∀ d ∈ tables_1, d.before a0 Z = true) : (Jvm.Cond.laysFinal "com/example/tallyfold/tallyfold/io/Instance" "com/example/tallyfold/tallyfold/io/Instance" "tenancy" "Ljava/lang/String;").before a0 Z = true := hw _ (List.mem_of_getElem? (i := 46) rfl)
theorem w47 (hw : ∀ d ∈ tables_1, d.before a0 Z = true) : (Jvm.Cond.methodLink "com/example/tallyfold/tallyfold/io/InstanceOrElsePinLaw" (18 : Nat) ({ cls := "com/example/tallyfold/tallyfold/io/Instance", name := "orElse", desc := "(Lcom/example/tallyfold/tallyfold/io/Instance;)Lcom/example/tallyfold/tallyfold/io/Instance;" } : Jvm.MethodName)).before a0 Z = true := hw _ (List.mem_of_getElem? (i := 47) rfl)
theorem w48 (hw : ∀ d ∈ tables_1, d.before a0 Z = true) : (Jvm.Cond.declares ({ cls := "com/example/tallyfold/tallyfold/io/Instance", name := "orElse", desc := "(Lcom/example/tallyfold/tallyfold/io/Instance;)Lcom/example/tallyfold/tallyfold/io/Instance;" } : Jvm.MethodName)).before a0 Z = true := hw _ (List.mem_of_getElem? (i := 48) rfl)
theorem w49 (hw : ∀ d ∈ tables_1, d.before a0 Z = true) : (Jvm.Cond.instanceMethod ({ cls := "com/example/tallyfold/tallyfold/io/Instance", name := "orElse", desc := "(Lcom/example/tallyfold/tallyfold/io/Instance;)Lcom/example/tallyfold/tallyfold/io/Instance;" } : Jvm.MethodName)).before a0 Z = true := hw _ (List.mem_of_getElem? (i := 49) rfl)
theorem w50 (hw : ∀ d ∈ tables_1, d.before a0 Z = true) : (Jvm.Cond.selects "com/example/tallyfold/tallyfold/io/Instance" ({ cls := "com/example/tallyfold/tallyfold/io/Instance", name := "orElse", desc := "(Lcom/example/tallyfold/tallyfold/io/Instance;)Lcom/example/tallyfold/tallyfold/io/Instance;" } : Jvm.MethodName) ({ cls := "com/example/tallyfold/tallyfold/io/Instance", name := "orElse", desc := "(Lcom/example/tallyfold/tallyfold/io/Instance;)Lcom/example/tallyfold/tallyfold/io/Instance;" } : Jvm.MethodName)).before a0 Z = true := hw _ (List.mem_of_getElem? (i := 50) rfl)
theorem w51 (hw : ∀ d ∈ tables_1, d.before a0 Z = true) : (Jvm.Cond.code ({ cls := "com/example/tallyfold/tallyfold/io/Instance", name := "orElse", desc := "(Lcom/example/tallyfold/tallyfold/io/Instance;)Lcom/example/tallyfold/tallyfold/io/Instance;" } : Jvm.MethodName) prog_102_method_4_code (2 : Nat) (Option.some (Jvm.ClassFile.FieldType.object "com/example/tallyfold/tallyfold/io/Instance"))).before a0 Z = true := hw _ (List.mem_of_getElem? (i := 51) rfl)
theorem w52 (hw : ∀ d ∈ tables_1, d.before a0 Z = true) : (Jvm.Cond.classLink "com/example/tallyfold/tallyfold/io/Instance" (10 : Nat) "com/example/tallyfold/tallyfold/io/Instance").before a0 Z = true := hw _ (List.mem_of_getElem? (i := 52) rfl)
theorem w53 (hw : ∀ d ∈ tables_1, d.before a0 Z = true) : (Jvm.Cond.methodLink "com/example/tallyfold/tallyfold/io/Instance" (33 : Nat) ({ cls := "com/example/tallyfold/tallyfold/io/Instance", name := "<init>", desc := "(Ljava/lang/String;Ljava/lang/String;Ljava/lang/String;)V" } : Jvm.MethodName)).before a0 Z = true := hw _ (List.mem_of_getElem? (i := 53) rfl)
theorem w54 (hw : ∀ d ∈ tables_1, d.before a0 Z = true) : (Jvm.Cond.methodLink "com/example/tallyfold/tallyfold/io/InstanceOrElsePinLaw" (22 : Nat) ({ cls := "com/example/tallyfold/tallyfold/io/Instance", name := "getType", desc := "()Ljava/lang/String;" } : Jvm.MethodName)).before a0 Z = true := hw _ (List.mem_of_getElem? (i := 54) rfl)
theorem w55 (hw : ∀ d ∈ tables_1, d.before a0 Z = true) : (Jvm.Cond.declares ({ cls := "com/example/tallyfold/tallyfold/io/Instance", name := "getType", desc := "()Ljava/lang/String;" } : Jvm.MethodName)).before a0 Z = true := hw _ (List.mem_of_getElem? (i := 55) rfl)
theorem w56 (hw : ∀ d ∈ tables_1, d.before a0 Z = true) : (Jvm.Cond.instanceMethod ({ cls := "com/example/tallyfold/tallyfold/io/Instance", name := "getType", desc := "()Ljava/lang/String;" } : Jvm.MethodName)).before a0 Z = true := hw _ (List.mem_of_getElem? (i := 56) rfl)
theorem w57 (hw : ∀ d ∈ tables_1, d.before a0 Z = true) : (Jvm.Cond.selects "com/example/tallyfold/tallyfold/io/Instance" ({ cls := "com/example/tallyfold/tallyfold/io/Instance", name := "getType", desc := "()Ljava/lang/String;" } : Jvm.MethodName) ({ cls := "com/example/tallyfold/tallyfold/io/Instance", name := "getType", desc := "()Ljava/lang/String;" } : Jvm.MethodName)).before a0 Z = true := hw _ (List.mem_of_getElem? (i := 57) rfl)
theorem w58 (hw : ∀ d ∈ tables_1, d.before a0 Z = true) : (Jvm.Cond.code ({ cls := "com/example/tallyfold/tallyfold/io/Instance", name := "getType", desc := "()Ljava/lang/String;" } : Jvm.MethodName) prog_102_method_5_code (1 : Nat) (Option.some (Jvm.ClassFile.FieldType.object "java/lang/String"))).before a0 Z = true := hw _ (List.mem_of_getElem? (i := 58) rfl)
theorem w59 (hw : ∀ d ∈ tables_1, d.before a0 Z = true) : (Jvm.Cond.methodLink "com/example/tallyfold/tallyfold/io/InstanceOrElsePinLaw" (26 : Nat) ({ cls := "com/example/tallyfold/tallyfold/io/Instance", name := "getPlatform", desc := "()Ljava/lang/String;" } : Jvm.MethodName)).before a0 Z = true := hw _ (List.mem_of_getElem? (i := 59) rfl)
theorem w60 (hw : ∀ d ∈ tables_1, d.before a0 Z = true) : (Jvm.Cond.declares ({ cls := "com/example/tallyfold/tallyfold/io/Instance", name := "getPlatform", desc := "()Ljava/lang/String;" } : Jvm.MethodName)).before a0 Z = true := hw _ (List.mem_of_getElem? (i := 60) rfl)
theorem w61 (hw : ∀ d ∈ tables_1, d.before a0 Z = true) : (Jvm.Cond.instanceMethod ({ cls := "com/example/tallyfold/tallyfold/io/Instance", name := "getPlatform", desc := "()Ljava/lang/String;" } : Jvm.MethodName)).before a0 Z = true := hw _ (List.mem_of_getElem? (i := 61) rfl)
theorem w62 (hw : ∀ d ∈ tables_1, d.before a0 Z = true) : (Jvm.Cond.selects "com/example/tallyfold/tallyfold/io/Instance" ({ cls := "com/example/tallyfold/tallyfold/io/Instance", name := "getPlatform", desc := "()Ljava/lang/String;" } : Jvm.MethodName) ({ cls := "com/example/tallyfold/tallyfold/io/Instance", name := "getPlatform", desc := "()Ljava/lang/String;" } : Jvm.MethodName)).before a0 Z = true := hw _ (List.mem_of_getElem? (i := 62) rfl)
theorem w63 (hw : ∀ d ∈ tables_1, d.before a0 Z = true) : (Jvm.Cond.code ({ cls := "com/example/tallyfold/tallyfold/io/Instance", name := "getPlatform", desc := "()Ljava/lang/String;" } : Jvm.MethodName) prog_102_method_6_code (1 : Nat) (Option.some (Jvm.ClassFile.FieldType.object "java/lang/String"))).before a0 Z = true := hw _ (List.mem_of_getElem? (i := 63) rfl)
theorem w64 (hw : ∀ d ∈ tables_1, d.before a0 Z = true) : (Jvm.Cond.methodLink "com/example/tallyfold/tallyfold/io/InstanceOrElsePinLaw" (29 : Nat) ({ cls := "com/example/tallyfold/tallyfold/io/Instance", name := "getTenancy", desc := "()Ljava/lang/String;" } : Jvm.MethodName)).before a0 Z = true := hw _ (List.mem_of_getElem? (i := 64) rfl)
theorem w65 (hw : ∀ d ∈ tables_1, d.before a0 Z = true) : (Jvm.Cond.declares ({ cls := "com/example/tallyfold/tallyfold/io/Instance", name := "getTenancy", desc := "()Ljava/lang/String;" } : Jvm.MethodName)).before a0 Z = true := hw _ (List.mem_of_getElem? (i := 65) rfl)
theorem w66 (hw : ∀ d ∈ tables_1, d.before a0 Z = true) : (Jvm.Cond.instanceMethod ({ cls := "com/example/tallyfold/tallyfold/io/Instance", name := "getTenancy", desc := "()Ljava/lang/String;" } : Jvm.MethodName)).before a0 Z = true := hw _ (List.mem_of_getElem? (i := 66) rfl)
theorem w67 (hw : ∀ d ∈ tables_1, d.before a0 Z = true) : (Jvm.Cond.selects "com/example/tallyfold/tallyfold/io/Instance" ({ cls := "com/example/tallyfold/tallyfold/io/Instance", name := "getTenancy", desc := "()Ljava/lang/String;" } : Jvm.MethodName) ({ cls := "com/example/tallyfold/tallyfold/io/Instance", name := "getTenancy", desc := "()Ljava/lang/String;" } : Jvm.MethodName)).before a0 Z = true := hw _ (List.mem_of_getElem? (i := 67) rfl)
theorem w68 (hw : ∀ d ∈ tables_1, d.before a0 Z = true) : (Jvm.Cond.code ({ cls := "com/example/tallyfold/tallyfold/io/Instance", name := "getTenancy", desc := "()Ljava/lang/String;" } : Jvm.MethodName) prog_102_method_7_code (1 : Nat) (Option.some (Jvm.ClassFile.FieldType.object "java/lang/String"))).before a0 Z = true := hw _ (List.mem_of_getElem? (i := 68) rfl)
theorem w69 (hw : ∀ d ∈ tables_1, d.before a0 Z = true) : (Jvm.Cond.methodLink "com/example/tallyfold/tallyfold/io/InstanceOrElsePinLaw" (32 : Nat) ({ cls := "com/example/tallyfold/tallyfold/io/Instance", name := "isWhole", desc := "()Z" } : Jvm.MethodName)).before a0 Z = true := hw _ (List.mem_of_getElem? (i := 69) rfl)
theorem w70 (hw : ∀ d ∈ tables_1, d.before a0 Z = true) : (Jvm.Cond.declares ({ cls := "com/example/tallyfold/tallyfold/io/Instance", name := "isWhole", desc := "()Z" } : Jvm.MethodName)).before a0 Z = true := hw _ (List.mem_of_getElem? (i := 70) rfl)
theorem w71 (hw : ∀ d ∈ tables_1, d.before a0 Z = true) : (Jvm.Cond.instanceMethod ({ cls := "com/example/tallyfold/tallyfold/io/Instance", name := "isWhole", desc := "()Z" } : Jvm.MethodName)).before a0 Z = true := hw _ (List.mem_of_getElem? (i := 71) rfl)
theorem w72 (hw : ∀ d ∈ tables_1, d.before a0 Z = true) : (Jvm.Cond.selects "com/example/tallyfold/tallyfold/io/Instance" ({ cls := "com/example/tallyfold/tallyfold/io/Instance", name := "isWhole", desc := "()Z" } : Jvm.MethodName) ({ cls := "com/example/tallyfold/tallyfold/io/Instance", name := "isWhole", desc := "()Z" } : Jvm.MethodName)).before a0 Z = true := hw _ (List.mem_of_getElem? (i := 72) rfl)
theorem w73 (hw : ∀ d ∈ tables_1, d.before a0 Z = true) : (Jvm.Cond.code ({ cls := "com/example/tallyfold/tallyfold/io/Instance", name := "isWhole", desc := "()Z" } : Jvm.MethodName) prog_102_method_3_code (1 : Nat) (Option.some Jvm.ClassFile.FieldType.boolean)).before a0 Z = true := hw _ (List.mem_of_getElem? (i := 73) rfl)
end Words
theorem d1_0 : decode method_3_code 0 = .ok (.iload_n 0, 1) := by decide +kernel
theorem d1_1 : decode method_3_code 1 = .ok (.iload_n 1, 1) := by decide +kernel
theorem d1_2 : decode method_3_code 2 = .ok (.iushr, 1) := by decide +kernel
theorem d1_3 : decode method_3_code 3 = .ok (.iconst 1, 1) := by decide +kernel
theorem d1_4 : decode method_3_code 4 = .ok (.iand, 1) := by decide +kernel
theorem d1_5 : decode method_3_code 5 = .ok (.ifCond .eq 5, 3) := by decide +kernel
theorem d1_8 : decode method_3_code 8 = .ok (.aconst_null, 1) := by decide +kernel
theorem d1_9 : decode method_3_code 9 = .ok (.areturn, 1) := by decide +kernel
theorem d1_10 : decode method_3_code 10 = .ok (.iconst 2, 1) := by decide +kernel
theorem d1_11 : decode method_3_code 11 = .ok (.newarray .char, 2) := by decide +kernel
theorem d1_13 : decode method_3_code 13 = .ok (.astore_n 3, 1) := by decide +kernel
theorem d1_14 : decode method_3_code 14 = .ok (.aload_n 3, 1) := by decide +kernel
theorem d1_15 : decode method_3_code 15 = .ok (.iconst 0, 1) := by decide +kernel
theorem d1_16 : decode method_3_code 16 = .ok (.iload_n 2, 1) := by decide +kernel
theorem d1_17 : decode method_3_code 17 = .ok (.sipush 255, 3) := by decide +kernel
theorem d1_20 : decode method_3_code 20 = .ok (.iand, 1) := by decide +kernel
theorem d1_21 : decode method_3_code 21 = .ok (.i2c, 1) := by decide +kernel
theorem d1_22 : decode method_3_code 22 = .ok (.castore, 1) := by decide +kernel
theorem d1_23 : decode method_3_code 23 = .ok (.aload_n 3, 1) := by decide +kernel
theorem d1_24 : decode method_3_code 24 = .ok (.iconst 1, 1) := by decide +kernel
theorem d1_25 : decode method_3_code 25 = .ok (.iload_n 2, 1) := by decide +kernel
theorem d1_26 : decode method_3_code 26 = .ok (.bipush 8, 2) := by decide +kernel
theorem d1_28 : decode method_3_code 28 = .ok (.iushr, 1) := by decide +kernel
theorem d1_29 : decode method_3_code 29 = .ok (.sipush 255, 3) := by decide +kernel
theorem d1_32 : decode method_3_code 32 = .ok (.iand, 1) := by decide +kernel
theorem d1_33 : decode method_3_code 33 = .ok (.i2c, 1) := by decide +kernel
theorem d1_34 : decode method_3_code 34 = .ok (.castore, 1) := by decide +kernel
theorem d1_35 : decode method_3_code 35 = .ok (.new 36, 3) := by decide +kernel
theorem d1_38 : decode method_3_code 38 = .ok (.dup, 1) := by decide +kernel
theorem d1_39 : decode method_3_code 39 = .ok (.aload_n 3, 1) := by decide +kernel
theorem d1_40 : decode method_3_code 40 = .ok (.invokespecial 38, 3) := by decide +kernel
theorem d1_43 : decode method_3_code 43 = .ok (.areturn, 1) := by decide +kernel
theorem d2_0 : decode jdk_42_method_3_code 0 = .ok (.aload_n 0, 1) := by decide +kernel
theorem d2_1 : decode jdk_42_method_3_code 1 = .ok (.aload_n 1, 1) := by decide +kernel
theorem d2_2 : decode jdk_42_method_3_code 2 = .ok (.iconst 0, 1) := by decide +kernel
theorem d2_3 : decode jdk_42_method_3_code 3 = .ok (.aload_n 1, 1) := by decide +kernel
theorem d2_4 : decode jdk_42_method_3_code 4 = .ok (.arraylength, 1) := by decide +kernel
theorem d2_5 : decode jdk_42_method_3_code 5 = .ok (.aconst_null, 1) := by decide +kernel
theorem d2_6 : decode jdk_42_method_3_code 6 = .ok (.invokespecial 27, 3) := by decide +kernel
theorem d2_9 : decode jdk_42_method_3_code 9 = .ok (.return_, 1) := by decide +kernel
theorem d3_0 : decode jdk_42_method_149_code 0 = .ok (.aload_n 0, 1) := by decide +kernel
theorem d3_1 : decode jdk_42_method_149_code 1 = .ok (.invokespecial 1, 3) := by decide +kernel
theorem d3_4 : decode jdk_42_method_149_code 4 = .ok (.iload_n 3, 1) := by decide +kernel
theorem d3_5 : decode jdk_42_method_149_code 5 = .ok (.ifCond .ne 22, 3) := by decide +kernel
theorem d3_27 : decode jdk_42_method_149_code 27 = .ok (.getstatic 38, 3) := by decide +kernel
theorem d3_30 : decode jdk_42_method_149_code 30 = .ok (.ifCond .eq 28, 3) := by decide +kernel
theorem d3_33 : decode jdk_42_method_149_code 33 = .ok (.aload_n 1, 1) := by decide +kernel
theorem d3_34 : decode jdk_42_method_149_code 34 = .ok (.iload_n 2, 1) := by decide +kernel
theorem d3_35 : decode jdk_42_method_149_code 35 = .ok (.iload_n 3, 1) := by decide +kernel
theorem d3_36 : decode jdk_42_method_149_code 36 = .ok (.invokestatic 177, 3) := by decide +kernel
theorem d3_39 : decode jdk_42_method_149_code 39 = .ok (.astore 5, 2) := by decide +kernel
theorem d3_41 : decode jdk_42_method_149_code 41 = .ok (.aload_n 0, 1) := by decide +kernel
theorem d3_42 : decode jdk_42_method_149_code 42 = .ok (.aload 5, 2) := by decide +kernel
theorem d3_44 : decode jdk_42_method_149_code 44 = .ok (.iload_n 3, 1) := by decide +kernel
theorem d3_45 : decode jdk_42_method_149_code 45 = .ok (.invokestatic 47, 3) := by decide +kernel
theorem d3_48 : decode jdk_42_method_149_code 48 = .ok (.putfield 15, 3) := by decide +kernel
theorem d3_51 : decode jdk_42_method_149_code 51 = .ok (.aload_n 0, 1) := by decide +kernel
theorem d3_52 : decode jdk_42_method_149_code 52 = .ok (.aload 5, 2) := by decide +kernel
theorem d3_54 : decode jdk_42_method_149_code 54 = .ok (.putfield 9, 3) := by decide +kernel
theorem d3_57 : decode jdk_42_method_149_code 57 = .ok (.return_, 1) := by decide +kernel
theorem d5_0 : decode jdk_52_method_16_code 0 = .ok (.iload_n 2, 1) := by decide +kernel
theorem d5_1 : decode jdk_52_method_16_code 1 = .ok (.newarray .byte, 2) := by decide +kernel
theorem d5_3 : decode jdk_52_method_16_code 3 = .ok (.astore_n 3, 1) := by decide +kernel
theorem d5_4 : decode jdk_52_method_16_code 4 = .ok (.aload_n 0, 1) := by decide +kernel
theorem d5_5 : decode jdk_52_method_16_code 5 = .ok (.iload_n 1, 1) := by decide +kernel
theorem d5_6 : decode jdk_52_method_16_code 6 = .ok (.aload_n 3, 1) := by decide +kernel
theorem d5_7 : decode jdk_52_method_16_code 7 = .ok (.iconst 0, 1) := by decide +kernel
theorem d5_8 : decode jdk_52_method_16_code 8 = .ok (.iload_n 2, 1) := by decide +kernel
theorem d5_9 : decode jdk_52_method_16_code 9 = .ok (.invokestatic 115, 3) := by decide +kernel
theorem d5_12 : decode jdk_52_method_16_code 12 = .ok (.istore 4, 2) := by decide +kernel
theorem d5_14 : decode jdk_52_method_16_code 14 = .ok (.iload 4, 2) := by decide +kernel
theorem d5_16 : decode jdk_52_method_16_code 16 = .ok (.iload_n 2, 1) := by decide +kernel
theorem d5_17 : decode jdk_52_method_16_code 17 = .ok (.if_icmp .eq 40, 3) := by decide +kernel
theorem d5_57 : decode jdk_52_method_16_code 57 = .ok (.aload_n 3, 1) := by decide +kernel
theorem d5_58 : decode jdk_52_method_16_code 58 = .ok (.areturn, 1) := by decide +kernel
theorem d6_0 : decode jdk_52_method_21_code 0 = .ok (.iconst 0, 1) := by decide +kernel
theorem d6_1 : decode jdk_52_method_21_code 1 = .ok (.istore 5, 2) := by decide +kernel
theorem d6_3 : decode jdk_52_method_21_code 3 = .ok (.iload 5, 2) := by decide +kernel
theorem d6_5 : decode jdk_52_method_21_code 5 = .ok (.iload 4, 2) := by decide +kernel
theorem d6_7 : decode jdk_52_method_21_code 7 = .ok (.if_icmp .ge 37, 3) := by decide +kernel
theorem d6_10 : decode jdk_52_method_21_code 10 = .ok (.aload_n 0, 1) := by decide +kernel
theorem d6_11 : decode jdk_52_method_21_code 11 = .ok (.iload_n 1, 1) := by decide +kernel
theorem d6_12 : decode jdk_52_method_21_code 12 = .ok (.caload, 1) := by decide +kernel
theorem d6_13 : decode jdk_52_method_21_code 13 = .ok (.istore 6, 2) := by decide +kernel
theorem d6_15 : decode jdk_52_method_21_code 15 = .ok (.iload 6, 2) := by decide +kernel
theorem d6_17 : decode jdk_52_method_21_code 17 = .ok (.sipush 255, 3) := by decide +kernel
theorem d6_20 : decode jdk_52_method_21_code 20 = .ok (.if_icmp .le 6, 3) := by decide +kernel
theorem d6_26 : decode jdk_52_method_21_code 26 = .ok (.aload_n 2, 1) := by decide +kernel
theorem d6_27 : decode jdk_52_method_21_code 27 = .ok (.iload_n 3, 1) := by decide +kernel
theorem d6_28 : decode jdk_52_method_21_code 28 = .ok (.iload 6, 2) := by decide +kernel
theorem d6_30 : decode jdk_52_method_21_code 30 = .ok (.i2b, 1) := by decide +kernel
theorem d6_31 : decode jdk_52_method_21_code 31 = .ok (.bastore, 1) := by decide +kernel
theorem d6_32 : decode jdk_52_method_21_code 32 = .ok (.iinc 1 1, 3) := by decide +kernel
theorem d6_35 : decode jdk_52_method_21_code 35 = .ok (.iinc 3 1, 3) := by decide +kernel
theorem d6_38 : decode jdk_52_method_21_code 38 = .ok (.iinc 5 1, 3) := by decide +kernel
theorem d6_41 : decode jdk_52_method_21_code 41 = .ok (.goto (-38), 3) := by decide +kernel
theorem d6_44 : decode jdk_52_method_21_code 44 = .ok (.iload 4, 2) := by decide +kernel
theorem d6_46 : decode jdk_52_method_21_code 46 = .ok (.ireturn, 1) := by decide +kernel
theorem d7_0 : decode jdk_52_method_15_code 0 = .ok (.iload_n 1, 1) := by decide +kernel
theorem d7_1 : decode jdk_52_method_15_code 1 = .ok (.aload_n 0, 1) := by decide +kernel
theorem d7_2 : decode jdk_52_method_15_code 2 = .ok (.arraylength, 1) := by decide +kernel
theorem d7_3 : decode jdk_52_method_15_code 3 = .ok (.isub, 1) := by decide +kernel
theorem d7_4 : decode jdk_52_method_15_code 4 = .ok (.bipush 31, 2) := by decide +kernel
theorem d7_6 : decode jdk_52_method_15_code 6 = .ok (.iushr, 1) := by decide +kernel
theorem d7_7 : decode jdk_52_method_15_code 7 = .ok (.i2b, 1) := by decide +kernel
theorem d7_8 : decode jdk_52_method_15_code 8 = .ok (.ireturn, 1) := by decide +kernel
theorem d8_0 : decode prog_102_method_1_code 0 = .ok (.aload_n 0, 1) := by decide +kernel
theorem d8_1 : decode prog_102_method_1_code 1 = .ok (.invokespecial 3, 3) := by decide +kernel
theorem d8_4 : decode prog_102_method_1_code 4 = .ok (.aload_n 0, 1) := by decide +kernel
theorem d8_5 : decode prog_102_method_1_code 5 = .ok (.aload_n 1, 1) := by decide +kernel
theorem d8_6 : decode prog_102_method_1_code 6 = .ok (.putfield 9, 3) := by decide +kernel
theorem d8_9 : decode prog_102_method_1_code 9 = .ok (.aload_n 0, 1) := by decide +kernel
theorem d8_10 : decode prog_102_method_1_code 10 = .ok (.aload_n 2, 1) := by decide +kernel
theorem d8_11 : decode prog_102_method_1_code 11 = .ok (.putfield 15, 3) := by decide +kernel
theorem d8_14 : decode prog_102_method_1_code 14 = .ok (.aload_n 0, 1) := by decide +kernel
theorem d8_15 : decode prog_102_method_1_code 15 = .ok (.aload_n 3, 1) := by decide +kernel
theorem d8_16 : decode prog_102_method_1_code 16 = .ok (.putfield 18, 3) := by decide +kernel
theorem d8_19 : decode prog_102_method_1_code 19 = .ok (.return_, 1) := by decide +kernel
theorem d9_0 : decode prog_102_method_4_code 0 = .ok (.new 10, 3) := by decide +kernel
theorem d9_3 : decode prog_102_method_4_code 3 = .ok (.dup, 1) := by decide +kernel
theorem d9_4 : decode prog_102_method_4_code 4 = .ok (.aload_n 0, 1) := by decide +kernel
theorem d9_5 : decode prog_102_method_4_code 5 = .ok (.getfield 9, 3) := by decide +kernel
theorem d9_8 : decode prog_102_method_4_code 8 = .ok (.ifnonnull 10, 3) := by decide +kernel
theorem d9_11 : decode prog_102_method_4_code 11 = .ok (.aload_n 1, 1) := by decide +kernel
theorem d9_12 : decode prog_102_method_4_code 12 = .ok (.getfield 9, 3) := by decide +kernel
theorem d9_15 : decode prog_102_method_4_code 15 = .ok (.goto 7, 3) := by decide +kernel
theorem d9_18 : decode prog_102_method_4_code 18 = .ok (.aload_n 0, 1) := by decide +kernel
theorem d9_19 : decode prog_102_method_4_code 19 = .ok (.getfield 9, 3) := by decide +kernel
theorem d9_22 : decode prog_102_method_4_code 22 = .ok (.aload_n 0, 1) := by decide +kernel
theorem d9_23 : decode prog_102_method_4_code 23 = .ok (.getfield 15, 3) := by decide +kernel
theorem d9_26 : decode prog_102_method_4_code 26 = .ok (.ifnonnull 10, 3) := by decide +kernel
theorem d9_29 : decode prog_102_method_4_code 29 = .ok (.aload_n 1, 1) := by decide +kernel
theorem d9_30 : decode prog_102_method_4_code 30 = .ok (.getfield 15, 3) := by decide +kernel
theorem d9_33 : decode prog_102_method_4_code 33 = .ok (.goto 7, 3) := by decide +kernel
theorem d9_36 : decode prog_102_method_4_code 36 = .ok (.aload_n 0, 1) := by decide +kernel
theorem d9_37 : decode prog_102_method_4_code 37 = .ok (.getfield 15, 3) := by decide +kernel
theorem d9_40 : decode prog_102_method_4_code 40 = .ok (.aload_n 0, 1) := by decide +kernel
theorem d9_41 : decode prog_102_method_4_code 41 = .ok (.getfield 18, 3) := by decide +kernel
theorem d9_44 : decode prog_102_method_4_code 44 = .ok (.ifnonnull 10, 3) := by decide +kernel
theorem d9_47 : decode prog_102_method_4_code 47 = .ok (.aload_n 1, 1) := by decide +kernel
theorem d9_48 : decode prog_102_method_4_code 48 = .ok (.getfield 18, 3) := by decide +kernel
theorem d9_51 : decode prog_102_method_4_code 51 = .ok (.goto 7, 3) := by decide +kernel
theorem d9_54 : decode prog_102_method_4_code 54 = .ok (.aload_n 0, 1) := by decide +kernel
theorem d9_55 : decode prog_102_method_4_code 55 = .ok (.getfield 18, 3) := by decide +kernel
theorem d9_58 : decode prog_102_method_4_code 58 = .ok (.invokespecial 33, 3) := by decide +kernel
theorem d9_61 : decode prog_102_method_4_code 61 = .ok (.areturn, 1) := by decide +kernel
theorem d10_0 : decode prog_102_method_5_code 0 = .ok (.aload_n 0, 1) := by decide +kernel
theorem d10_1 : decode prog_102_method_5_code 1 = .ok (.getfield 9, 3) := by decide +kernel
theorem d10_4 : decode prog_102_method_5_code 4 = .ok (.areturn, 1) := by decide +kernel
theorem d11_0 : decode prog_102_method_6_code 0 = .ok (.aload_n 0, 1) := by decide +kernel
theorem d11_1 : decode prog_102_method_6_code 1 = .ok (.getfield 15, 3) := by decide +kernel
theorem d11_4 : decode prog_102_method_6_code 4 = .ok (.areturn, 1) := by decide +kernel
theorem d12_0 : decode prog_102_method_7_code 0 = .ok (.aload_n 0, 1) := by decide +kernel
theorem d12_1 : decode prog_102_method_7_code 1 = .ok (.getfield 18, 3) := by decide +kernel
theorem d12_4 : decode prog_102_method_7_code 4 = .ok (.areturn, 1) := by decide +kernel
theorem d13_0 : decode prog_102_method_3_code 0 = .ok (.aload_n 0, 1) := by decide +kernel
theorem d13_1 : decode prog_102_method_3_code 1 = .ok (.getfield 9, 3) := by decide +kernel
theorem d13_4 : decode prog_102_method_3_code 4 = .ok (.ifnull 21, 3) := by decide +kernel
theorem d13_7 : decode prog_102_method_3_code 7 = .ok (.aload_n 0, 1) := by decide +kernel
theorem d13_8 : decode prog_102_method_3_code 8 = .ok (.getfield 15, 3) := by decide +kernel
theorem d13_11 : decode prog_102_method_3_code 11 = .ok (.ifnull 14, 3) := by decide +kernel
theorem d13_14 : decode prog_102_method_3_code 14 = .ok (.aload_n 0, 1) := by decide +kernel
theorem d13_15 : decode prog_102_method_3_code 15 = .ok (.getfield 18, 3) := by decide +kernel
theorem d13_18 : decode prog_102_method_3_code 18 = .ok (.ifnull 7, 3) := by decide +kernel
theorem d13_21 : decode prog_102_method_3_code 21 = .ok (.iconst 1, 1) := by decide +kernel
theorem d13_22 : decode prog_102_method_3_code 22 = .ok (.goto 4, 3) := by decide +kernel
theorem d13_25 : decode prog_102_method_3_code 25 = .ok (.iconst 0, 1) := by decide +kernel
theorem d13_26 : decode prog_102_method_3_code 26 = .ok (.ireturn, 1) := by decide +kernel
theorem pn_2 : plainName "com/example/tallyfold/tallyfold/io/Instance" = true := by first | (simp [plainName, overriddenIn]; done) | decide +kernel
theorem pn_3 : plainName "com/example/tallyfold/tallyfold/io/InstanceOrElsePinLaw" = true := by first | (simp [plainName, overriddenIn]; done) | decide +kernel
/-! new String(char[]), all chars below 256: the JDK's bodies walked -/
section StrInit
variable {l : Launch} {Z : State} {a0 : Array Value}
theorem own_hEL (hw : ∀ d ∈ tables_1, d.before a0 Z = true) : EW Z a0 ([] : List (String × Nat)) := EW.nil
theorem pn_utf16 : plainName "java/lang/StringUTF16" = true := by first | (simp [plainName, overriddenIn]; done) | decide +kernel
theorem pf_str (n d : String) (q : plainFor ⟨"java/lang/String", n, d⟩ = true) : plainFor ⟨"java/lang/String", n, d⟩ = true := q
abbrev rm0 : Room := { frames := 0, cells := 0, slots := 0, locals := 0 }
theorem coderLen_met (hw : ∀ d ∈ tables_1, d.before a0 Z = true) {h : Heap} {b : Addr} {kb : ClassId} {z zz : Int32} {vs : List Value} {dv : Value} (F : Arv Z h b kb .byte z vs dv) :
    Met l Z ([] : List (String × Nat)) ⟨"java/lang/StringUTF16", "coderFromArrayLen", "([BI)B"⟩ jdk_52_method_15_code 2 (some .byte) [] rm0 #[.ref b, .int zz] h [] (fun v h' => v = some (.int (((zz - z).toUInt32 >>> ((31 : Int32) &&& 31).toUInt32).toInt32.toInt8.toInt32)) ∧ h = h') := by
  refine Met.of_walk (a0 := a0) (Ls := #[.val (.ref b), .val (.int zz)]) (plainFor_of_name pn_utf16) (own_hEL hw) rfl ?_
  refine Wl.iload_n 1 d7_0 rfl ?_
  refine Wl.aload_n 2 d7_1 rfl rfl ?_
  refine Wl.arraylength 3 d7_2 F ?_
  refine Wl.isub 4 d7_3 ?_
  refine Wl.bipush 6 (31 : Int32) d7_4 (by decide) ?_
  refine Wl.iushr 7 d7_6 ?_
  refine Wl.i2b 8 d7_7 ?_
  exact Wl.ireturn (t := .byte) d7_8 rfl (Jvm.Free.XT.narrow_b _) (by simp) (by decide) (by decide) ⟨rfl, rfl⟩
/-- the inner compress: the loop -/
theorem comp2_loop (hw : ∀ d ∈ tables_1, d.before a0 Z = true) {h0 : Heap} {b d : Addr} {kb kd : ClassId} {cs : List Int32} (hn : cs.length < 65536) (hlat : ∀ c ∈ cs, Lat c) (hne : b ≠ d) (j : Nat) :
    ∀ (i : Nat) (h : Heap) (o : Slot), i + j = cs.length → (o = .unset ∨ ∃ w, o = .val w ∧ w.category = 1) → Arv Z h b kb .char (Int32.ofNat cs.length) (cs.map Value.int) (.int 0) → Arv Z h d kd .byte (Int32.ofNat cs.length) (fil (cs.map byV) (.int 0) i) (.int 0) → Keep h0 h [d] →
    Wl l Z a0 ([] : List (String × Nat)) ⟨"java/lang/StringUTF16", "compress", "([CI[BII)I"⟩ jdk_52_method_21_code 7 (some .int) rm0 #[.ref b, .int 0, .ref d, .int 0, .int (Int32.ofNat cs.length)] (fun v h' => v = some (.int (Int32.ofNat cs.length)) ∧ Keep h0 h' [d] ∧ Arv Z h' d kd .byte (Int32.ofNat cs.length) (cs.map byV) (.int 0)) [d] h 0 0 3
      #[.val (.ref b), .val (.int (Int32.ofNat i)), .val (.ref d), .val (.int (Int32.ofNat i)), .val (.int (Int32.ofNat cs.length)), .val (.int (Int32.ofNat i)), o] [] := by
  induction j with
  | zero =>
    intro i h o hij ho Kb Kd K
    have hi : i = cs.length := by omega
    subst hi
    refine Wl.iload 5 d6_3 rfl ?_
    refine Wl.iload 7 d6_5 rfl ?_
    refine Wl.icmpY 44 d6_7 (flt Int32.lt_irrefl).2.1 ?_
    refine Wl.iload 46 d6_44 rfl ?_
    have e : fil (cs.map byV) (.int 0) cs.length = cs.map byV := by
      have := fil_all (cs.map byV) (.int 0); rwa [List.length_map] at this
    rw [e] at Kd
    exact Wl.ireturn (t := .int) d6_46 rfl rfl (by simp) (by decide) (by decide) ⟨rfl, K, Kd⟩
  | succ j ih =>
    intro i h o hij ho Kb Kd K
    have hi : i < cs.length := by omega
    have h31 : i < 2147483648 := by omega
    have hl : Lat cs[i] := hlat _ (List.getElem_mem hi)
    have hcl := nCl (i := cs.length) (by omega)
    refine Wl.iload 5 d6_3 rfl ?_
    refine Wl.iload 7 d6_5 rfl ?_
    refine Wl.icmpN 10 d6_7 (tlt ((nLt h31 (by omega)).mpr hi)).2.1 ?_
    refine Wl.aload_n 11 d6_10 rfl rfl ?_
    refine Wl.iload_n 12 d6_11 rfl ?_
    refine Wl.caload 13 i d6_12 Kb (nNn h31) (nCl h31) (by rw [hcl]; exact hi) (v := .int cs[i]) (by simp [List.getD_eq_getElem?_getD, hi]) ?_
    refine Wl.istore 15 #[.val (.ref b), .val (.int (Int32.ofNat i)), .val (.ref d), .val (.int (Int32.ofNat i)), .val (.int (Int32.ofNat cs.length)), .val (.int (Int32.ofNat i)), .val (.int cs[i])] d6_13 (XS.store1 (o := o) rfl ho rfl) ?_
    refine Wl.iload 17 d6_15 rfl ?_
    refine Wl.sipush 20 (255 : Int32) d6_17 (by decide) ?_
    refine Wl.icmpY 26 d6_20 (flt (lat_le hl)).2.2.2 ?_
    refine Wl.aload_n 27 d6_26 rfl rfl ?_
    refine Wl.iload_n 28 d6_27 rfl ?_
    refine Wl.iload 30 d6_28 rfl ?_
    refine Wl.i2b 31 d6_30 ?_
    refine Wl.bastore 32 i d6_31 Kd (List.mem_of_getElem? (i := 0) rfl) (nNn h31) (nCl h31) (by rw [hcl]; exact hi) (by rw [fil_len _ _ _ (by rw [List.length_map]; omega), List.length_map]; exact hi) ?_
    intro h' W Kd'
    rw [show nar .byte (cs[i]).toInt8.toInt32 = (cs[i]).toInt8.toInt32 from i2b_id _, fil_set (cs.map byV) (.int 0) _ i (by rw [List.length_map]; exact hi) (by simp [byV])] at Kd'
    refine Wl.iinc 35 #[.val (.ref b), .val (.int (Int32.ofNat (i + 1))), .val (.ref d), .val (.int (Int32.ofNat i)), .val (.int (Int32.ofNat cs.length)), .val (.int (Int32.ofNat i)), .val (.int cs[i])] (1 : Int32) d6_32 (by decide) rfl (by rw [nS]; rfl) ?_
    refine Wl.iinc 38 #[.val (.ref b), .val (.int (Int32.ofNat (i + 1))), .val (.ref d), .val (.int (Int32.ofNat (i + 1))), .val (.int (Int32.ofNat cs.length)), .val (.int (Int32.ofNat i)), .val (.int cs[i])] (1 : Int32) d6_35 (by decide) rfl (by rw [nS]; rfl) ?_
    refine Wl.iinc 41 #[.val (.ref b), .val (.int (Int32.ofNat (i + 1))), .val (.ref d), .val (.int (Int32.ofNat (i + 1))), .val (.int (Int32.ofNat cs.length)), .val (.int (Int32.ofNat (i + 1))), .val (.int cs[i])] (1 : Int32) d6_38 (by decide) rfl (by rw [nS]; rfl) ?_
    refine Wl.goto 3 d6_41 ?_
    exact ih (i + 1) h' _ (by omega) (Or.inr ⟨_, rfl, rfl⟩) (Kb.other W hne) Kd' (K.wr W (Or.inl (List.mem_of_getElem? (i := 0) rfl)))
theorem comp2_met (hw : ∀ d ∈ tables_1, d.before a0 Z = true) {h : Heap} {b d : Addr} {kb kd : ClassId} {cs : List Int32} (hn : cs.length < 65536) (hlat : ∀ c ∈ cs, Lat c) (hne : b ≠ d) (Kb : Arv Z h b kb .char (Int32.ofNat cs.length) (cs.map Value.int) (.int 0)) (Kd : Arv Z h d kd .byte (Int32.ofNat cs.length) (List.replicate cs.length (.int 0)) (.int 0)) :
    Met l Z ([] : List (String × Nat)) ⟨"java/lang/StringUTF16", "compress", "([CI[BII)I"⟩ jdk_52_method_21_code 7 (some .int) [] rm0 #[.ref b, .int 0, .ref d, .int 0, .int (Int32.ofNat cs.length)] h [d] (fun v h' => v = some (.int (Int32.ofNat cs.length)) ∧ Keep h h' [d] ∧ Arv Z h' d kd .byte (Int32.ofNat cs.length) (cs.map byV) (.int 0)) := by
  refine Met.of_walk (a0 := a0) (Ls := #[.val (.ref b), .val (.int 0), .val (.ref d), .val (.int 0), .val (.int (Int32.ofNat cs.length)), .unset, .unset]) (plainFor_of_name pn_utf16) (own_hEL hw) rfl ?_
  refine Wl.iconst 1 (0 : Int32) d6_0 (by decide) ?_
  refine Wl.istore 3 #[.val (.ref b), .val (.int 0), .val (.ref d), .val (.int 0), .val (.int (Int32.ofNat cs.length)), .val (.int 0), .unset] d6_1 rfl ?_
  exact comp2_loop hw hn hlat hne cs.length 0 h _ (by omega) (Or.inl rfl) Kb (by have e := fil_zero (cs.map byV) (.int 0); rw [List.length_map] at e; rw [e]; exact Kd) (Keep.refl h [d])
/-- compress(char[], int, int) -/
theorem comp1_met (hw : ∀ d ∈ tables_1, d.before a0 Z = true) {h : Heap} {b : Addr} {kb : ClassId} {cs : List Int32} {N : Nat} (hn : cs.length < 65536) (hN : cs.length ≤ N) (hN2 : N < 65536) (hlat : ∀ c ∈ cs, Lat c) (Kb : Arv Z h b kb .char (Int32.ofNat cs.length) (cs.map Value.int) (.int 0)) :
    Met l Z ([] : List (String × Nat)) ⟨"java/lang/StringUTF16", "compress", "([CII)[B"⟩ jdk_52_method_16_code 6 (some (.array .byte)) [] { frames := 1, cells := 1, slots := N, locals := 18 } #[.ref b, .int 0, .int (Int32.ofNat cs.length)] h [] (fun v h' => ∃ (d : Addr) (kd : ClassId), v = some (.ref d) ∧ h.size ≤ d ∧ Ext h h' ∧ Arv Z h' d kd .byte (Int32.ofNat cs.length) (cs.map byV) (.int 0)) := by
  refine Met.of_walk (a0 := a0) (Ls := #[.val (.ref b), .val (.int 0), .val (.int (Int32.ofNat cs.length)), .unset, .unset, .unset]) (plainFor_of_name pn_utf16) (own_hEL hw) rfl ?_
  refine Wl.iload_n 1 d5_0 rfl ?_
  refine Wl.newarray 3 N d5_1 (w23 hw) (nNn (by omega)) (by rw [nCl (by omega)]; exact hN) (by omega) (by show 0 + 1 ≤ 1; omega) (by show 0 + N ≤ N; omega) ?_
  intro d h1 kd q E A
  rw [nCl (by omega)] at A
  have A : Arv Z h1 d kd .byte (Int32.ofNat cs.length) (List.replicate cs.length (.int 0)) (.int 0) := A
  have hne : b ≠ d := Nat.ne_of_lt (by rw [q]; exact Kb.lt)
  refine Wl.astore_n 4 #[.val (.ref b), .val (.int 0), .val (.int (Int32.ofNat cs.length)), .val (.ref d), .unset, .unset] d5_3 rfl rfl ?_
  refine Wl.aload_n 5 d5_4 rfl rfl ?_
  refine Wl.iload_n 6 d5_5 rfl ?_
  refine Wl.aload_n 7 d5_6 rfl rfl ?_
  refine Wl.iconst 8 (0 : Int32) d5_7 (by decide) ?_
  refine Wl.iload_n 9 d5_8 rfl ?_
  refine Wl.static 12 (argsL := [.ref b, .int 0, .ref d, .int 0, .int (Int32.ofNat cs.length)]) d5_9 (w24 hw) (w25 hw) (w21 hw) (w26 hw) (show parseMethodDescriptor "([CI[BII)I" = some ⟨[.array .char, .int, .array .byte, .int, .int], some .int⟩ by decide +kernel) rfl (comp2_met hw hn hlat hne (Kb.ext E) A) (allS (List.mem_of_getElem? (i := 0) rfl) (fun _ q => nomatch q)) rfl rfl rfl (by decide) ⟨⟨by show 0 + 1 ≤ 1; omega, by show 0 + (7 + 11) + 0 ≤ 18; omega⟩, by show 0 + 1 + 0 ≤ 1; omega, by show 0 + N + 0 ≤ N; omega⟩ ?_
  intro v h2 hq _
  obtain ⟨rfl, K, A2⟩ := hq
  refine Wl.istore 14 #[.val (.ref b), .val (.int 0), .val (.int (Int32.ofNat cs.length)), .val (.ref d), .val (.int (Int32.ofNat cs.length)), .unset] d5_12 rfl ?_
  refine Wl.iload 16 d5_14 rfl ?_
  refine Wl.iload_n 17 d5_16 rfl ?_
  refine Wl.icmpY 57 d5_17 (teq rfl).1 ?_
  refine Wl.aload_n 58 d5_57 rfl rfl ?_
  exact Wl.areturn d5_58 rfl rfl rfl (by show 0 + 1 + 0 ≤ 1; omega) (by show 0 + N + 0 ≤ N; omega) ⟨d, kd, rfl, Nat.le_of_eq q.symm, extKeep E K (allS (Nat.le_of_eq q.symm) all0), A2⟩
/-- String(char[], int, int, Void) -/
theorem strV_met (hw : ∀ d ∈ tables_1, d.before a0 Z = true) (hcs : CSon Z) {h : Heap} {a b : Addr} {kb : ClassId} {cs : List Int32} {N : Nat} (hN : cs.length ≤ N) (hN2 : N < 65536) (hne0 : cs ≠ []) (hlat : ∀ c ∈ cs, Lat c) (E : Exa Z h a "java/lang/String") (FV : Fld Z h a "java/lang/String" "value" "[B" .null) (FC : Fld Z h a "java/lang/String" "coder" "B" (.int 0)) (Kb : Arv Z h b kb .char (Int32.ofNat cs.length) (cs.map Value.int) (.int 0)) :
    Met l Z ([] : List (String × Nat)) ⟨"java/lang/String", "<init>", "([CIILjava/lang/Void;)V"⟩ jdk_42_method_149_code 6 none [] { frames := 2, cells := 4, slots := N + 8, locals := 36 } #[.ref a, .ref b, .int 0, .int (Int32.ofNat cs.length), .null] h [a] (fun v h' => v = none ∧ Keep h h' [a] ∧ Stl Z h' a cs) := by
  refine Met.of_walk (a0 := a0) (Ls := #[.val (.ref a), .val (.ref b), .val (.int 0), .val (.int (Int32.ofNat cs.length)), .val .null, .unset]) (plainFor_of_name pn_str) (own_hEL hw) rfl ?_
  refine Wl.aload_n 1 d3_0 rfl rfl ?_
  refine Wl.initO 4 d3_1 (w15 hw) (w16 hw) (w17 hw) rfl (by show 1 ≤ 2; omega) (by show 0 + 12 ≤ 36; omega) ?_
  refine Wl.iload_n 5 d3_4 rfl ?_
  obtain ⟨cst, hS, hcn⟩ := hcs
  have L1 : Laid Z a0 "java/lang/String" "java/lang/String" "value" "[B" := Or.inr (w33 hw)
  have L2 : Laid Z a0 "java/lang/String" "java/lang/String" "coder" "B" := Or.inr (w31 hw)
  have hsl : Jvm.RoadKit.slotOf Z "java/lang/String" "value" "[B" ≠ Jvm.RoadKit.slotOf Z "java/lang/String" "coder" "B" := slot_ne L1 L2 (by decide) (t := .array .byte) (t' := .byte) (by decide) (by decide)
  by_cases h0 : cs = []
  · exact absurd h0 hne0
  · have hpos : 0 < cs.length := List.length_pos_iff.mpr h0
    refine Wl.ifY 27 d3_5 (feq (fun q => by have := congrArg Int32.toInt q; rw [nI (by omega), show (0 : Int32).toInt = 0 by decide] at this; omega)).2 ?_
    refine Wl.getstatic 30 d3_27 (w18 hw) hS ?_
    refine Wl.ifN 33 d3_30 (feq hcn).1 ?_
    refine Wl.aload_n 34 d3_33 rfl rfl ?_
    refine Wl.iload_n 35 d3_34 rfl ?_
    refine Wl.iload_n 36 d3_35 rfl ?_
    refine Wl.static 39 (argsL := [.ref b, .int 0, .int (Int32.ofNat cs.length)]) d3_36 (w19 hw) (w20 hw) (w21 hw) (w22 hw) (show parseMethodDescriptor "([CII)[B" = some ⟨[.array .char, .int, .int], some (.array .byte)⟩ by decide +kernel) rfl (comp1_met hw (by omega) hN hN2 hlat Kb) (fun _ q => nomatch q) rfl rfl rfl (by decide) ⟨⟨by show 1 + 1 ≤ 2; omega, by show 0 + (6 + 11) + 18 ≤ 36; omega⟩, by show 0 + 1 ≤ 4; omega, by show 0 + N ≤ N + 8; omega⟩ ?_
    intro v h1 hq _
    obtain ⟨d, kd, rfl, hd, E1, A1⟩ := hq
    have hne : d ≠ a := Nat.ne_of_gt (Nat.lt_of_lt_of_le E.lt hd)
    refine Wl.astore 41 #[.val (.ref a), .val (.ref b), .val (.int 0), .val (.int (Int32.ofNat cs.length)), .val .null, .val (.ref d)] d3_39 rfl rfl ?_
    refine Wl.aload_n 42 d3_41 rfl rfl ?_
    refine Wl.aload 44 d3_42 rfl rfl ?_
    refine Wl.iload_n 45 d3_44 rfl ?_
    refine Wl.static 48 (argsL := [.ref d, .int (Int32.ofNat cs.length)]) d3_45 (w27 hw) (w28 hw) (w21 hw) (w29 hw) (show parseMethodDescriptor "([BI)B" = some ⟨[.array .byte, .int], some .byte⟩ by decide +kernel) rfl (coderLen_met hw A1) (fun _ q => nomatch q) rfl rfl rfl (by decide) ⟨⟨by show 0 + 1 ≤ 2; omega, by show 1 + (2 + 11) + 0 ≤ 36; omega⟩, by show 0 + 1 + 0 ≤ 4; omega, by show 0 + N + 0 ≤ N + 8; omega⟩ ?_
    intro v h2 hq _
    obtain ⟨rfl, rfl⟩ := hq
    have e0 : ((Int32.ofNat cs.length - Int32.ofNat cs.length).toUInt32 >>> ((31 : Int32) &&& 31).toUInt32).toInt32.toInt8.toInt32 = 0 := by rw [Int32.sub_self]; decide
    rw [e0]
    refine Wl.putfield 51 d3_48 (w30 hw) (FC.ext E1) (E.ext E1) (Or.inr ⟨(w31 hw), rfl, rfl⟩) (w6 hw) (ty := .byte) (by decide) rfl rfl (List.mem_of_getElem? (i := 0) rfl) ?_
    intro h3 W3
    refine Wl.aload_n 52 d3_51 rfl rfl ?_
    refine Wl.aload 54 d3_52 rfl rfl ?_
    refine Wl.putfield 57 d3_54 (w32 hw) ((FV.ext E1).other W3 (Or.inr hsl)) ((E.ext E1).wr W3) (Or.inr ⟨(w33 hw), rfl, rfl⟩) (w6 hw) (ty := .array .byte) (by decide) rfl rfl (List.mem_of_getElem? (i := 0) rfl) ?_
    intro h4 W4
    refine Wl.return_ d3_57 rfl (by show 0 + 1 + 0 ≤ 4; omega) (by show 0 + N + 0 ≤ N + 8; omega) ⟨rfl, ?_, ?_⟩
    · exact ((((Keep.refl h [a]).ext E1)).wr W3 (Or.inl (List.mem_of_getElem? (i := 0) rfl))).wr W4 (Or.inl (List.mem_of_getElem? (i := 0) rfl))
    · exact ⟨d, kd, ((E.ext E1).wr W3).wr W4, ((FC.ext E1).same W3).other W4 (Or.inr hsl.symm), ((FV.ext E1).other W3 (Or.inr hsl)).same W4, (A1.other W3 hne).other W4 hne, hlat, by omega⟩
/-- String(char[]) -/
theorem strC_met (hw : ∀ d ∈ tables_1, d.before a0 Z = true) (hcs : CSon Z) {h : Heap} {a b : Addr} {kb : ClassId} {cs : List Int32} (N : Nat) (hN : cs.length ≤ N) (hN2 : N < 65536) (hne0 : cs ≠ []) (hlat : ∀ c ∈ cs, Lat c) (E : Exa Z h a "java/lang/String") (FV : Fld Z h a "java/lang/String" "value" "[B" .null) (FC : Fld Z h a "java/lang/String" "coder" "B" (.int 0)) (Kb : Arv Z h b kb .char (Int32.ofNat cs.length) (cs.map Value.int) (.int 0)) :
    Met l Z ([] : List (String × Nat)) ⟨"java/lang/String", "<init>", "([C)V"⟩ jdk_42_method_3_code 2 none [] { frames := 3, cells := 4, slots := N + 8, locals := 53 } #[.ref a, .ref b] h [a] (fun v h' => v = none ∧ Keep h h' [a] ∧ Stl Z h' a cs) := by
  refine Met.of_walk (a0 := a0) (Ls := #[.val (.ref a), .val (.ref b)]) (plainFor_of_name pn_str) (own_hEL hw) rfl ?_
  refine Wl.aload_n 1 d2_0 rfl rfl ?_
  refine Wl.aload_n 2 d2_1 rfl rfl ?_
  refine Wl.iconst 3 (0 : Int32) d2_2 (by decide) ?_
  refine Wl.aload_n 4 d2_3 rfl rfl ?_
  refine Wl.arraylength 5 d2_4 Kb ?_
  refine Wl.aconst_null 6 d2_5 ?_
  refine Wl.special 9 (argsL := [.ref b, .int 0, .int (Int32.ofNat cs.length), .null]) d2_6 (w11 hw) (w12 hw) (w7 hw) (w14 hw) (show parseMethodDescriptor "([CIILjava/lang/Void;)V" = some ⟨[.array .char, .int, .int, .object "java/lang/Void"], none⟩ by decide +kernel) rfl (strV_met hw hcs hN hN2 hne0 hlat E FV FC Kb) (allS (List.mem_of_getElem? (i := 0) rfl) (fun _ q => nomatch q)) rfl rfl rfl rfl (by decide) ⟨⟨by show 2 + 1 ≤ 3; omega, by show 0 + (6 + 11) + 36 ≤ 53; omega⟩, by show 0 + 4 ≤ 4; omega, by show 0 + (N + 8) ≤ N + 8; omega⟩ ?_
  intro v h1 hq _
  obtain ⟨rfl, K1, S1⟩ := hq
  exact Wl.return_ d2_9 rfl (by show 0 + 4 ≤ 4; omega) (by show 0 + (N + 8) ≤ N + 8; omega) ⟨rfl, K1, S1⟩
end StrInit

set_option maxRecDepth 65536 in
set_option maxHeartbeats 40000000 in
theorem inst_met {l : Launch} {Z : State} {a0 : Array Value} (hw : ∀ d ∈ tables_1, d.before a0 Z = true) {h : Heap} {a : Addr} {v0 : Value} {v1 : Value} {v2 : Value} (r0 : v0.isRef = true) (r1 : v1.isRef = true) (r2 : v2.isRef = true) (E : Exa Z h a "com/example/tallyfold/tallyfold/io/Instance") (F_type : Fld Z h a "com/example/tallyfold/tallyfold/io/Instance" "type" "Ljava/lang/String;" (.null)) (F_platform : Fld Z h a "com/example/tallyfold/tallyfold/io/Instance" "platform" "Ljava/lang/String;" (.null)) (F_tenancy : Fld Z h a "com/example/tallyfold/tallyfold/io/Instance" "tenancy" "Ljava/lang/String;" (.null)) :
    Met l Z ([] : List (String × Nat)) ⟨"com/example/tallyfold/tallyfold/io/Instance", "<init>", "(Ljava/lang/String;Ljava/lang/String;Ljava/lang/String;)V"⟩ prog_102_method_1_code 4 none [] { frames := 1, cells := 0, slots := 0, locals := 12 } #[.ref a, v0, v1, v2] h [a] (fun v h' => v = none ∧ Keep h h' [a] ∧ Exa Z h' a "com/example/tallyfold/tallyfold/io/Instance" ∧ Fld Z h' a "com/example/tallyfold/tallyfold/io/Instance" "type" "Ljava/lang/String;" (v0) ∧ Fld Z h' a "com/example/tallyfold/tallyfold/io/Instance" "platform" "Ljava/lang/String;" (v1) ∧ Fld Z h' a "com/example/tallyfold/tallyfold/io/Instance" "tenancy" "Ljava/lang/String;" (v2)) := by
  refine Met.of_walk (a0 := a0) (Ls := #[.val (.ref a), .val (v0), .val (v1), .val (v2)]) (plainFor_of_name pn_2) (own_hEL hw) (by rcases ref_cases r0 with rfl | ⟨_, rfl⟩ <;> rcases ref_cases r1 with rfl | ⟨_, rfl⟩ <;> rcases ref_cases r2 with rfl | ⟨_, rfl⟩ <;> rfl) ?_
  refine Wl.aload_n 1 d8_0 rfl rfl ?_
  refine Wl.initO 4 d8_1 (w40 hw) (w16 hw) (w17 hw) rfl (nle rfl) (nle rfl) ?_
  refine Wl.aload_n 5 d8_4 rfl rfl ?_
  refine Wl.aload_n 6 d8_5 rfl r0 ?_
  refine Wl.putfield 9 d8_6 (w41 hw) F_type E (Or.inr ⟨(w42 hw), rfl, rfl⟩) (w35 hw) (ty := (.object "java/lang/String")) (by decide) (narO r0) (fitO r0) (List.mem_of_getElem? (i := 0) rfl) ?_
  intro h1 W2
  have F3 : Fld Z h1 a "com/example/tallyfold/tallyfold/io/Instance" "type" "Ljava/lang/String;" (v0) := (F_type).same W2
  have F4 : Fld Z h1 a "com/example/tallyfold/tallyfold/io/Instance" "platform" "Ljava/lang/String;" (.null) := (F_platform).other W2 (Or.inr (slot_ne (a0 := a0) (C := "com/example/tallyfold/tallyfold/io/Instance") (Or.inr (w44 hw)) (Or.inr (w42 hw)) (by decide) (t := (.object "java/lang/String")) (t' := (.object "java/lang/String")) (by decide) (by decide)))
  have F5 : Fld Z h1 a "com/example/tallyfold/tallyfold/io/Instance" "tenancy" "Ljava/lang/String;" (.null) := (F_tenancy).other W2 (Or.inr (slot_ne (a0 := a0) (C := "com/example/tallyfold/tallyfold/io/Instance") (Or.inr (w46 hw)) (Or.inr (w42 hw)) (by decide) (t := (.object "java/lang/String")) (t' := (.object "java/lang/String")) (by decide) (by decide)))
  have K6 : Keep h h1 [a] := ((Keep.refl h [a])).wr W2 (Or.inl (List.mem_of_getElem? (i := 0) rfl))
  refine Wl.aload_n 10 d8_9 rfl rfl ?_
  refine Wl.aload_n 11 d8_10 rfl r1 ?_
  refine Wl.putfield 14 d8_11 (w43 hw) F4 (E.wr W2) (Or.inr ⟨(w44 hw), rfl, rfl⟩) (w35 hw) (ty := (.object "java/lang/String")) (by decide) (narO r1) (fitO r1) (List.mem_of_getElem? (i := 0) rfl) ?_
  intro h7 W8
  have F9 : Fld Z h7 a "com/example/tallyfold/tallyfold/io/Instance" "type" "Ljava/lang/String;" (v0) := (F3).other W8 (Or.inr (slot_ne (a0 := a0) (C := "com/example/tallyfold/tallyfold/io/Instance") (Or.inr (w42 hw)) (Or.inr (w44 hw)) (by decide) (t := (.object "java/lang/String")) (t' := (.object "java/lang/String")) (by decide) (by decide)))
  have F10 : Fld Z h7 a "com/example/tallyfold/tallyfold/io/Instance" "platform" "Ljava/lang/String;" (v1) := (F4).same W8
  have F11 : Fld Z h7 a "com/example/tallyfold/tallyfold/io/Instance" "tenancy" "Ljava/lang/String;" (.null) := (F5).other W8 (Or.inr (slot_ne (a0 := a0) (C := "com/example/tallyfold/tallyfold/io/Instance") (Or.inr (w46 hw)) (Or.inr (w44 hw)) (by decide) (t := (.object "java/lang/String")) (t' := (.object "java/lang/String")) (by decide) (by decide)))
  have K12 : Keep h h7 [a] := (K6).wr W8 (Or.inl (List.mem_of_getElem? (i := 0) rfl))
  refine Wl.aload_n 15 d8_14 rfl rfl ?_
  refine Wl.aload_n 16 d8_15 rfl r2 ?_
  refine Wl.putfield 19 d8_16 (w45 hw) F11 ((E.wr W2).wr W8) (Or.inr ⟨(w46 hw), rfl, rfl⟩) (w35 hw) (ty := (.object "java/lang/String")) (by decide) (narO r2) (fitO r2) (List.mem_of_getElem? (i := 0) rfl) ?_
  intro h13 W14
  have F15 : Fld Z h13 a "com/example/tallyfold/tallyfold/io/Instance" "type" "Ljava/lang/String;" (v0) := (F9).other W14 (Or.inr (slot_ne (a0 := a0) (C := "com/example/tallyfold/tallyfold/io/Instance") (Or.inr (w42 hw)) (Or.inr (w46 hw)) (by decide) (t := (.object "java/lang/String")) (t' := (.object "java/lang/String")) (by decide) (by decide)))
  have F16 : Fld Z h13 a "com/example/tallyfold/tallyfold/io/Instance" "platform" "Ljava/lang/String;" (v1) := (F10).other W14 (Or.inr (slot_ne (a0 := a0) (C := "com/example/tallyfold/tallyfold/io/Instance") (Or.inr (w44 hw)) (Or.inr (w46 hw)) (by decide) (t := (.object "java/lang/String")) (t' := (.object "java/lang/String")) (by decide) (by decide)))
  have F17 : Fld Z h13 a "com/example/tallyfold/tallyfold/io/Instance" "tenancy" "Ljava/lang/String;" (v2) := (F11).same W14
  have K18 : Keep h h13 [a] := (K12).wr W14 (Or.inl (List.mem_of_getElem? (i := 0) rfl))
  exact Wl.return_ d8_19 rfl (nle rfl) (nle rfl) ⟨rfl, K18, (((E.wr W2).wr W8).wr W14), F15, F16, F17⟩
def wholeV : Value → Value → Value → Int32
  | .ref _, .ref _, .ref _ => 1
  | _, _, _ => 0
def pickV : Value → Value → Value
  | .null, w => w
  | v, _ => v
theorem pick_ref {v w : Value} (r : v.isRef = true) (q : w.isRef = true) : (pickV v w).isRef = true := by rcases ref_cases r with rfl | ⟨_, rfl⟩ <;> first | exact q | rfl
set_option maxRecDepth 65536 in
set_option maxHeartbeats 40000000 in
theorem isWhole_met {l : Launch} {Z : State} {a0 : Array Value} (hw : ∀ d ∈ tables_1, d.before a0 Z = true) {h : Heap} {a : Addr} {v0 v1 v2 : Value} (r0 : v0.isRef = true) (r1 : v1.isRef = true) (r2 : v2.isRef = true) (F0 : Fld Z h a "com/example/tallyfold/tallyfold/io/Instance" "type" "Ljava/lang/String;" v0) (F1 : Fld Z h a "com/example/tallyfold/tallyfold/io/Instance" "platform" "Ljava/lang/String;" v1) (F2 : Fld Z h a "com/example/tallyfold/tallyfold/io/Instance" "tenancy" "Ljava/lang/String;" v2) :
    Met l Z ([] : List (String × Nat)) ⟨"com/example/tallyfold/tallyfold/io/Instance", "isWhole", "()Z"⟩ prog_102_method_3_code 1 (some .boolean) [] { frames := 0, cells := 0, slots := 0, locals := 0 } #[.ref a] h [] (fun v h' => v = some (.int (wholeV v0 v1 v2)) ∧ h = h') := by
  refine Met.of_walk (a0 := a0) (Ls := #[.val (.ref a)]) (plainFor_of_name pn_2) (own_hEL hw) rfl ?_
  refine Wl.aload_n 1 d13_0 rfl rfl ?_
  refine Wl.getfield 4 d13_1 (w41 hw) F0 ?_
  rcases ref_cases r0 with rfl | ⟨x1, rfl⟩
  · refine Wl.ifnullY 25 d13_4 ?_
    refine Wl.iconst 26 (0 : Int32) d13_25 (by decide) ?_
    exact Wl.ireturn d13_26 rfl rfl (by simp) (nle rfl) (nle rfl) ⟨rfl, rfl⟩
  · refine Wl.ifnullN 7 d13_4 ?_
    refine Wl.aload_n 8 d13_7 rfl rfl ?_
    refine Wl.getfield 11 d13_8 (w43 hw) F1 ?_
    rcases ref_cases r1 with rfl | ⟨x2, rfl⟩
    · refine Wl.ifnullY 25 d13_11 ?_
      refine Wl.iconst 26 (0 : Int32) d13_25 (by decide) ?_
      exact Wl.ireturn d13_26 rfl rfl (by simp) (nle rfl) (nle rfl) ⟨rfl, rfl⟩
    · refine Wl.ifnullN 14 d13_11 ?_
      refine Wl.aload_n 15 d13_14 rfl rfl ?_
      refine Wl.getfield 18 d13_15 (w45 hw) F2 ?_
      rcases ref_cases r2 with rfl | ⟨x3, rfl⟩
      · refine Wl.ifnullY 25 d13_18 ?_
        refine Wl.iconst 26 (0 : Int32) d13_25 (by decide) ?_
        exact Wl.ireturn d13_26 rfl rfl (by simp) (nle rfl) (nle rfl) ⟨rfl, rfl⟩
      · refine Wl.ifnullN 21 d13_18 ?_
        refine Wl.iconst 22 (1 : Int32) d13_21 (by decide) ?_
        refine Wl.goto 26 d13_22 ?_
        exact Wl.ireturn d13_26 rfl rfl (by simp) (nle rfl) (nle rfl) ⟨rfl, rfl⟩
set_option maxRecDepth 65536 in
set_option maxHeartbeats 40000000 in
theorem getType_met {l : Launch} {Z : State} {a0 : Array Value} (hw : ∀ d ∈ tables_1, d.before a0 Z = true) {h : Heap} {a : Addr} {v0 : Value} (r0 : v0.isRef = true) (F : Fld Z h a "com/example/tallyfold/tallyfold/io/Instance" "type" "Ljava/lang/String;" v0) :
    Met l Z ([] : List (String × Nat)) ⟨"com/example/tallyfold/tallyfold/io/Instance", "getType", "()Ljava/lang/String;"⟩ prog_102_method_5_code 1 (some (.object "java/lang/String")) [] { frames := 0, cells := 0, slots := 0, locals := 0 } #[.ref a] h [] (fun v h' => v = some v0 ∧ h = h') := by
  refine Met.of_walk (a0 := a0) (Ls := #[.val (.ref a)]) (plainFor_of_name pn_2) (own_hEL hw) rfl ?_
  refine Wl.aload_n 1 d10_0 rfl rfl ?_
  refine Wl.getfield 4 d10_1 (w41 hw) F ?_
  exact Wl.areturn d10_4 rfl rfl r0 (nle rfl) (nle rfl) ⟨rfl, rfl⟩
set_option maxRecDepth 65536 in
set_option maxHeartbeats 40000000 in
theorem getPlatform_met {l : Launch} {Z : State} {a0 : Array Value} (hw : ∀ d ∈ tables_1, d.before a0 Z = true) {h : Heap} {a : Addr} {v0 : Value} (r0 : v0.isRef = true) (F : Fld Z h a "com/example/tallyfold/tallyfold/io/Instance" "platform" "Ljava/lang/String;" v0) :
    Met l Z ([] : List (String × Nat)) ⟨"com/example/tallyfold/tallyfold/io/Instance", "getPlatform", "()Ljava/lang/String;"⟩ prog_102_method_6_code 1 (some (.object "java/lang/String")) [] { frames := 0, cells := 0, slots := 0, locals := 0 } #[.ref a] h [] (fun v h' => v = some v0 ∧ h = h') := by
  refine Met.of_walk (a0 := a0) (Ls := #[.val (.ref a)]) (plainFor_of_name pn_2) (own_hEL hw) rfl ?_
  refine Wl.aload_n 1 d11_0 rfl rfl ?_
  refine Wl.getfield 4 d11_1 (w43 hw) F ?_
  exact Wl.areturn d11_4 rfl rfl r0 (nle rfl) (nle rfl) ⟨rfl, rfl⟩
set_option maxRecDepth 65536 in
set_option maxHeartbeats 40000000 in
theorem getTenancy_met {l : Launch} {Z : State} {a0 : Array Value} (hw : ∀ d ∈ tables_1, d.before a0 Z = true) {h : Heap} {a : Addr} {v0 : Value} (r0 : v0.isRef = true) (F : Fld Z h a "com/example/tallyfold/tallyfold/io/Instance" "tenancy" "Ljava/lang/String;" v0) :
    Met l Z ([] : List (String × Nat)) ⟨"com/example/tallyfold/tallyfold/io/Instance", "getTenancy", "()Ljava/lang/String;"⟩ prog_102_method_7_code 1 (some (.object "java/lang/String")) [] { frames := 0, cells := 0, slots := 0, locals := 0 } #[.ref a] h [] (fun v h' => v = some v0 ∧ h = h') := by
  refine Met.of_walk (a0 := a0) (Ls := #[.val (.ref a)]) (plainFor_of_name pn_2) (own_hEL hw) rfl ?_
  refine Wl.aload_n 1 d12_0 rfl rfl ?_
  refine Wl.getfield 4 d12_1 (w45 hw) F ?_
  exact Wl.areturn d12_4 rfl rfl r0 (nle rfl) (nle rfl) ⟨rfl, rfl⟩
set_option maxRecDepth 65536 in
set_option maxHeartbeats 40000000 in
theorem drawn_met {l : Launch} {Z : State} {a0 : Array Value} (hw : ∀ d ∈ tables_1, d.before a0 Z = true) (hcs : CSon Z) {h : Heap} {x y z : Int32}  :
    Met l Z ([] : List (String × Nat)) ⟨"com/example/tallyfold/tallyfold/io/InstanceOrElsePinLaw", "drawn", "(III)Ljava/lang/String;"⟩ method_3_code 4 (some (.object "java/lang/String")) [] { frames := 4, cells := 6, slots := 18, locals := 70 } #[.int x, .int y, .int z] h [] (fun v h' => ∃ v0, v = some v0 ∧ v0.isRef = true ∧ Ext h h') := by
  refine Met.of_walk (a0 := a0) (Ls := #[.val (.int x), .val (.int y), .val (.int z), .unset]) (plainFor_of_name pn_3) (own_hEL hw) rfl ?_
  refine Wl.iload_n 1 d1_0 rfl ?_
  refine Wl.iload_n 2 d1_1 rfl ?_
  refine Wl.iushr 3 d1_2 ?_
  refine Wl.iconst 4 (1 : Int32) d1_3 (by decide) ?_
  refine Wl.iand 5 d1_4 ?_
  by_cases c1 : (((x).toUInt32 >>> (y &&& 31).toUInt32).toInt32 &&& (1 : Int32)) = (0 : Int32)
  · refine Wl.ifY 10 d1_5 (teq c1).1 ?_
    refine Wl.iconst 11 (2 : Int32) d1_10 (by decide) ?_
    refine Wl.newarray 13 2 d1_11 (w4 hw) (by decide) (by decide) (by decide) (nle rfl) (nle rfl) ?_
    intro a2 h3 k4 q5 E6 A7
    have A7 : Arv Z h3 a2 k4 .char (2 : Int32) [.int 0, .int 0] (.int 0) := A7
    have z8 : h.size ≤ a2 := Nat.le_of_eq q5.symm
    have B9 : Ext h h3 := E6
    refine Wl.astore_n 14 #[.val (.int x), .val (.int y), .val (.int z), .val (.ref a2)] d1_13 rfl rfl ?_
    refine Wl.aload_n 15 d1_14 rfl rfl ?_
    refine Wl.iconst 16 (0 : Int32) d1_15 (by decide) ?_
    refine Wl.iload_n 17 d1_16 rfl ?_
    refine Wl.sipush 20 (255 : Int32) d1_17 (by decide) ?_
    refine Wl.iand 21 d1_20 ?_
    refine Wl.i2c 22 d1_21 ?_
    refine Wl.castore 23 0 d1_22 A7 (List.mem_of_getElem? (i := 0) rfl) (by decide) (by decide) (by decide) (nle rfl) ?_
    intro h10 W11 A12
    rw [nar_ch (i2c_ch _)] at A12
    have A12 : Arv Z h10 a2 k4 .char (2 : Int32) [.int (((z &&& (255 : Int32))).toUInt32.toUInt16.toUInt32.toInt32), .int (0 : Int32)] (.int 0) := A12
    have B13 : Ext h h10 := extWr B9 W11 z8
    refine Wl.aload_n 24 d1_23 rfl rfl ?_
    refine Wl.iconst 25 (1 : Int32) d1_24 (by decide) ?_
    refine Wl.iload_n 26 d1_25 rfl ?_
    refine Wl.bipush 28 (8 : Int32) d1_26 (by decide) ?_
    refine Wl.iushr 29 d1_28 ?_
    refine Wl.sipush 32 (255 : Int32) d1_29 (by decide) ?_
    refine Wl.iand 33 d1_32 ?_
    refine Wl.i2c 34 d1_33 ?_
    refine Wl.castore 35 1 d1_34 A12 (List.mem_of_getElem? (i := 0) rfl) (by decide) (by decide) (by decide) (nle rfl) ?_
    intro h14 W15 A16
    rw [nar_ch (i2c_ch _)] at A16
    have A16 : Arv Z h14 a2 k4 .char (2 : Int32) [.int (((z &&& (255 : Int32))).toUInt32.toUInt16.toUInt32.toInt32), .int (((((z).toUInt32 >>> ((8 : Int32) &&& 31).toUInt32).toInt32 &&& (255 : Int32))).toUInt32.toUInt16.toUInt32.toInt32)] (.int 0) := A16
    have B17 : Ext h h14 := extWr B13 W15 z8
    refine Wl.new 38 d1_35 (w5 hw) (w6 hw) (w7 hw) (nle rfl) (nle rfl) ?_
    intro a18 h19 q20 E21 X22 D23
    have z24 : h.size ≤ a18 := Nat.le_trans B17.1 (Nat.le_of_eq q20.symm)
    have z25 : h14.size ≤ a18 := Nat.le_of_eq q20.symm
    have ne26 : a2 ≠ a18 := Nat.ne_of_lt (by rw [q20]; exact (A16).lt)
    have B27 : Ext h h19 := extTr B17 E21
    have B28 : Ext h14 h19 := E21
    have F29 : Fld Z h19 a18 "java/lang/String" "coder" "B" (.int 0) := D23 (Or.inr (w31 hw)) (ty := .byte) (by decide)
    have F30 : Fld Z h19 a18 "java/lang/String" "value" "[B" (.null) := D23 (Or.inr (w33 hw)) (ty := (.array .byte)) (by decide)
    refine Wl.dup 39 d1_38 rfl ?_
    refine Wl.aload_n 40 d1_39 rfl rfl ?_
    refine Wl.special 43 (argsL := [.ref a2]) d1_40 (w8 hw) (w9 hw) (w7 hw) (w10 hw) (show parseMethodDescriptor "([C)V" = some ⟨[(.array .char)], none⟩ by decide +kernel) rfl (strC_met hw hcs (cs := [((z &&& (255 : Int32))).toUInt32.toUInt16.toUInt32.toInt32, ((((z).toUInt32 >>> ((8 : Int32) &&& 31).toUInt32).toInt32 &&& (255 : Int32))).toUInt32.toUInt16.toUInt32.toInt32]) 4 (nle rfl) (nle rfl) (fun q => nomatch q) (latC (i2c_mask_lat _) (latC (i2c_mask_lat _) latN)) X22 F30 F29 (A16.ext E21)) (allS (List.mem_of_getElem? (i := 0) rfl) (fun _ q => nomatch q)) rfl rfl rfl rfl (by decide) ⟨⟨nle rfl, nle rfl⟩, nle rfl, nle rfl⟩ ?_
    intro v31 h32 hq33 _
    obtain ⟨rfl, K34, S35⟩ := hq33
    have B36 : Ext h h32 := extKeep B27 K34 (allS z24 all0)
    have B37 : Ext h14 h32 := extKeep B28 K34 (allS z25 all0)
    show WlO _ _ _ _ _ _ _ _ _ _ _ _ _ _ _ _ _ _ [.ref a18]
    exact Wl.areturn d1_43 rfl rfl rfl (nle rfl) (nle rfl) ⟨.ref a18, rfl, rfl, B36⟩
  · refine Wl.ifN 8 d1_5 (feq c1).1 ?_
    refine Wl.aconst_null 9 d1_8 ?_
    exact Wl.areturn d1_9 rfl rfl rfl (nle rfl) (nle rfl) ⟨.null, rfl, rfl, ext_rfl h⟩
set_option maxRecDepth 65536 in
set_option maxHeartbeats 40000000 in
theorem orElse_met {l : Launch} {Z : State} {a0 : Array Value} (hw : ∀ d ∈ tables_1, d.before a0 Z = true) {h : Heap} {a b : Addr} {v0 v1 v2 u0 u1 u2 : Value} (r0 : v0.isRef = true) (s0 : u0.isRef = true) (F0 : Fld Z h a "com/example/tallyfold/tallyfold/io/Instance" "type" "Ljava/lang/String;" v0) (G0 : Fld Z h b "com/example/tallyfold/tallyfold/io/Instance" "type" "Ljava/lang/String;" u0) (r1 : v1.isRef = true) (s1 : u1.isRef = true) (F1 : Fld Z h a "com/example/tallyfold/tallyfold/io/Instance" "platform" "Ljava/lang/String;" v1) (G1 : Fld Z h b "com/example/tallyfold/tallyfold/io/Instance" "platform" "Ljava/lang/String;" u1) (r2 : v2.isRef = true) (s2 : u2.isRef = true) (F2 : Fld Z h a "com/example/tallyfold/tallyfold/io/Instance" "tenancy" "Ljava/lang/String;" v2) (G2 : Fld Z h b "com/example/tallyfold/tallyfold/io/Instance" "tenancy" "Ljava/lang/String;" u2) :
    Met l Z ([] : List (String × Nat)) ⟨"com/example/tallyfold/tallyfold/io/Instance", "orElse", "(Lcom/example/tallyfold/tallyfold/io/Instance;)Lcom/example/tallyfold/tallyfold/io/Instance;"⟩ prog_102_method_4_code 2 (some (.object "com/example/tallyfold/tallyfold/io/Instance")) [] { frames := 2, cells := 1, slots := 3, locals := 29 } #[.ref a, .ref b] h [] (fun v h' => ∃ x, v = some (.ref x) ∧ Ext h h' ∧ Exa Z h' x "com/example/tallyfold/tallyfold/io/Instance" ∧ Fld Z h' x "com/example/tallyfold/tallyfold/io/Instance" "type" "Ljava/lang/String;" (pickV v0 u0) ∧ Fld Z h' x "com/example/tallyfold/tallyfold/io/Instance" "platform" "Ljava/lang/String;" (pickV v1 u1) ∧ Fld Z h' x "com/example/tallyfold/tallyfold/io/Instance" "tenancy" "Ljava/lang/String;" (pickV v2 u2)) := by
  refine Met.of_walk (a0 := a0) (Ls := #[.val (.ref a), .val (.ref b)]) (plainFor_of_name pn_2) (own_hEL hw) rfl ?_
  refine Wl.new 3 d9_0 (w52 hw) (w35 hw) (w36 hw) (nle rfl) (nle rfl) ?_
  intro a1 h2 q3 E4 X5 D6
  have z7 : h.size ≤ a1 := Nat.le_of_eq q3.symm
  have B8 : Ext h h2 := E4
  have F9 : Fld Z h2 a1 "com/example/tallyfold/tallyfold/io/Instance" "type" "Ljava/lang/String;" (.null) := D6 (Or.inr (w42 hw)) (ty := (.object "java/lang/String")) (by decide)
  have F10 : Fld Z h2 a1 "com/example/tallyfold/tallyfold/io/Instance" "platform" "Ljava/lang/String;" (.null) := D6 (Or.inr (w44 hw)) (ty := (.object "java/lang/String")) (by decide)
  have F11 : Fld Z h2 a1 "com/example/tallyfold/tallyfold/io/Instance" "tenancy" "Ljava/lang/String;" (.null) := D6 (Or.inr (w46 hw)) (ty := (.object "java/lang/String")) (by decide)
  refine Wl.dup 4 d9_3 rfl ?_
  refine Wl.aload_n 5 d9_4 rfl rfl ?_
  refine Wl.getfield 8 d9_5 (w41 hw) (F0.ext E4) ?_
  rcases ref_cases r0 with rfl | ⟨x12, rfl⟩
  · refine Wl.ifnonnullN 11 d9_8 ?_
    refine Wl.aload_n 12 d9_11 rfl rfl ?_
    refine Wl.getfield 15 d9_12 (w41 hw) (G0.ext E4) ?_
    refine Wl.goto 22 d9_15 ?_
    refine Wl.aload_n 23 d9_22 rfl rfl ?_
    refine Wl.getfield 26 d9_23 (w43 hw) (F1.ext E4) ?_
    rcases ref_cases r1 with rfl | ⟨x13, rfl⟩
    · refine Wl.ifnonnullN 29 d9_26 ?_
      refine Wl.aload_n 30 d9_29 rfl rfl ?_
      refine Wl.getfield 33 d9_30 (w43 hw) (G1.ext E4) ?_
      refine Wl.goto 40 d9_33 ?_
      refine Wl.aload_n 41 d9_40 rfl rfl ?_
      refine Wl.getfield 44 d9_41 (w45 hw) (F2.ext E4) ?_
      rcases ref_cases r2 with rfl | ⟨x14, rfl⟩
      · refine Wl.ifnonnullN 47 d9_44 ?_
        refine Wl.aload_n 48 d9_47 rfl rfl ?_
        refine Wl.getfield 51 d9_48 (w45 hw) (G2.ext E4) ?_
        refine Wl.goto 58 d9_51 ?_
        refine Wl.special 61 (argsL := [u0, u1, u2]) d9_58 (w53 hw) (w38 hw) (w36 hw) (w39 hw) (show parseMethodDescriptor "(Ljava/lang/String;Ljava/lang/String;Ljava/lang/String;)V" = some ⟨[(.object "java/lang/String"), (.object "java/lang/String"), (.object "java/lang/String")], none⟩ by decide +kernel) rfl (inst_met hw s0 s1 s2 X5 F9 F10 F11) (allS (List.mem_of_getElem? (i := 0) rfl) (fun _ q => nomatch q)) rfl rfl rfl rfl (by decide) ⟨⟨nle rfl, nle rfl⟩, nle rfl, nle rfl⟩ ?_
        intro v15 h16 hq17 _
        obtain ⟨rfl, K18, X19, F20, F21, F22⟩ := hq17
        have B23 : Ext h h16 := extKeep B8 K18 (allS z7 all0)
        show WlO _ _ _ _ _ _ _ _ _ _ _ _ _ _ _ _ _ _ [.ref a1]
        exact Wl.areturn d9_61 rfl rfl rfl (nle rfl) (nle rfl) ⟨a1, rfl, B23, X19, F20, F21, F22⟩
      · refine Wl.ifnonnullY 54 d9_44 ?_
        refine Wl.aload_n 55 d9_54 rfl rfl ?_
        refine Wl.getfield 58 d9_55 (w45 hw) (F2.ext E4) ?_
        refine Wl.special 61 (argsL := [u0, u1, .ref x14]) d9_58 (w53 hw) (w38 hw) (w36 hw) (w39 hw) (show parseMethodDescriptor "(Ljava/lang/String;Ljava/lang/String;Ljava/lang/String;)V" = some ⟨[(.object "java/lang/String"), (.object "java/lang/String"), (.object "java/lang/String")], none⟩ by decide +kernel) rfl (inst_met hw s0 s1 rfl X5 F9 F10 F11) (allS (List.mem_of_getElem? (i := 0) rfl) (fun _ q => nomatch q)) rfl rfl rfl rfl (by decide) ⟨⟨nle rfl, nle rfl⟩, nle rfl, nle rfl⟩ ?_
        intro v24 h25 hq26 _
        obtain ⟨rfl, K27, X28, F29, F30, F31⟩ := hq26
        have B32 : Ext h h25 := extKeep B8 K27 (allS z7 all0)
        show WlO _ _ _ _ _ _ _ _ _ _ _ _ _ _ _ _ _ _ [.ref a1]
        exact Wl.areturn d9_61 rfl rfl rfl (nle rfl) (nle rfl) ⟨a1, rfl, B32, X28, F29, F30, F31⟩
    · refine Wl.ifnonnullY 36 d9_26 ?_
      refine Wl.aload_n 37 d9_36 rfl rfl ?_
      refine Wl.getfield 40 d9_37 (w43 hw) (F1.ext E4) ?_
      refine Wl.aload_n 41 d9_40 rfl rfl ?_
      refine Wl.getfield 44 d9_41 (w45 hw) (F2.ext E4) ?_
      rcases ref_cases r2 with rfl | ⟨x33, rfl⟩
      · refine Wl.ifnonnullN 47 d9_44 ?_
        refine Wl.aload_n 48 d9_47 rfl rfl ?_
        refine Wl.getfield 51 d9_48 (w45 hw) (G2.ext E4) ?_
        refine Wl.goto 58 d9_51 ?_
        refine Wl.special 61 (argsL := [u0, .ref x13, u2]) d9_58 (w53 hw) (w38 hw) (w36 hw) (w39 hw) (show parseMethodDescriptor "(Ljava/lang/String;Ljava/lang/String;Ljava/lang/String;)V" = some ⟨[(.object "java/lang/String"), (.object "java/lang/String"), (.object "java/lang/String")], none⟩ by decide +kernel) rfl (inst_met hw s0 rfl s2 X5 F9 F10 F11) (allS (List.mem_of_getElem? (i := 0) rfl) (fun _ q => nomatch q)) rfl rfl rfl rfl (by decide) ⟨⟨nle rfl, nle rfl⟩, nle rfl, nle rfl⟩ ?_
        intro v34 h35 hq36 _
        obtain ⟨rfl, K37, X38, F39, F40, F41⟩ := hq36
        have B42 : Ext h h35 := extKeep B8 K37 (allS z7 all0)
        show WlO _ _ _ _ _ _ _ _ _ _ _ _ _ _ _ _ _ _ [.ref a1]
        exact Wl.areturn d9_61 rfl rfl rfl (nle rfl) (nle rfl) ⟨a1, rfl, B42, X38, F39, F40, F41⟩
      · refine Wl.ifnonnullY 54 d9_44 ?_
        refine Wl.aload_n 55 d9_54 rfl rfl ?_
        refine Wl.getfield 58 d9_55 (w45 hw) (F2.ext E4) ?_
        refine Wl.special 61 (argsL := [u0, .ref x13, .ref x33]) d9_58 (w53 hw) (w38 hw) (w36 hw) (w39 hw) (show parseMethodDescriptor "(Ljava/lang/String;Ljava/lang/String;Ljava/lang/String;)V" = some ⟨[(.object "java/lang/String"), (.object "java/lang/String"), (.object "java/lang/String")], none⟩ by decide +kernel) rfl (inst_met hw s0 rfl rfl X5 F9 F10 F11) (allS (List.mem_of_getElem? (i := 0) rfl) (fun _ q => nomatch q)) rfl rfl rfl rfl (by decide) ⟨⟨nle rfl, nle rfl⟩, nle rfl, nle rfl⟩ ?_
        intro v43 h44 hq45 _
        obtain ⟨rfl, K46, X47, F48, F49, F50⟩ := hq45
        have B51 : Ext h h44 := extKeep B8 K46 (allS z7 all0)
        show WlO _ _ _ _ _ _ _ _ _ _ _ _ _ _ _ _ _ _ [.ref a1]
        exact Wl.areturn d9_61 rfl rfl rfl (nle rfl) (nle rfl) ⟨a1, rfl, B51, X47, F48, F49, F50⟩
  · refine Wl.ifnonnullY 18 d9_8 ?_
    refine Wl.aload_n 19 d9_18 rfl rfl ?_
    refine Wl.getfield 22 d9_19 (w41 hw) (F0.ext E4) ?_
    refine Wl.aload_n 23 d9_22 rfl rfl ?_
    refine Wl.getfield 26 d9_23 (w43 hw) (F1.ext E4) ?_
    rcases ref_cases r1 with rfl | ⟨x52, rfl⟩
    · refine Wl.ifnonnullN 29 d9_26 ?_
      refine Wl.aload_n 30 d9_29 rfl rfl ?_
      refine Wl.getfield 33 d9_30 (w43 hw) (G1.ext E4) ?_
      refine Wl.goto 40 d9_33 ?_
      refine Wl.aload_n 41 d9_40 rfl rfl ?_
      refine Wl.getfield 44 d9_41 (w45 hw) (F2.ext E4) ?_
      rcases ref_cases r2 with rfl | ⟨x53, rfl⟩
      · refine Wl.ifnonnullN 47 d9_44 ?_
        refine Wl.aload_n 48 d9_47 rfl rfl ?_
        refine Wl.getfield 51 d9_48 (w45 hw) (G2.ext E4) ?_
        refine Wl.goto 58 d9_51 ?_
        refine Wl.special 61 (argsL := [.ref x12, u1, u2]) d9_58 (w53 hw) (w38 hw) (w36 hw) (w39 hw) (show parseMethodDescriptor "(Ljava/lang/String;Ljava/lang/String;Ljava/lang/String;)V" = some ⟨[(.object "java/lang/String"), (.object "java/lang/String"), (.object "java/lang/String")], none⟩ by decide +kernel) rfl (inst_met hw rfl s1 s2 X5 F9 F10 F11) (allS (List.mem_of_getElem? (i := 0) rfl) (fun _ q => nomatch q)) rfl rfl rfl rfl (by decide) ⟨⟨nle rfl, nle rfl⟩, nle rfl, nle rfl⟩ ?_
        intro v54 h55 hq56 _
        obtain ⟨rfl, K57, X58, F59, F60, F61⟩ := hq56
        have B62 : Ext h h55 := extKeep B8 K57 (allS z7 all0)
        show WlO _ _ _ _ _ _ _ _ _ _ _ _ _ _ _ _ _ _ [.ref a1]
        exact Wl.areturn d9_61 rfl rfl rfl (nle rfl) (nle rfl) ⟨a1, rfl, B62, X58, F59, F60, F61⟩
      · refine Wl.ifnonnullY 54 d9_44 ?_
        refine Wl.aload_n 55 d9_54 rfl rfl ?_
        refine Wl.getfield 58 d9_55 (w45 hw) (F2.ext E4) ?_
        refine Wl.special 61 (argsL := [.ref x12, u1, .ref x53]) d9_58 (w53 hw) (w38 hw) (w36 hw) (w39 hw) (show parseMethodDescriptor "(Ljava/lang/String;Ljava/lang/String;Ljava/lang/String;)V" = some ⟨[(.object "java/lang/String"), (.object "java/lang/String"), (.object "java/lang/String")], none⟩ by decide +kernel) rfl (inst_met hw rfl s1 rfl X5 F9 F10 F11) (allS (List.mem_of_getElem? (i := 0) rfl) (fun _ q => nomatch q)) rfl rfl rfl rfl (by decide) ⟨⟨nle rfl, nle rfl⟩, nle rfl, nle rfl⟩ ?_
        intro v63 h64 hq65 _
        obtain ⟨rfl, K66, X67, F68, F69, F70⟩ := hq65
        have B71 : Ext h h64 := extKeep B8 K66 (allS z7 all0)
        show WlO _ _ _ _ _ _ _ _ _ _ _ _ _ _ _ _ _ _ [.ref a1]
        exact Wl.areturn d9_61 rfl rfl rfl (nle rfl) (nle rfl) ⟨a1, rfl, B71, X67, F68, F69, F70⟩
    · refine Wl.ifnonnullY 36 d9_26 ?_
      refine Wl.aload_n 37 d9_36 rfl rfl ?_
      refine Wl.getfield 40 d9_37 (w43 hw) (F1.ext E4) ?_
      refine Wl.aload_n 41 d9_40 rfl rfl ?_
      refine Wl.getfield 44 d9_41 (w45 hw) (F2.ext E4) ?_
      rcases ref_cases r2 with rfl | ⟨x72, rfl⟩
      · refine Wl.ifnonnullN 47 d9_44 ?_
        refine Wl.aload_n 48 d9_47 rfl rfl ?_
        refine Wl.getfield 51 d9_48 (w45 hw) (G2.ext E4) ?_
        refine Wl.goto 58 d9_51 ?_
        refine Wl.special 61 (argsL := [.ref x12, .ref x52, u2]) d9_58 (w53 hw) (w38 hw) (w36 hw) (w39 hw) (show parseMethodDescriptor "(Ljava/lang/String;Ljava/lang/String;Ljava/lang/String;)V" = some ⟨[(.object "java/lang/String"), (.object "java/lang/String"), (.object "java/lang/String")], none⟩ by decide +kernel) rfl (inst_met hw rfl rfl s2 X5 F9 F10 F11) (allS (List.mem_of_getElem? (i := 0) rfl) (fun _ q => nomatch q)) rfl rfl rfl rfl (by decide) ⟨⟨nle rfl, nle rfl⟩, nle rfl, nle rfl⟩ ?_
        intro v73 h74 hq75 _
        obtain ⟨rfl, K76, X77, F78, F79, F80⟩ := hq75
        have B81 : Ext h h74 := extKeep B8 K76 (allS z7 all0)
        show WlO _ _ _ _ _ _ _ _ _ _ _ _ _ _ _ _ _ _ [.ref a1]
        exact Wl.areturn d9_61 rfl rfl rfl (nle rfl) (nle rfl) ⟨a1, rfl, B81, X77, F78, F79, F80⟩
      · refine Wl.ifnonnullY 54 d9_44 ?_
        refine Wl.aload_n 55 d9_54 rfl rfl ?_
        refine Wl.getfield 58 d9_55 (w45 hw) (F2.ext E4) ?_
        refine Wl.special 61 (argsL := [.ref x12, .ref x52, .ref x72]) d9_58 (w53 hw) (w38 hw) (w36 hw) (w39 hw) (show parseMethodDescriptor "(Ljava/lang/String;Ljava/lang/String;Ljava/lang/String;)V" = some ⟨[(.object "java/lang/String"), (.object "java/lang/String"), (.object "java/lang/String")], none⟩ by decide +kernel) rfl (inst_met hw rfl rfl rfl X5 F9 F10 F11) (allS (List.mem_of_getElem? (i := 0) rfl) (fun _ q => nomatch q)) rfl rfl rfl rfl (by decide) ⟨⟨nle rfl, nle rfl⟩, nle rfl, nle rfl⟩ ?_
        intro v82 h83 hq84 _
        obtain ⟨rfl, K85, X86, F87, F88, F89⟩ := hq84
        have B90 : Ext h h83 := extKeep B8 K85 (allS z7 all0)
        show WlO _ _ _ _ _ _ _ _ _ _ _ _ _ _ _ _ _ _ [.ref a1]
        exact Wl.areturn d9_61 rfl rfl rfl (nle rfl) (nle rfl) ⟨a1, rfl, B90, X86, F87, F88, F89⟩
set_option maxRecDepth 65536 in
set_option maxHeartbeats 40000000 in
theorem law_met {l : Launch} {Z : State} {a0 : Array Value} (hw : ∀ d ∈ tables_1, d.before a0 Z = true) (hcs : CSon Z) (i0 i1 i2 i3 : Int32) :
    Met l Z ([] : List (String × Nat)) x code maxLocals ret tables_1 room_1 #[.int i0, .int i1, .int i2, .int i3] Z.heap [] (fun v h' => v = some (.int 1)) := by
  generalize hh0 : Z.heap = h
  refine Met.of_walk (a0 := a0) (Ls := #[.val (.int i0), .val (.int i1), .val (.int i2), .val (.int i3), .unset, .unset, .unset, .unset, .unset, .unset, .unset, .unset, .unset, .unset, .unset, .unset, .unset]) (plainFor_of_name pn_3) (own_hEL hw) rfl ?_
  refine Wl.iload_n 1 at_0 rfl ?_
  refine Wl.iconst 2 (0 : Int32) at_1 (by decide) ?_
  refine Wl.iload_n 3 at_2 rfl ?_
  refine Wl.static 6 (argsL := [.int i0, .int (0 : Int32), .int i1]) at_3 (w0 hw) (w1 hw) (w2 hw) (w3 hw) (show parseMethodDescriptor "(III)Ljava/lang/String;" = some ⟨[.int, .int, .int], some (.object "java/lang/String")⟩ by decide +kernel) rfl (drawn_met hw hcs) (fun _ q => nomatch q) rfl rfl rfl (by decide) ⟨⟨nle rfl, nle rfl⟩, nle rfl, nle rfl⟩ ?_
  intro v1 h2 hq3 _
  obtain ⟨u4, rfl, r6, E5⟩ := hq3
  have B7 : Ext h h2 := E5
  show WlO _ _ _ _ _ _ _ _ _ _ _ _ _ _ _ _ _ _ [u4]
  refine Wl.astore 8 #[.val (.int i0), .val (.int i1), .val (.int i2), .val (.int i3), .val (u4), .unset, .unset, .unset, .unset, .unset, .unset, .unset, .unset, .unset, .unset, .unset, .unset] at_6 r6 (XS.store1 (o := .unset) rfl (Or.inl rfl) (ref_cat r6)) ?_
  refine Wl.iload_n 9 at_8 rfl ?_
  refine Wl.iconst 10 (1 : Int32) at_9 (by decide) ?_
  refine Wl.iload_n 11 at_10 rfl ?_
  refine Wl.bipush 13 (16 : Int32) at_11 (by decide) ?_
  refine Wl.iushr 14 at_13 ?_
  refine Wl.static 17 (argsL := [.int i0, .int (1 : Int32), .int (((i1).toUInt32 >>> ((16 : Int32) &&& 31).toUInt32).toInt32)]) at_14 (w0 hw) (w1 hw) (w2 hw) (w3 hw) (show parseMethodDescriptor "(III)Ljava/lang/String;" = some ⟨[.int, .int, .int], some (.object "java/lang/String")⟩ by decide +kernel) rfl (drawn_met hw hcs) (fun _ q => nomatch q) rfl rfl rfl (by decide) ⟨⟨nle rfl, nle rfl⟩, nle rfl, nle rfl⟩ ?_
  intro v8 h9 hq10 _
  obtain ⟨u11, rfl, r13, E12⟩ := hq10
  have B14 : Ext h h9 := extTr B7 E12
  show WlO _ _ _ _ _ _ _ _ _ _ _ _ _ _ _ _ _ _ [u11]
  refine Wl.astore 19 #[.val (.int i0), .val (.int i1), .val (.int i2), .val (.int i3), .val (u4), .val (u11), .unset, .unset, .unset, .unset, .unset, .unset, .unset, .unset, .unset, .unset, .unset] at_17 r13 (XS.store1 (o := .unset) rfl (Or.inl rfl) (ref_cat r13)) ?_
  refine Wl.iload_n 20 at_19 rfl ?_
  refine Wl.iconst 21 (2 : Int32) at_20 (by decide) ?_
  refine Wl.iload_n 22 at_21 rfl ?_
  refine Wl.static 25 (argsL := [.int i0, .int (2 : Int32), .int i2]) at_22 (w0 hw) (w1 hw) (w2 hw) (w3 hw) (show parseMethodDescriptor "(III)Ljava/lang/String;" = some ⟨[.int, .int, .int], some (.object "java/lang/String")⟩ by decide +kernel) rfl (drawn_met hw hcs) (fun _ q => nomatch q) rfl rfl rfl (by decide) ⟨⟨nle rfl, nle rfl⟩, nle rfl, nle rfl⟩ ?_
  intro v15 h16 hq17 _
  obtain ⟨u18, rfl, r20, E19⟩ := hq17
  have B21 : Ext h h16 := extTr B14 E19
  show WlO _ _ _ _ _ _ _ _ _ _ _ _ _ _ _ _ _ _ [u18]
  refine Wl.astore 27 #[.val (.int i0), .val (.int i1), .val (.int i2), .val (.int i3), .val (u4), .val (u11), .val (u18), .unset, .unset, .unset, .unset, .unset, .unset, .unset, .unset, .unset, .unset] at_25 r20 (XS.store1 (o := .unset) rfl (Or.inl rfl) (ref_cat r20)) ?_
  refine Wl.iload_n 28 at_27 rfl ?_
  refine Wl.iconst 29 (3 : Int32) at_28 (by decide) ?_
  refine Wl.iload_n 30 at_29 rfl ?_
  refine Wl.bipush 32 (16 : Int32) at_30 (by decide) ?_
  refine Wl.iushr 33 at_32 ?_
  refine Wl.static 36 (argsL := [.int i0, .int (3 : Int32), .int (((i2).toUInt32 >>> ((16 : Int32) &&& 31).toUInt32).toInt32)]) at_33 (w0 hw) (w1 hw) (w2 hw) (w3 hw) (show parseMethodDescriptor "(III)Ljava/lang/String;" = some ⟨[.int, .int, .int], some (.object "java/lang/String")⟩ by decide +kernel) rfl (drawn_met hw hcs) (fun _ q => nomatch q) rfl rfl rfl (by decide) ⟨⟨nle rfl, nle rfl⟩, nle rfl, nle rfl⟩ ?_
  intro v22 h23 hq24 _
  obtain ⟨u25, rfl, r27, E26⟩ := hq24
  have B28 : Ext h h23 := extTr B21 E26
  show WlO _ _ _ _ _ _ _ _ _ _ _ _ _ _ _ _ _ _ [u25]
  refine Wl.astore 38 #[.val (.int i0), .val (.int i1), .val (.int i2), .val (.int i3), .val (u4), .val (u11), .val (u18), .val (u25), .unset, .unset, .unset, .unset, .unset, .unset, .unset, .unset, .unset] at_36 r27 (XS.store1 (o := .unset) rfl (Or.inl rfl) (ref_cat r27)) ?_
  refine Wl.iload_n 39 at_38 rfl ?_
  refine Wl.iconst 40 (4 : Int32) at_39 (by decide) ?_
  refine Wl.iload_n 41 at_40 rfl ?_
  refine Wl.static 44 (argsL := [.int i0, .int (4 : Int32), .int i3]) at_41 (w0 hw) (w1 hw) (w2 hw) (w3 hw) (show parseMethodDescriptor "(III)Ljava/lang/String;" = some ⟨[.int, .int, .int], some (.object "java/lang/String")⟩ by decide +kernel) rfl (drawn_met hw hcs) (fun _ q => nomatch q) rfl rfl rfl (by decide) ⟨⟨nle rfl, nle rfl⟩, nle rfl, nle rfl⟩ ?_
  intro v29 h30 hq31 _
  obtain ⟨u32, rfl, r34, E33⟩ := hq31
  have B35 : Ext h h30 := extTr B28 E33
  show WlO _ _ _ _ _ _ _ _ _ _ _ _ _ _ _ _ _ _ [u32]
  refine Wl.astore 46 #[.val (.int i0), .val (.int i1), .val (.int i2), .val (.int i3), .val (u4), .val (u11), .val (u18), .val (u25), .val (u32), .unset, .unset, .unset, .unset, .unset, .unset, .unset, .unset] at_44 r34 (XS.store1 (o := .unset) rfl (Or.inl rfl) (ref_cat r34)) ?_
  refine Wl.iload_n 47 at_46 rfl ?_
  refine Wl.iconst 48 (5 : Int32) at_47 (by decide) ?_
  refine Wl.iload_n 49 at_48 rfl ?_
  refine Wl.bipush 51 (16 : Int32) at_49 (by decide) ?_
  refine Wl.iushr 52 at_51 ?_
  refine Wl.static 55 (argsL := [.int i0, .int (5 : Int32), .int (((i3).toUInt32 >>> ((16 : Int32) &&& 31).toUInt32).toInt32)]) at_52 (w0 hw) (w1 hw) (w2 hw) (w3 hw) (show parseMethodDescriptor "(III)Ljava/lang/String;" = some ⟨[.int, .int, .int], some (.object "java/lang/String")⟩ by decide +kernel) rfl (drawn_met hw hcs) (fun _ q => nomatch q) rfl rfl rfl (by decide) ⟨⟨nle rfl, nle rfl⟩, nle rfl, nle rfl⟩ ?_
  intro v36 h37 hq38 _
  obtain ⟨u39, rfl, r41, E40⟩ := hq38
  have B42 : Ext h h37 := extTr B35 E40
  show WlO _ _ _ _ _ _ _ _ _ _ _ _ _ _ _ _ _ _ [u39]
  refine Wl.astore 57 #[.val (.int i0), .val (.int i1), .val (.int i2), .val (.int i3), .val (u4), .val (u11), .val (u18), .val (u25), .val (u32), .val (u39), .unset, .unset, .unset, .unset, .unset, .unset, .unset] at_55 r41 (XS.store1 (o := .unset) rfl (Or.inl rfl) (ref_cat r41)) ?_
  refine Wl.new 60 at_57 (w34 hw) (w35 hw) (w36 hw) (nle rfl) (nle rfl) ?_
  intro a43 h44 q45 E46 X47 D48
  have z49 : h.size ≤ a43 := Nat.le_trans B42.1 (Nat.le_of_eq q45.symm)
  have z50 : h37.size ≤ a43 := Nat.le_of_eq q45.symm
  have B51 : Ext h h44 := extTr B42 E46
  have B52 : Ext h37 h44 := E46
  have F53 : Fld Z h44 a43 "com/example/tallyfold/tallyfold/io/Instance" "type" "Ljava/lang/String;" (.null) := D48 (Or.inr (w42 hw)) (ty := (.object "java/lang/String")) (by decide)
  have F54 : Fld Z h44 a43 "com/example/tallyfold/tallyfold/io/Instance" "platform" "Ljava/lang/String;" (.null) := D48 (Or.inr (w44 hw)) (ty := (.object "java/lang/String")) (by decide)
  have F55 : Fld Z h44 a43 "com/example/tallyfold/tallyfold/io/Instance" "tenancy" "Ljava/lang/String;" (.null) := D48 (Or.inr (w46 hw)) (ty := (.object "java/lang/String")) (by decide)
  refine Wl.dup 61 at_60 rfl ?_
  refine Wl.aload 63 at_61 rfl r6 ?_
  refine Wl.aload 65 at_63 rfl r20 ?_
  refine Wl.aload 67 at_65 rfl r34 ?_
  refine Wl.special 70 (argsL := [u4, u18, u32]) at_67 (w37 hw) (w38 hw) (w36 hw) (w39 hw) (show parseMethodDescriptor "(Ljava/lang/String;Ljava/lang/String;Ljava/lang/String;)V" = some ⟨[(.object "java/lang/String"), (.object "java/lang/String"), (.object "java/lang/String")], none⟩ by decide +kernel) rfl (inst_met hw r6 r20 r34 X47 F53 F54 F55) (allS (List.mem_of_getElem? (i := 0) rfl) (fun _ q => nomatch q)) rfl rfl rfl rfl (by decide) ⟨⟨nle rfl, nle rfl⟩, nle rfl, nle rfl⟩ ?_
  intro v56 h57 hq58 _
  obtain ⟨rfl, K59, X60, F61, F62, F63⟩ := hq58
  have B64 : Ext h h57 := extKeep B51 K59 (allS z49 all0)
  have B65 : Ext h37 h57 := extKeep B52 K59 (allS z50 all0)
  show WlO _ _ _ _ _ _ _ _ _ _ _ _ _ _ _ _ _ _ [.ref a43]
  refine Wl.astore 72 #[.val (.int i0), .val (.int i1), .val (.int i2), .val (.int i3), .val (u4), .val (u11), .val (u18), .val (u25), .val (u32), .val (u39), .val (.ref a43), .unset, .unset, .unset, .unset, .unset, .unset] at_70 rfl rfl ?_
  refine Wl.new 75 at_72 (w34 hw) (w35 hw) (w36 hw) (nle rfl) (nle rfl) ?_
  intro a66 h67 q68 E69 X70 D71
  have z72 : h.size ≤ a66 := Nat.le_trans B64.1 (Nat.le_of_eq q68.symm)
  have z73 : h37.size ≤ a66 := Nat.le_trans B65.1 (Nat.le_of_eq q68.symm)
  have z74 : h57.size ≤ a66 := Nat.le_of_eq q68.symm
  have ne75 : a43 ≠ a66 := Nat.ne_of_lt (by rw [q68]; exact (X60).lt)
  have B76 : Ext h h67 := extTr B64 E69
  have B77 : Ext h37 h67 := extTr B65 E69
  have B78 : Ext h57 h67 := E69
  have F79 : Fld Z h67 a66 "com/example/tallyfold/tallyfold/io/Instance" "type" "Ljava/lang/String;" (.null) := D71 (Or.inr (w42 hw)) (ty := (.object "java/lang/String")) (by decide)
  have F80 : Fld Z h67 a66 "com/example/tallyfold/tallyfold/io/Instance" "platform" "Ljava/lang/String;" (.null) := D71 (Or.inr (w44 hw)) (ty := (.object "java/lang/String")) (by decide)
  have F81 : Fld Z h67 a66 "com/example/tallyfold/tallyfold/io/Instance" "tenancy" "Ljava/lang/String;" (.null) := D71 (Or.inr (w46 hw)) (ty := (.object "java/lang/String")) (by decide)
  refine Wl.dup 76 at_75 rfl ?_
  refine Wl.aload 78 at_76 rfl r13 ?_
  refine Wl.aload 80 at_78 rfl r27 ?_
  refine Wl.aload 82 at_80 rfl r41 ?_
  refine Wl.special 85 (argsL := [u11, u25, u39]) at_82 (w37 hw) (w38 hw) (w36 hw) (w39 hw) (show parseMethodDescriptor "(Ljava/lang/String;Ljava/lang/String;Ljava/lang/String;)V" = some ⟨[(.object "java/lang/String"), (.object "java/lang/String"), (.object "java/lang/String")], none⟩ by decide +kernel) rfl (inst_met hw r13 r27 r41 X70 F79 F80 F81) (allS (List.mem_of_getElem? (i := 0) rfl) (fun _ q => nomatch q)) rfl rfl rfl rfl (by decide) ⟨⟨nle rfl, nle rfl⟩, nle rfl, nle rfl⟩ ?_
  intro v82 h83 hq84 _
  obtain ⟨rfl, K85, X86, F87, F88, F89⟩ := hq84
  have B90 : Ext h h83 := extKeep B76 K85 (allS z72 all0)
  have B91 : Ext h37 h83 := extKeep B77 K85 (allS z73 all0)
  have B92 : Ext h57 h83 := extKeep B78 K85 (allS z74 all0)
  show WlO _ _ _ _ _ _ _ _ _ _ _ _ _ _ _ _ _ _ [.ref a66]
  refine Wl.astore 87 #[.val (.int i0), .val (.int i1), .val (.int i2), .val (.int i3), .val (u4), .val (u11), .val (u18), .val (u25), .val (u32), .val (u39), .val (.ref a43), .val (.ref a66), .unset, .unset, .unset, .unset, .unset] at_85 rfl rfl ?_
  refine Wl.aload 89 at_87 rfl rfl ?_
  refine Wl.aload 91 at_89 rfl rfl ?_
  refine Wl.virtual 94 (argsL := [.ref a66]) at_91 (w47 hw) (w48 hw) (w50 hw) (w49 hw) (w36 hw) (w51 hw) (nf_sel (w50 hw) rfl) (X60.ext B92) (show parseMethodDescriptor "(Lcom/example/tallyfold/tallyfold/io/Instance;)Lcom/example/tallyfold/tallyfold/io/Instance;" = some ⟨[(.object "com/example/tallyfold/tallyfold/io/Instance")], some (.object "com/example/tallyfold/tallyfold/io/Instance")⟩ by decide +kernel) rfl (orElse_met hw r6 r13 (F61.ext B92) F87 r20 r27 (F62.ext B92) F88 r34 r41 (F63.ext B92) F89) (fun _ q => nomatch q) rfl rfl rfl (by decide) ⟨⟨nle rfl, nle rfl⟩, nle rfl, nle rfl⟩ ?_
  intro v93 h94 hq95 _
  obtain ⟨a96, rfl, E97, X98, F99, F100, F101⟩ := hq95
  have B102 : Ext h h94 := extTr B90 E97
  have B103 : Ext h37 h94 := extTr B91 E97
  have B104 : Ext h57 h94 := extTr B92 E97
  show WlO _ _ _ _ _ _ _ _ _ _ _ _ _ _ _ _ _ _ [.ref a96]
  refine Wl.astore 96 #[.val (.int i0), .val (.int i1), .val (.int i2), .val (.int i3), .val (u4), .val (u11), .val (u18), .val (u25), .val (u32), .val (u39), .val (.ref a43), .val (.ref a66), .val (.ref a96), .unset, .unset, .unset, .unset] at_94 rfl rfl ?_
  refine Wl.aload 98 at_96 rfl rfl ?_
  refine Wl.ifnonnullY 103 at_98 ?_
  refine Wl.aload 105 at_103 rfl r6 ?_
  rcases ref_cases r6 with rfl | ⟨x105, rfl⟩
  · refine Wl.ifnullY 113 at_105 ?_
    refine Wl.aload 115 at_113 rfl r13 ?_
    refine Wl.astore 117 #[.val (.int i0), .val (.int i1), .val (.int i2), .val (.int i3), .val (.null), .val (u11), .val (u18), .val (u25), .val (u32), .val (u39), .val (.ref a43), .val (.ref a66), .val (.ref a96), .val (u11), .unset, .unset, .unset] at_115 r13 (XS.store1 (o := .unset) rfl (Or.inl rfl) (ref_cat r13)) ?_
    refine Wl.aload 119 at_117 rfl r20 ?_
    rcases ref_cases r20 with rfl | ⟨x106, rfl⟩
    · refine Wl.ifnullY 127 at_119 ?_
      refine Wl.aload 129 at_127 rfl r27 ?_
      refine Wl.astore 131 #[.val (.int i0), .val (.int i1), .val (.int i2), .val (.int i3), .val (.null), .val (u11), .val (.null), .val (u25), .val (u32), .val (u39), .val (.ref a43), .val (.ref a66), .val (.ref a96), .val (u11), .val (u25), .unset, .unset] at_129 r27 (XS.store1 (o := .unset) rfl (Or.inl rfl) (ref_cat r27)) ?_
      refine Wl.aload 133 at_131 rfl r34 ?_
      rcases ref_cases r34 with rfl | ⟨x107, rfl⟩
      · refine Wl.ifnullY 141 at_133 ?_
        refine Wl.aload 143 at_141 rfl r41 ?_
        refine Wl.astore 145 #[.val (.int i0), .val (.int i1), .val (.int i2), .val (.int i3), .val (.null), .val (u11), .val (.null), .val (u25), .val (.null), .val (u39), .val (.ref a43), .val (.ref a66), .val (.ref a96), .val (u11), .val (u25), .val (u39), .unset] at_143 r41 (XS.store1 (o := .unset) rfl (Or.inl rfl) (ref_cat r41)) ?_
        refine Wl.aload 147 at_145 rfl r13 ?_
        rcases ref_cases r13 with rfl | ⟨x108, rfl⟩
        · refine Wl.ifnullY 164 at_147 ?_
          refine Wl.iconst 165 (0 : Int32) at_164 (by decide) ?_
          refine Wl.istore 167 #[.val (.int i0), .val (.int i1), .val (.int i2), .val (.int i3), .val (.null), .val (.null), .val (.null), .val (u25), .val (.null), .val (u39), .val (.ref a43), .val (.ref a66), .val (.ref a96), .val (.null), .val (u25), .val (u39), .val (.int (0 : Int32))] at_165 rfl ?_
          refine Wl.aload 169 at_167 rfl rfl ?_
          refine Wl.virtual 172 (argsL := []) at_169 (w54 hw) (w55 hw) (w57 hw) (w56 hw) (w36 hw) (w58 hw) (nf_sel (w57 hw) rfl) X98 (show parseMethodDescriptor "()Ljava/lang/String;" = some ⟨[], some (.object "java/lang/String")⟩ by decide +kernel) rfl (getType_met hw (v0 := .null) rfl F99) (fun _ q => nomatch q) rfl rfl rfl (by decide) ⟨⟨nle rfl, nle rfl⟩, nle rfl, nle rfl⟩ ?_
          intro v109 h110 hq111 _
          obtain ⟨rfl, rfl⟩ := hq111
          show WlO _ _ _ _ _ _ _ _ _ _ _ _ _ _ _ _ _ _ [.null]
          refine Wl.aload 174 at_172 rfl rfl ?_
          refine Wl.acmp 177 true at_174 rfl rfl (decide_eq_true rfl) ?_
          refine Wl.aload 179 at_177 rfl rfl ?_
          refine Wl.virtual 182 (argsL := []) at_179 (w59 hw) (w60 hw) (w62 hw) (w61 hw) (w36 hw) (w63 hw) (nf_sel (w62 hw) rfl) X98 (show parseMethodDescriptor "()Ljava/lang/String;" = some ⟨[], some (.object "java/lang/String")⟩ by decide +kernel) rfl (getPlatform_met hw (v0 := u25) r27 F100) (fun _ q => nomatch q) rfl rfl rfl (by decide) ⟨⟨nle rfl, nle rfl⟩, nle rfl, nle rfl⟩ ?_
          intro v112 h113 hq114 _
          obtain ⟨rfl, rfl⟩ := hq114
          show WlO _ _ _ _ _ _ _ _ _ _ _ _ _ _ _ _ _ _ [u25]
          refine Wl.aload 184 at_182 rfl r27 ?_
          refine Wl.acmp 187 true at_184 r27 r27 (decide_eq_true rfl) ?_
          refine Wl.aload 189 at_187 rfl rfl ?_
          refine Wl.virtual 192 (argsL := []) at_189 (w64 hw) (w65 hw) (w67 hw) (w66 hw) (w36 hw) (w68 hw) (nf_sel (w67 hw) rfl) X98 (show parseMethodDescriptor "()Ljava/lang/String;" = some ⟨[], some (.object "java/lang/String")⟩ by decide +kernel) rfl (getTenancy_met hw (v0 := u39) r41 F101) (fun _ q => nomatch q) rfl rfl rfl (by decide) ⟨⟨nle rfl, nle rfl⟩, nle rfl, nle rfl⟩ ?_
          intro v115 h116 hq117 _
          obtain ⟨rfl, rfl⟩ := hq117
          show WlO _ _ _ _ _ _ _ _ _ _ _ _ _ _ _ _ _ _ [u39]
          refine Wl.aload 194 at_192 rfl r41 ?_
          refine Wl.acmp 197 true at_194 r41 r41 (decide_eq_true rfl) ?_
          refine Wl.aload 199 at_197 rfl rfl ?_
          refine Wl.virtual 202 (argsL := []) at_199 (w69 hw) (w70 hw) (w72 hw) (w71 hw) (w36 hw) (w73 hw) (nf_sel (w72 hw) rfl) X98 (show parseMethodDescriptor "()Z" = some ⟨[], some .boolean⟩ by decide +kernel) rfl (isWhole_met hw (v0 := .null) (v1 := u25) (v2 := u39) rfl r27 r41 F99 F100 F101) (fun _ q => nomatch q) rfl rfl rfl (by decide) ⟨⟨nle rfl, nle rfl⟩, nle rfl, nle rfl⟩ ?_
          intro v118 h119 hq120 _
          obtain ⟨rfl, rfl⟩ := hq120
          show WlO _ _ _ _ _ _ _ _ _ _ _ _ _ _ _ _ _ _ [.int (0 : Int32)]
          refine Wl.iload 204 at_202 rfl ?_
          refine Wl.icmpN 207 at_204 (teq (by decide)).2 ?_
          refine Wl.iconst 208 (1 : Int32) at_207 (by decide) ?_
          refine Wl.goto 212 at_208 ?_
          exact Wl.ireturn at_212 rfl rfl (by simp) (nle rfl) (nle rfl) rfl
        · refine Wl.ifnullN 150 at_147 ?_
          refine Wl.aload 152 at_150 rfl r27 ?_
          rcases ref_cases r27 with rfl | ⟨x121, rfl⟩
          · refine Wl.ifnullY 164 at_152 ?_
            refine Wl.iconst 165 (0 : Int32) at_164 (by decide) ?_
            refine Wl.istore 167 #[.val (.int i0), .val (.int i1), .val (.int i2), .val (.int i3), .val (.null), .val (.ref x108), .val (.null), .val (.null), .val (.null), .val (u39), .val (.ref a43), .val (.ref a66), .val (.ref a96), .val (.ref x108), .val (.null), .val (u39), .val (.int (0 : Int32))] at_165 rfl ?_
            refine Wl.aload 169 at_167 rfl rfl ?_
            refine Wl.virtual 172 (argsL := []) at_169 (w54 hw) (w55 hw) (w57 hw) (w56 hw) (w36 hw) (w58 hw) (nf_sel (w57 hw) rfl) X98 (show parseMethodDescriptor "()Ljava/lang/String;" = some ⟨[], some (.object "java/lang/String")⟩ by decide +kernel) rfl (getType_met hw (v0 := .ref x108) rfl F99) (fun _ q => nomatch q) rfl rfl rfl (by decide) ⟨⟨nle rfl, nle rfl⟩, nle rfl, nle rfl⟩ ?_
            intro v122 h123 hq124 _
            obtain ⟨rfl, rfl⟩ := hq124
            show WlO _ _ _ _ _ _ _ _ _ _ _ _ _ _ _ _ _ _ [.ref x108]
            refine Wl.aload 174 at_172 rfl rfl ?_
            refine Wl.acmp 177 true at_174 rfl rfl (decide_eq_true rfl) ?_
            refine Wl.aload 179 at_177 rfl rfl ?_
            refine Wl.virtual 182 (argsL := []) at_179 (w59 hw) (w60 hw) (w62 hw) (w61 hw) (w36 hw) (w63 hw) (nf_sel (w62 hw) rfl) X98 (show parseMethodDescriptor "()Ljava/lang/String;" = some ⟨[], some (.object "java/lang/String")⟩ by decide +kernel) rfl (getPlatform_met hw (v0 := .null) rfl F100) (fun _ q => nomatch q) rfl rfl rfl (by decide) ⟨⟨nle rfl, nle rfl⟩, nle rfl, nle rfl⟩ ?_
            intro v125 h126 hq127 _
            obtain ⟨rfl, rfl⟩ := hq127
            show WlO _ _ _ _ _ _ _ _ _ _ _ _ _ _ _ _ _ _ [.null]
            refine Wl.aload 184 at_182 rfl rfl ?_
            refine Wl.acmp 187 true at_184 rfl rfl (decide_eq_true rfl) ?_
            refine Wl.aload 189 at_187 rfl rfl ?_
            refine Wl.virtual 192 (argsL := []) at_189 (w64 hw) (w65 hw) (w67 hw) (w66 hw) (w36 hw) (w68 hw) (nf_sel (w67 hw) rfl) X98 (show parseMethodDescriptor "()Ljava/lang/String;" = some ⟨[], some (.object "java/lang/String")⟩ by decide +kernel) rfl (getTenancy_met hw (v0 := u39) r41 F101) (fun _ q => nomatch q) rfl rfl rfl (by decide) ⟨⟨nle rfl, nle rfl⟩, nle rfl, nle rfl⟩ ?_
            intro v128 h129 hq130 _
            obtain ⟨rfl, rfl⟩ := hq130
            show WlO _ _ _ _ _ _ _ _ _ _ _ _ _ _ _ _ _ _ [u39]
            refine Wl.aload 194 at_192 rfl r41 ?_
            refine Wl.acmp 197 true at_194 r41 r41 (decide_eq_true rfl) ?_
            refine Wl.aload 199 at_197 rfl rfl ?_
            refine Wl.virtual 202 (argsL := []) at_199 (w69 hw) (w70 hw) (w72 hw) (w71 hw) (w36 hw) (w73 hw) (nf_sel (w72 hw) rfl) X98 (show parseMethodDescriptor "()Z" = some ⟨[], some .boolean⟩ by decide +kernel) rfl (isWhole_met hw (v0 := .ref x108) (v1 := .null) (v2 := u39) rfl rfl r41 F99 F100 F101) (fun _ q => nomatch q) rfl rfl rfl (by decide) ⟨⟨nle rfl, nle rfl⟩, nle rfl, nle rfl⟩ ?_
            intro v131 h132 hq133 _
            obtain ⟨rfl, rfl⟩ := hq133
            show WlO _ _ _ _ _ _ _ _ _ _ _ _ _ _ _ _ _ _ [.int (0 : Int32)]
            refine Wl.iload 204 at_202 rfl ?_
            refine Wl.icmpN 207 at_204 (teq (by decide)).2 ?_
            refine Wl.iconst 208 (1 : Int32) at_207 (by decide) ?_
            refine Wl.goto 212 at_208 ?_
            exact Wl.ireturn at_212 rfl rfl (by simp) (nle rfl) (nle rfl) rfl
          · refine Wl.ifnullN 155 at_152 ?_
            refine Wl.aload 157 at_155 rfl r41 ?_
            rcases ref_cases r41 with rfl | ⟨x134, rfl⟩
            · refine Wl.ifnullY 164 at_157 ?_
              refine Wl.iconst 165 (0 : Int32) at_164 (by decide) ?_
              refine Wl.istore 167 #[.val (.int i0), .val (.int i1), .val (.int i2), .val (.int i3), .val (.null), .val (.ref x108), .val (.null), .val (.ref x121), .val (.null), .val (.null), .val (.ref a43), .val (.ref a66), .val (.ref a96), .val (.ref x108), .val (.ref x121), .val (.null), .val (.int (0 : Int32))] at_165 rfl ?_
              refine Wl.aload 169 at_167 rfl rfl ?_
              refine Wl.virtual 172 (argsL := []) at_169 (w54 hw) (w55 hw) (w57 hw) (w56 hw) (w36 hw) (w58 hw) (nf_sel (w57 hw) rfl) X98 (show parseMethodDescriptor "()Ljava/lang/String;" = some ⟨[], some (.object "java/lang/String")⟩ by decide +kernel) rfl (getType_met hw (v0 := .ref x108) rfl F99) (fun _ q => nomatch q) rfl rfl rfl (by decide) ⟨⟨nle rfl, nle rfl⟩, nle rfl, nle rfl⟩ ?_
              intro v135 h136 hq137 _
              obtain ⟨rfl, rfl⟩ := hq137
              show WlO _ _ _ _ _ _ _ _ _ _ _ _ _ _ _ _ _ _ [.ref x108]
              refine Wl.aload 174 at_172 rfl rfl ?_
              refine Wl.acmp 177 true at_174 rfl rfl (decide_eq_true rfl) ?_
              refine Wl.aload 179 at_177 rfl rfl ?_
              refine Wl.virtual 182 (argsL := []) at_179 (w59 hw) (w60 hw) (w62 hw) (w61 hw) (w36 hw) (w63 hw) (nf_sel (w62 hw) rfl) X98 (show parseMethodDescriptor "()Ljava/lang/String;" = some ⟨[], some (.object "java/lang/String")⟩ by decide +kernel) rfl (getPlatform_met hw (v0 := .ref x121) rfl F100) (fun _ q => nomatch q) rfl rfl rfl (by decide) ⟨⟨nle rfl, nle rfl⟩, nle rfl, nle rfl⟩ ?_
              intro v138 h139 hq140 _
              obtain ⟨rfl, rfl⟩ := hq140
              show WlO _ _ _ _ _ _ _ _ _ _ _ _ _ _ _ _ _ _ [.ref x121]
              refine Wl.aload 184 at_182 rfl rfl ?_
              refine Wl.acmp 187 true at_184 rfl rfl (decide_eq_true rfl) ?_
              refine Wl.aload 189 at_187 rfl rfl ?_
              refine Wl.virtual 192 (argsL := []) at_189 (w64 hw) (w65 hw) (w67 hw) (w66 hw) (w36 hw) (w68 hw) (nf_sel (w67 hw) rfl) X98 (show parseMethodDescriptor "()Ljava/lang/String;" = some ⟨[], some (.object "java/lang/String")⟩ by decide +kernel) rfl (getTenancy_met hw (v0 := .null) rfl F101) (fun _ q => nomatch q) rfl rfl rfl (by decide) ⟨⟨nle rfl, nle rfl⟩, nle rfl, nle rfl⟩ ?_
              intro v141 h142 hq143 _
              obtain ⟨rfl, rfl⟩ := hq143
              show WlO _ _ _ _ _ _ _ _ _ _ _ _ _ _ _ _ _ _ [.null]
              refine Wl.aload 194 at_192 rfl rfl ?_
              refine Wl.acmp 197 true at_194 rfl rfl (decide_eq_true rfl) ?_
              refine Wl.aload 199 at_197 rfl rfl ?_
              refine Wl.virtual 202 (argsL := []) at_199 (w69 hw) (w70 hw) (w72 hw) (w71 hw) (w36 hw) (w73 hw) (nf_sel (w72 hw) rfl) X98 (show parseMethodDescriptor "()Z" = some ⟨[], some .boolean⟩ by decide +kernel) rfl (isWhole_met hw (v0 := .ref x108) (v1 := .ref x121) (v2 := .null) rfl rfl rfl F99 F100 F101) (fun _ q => nomatch q) rfl rfl rfl (by decide) ⟨⟨nle rfl, nle rfl⟩, nle rfl, nle rfl⟩ ?_
              intro v144 h145 hq146 _
              obtain ⟨rfl, rfl⟩ := hq146
              show WlO _ _ _ _ _ _ _ _ _ _ _ _ _ _ _ _ _ _ [.int (0 : Int32)]
              refine Wl.iload 204 at_202 rfl ?_
              refine Wl.icmpN 207 at_204 (teq (by decide)).2 ?_
              refine Wl.iconst 208 (1 : Int32) at_207 (by decide) ?_
              refine Wl.goto 212 at_208 ?_
              exact Wl.ireturn at_212 rfl rfl (by simp) (nle rfl) (nle rfl) rfl
            · refine Wl.ifnullN 160 at_157 ?_
              refine Wl.iconst 161 (1 : Int32) at_160 (by decide) ?_
              refine Wl.goto 165 at_161 ?_
              refine Wl.istore 167 #[.val (.int i0), .val (.int i1), .val (.int i2), .val (.int i3), .val (.null), .val (.ref x108), .val (.null), .val (.ref x121), .val (.null), .val (.ref x134), .val (.ref a43), .val (.ref a66), .val (.ref a96), .val (.ref x108), .val (.ref x121), .val (.ref x134), .val (.int (1 : Int32))] at_165 rfl ?_
              refine Wl.aload 169 at_167 rfl rfl ?_
              refine Wl.virtual 172 (argsL := []) at_169 (w54 hw) (w55 hw) (w57 hw) (w56 hw) (w36 hw) (w58 hw) (nf_sel (w57 hw) rfl) X98 (show parseMethodDescriptor "()Ljava/lang/String;" = some ⟨[], some (.object "java/lang/String")⟩ by decide +kernel) rfl (getType_met hw (v0 := .ref x108) rfl F99) (fun _ q => nomatch q) rfl rfl rfl (by decide) ⟨⟨nle rfl, nle rfl⟩, nle rfl, nle rfl⟩ ?_
              intro v147 h148 hq149 _
              obtain ⟨rfl, rfl⟩ := hq149
              show WlO _ _ _ _ _ _ _ _ _ _ _ _ _ _ _ _ _ _ [.ref x108]
              refine Wl.aload 174 at_172 rfl rfl ?_
              refine Wl.acmp 177 true at_174 rfl rfl (decide_eq_true rfl) ?_
              refine Wl.aload 179 at_177 rfl rfl ?_
              refine Wl.virtual 182 (argsL := []) at_179 (w59 hw) (w60 hw) (w62 hw) (w61 hw) (w36 hw) (w63 hw) (nf_sel (w62 hw) rfl) X98 (show parseMethodDescriptor "()Ljava/lang/String;" = some ⟨[], some (.object "java/lang/String")⟩ by decide +kernel) rfl (getPlatform_met hw (v0 := .ref x121) rfl F100) (fun _ q => nomatch q) rfl rfl rfl (by decide) ⟨⟨nle rfl, nle rfl⟩, nle rfl, nle rfl⟩ ?_
              intro v150 h151 hq152 _
              obtain ⟨rfl, rfl⟩ := hq152
              show WlO _ _ _ _ _ _ _ _ _ _ _ _ _ _ _ _ _ _ [.ref x121]
              refine Wl.aload 184 at_182 rfl rfl ?_
              refine Wl.acmp 187 true at_184 rfl rfl (decide_eq_true rfl) ?_
              refine Wl.aload 189 at_187 rfl rfl ?_
              refine Wl.virtual 192 (argsL := []) at_189 (w64 hw) (w65 hw) (w67 hw) (w66 hw) (w36 hw) (w68 hw) (nf_sel (w67 hw) rfl) X98 (show parseMethodDescriptor "()Ljava/lang/String;" = some ⟨[], some (.object "java/lang/String")⟩ by decide +kernel) rfl (getTenancy_met hw (v0 := .ref x134) rfl F101) (fun _ q => nomatch q) rfl rfl rfl (by decide) ⟨⟨nle rfl, nle rfl⟩, nle rfl, nle rfl⟩ ?_
              intro v153 h154 hq155 _
              obtain ⟨rfl, rfl⟩ := hq155
              show WlO _ _ _ _ _ _ _ _ _ _ _ _ _ _ _ _ _ _ [.ref x134]
              refine Wl.aload 194 at_192 rfl rfl ?_
              refine Wl.acmp 197 true at_194 rfl rfl (decide_eq_true rfl) ?_
              refine Wl.aload 199 at_197 rfl rfl ?_
              refine Wl.virtual 202 (argsL := []) at_199 (w69 hw) (w70 hw) (w72 hw) (w71 hw) (w36 hw) (w73 hw) (nf_sel (w72 hw) rfl) X98 (show parseMethodDescriptor "()Z" = some ⟨[], some .boolean⟩ by decide +kernel) rfl (isWhole_met hw (v0 := .ref x108) (v1 := .ref x121) (v2 := .ref x134) rfl rfl rfl F99 F100 F101) (fun _ q => nomatch q) rfl rfl rfl (by decide) ⟨⟨nle rfl, nle rfl⟩, nle rfl, nle rfl⟩ ?_
              intro v156 h157 hq158 _
              obtain ⟨rfl, rfl⟩ := hq158
              show WlO _ _ _ _ _ _ _ _ _ _ _ _ _ _ _ _ _ _ [.int (1 : Int32)]
              refine Wl.iload 204 at_202 rfl ?_
              refine Wl.icmpN 207 at_204 (teq (by decide)).2 ?_
              refine Wl.iconst 208 (1 : Int32) at_207 (by decide) ?_
              refine Wl.goto 212 at_208 ?_
              exact Wl.ireturn at_212 rfl rfl (by simp) (nle rfl) (nle rfl) rfl
      · refine Wl.ifnullN 136 at_133 ?_
        refine Wl.aload 138 at_136 rfl rfl ?_
        refine Wl.goto 143 at_138 ?_
        refine Wl.astore 145 #[.val (.int i0), .val (.int i1), .val (.int i2), .val (.int i3), .val (.null), .val (u11), .val (.null), .val (u25), .val (.ref x107), .val (u39), .val (.ref a43), .val (.ref a66), .val (.ref a96), .val (u11), .val (u25), .val (.ref x107), .unset] at_143 rfl rfl ?_
        refine Wl.aload 147 at_145 rfl r13 ?_
        rcases ref_cases r13 with rfl | ⟨x159, rfl⟩
        · refine Wl.ifnullY 164 at_147 ?_
          refine Wl.iconst 165 (0 : Int32) at_164 (by decide) ?_
          refine Wl.istore 167 #[.val (.int i0), .val (.int i1), .val (.int i2), .val (.int i3), .val (.null), .val (.null), .val (.null), .val (u25), .val (.ref x107), .val (u39), .val (.ref a43), .val (.ref a66), .val (.ref a96), .val (.null), .val (u25), .val (.ref x107), .val (.int (0 : Int32))] at_165 rfl ?_
          refine Wl.aload 169 at_167 rfl rfl ?_
          refine Wl.virtual 172 (argsL := []) at_169 (w54 hw) (w55 hw) (w57 hw) (w56 hw) (w36 hw) (w58 hw) (nf_sel (w57 hw) rfl) X98 (show parseMethodDescriptor "()Ljava/lang/String;" = some ⟨[], some (.object "java/lang/String")⟩ by decide +kernel) rfl (getType_met hw (v0 := .null) rfl F99) (fun _ q => nomatch q) rfl rfl rfl (by decide) ⟨⟨nle rfl, nle rfl⟩, nle rfl, nle rfl⟩ ?_
          intro v160 h161 hq162 _
          obtain ⟨rfl, rfl⟩ := hq162
          show WlO _ _ _ _ _ _ _ _ _ _ _ _ _ _ _ _ _ _ [.null]
          refine Wl.aload 174 at_172 rfl rfl ?_
          refine Wl.acmp 177 true at_174 rfl rfl (decide_eq_true rfl) ?_
          refine Wl.aload 179 at_177 rfl rfl ?_
          refine Wl.virtual 182 (argsL := []) at_179 (w59 hw) (w60 hw) (w62 hw) (w61 hw) (w36 hw) (w63 hw) (nf_sel (w62 hw) rfl) X98 (show parseMethodDescriptor "()Ljava/lang/String;" = some ⟨[], some (.object "java/lang/String")⟩ by decide +kernel) rfl (getPlatform_met hw (v0 := u25) r27 F100) (fun _ q => nomatch q) rfl rfl rfl (by decide) ⟨⟨nle rfl, nle rfl⟩, nle rfl, nle rfl⟩ ?_
          intro v163 h164 hq165 _
          obtain ⟨rfl, rfl⟩ := hq165
          show WlO _ _ _ _ _ _ _ _ _ _ _ _ _ _ _ _ _ _ [u25]
          refine Wl.aload 184 at_182 rfl r27 ?_
          refine Wl.acmp 187 true at_184 r27 r27 (decide_eq_true rfl) ?_
          refine Wl.aload 189 at_187 rfl rfl ?_
          refine Wl.virtual 192 (argsL := []) at_189 (w64 hw) (w65 hw) (w67 hw) (w66 hw) (w36 hw) (w68 hw) (nf_sel (w67 hw) rfl) X98 (show parseMethodDescriptor "()Ljava/lang/String;" = some ⟨[], some (.object "java/lang/String")⟩ by decide +kernel) rfl (getTenancy_met hw (v0 := .ref x107) rfl F101) (fun _ q => nomatch q) rfl rfl rfl (by decide) ⟨⟨nle rfl, nle rfl⟩, nle rfl, nle rfl⟩ ?_
          intro v166 h167 hq168 _
          obtain ⟨rfl, rfl⟩ := hq168
          show WlO _ _ _ _ _ _ _ _ _ _ _ _ _ _ _ _ _ _ [.ref x107]
          refine Wl.aload 194 at_192 rfl rfl ?_
          refine Wl.acmp 197 true at_194 rfl rfl (decide_eq_true rfl) ?_
          refine Wl.aload 199 at_197 rfl rfl ?_
          refine Wl.virtual 202 (argsL := []) at_199 (w69 hw) (w70 hw) (w72 hw) (w71 hw) (w36 hw) (w73 hw) (nf_sel (w72 hw) rfl) X98 (show parseMethodDescriptor "()Z" = some ⟨[], some .boolean⟩ by decide +kernel) rfl (isWhole_met hw (v0 := .null) (v1 := u25) (v2 := .ref x107) rfl r27 rfl F99 F100 F101) (fun _ q => nomatch q) rfl rfl rfl (by decide) ⟨⟨nle rfl, nle rfl⟩, nle rfl, nle rfl⟩ ?_
          intro v169 h170 hq171 _
          obtain ⟨rfl, rfl⟩ := hq171
          show WlO _ _ _ _ _ _ _ _ _ _ _ _ _ _ _ _ _ _ [.int (0 : Int32)]
          refine Wl.iload 204 at_202 rfl ?_
          refine Wl.icmpN 207 at_204 (teq (by decide)).2 ?_
          refine Wl.iconst 208 (1 : Int32) at_207 (by decide) ?_
          refine Wl.goto 212 at_208 ?_
          exact Wl.ireturn at_212 rfl rfl (by simp) (nle rfl) (nle rfl) rfl
        · refine Wl.ifnullN 150 at_147 ?_
          refine Wl.aload 152 at_150 rfl r27 ?_
          rcases ref_cases r27 with rfl | ⟨x172, rfl⟩
          · refine Wl.ifnullY 164 at_152 ?_
            refine Wl.iconst 165 (0 : Int32) at_164 (by decide) ?_
            refine Wl.istore 167 #[.val (.int i0), .val (.int i1), .val (.int i2), .val (.int i3), .val (.null), .val (.ref x159), .val (.null), .val (.null), .val (.ref x107), .val (u39), .val (.ref a43), .val (.ref a66), .val (.ref a96), .val (.ref x159), .val (.null), .val (.ref x107), .val (.int (0 : Int32))] at_165 rfl ?_
            refine Wl.aload 169 at_167 rfl rfl ?_
            refine Wl.virtual 172 (argsL := []) at_169 (w54 hw) (w55 hw) (w57 hw) (w56 hw) (w36 hw) (w58 hw) (nf_sel (w57 hw) rfl) X98 (show parseMethodDescriptor "()Ljava/lang/String;" = some ⟨[], some (.object "java/lang/String")⟩ by decide +kernel) rfl (getType_met hw (v0 := .ref x159) rfl F99) (fun _ q => nomatch q) rfl rfl rfl (by decide) ⟨⟨nle rfl, nle rfl⟩, nle rfl, nle rfl⟩ ?_
            intro v173 h174 hq175 _
            obtain ⟨rfl, rfl⟩ := hq175
            show WlO _ _ _ _ _ _ _ _ _ _ _ _ _ _ _ _ _ _ [.ref x159]
            refine Wl.aload 174 at_172 rfl rfl ?_
            refine Wl.acmp 177 true at_174 rfl rfl (decide_eq_true rfl) ?_
            refine Wl.aload 179 at_177 rfl rfl ?_
            refine Wl.virtual 182 (argsL := []) at_179 (w59 hw) (w60 hw) (w62 hw) (w61 hw) (w36 hw) (w63 hw) (nf_sel (w62 hw) rfl) X98 (show parseMethodDescriptor "()Ljava/lang/String;" = some ⟨[], some (.object "java/lang/String")⟩ by decide +kernel) rfl (getPlatform_met hw (v0 := .null) rfl F100) (fun _ q => nomatch q) rfl rfl rfl (by decide) ⟨⟨nle rfl, nle rfl⟩, nle rfl, nle rfl⟩ ?_
            intro v176 h177 hq178 _
            obtain ⟨rfl, rfl⟩ := hq178
            show WlO _ _ _ _ _ _ _ _ _ _ _ _ _ _ _ _ _ _ [.null]
            refine Wl.aload 184 at_182 rfl rfl ?_
            refine Wl.acmp 187 true at_184 rfl rfl (decide_eq_true rfl) ?_
            refine Wl.aload 189 at_187 rfl rfl ?_
            refine Wl.virtual 192 (argsL := []) at_189 (w64 hw) (w65 hw) (w67 hw) (w66 hw) (w36 hw) (w68 hw) (nf_sel (w67 hw) rfl) X98 (show parseMethodDescriptor "()Ljava/lang/String;" = some ⟨[], some (.object "java/lang/String")⟩ by decide +kernel) rfl (getTenancy_met hw (v0 := .ref x107) rfl F101) (fun _ q => nomatch q) rfl rfl rfl (by decide) ⟨⟨nle rfl, nle rfl⟩, nle rfl, nle rfl⟩ ?_
            intro v179 h180 hq181 _
            obtain ⟨rfl, rfl⟩ := hq181
            show WlO _ _ _ _ _ _ _ _ _ _ _ _ _ _ _ _ _ _ [.ref x107]
            refine Wl.aload 194 at_192 rfl rfl ?_
            refine Wl.acmp 197 true at_194 rfl rfl (decide_eq_true rfl) ?_
            refine Wl.aload 199 at_197 rfl rfl ?_
            refine Wl.virtual 202 (argsL := []) at_199 (w69 hw) (w70 hw) (w72 hw) (w71 hw) (w36 hw) (w73 hw) (nf_sel (w72 hw) rfl) X98 (show parseMethodDescriptor "()Z" = some ⟨[], some .boolean⟩ by decide +kernel) rfl (isWhole_met hw (v0 := .ref x159) (v1 := .null) (v2 := .ref x107) rfl rfl rfl F99 F100 F101) (fun _ q => nomatch q) rfl rfl rfl (by decide) ⟨⟨nle rfl, nle rfl⟩, nle rfl, nle rfl⟩ ?_
            intro v182 h183 hq184 _
            obtain ⟨rfl, rfl⟩ := hq184
            show WlO _ _ _ _ _ _ _ _ _ _ _ _ _ _ _ _ _ _ [.int (0 : Int32)]
            refine Wl.iload 204 at_202 rfl ?_
            refine Wl.icmpN 207 at_204 (teq (by decide)).2 ?_
            refine Wl.iconst 208 (1 : Int32) at_207 (by decide) ?_
            refine Wl.goto 212 at_208 ?_
            exact Wl.ireturn at_212 rfl rfl (by simp) (nle rfl) (nle rfl) rfl
          · refine Wl.ifnullN 155 at_152 ?_
            refine Wl.aload 157 at_155 rfl rfl ?_
            refine Wl.ifnullN 160 at_157 ?_
            refine Wl.iconst 161 (1 : Int32) at_160 (by decide) ?_
            refine Wl.goto 165 at_161 ?_
            refine Wl.istore 167 #[.val (.int i0), .val (.int i1), .val (.int i2), .val (.int i3), .val (.null), .val (.ref x159), .val (.null), .val (.ref x172), .val (.ref x107), .val (u39), .val (.ref a43), .val (.ref a66), .val (.ref a96), .val (.ref x159), .val (.ref x172), .val (.ref x107), .val (.int (1 : Int32))] at_165 rfl ?_
            refine Wl.aload 169 at_167 rfl rfl ?_
            refine Wl.virtual 172 (argsL := []) at_169 (w54 hw) (w55 hw) (w57 hw) (w56 hw) (w36 hw) (w58 hw) (nf_sel (w57 hw) rfl) X98 (show parseMethodDescriptor "()Ljava/lang/String;" = some ⟨[], some (.object "java/lang/String")⟩ by decide +kernel) rfl (getType_met hw (v0 := .ref x159) rfl F99) (fun _ q => nomatch q) rfl rfl rfl (by decide) ⟨⟨nle rfl, nle rfl⟩, nle rfl, nle rfl⟩ ?_
            intro v185 h186 hq187 _
            obtain ⟨rfl, rfl⟩ := hq187
            show WlO _ _ _ _ _ _ _ _ _ _ _ _ _ _ _ _ _ _ [.ref x159]
            refine Wl.aload 174 at_172 rfl rfl ?_
            refine Wl.acmp 177 true at_174 rfl rfl (decide_eq_true rfl) ?_
            refine Wl.aload 179 at_177 rfl rfl ?_
            refine Wl.virtual 182 (argsL := []) at_179 (w59 hw) (w60 hw) (w62 hw) (w61 hw) (w36 hw) (w63 hw) (nf_sel (w62 hw) rfl) X98 (show parseMethodDescriptor "()Ljava/lang/String;" = some ⟨[], some (.object "java/lang/String")⟩ by decide +kernel) rfl (getPlatform_met hw (v0 := .ref x172) rfl F100) (fun _ q => nomatch q) rfl rfl rfl (by decide) ⟨⟨nle rfl, nle rfl⟩, nle rfl, nle rfl⟩ ?_
            intro v188 h189 hq190 _
            obtain ⟨rfl, rfl⟩ := hq190
            show WlO _ _ _ _ _ _ _ _ _ _ _ _ _ _ _ _ _ _ [.ref x172]
            refine Wl.aload 184 at_182 rfl rfl ?_
            refine Wl.acmp 187 true at_184 rfl rfl (decide_eq_true rfl) ?_
            refine Wl.aload 189 at_187 rfl rfl ?_
            refine Wl.virtual 192 (argsL := []) at_189 (w64 hw) (w65 hw) (w67 hw) (w66 hw) (w36 hw) (w68 hw) (nf_sel (w67 hw) rfl) X98 (show parseMethodDescriptor "()Ljava/lang/String;" = some ⟨[], some (.object "java/lang/String")⟩ by decide +kernel) rfl (getTenancy_met hw (v0 := .ref x107) rfl F101) (fun _ q => nomatch q) rfl rfl rfl (by decide) ⟨⟨nle rfl, nle rfl⟩, nle rfl, nle rfl⟩ ?_
            intro v191 h192 hq193 _
            obtain ⟨rfl, rfl⟩ := hq193
            show WlO _ _ _ _ _ _ _ _ _ _ _ _ _ _ _ _ _ _ [.ref x107]
            refine Wl.aload 194 at_192 rfl rfl ?_
            refine Wl.acmp 197 true at_194 rfl rfl (decide_eq_true rfl) ?_
            refine Wl.aload 199 at_197 rfl rfl ?_
            refine Wl.virtual 202 (argsL := []) at_199 (w69 hw) (w70 hw) (w72 hw) (w71 hw) (w36 hw) (w73 hw) (nf_sel (w72 hw) rfl) X98 (show parseMethodDescriptor "()Z" = some ⟨[], some .boolean⟩ by decide +kernel) rfl (isWhole_met hw (v0 := .ref x159) (v1 := .ref x172) (v2 := .ref x107) rfl rfl rfl F99 F100 F101) (fun _ q => nomatch q) rfl rfl rfl (by decide) ⟨⟨nle rfl, nle rfl⟩, nle rfl, nle rfl⟩ ?_
            intro v194 h195 hq196 _
            obtain ⟨rfl, rfl⟩ := hq196
            show WlO _ _ _ _ _ _ _ _ _ _ _ _ _ _ _ _ _ _ [.int (1 : Int32)]
            refine Wl.iload 204 at_202 rfl ?_
            refine Wl.icmpN 207 at_204 (teq (by decide)).2 ?_
            refine Wl.iconst 208 (1 : Int32) at_207 (by decide) ?_
            refine Wl.goto 212 at_208 ?_
            exact Wl.ireturn at_212 rfl rfl (by simp) (nle rfl) (nle rfl) rfl
    · refine Wl.ifnullN 122 at_119 ?_
      refine Wl.aload 124 at_122 rfl rfl ?_
      refine Wl.goto 129 at_124 ?_
      refine Wl.astore 131 #[.val (.int i0), .val (.int i1), .val (.int i2), .val (.int i3), .val (.null), .val (u11), .val (.ref x106), .val (u25), .val (u32), .val (u39), .val (.ref a43), .val (.ref a66), .val (.ref a96), .val (u11), .val (.ref x106), .unset, .unset] at_129 rfl rfl ?_
      refine Wl.aload 133 at_131 rfl r34 ?_
      rcases ref_cases r34 with rfl | ⟨x197, rfl⟩
      · refine Wl.ifnullY 141 at_133 ?_
        refine Wl.aload 143 at_141 rfl r41 ?_
        refine Wl.astore 145 #[.val (.int i0), .val (.int i1), .val (.int i2), .val (.int i3), .val (.null), .val (u11), .val (.ref x106), .val (u25), .val (.null), .val (u39), .val (.ref a43), .val (.ref a66), .val (.ref a96), .val (u11), .val (.ref x106), .val (u39), .unset] at_143 r41 (XS.store1 (o := .unset) rfl (Or.inl rfl) (ref_cat r41)) ?_
        refine Wl.aload 147 at_145 rfl r13 ?_
        rcases ref_cases r13 with rfl | ⟨x198, rfl⟩
        · refine Wl.ifnullY 164 at_147 ?_
          refine Wl.iconst 165 (0 : Int32) at_164 (by decide) ?_
          refine Wl.istore 167 #[.val (.int i0), .val (.int i1), .val (.int i2), .val (.int i3), .val (.null), .val (.null), .val (.ref x106), .val (u25), .val (.null), .val (u39), .val (.ref a43), .val (.ref a66), .val (.ref a96), .val (.null), .val (.ref x106), .val (u39), .val (.int (0 : Int32))] at_165 rfl ?_
          refine Wl.aload 169 at_167 rfl rfl ?_
          refine Wl.virtual 172 (argsL := []) at_169 (w54 hw) (w55 hw) (w57 hw) (w56 hw) (w36 hw) (w58 hw) (nf_sel (w57 hw) rfl) X98 (show parseMethodDescriptor "()Ljava/lang/String;" = some ⟨[], some (.object "java/lang/String")⟩ by decide +kernel) rfl (getType_met hw (v0 := .null) rfl F99) (fun _ q => nomatch q) rfl rfl rfl (by decide) ⟨⟨nle rfl, nle rfl⟩, nle rfl, nle rfl⟩ ?_
          intro v199 h200 hq201 _
          obtain ⟨rfl, rfl⟩ := hq201
          show WlO _ _ _ _ _ _ _ _ _ _ _ _ _ _ _ _ _ _ [.null]
          refine Wl.aload 174 at_172 rfl rfl ?_
          refine Wl.acmp 177 true at_174 rfl rfl (decide_eq_true rfl) ?_
          refine Wl.aload 179 at_177 rfl rfl ?_
          refine Wl.virtual 182 (argsL := []) at_179 (w59 hw) (w60 hw) (w62 hw) (w61 hw) (w36 hw) (w63 hw) (nf_sel (w62 hw) rfl) X98 (show parseMethodDescriptor "()Ljava/lang/String;" = some ⟨[], some (.object "java/lang/String")⟩ by decide +kernel) rfl (getPlatform_met hw (v0 := .ref x106) rfl F100) (fun _ q => nomatch q) rfl rfl rfl (by decide) ⟨⟨nle rfl, nle rfl⟩, nle rfl, nle rfl⟩ ?_
          intro v202 h203 hq204 _
          obtain ⟨rfl, rfl⟩ := hq204
          show WlO _ _ _ _ _ _ _ _ _ _ _ _ _ _ _ _ _ _ [.ref x106]
          refine Wl.aload 184 at_182 rfl rfl ?_
          refine Wl.acmp 187 true at_184 rfl rfl (decide_eq_true rfl) ?_
          refine Wl.aload 189 at_187 rfl rfl ?_
          refine Wl.virtual 192 (argsL := []) at_189 (w64 hw) (w65 hw) (w67 hw) (w66 hw) (w36 hw) (w68 hw) (nf_sel (w67 hw) rfl) X98 (show parseMethodDescriptor "()Ljava/lang/String;" = some ⟨[], some (.object "java/lang/String")⟩ by decide +kernel) rfl (getTenancy_met hw (v0 := u39) r41 F101) (fun _ q => nomatch q) rfl rfl rfl (by decide) ⟨⟨nle rfl, nle rfl⟩, nle rfl, nle rfl⟩ ?_
          intro v205 h206 hq207 _
          obtain ⟨rfl, rfl⟩ := hq207
          show WlO _ _ _ _ _ _ _ _ _ _ _ _ _ _ _ _ _ _ [u39]
          refine Wl.aload 194 at_192 rfl r41 ?_
          refine Wl.acmp 197 true at_194 r41 r41 (decide_eq_true rfl) ?_
          refine Wl.aload 199 at_197 rfl rfl ?_
          refine Wl.virtual 202 (argsL := []) at_199 (w69 hw) (w70 hw) (w72 hw) (w71 hw) (w36 hw) (w73 hw) (nf_sel (w72 hw) rfl) X98 (show parseMethodDescriptor "()Z" = some ⟨[], some .boolean⟩ by decide +kernel) rfl (isWhole_met hw (v0 := .null) (v1 := .ref x106) (v2 := u39) rfl rfl r41 F99 F100 F101) (fun _ q => nomatch q) rfl rfl rfl (by decide) ⟨⟨nle rfl, nle rfl⟩, nle rfl, nle rfl⟩ ?_
          intro v208 h209 hq210 _
          obtain ⟨rfl, rfl⟩ := hq210
          show WlO _ _ _ _ _ _ _ _ _ _ _ _ _ _ _ _ _ _ [.int (0 : Int32)]
          refine Wl.iload 204 at_202 rfl ?_
          refine Wl.icmpN 207 at_204 (teq (by decide)).2 ?_
          refine Wl.iconst 208 (1 : Int32) at_207 (by decide) ?_
          refine Wl.goto 212 at_208 ?_
          exact Wl.ireturn at_212 rfl rfl (by simp) (nle rfl) (nle rfl) rfl
        · refine Wl.ifnullN 150 at_147 ?_
          refine Wl.aload 152 at_150 rfl rfl ?_
          refine Wl.ifnullN 155 at_152 ?_
          refine Wl.aload 157 at_155 rfl r41 ?_
          rcases ref_cases r41 with rfl | ⟨x211, rfl⟩
          · refine Wl.ifnullY 164 at_157 ?_
            refine Wl.iconst 165 (0 : Int32) at_164 (by decide) ?_
            refine Wl.istore 167 #[.val (.int i0), .val (.int i1), .val (.int i2), .val (.int i3), .val (.null), .val (.ref x198), .val (.ref x106), .val (u25), .val (.null), .val (.null), .val (.ref a43), .val (.ref a66), .val (.ref a96), .val (.ref x198), .val (.ref x106), .val (.null), .val (.int (0 : Int32))] at_165 rfl ?_
            refine Wl.aload 169 at_167 rfl rfl ?_
            refine Wl.virtual 172 (argsL := []) at_169 (w54 hw) (w55 hw) (w57 hw) (w56 hw) (w36 hw) (w58 hw) (nf_sel (w57 hw) rfl) X98 (show parseMethodDescriptor "()Ljava/lang/String;" = some ⟨[], some (.object "java/lang/String")⟩ by decide +kernel) rfl (getType_met hw (v0 := .ref x198) rfl F99) (fun _ q => nomatch q) rfl rfl rfl (by decide) ⟨⟨nle rfl, nle rfl⟩, nle rfl, nle rfl⟩ ?_
            intro v212 h213 hq214 _
            obtain ⟨rfl, rfl⟩ := hq214
            show WlO _ _ _ _ _ _ _ _ _ _ _ _ _ _ _ _ _ _ [.ref x198]
            refine Wl.aload 174 at_172 rfl rfl ?_
            refine Wl.acmp 177 true at_174 rfl rfl (decide_eq_true rfl) ?_
            refine Wl.aload 179 at_177 rfl rfl ?_
            refine Wl.virtual 182 (argsL := []) at_179 (w59 hw) (w60 hw) (w62 hw) (w61 hw) (w36 hw) (w63 hw) (nf_sel (w62 hw) rfl) X98 (show parseMethodDescriptor "()Ljava/lang/String;" = some ⟨[], some (.object "java/lang/String")⟩ by decide +kernel) rfl (getPlatform_met hw (v0 := .ref x106) rfl F100) (fun _ q => nomatch q) rfl rfl rfl (by decide) ⟨⟨nle rfl, nle rfl⟩, nle rfl, nle rfl⟩ ?_
            intro v215 h216 hq217 _
            obtain ⟨rfl, rfl⟩ := hq217
            show WlO _ _ _ _ _ _ _ _ _ _ _ _ _ _ _ _ _ _ [.ref x106]
            refine Wl.aload 184 at_182 rfl rfl ?_
            refine Wl.acmp 187 true at_184 rfl rfl (decide_eq_true rfl) ?_
            refine Wl.aload 189 at_187 rfl rfl ?_
            refine Wl.virtual 192 (argsL := []) at_189 (w64 hw) (w65 hw) (w67 hw) (w66 hw) (w36 hw) (w68 hw) (nf_sel (w67 hw) rfl) X98 (show parseMethodDescriptor "()Ljava/lang/String;" = some ⟨[], some (.object "java/lang/String")⟩ by decide +kernel) rfl (getTenancy_met hw (v0 := .null) rfl F101) (fun _ q => nomatch q) rfl rfl rfl (by decide) ⟨⟨nle rfl, nle rfl⟩, nle rfl, nle rfl⟩ ?_
            intro v218 h219 hq220 _
            obtain ⟨rfl, rfl⟩ := hq220
            show WlO _ _ _ _ _ _ _ _ _ _ _ _ _ _ _ _ _ _ [.null]
            refine Wl.aload 194 at_192 rfl rfl ?_
            refine Wl.acmp 197 true at_194 rfl rfl (decide_eq_true rfl) ?_
            refine Wl.aload 199 at_197 rfl rfl ?_
            refine Wl.virtual 202 (argsL := []) at_199 (w69 hw) (w70 hw) (w72 hw) (w71 hw) (w36 hw) (w73 hw) (nf_sel (w72 hw) rfl) X98 (show parseMethodDescriptor "()Z" = some ⟨[], some .boolean⟩ by decide +kernel) rfl (isWhole_met hw (v0 := .ref x198) (v1 := .ref x106) (v2 := .null) rfl rfl rfl F99 F100 F101) (fun _ q => nomatch q) rfl rfl rfl (by decide) ⟨⟨nle rfl, nle rfl⟩, nle rfl, nle rfl⟩ ?_
            intro v221 h222 hq223 _
            obtain ⟨rfl, rfl⟩ := hq223
            show WlO _ _ _ _ _ _ _ _ _ _ _ _ _ _ _ _ _ _ [.int (0 : Int32)]
            refine Wl.iload 204 at_202 rfl ?_
            refine Wl.icmpN 207 at_204 (teq (by decide)).2 ?_
            refine Wl.iconst 208 (1 : Int32) at_207 (by decide) ?_
            refine Wl.goto 212 at_208 ?_
            exact Wl.ireturn at_212 rfl rfl (by simp) (nle rfl) (nle rfl) rfl
          · refine Wl.ifnullN 160 at_157 ?_
            refine Wl.iconst 161 (1 : Int32) at_160 (by decide) ?_
            refine Wl.goto 165 at_161 ?_
            refine Wl.istore 167 #[.val (.int i0), .val (.int i1), .val (.int i2), .val (.int i3), .val (.null), .val (.ref x198), .val (.ref x106), .val (u25), .val (.null), .val (.ref x211), .val (.ref a43), .val (.ref a66), .val (.ref a96), .val (.ref x198), .val (.ref x106), .val (.ref x211), .val (.int (1 : Int32))] at_165 rfl ?_
            refine Wl.aload 169 at_167 rfl rfl ?_
            refine Wl.virtual 172 (argsL := []) at_169 (w54 hw) (w55 hw) (w57 hw) (w56 hw) (w36 hw) (w58 hw) (nf_sel (w57 hw) rfl) X98 (show parseMethodDescriptor "()Ljava/lang/String;" = some ⟨[], some (.object "java/lang/String")⟩ by decide +kernel) rfl (getType_met hw (v0 := .ref x198) rfl F99) (fun _ q => nomatch q) rfl rfl rfl (by decide) ⟨⟨nle rfl, nle rfl⟩, nle rfl, nle rfl⟩ ?_
            intro v224 h225 hq226 _
            obtain ⟨rfl, rfl⟩ := hq226
            show WlO _ _ _ _ _ _ _ _ _ _ _ _ _ _ _ _ _ _ [.ref x198]
            refine Wl.aload 174 at_172 rfl rfl ?_
            refine Wl.acmp 177 true at_174 rfl rfl (decide_eq_true rfl) ?_
            refine Wl.aload 179 at_177 rfl rfl ?_
            refine Wl.virtual 182 (argsL := []) at_179 (w59 hw) (w60 hw) (w62 hw) (w61 hw) (w36 hw) (w63 hw) (nf_sel (w62 hw) rfl) X98 (show parseMethodDescriptor "()Ljava/lang/String;" = some ⟨[], some (.object "java/lang/String")⟩ by decide +kernel) rfl (getPlatform_met hw (v0 := .ref x106) rfl F100) (fun _ q => nomatch q) rfl rfl rfl (by decide) ⟨⟨nle rfl, nle rfl⟩, nle rfl, nle rfl⟩ ?_
            intro v227 h228 hq229 _
            obtain ⟨rfl, rfl⟩ := hq229
            show WlO _ _ _ _ _ _ _ _ _ _ _ _ _ _ _ _ _ _ [.ref x106]
            refine Wl.aload 184 at_182 rfl rfl ?_
            refine Wl.acmp 187 true at_184 rfl rfl (decide_eq_true rfl) ?_
            refine Wl.aload 189 at_187 rfl rfl ?_
            refine Wl.virtual 192 (argsL := []) at_189 (w64 hw) (w65 hw) (w67 hw) (w66 hw) (w36 hw) (w68 hw) (nf_sel (w67 hw) rfl) X98 (show parseMethodDescriptor "()Ljava/lang/String;" = some ⟨[], some (.object "java/lang/String")⟩ by decide +kernel) rfl (getTenancy_met hw (v0 := .ref x211) rfl F101) (fun _ q => nomatch q) rfl rfl rfl (by decide) ⟨⟨nle rfl, nle rfl⟩, nle rfl, nle rfl⟩ ?_
            intro v230 h231 hq232 _
            obtain ⟨rfl, rfl⟩ := hq232
            show WlO _ _ _ _ _ _ _ _ _ _ _ _ _ _ _ _ _ _ [.ref x211]
            refine Wl.aload 194 at_192 rfl rfl ?_
            refine Wl.acmp 197 true at_194 rfl rfl (decide_eq_true rfl) ?_
            refine Wl.aload 199 at_197 rfl rfl ?_
            refine Wl.virtual 202 (argsL := []) at_199 (w69 hw) (w70 hw) (w72 hw) (w71 hw) (w36 hw) (w73 hw) (nf_sel (w72 hw) rfl) X98 (show parseMethodDescriptor "()Z" = some ⟨[], some .boolean⟩ by decide +kernel) rfl (isWhole_met hw (v0 := .ref x198) (v1 := .ref x106) (v2 := .ref x211) rfl rfl rfl F99 F100 F101) (fun _ q => nomatch q) rfl rfl rfl (by decide) ⟨⟨nle rfl, nle rfl⟩, nle rfl, nle rfl⟩ ?_
            intro v233 h234 hq235 _
            obtain ⟨rfl, rfl⟩ := hq235
            show WlO _ _ _ _ _ _ _ _ _ _ _ _ _ _ _ _ _ _ [.int (1 : Int32)]
            refine Wl.iload 204 at_202 rfl ?_
            refine Wl.icmpN 207 at_204 (teq (by decide)).2 ?_
            refine Wl.iconst 208 (1 : Int32) at_207 (by decide) ?_
            refine Wl.goto 212 at_208 ?_
            exact Wl.ireturn at_212 rfl rfl (by simp) (nle rfl) (nle rfl) rfl
      · refine Wl.ifnullN 136 at_133 ?_
        refine Wl.aload 138 at_136 rfl rfl ?_
        refine Wl.goto 143 at_138 ?_
        refine Wl.astore 145 #[.val (.int i0), .val (.int i1), .val (.int i2), .val (.int i3), .val (.null), .val (u11), .val (.ref x106), .val (u25), .val (.ref x197), .val (u39), .val (.ref a43), .val (.ref a66), .val (.ref a96), .val (u11), .val (.ref x106), .val (.ref x197), .unset] at_143 rfl rfl ?_
        refine Wl.aload 147 at_145 rfl r13 ?_
        rcases ref_cases r13 with rfl | ⟨x236, rfl⟩
        · refine Wl.ifnullY 164 at_147 ?_
          refine Wl.iconst 165 (0 : Int32) at_164 (by decide) ?_
          refine Wl.istore 167 #[.val (.int i0), .val (.int i1), .val (.int i2), .val (.int i3), .val (.null), .val (.null), .val (.ref x106), .val (u25), .val (.ref x197), .val (u39), .val (.ref a43), .val (.ref a66), .val (.ref a96), .val (.null), .val (.ref x106), .val (.ref x197), .val (.int (0 : Int32))] at_165 rfl ?_
          refine Wl.aload 169 at_167 rfl rfl ?_
          refine Wl.virtual 172 (argsL := []) at_169 (w54 hw) (w55 hw) (w57 hw) (w56 hw) (w36 hw) (w58 hw) (nf_sel (w57 hw) rfl) X98 (show parseMethodDescriptor "()Ljava/lang/String;" = some ⟨[], some (.object "java/lang/String")⟩ by decide +kernel) rfl (getType_met hw (v0 := .null) rfl F99) (fun _ q => nomatch q) rfl rfl rfl (by decide) ⟨⟨nle rfl, nle rfl⟩, nle rfl, nle rfl⟩ ?_
          intro v237 h238 hq239 _
          obtain ⟨rfl, rfl⟩ := hq239
          show WlO _ _ _ _ _ _ _ _ _ _ _ _ _ _ _ _ _ _ [.null]
          refine Wl.aload 174 at_172 rfl rfl ?_
          refine Wl.acmp 177 true at_174 rfl rfl (decide_eq_true rfl) ?_
          refine Wl.aload 179 at_177 rfl rfl ?_
          refine Wl.virtual 182 (argsL := []) at_179 (w59 hw) (w60 hw) (w62 hw) (w61 hw) (w36 hw) (w63 hw) (nf_sel (w62 hw) rfl) X98 (show parseMethodDescriptor "()Ljava/lang/String;" = some ⟨[], some (.object "java/lang/String")⟩ by decide +kernel) rfl (getPlatform_met hw (v0 := .ref x106) rfl F100) (fun _ q => nomatch q) rfl rfl rfl (by decide) ⟨⟨nle rfl, nle rfl⟩, nle rfl, nle rfl⟩ ?_
          intro v240 h241 hq242 _
          obtain ⟨rfl, rfl⟩ := hq242
          show WlO _ _ _ _ _ _ _ _ _ _ _ _ _ _ _ _ _ _ [.ref x106]
          refine Wl.aload 184 at_182 rfl rfl ?_
          refine Wl.acmp 187 true at_184 rfl rfl (decide_eq_true rfl) ?_
          refine Wl.aload 189 at_187 rfl rfl ?_
          refine Wl.virtual 192 (argsL := []) at_189 (w64 hw) (w65 hw) (w67 hw) (w66 hw) (w36 hw) (w68 hw) (nf_sel (w67 hw) rfl) X98 (show parseMethodDescriptor "()Ljava/lang/String;" = some ⟨[], some (.object "java/lang/String")⟩ by decide +kernel) rfl (getTenancy_met hw (v0 := .ref x197) rfl F101) (fun _ q => nomatch q) rfl rfl rfl (by decide) ⟨⟨nle rfl, nle rfl⟩, nle rfl, nle rfl⟩ ?_
          intro v243 h244 hq245 _
          obtain ⟨rfl, rfl⟩ := hq245
          show WlO _ _ _ _ _ _ _ _ _ _ _ _ _ _ _ _ _ _ [.ref x197]
          refine Wl.aload 194 at_192 rfl rfl ?_
          refine Wl.acmp 197 true at_194 rfl rfl (decide_eq_true rfl) ?_
          refine Wl.aload 199 at_197 rfl rfl ?_
          refine Wl.virtual 202 (argsL := []) at_199 (w69 hw) (w70 hw) (w72 hw) (w71 hw) (w36 hw) (w73 hw) (nf_sel (w72 hw) rfl) X98 (show parseMethodDescriptor "()Z" = some ⟨[], some .boolean⟩ by decide +kernel) rfl (isWhole_met hw (v0 := .null) (v1 := .ref x106) (v2 := .ref x197) rfl rfl rfl F99 F100 F101) (fun _ q => nomatch q) rfl rfl rfl (by decide) ⟨⟨nle rfl, nle rfl⟩, nle rfl, nle rfl⟩ ?_
          intro v246 h247 hq248 _
          obtain ⟨rfl, rfl⟩ := hq248
          show WlO _ _ _ _ _ _ _ _ _ _ _ _ _ _ _ _ _ _ [.int (0 : Int32)]
          refine Wl.iload 204 at_202 rfl ?_
          refine Wl.icmpN 207 at_204 (teq (by decide)).2 ?_
          refine Wl.iconst 208 (1 : Int32) at_207 (by decide) ?_
          refine Wl.goto 212 at_208 ?_
          exact Wl.ireturn at_212 rfl rfl (by simp) (nle rfl) (nle rfl) rfl
        · refine Wl.ifnullN 150 at_147 ?_
          refine Wl.aload 152 at_150 rfl rfl ?_
          refine Wl.ifnullN 155 at_152 ?_
          refine Wl.aload 157 at_155 rfl rfl ?_
          refine Wl.ifnullN 160 at_157 ?_
          refine Wl.iconst 161 (1 : Int32) at_160 (by decide) ?_
          refine Wl.goto 165 at_161 ?_
          refine Wl.istore 167 #[.val (.int i0), .val (.int i1), .val (.int i2), .val (.int i3), .val (.null), .val (.ref x236), .val (.ref x106), .val (u25), .val (.ref x197), .val (u39), .val (.ref a43), .val (.ref a66), .val (.ref a96), .val (.ref x236), .val (.ref x106), .val (.ref x197), .val (.int (1 : Int32))] at_165 rfl ?_
          refine Wl.aload 169 at_167 rfl rfl ?_
          refine Wl.virtual 172 (argsL := []) at_169 (w54 hw) (w55 hw) (w57 hw) (w56 hw) (w36 hw) (w58 hw) (nf_sel (w57 hw) rfl) X98 (show parseMethodDescriptor "()Ljava/lang/String;" = some ⟨[], some (.object "java/lang/String")⟩ by decide +kernel) rfl (getType_met hw (v0 := .ref x236) rfl F99) (fun _ q => nomatch q) rfl rfl rfl (by decide) ⟨⟨nle rfl, nle rfl⟩, nle rfl, nle rfl⟩ ?_
          intro v249 h250 hq251 _
          obtain ⟨rfl, rfl⟩ := hq251
          show WlO _ _ _ _ _ _ _ _ _ _ _ _ _ _ _ _ _ _ [.ref x236]
          refine Wl.aload 174 at_172 rfl rfl ?_
          refine Wl.acmp 177 true at_174 rfl rfl (decide_eq_true rfl) ?_
          refine Wl.aload 179 at_177 rfl rfl ?_
          refine Wl.virtual 182 (argsL := []) at_179 (w59 hw) (w60 hw) (w62 hw) (w61 hw) (w36 hw) (w63 hw) (nf_sel (w62 hw) rfl) X98 (show parseMethodDescriptor "()Ljava/lang/String;" = some ⟨[], some (.object "java/lang/String")⟩ by decide +kernel) rfl (getPlatform_met hw (v0 := .ref x106) rfl F100) (fun _ q => nomatch q) rfl rfl rfl (by decide) ⟨⟨nle rfl, nle rfl⟩, nle rfl, nle rfl⟩ ?_
          intro v252 h253 hq254 _
          obtain ⟨rfl, rfl⟩ := hq254
          show WlO _ _ _ _ _ _ _ _ _ _ _ _ _ _ _ _ _ _ [.ref x106]
          refine Wl.aload 184 at_182 rfl rfl ?_
          refine Wl.acmp 187 true at_184 rfl rfl (decide_eq_true rfl) ?_
          refine Wl.aload 189 at_187 rfl rfl ?_
          refine Wl.virtual 192 (argsL := []) at_189 (w64 hw) (w65 hw) (w67 hw) (w66 hw) (w36 hw) (w68 hw) (nf_sel (w67 hw) rfl) X98 (show parseMethodDescriptor "()Ljava/lang/String;" = some ⟨[], some (.object "java/lang/String")⟩ by decide +kernel) rfl (getTenancy_met hw (v0 := .ref x197) rfl F101) (fun _ q => nomatch q) rfl rfl rfl (by decide) ⟨⟨nle rfl, nle rfl⟩, nle rfl, nle rfl⟩ ?_
          intro v255 h256 hq257 _
          obtain ⟨rfl, rfl⟩ := hq257
          show WlO _ _ _ _ _ _ _ _ _ _ _ _ _ _ _ _ _ _ [.ref x197]
          refine Wl.aload 194 at_192 rfl rfl ?_
          refine Wl.acmp 197 true at_194 rfl rfl (decide_eq_true rfl) ?_
          refine Wl.aload 199 at_197 rfl rfl ?_
          refine Wl.virtual 202 (argsL := []) at_199 (w69 hw) (w70 hw) (w72 hw) (w71 hw) (w36 hw) (w73 hw) (nf_sel (w72 hw) rfl) X98 (show parseMethodDescriptor "()Z" = some ⟨[], some .boolean⟩ by decide +kernel) rfl (isWhole_met hw (v0 := .ref x236) (v1 := .ref x106) (v2 := .ref x197) rfl rfl rfl F99 F100 F101) (fun _ q => nomatch q) rfl rfl rfl (by decide) ⟨⟨nle rfl, nle rfl⟩, nle rfl, nle rfl⟩ ?_
          intro v258 h259 hq260 _
          obtain ⟨rfl, rfl⟩ := hq260
          show WlO _ _ _ _ _ _ _ _ _ _ _ _ _ _ _ _ _ _ [.int (1 : Int32)]
          refine Wl.iload 204 at_202 rfl ?_
          refine Wl.icmpN 207 at_204 (teq (by decide)).2 ?_
          refine Wl.iconst 208 (1 : Int32) at_207 (by decide) ?_
          refine Wl.goto 212 at_208 ?_
          exact Wl.ireturn at_212 rfl rfl (by simp) (nle rfl) (nle rfl) rfl
  · refine Wl.ifnullN 108 at_105 ?_
    refine Wl.aload 110 at_108 rfl rfl ?_
    refine Wl.goto 115 at_110 ?_
    refine Wl.astore 117 #[.val (.int i0), .val (.int i1), .val (.int i2), .val (.int i3), .val (.ref x105), .val (u11), .val (u18), .val (u25), .val (u32), .val (u39), .val (.ref a43), .val (.ref a66), .val (.ref a96), .val (.ref x105), .unset, .unset, .unset] at_115 rfl rfl ?_
    refine Wl.aload 119 at_117 rfl r20 ?_
    rcases ref_cases r20 with rfl | ⟨x261, rfl⟩
    · refine Wl.ifnullY 127 at_119 ?_
      refine Wl.aload 129 at_127 rfl r27 ?_
      refine Wl.astore 131 #[.val (.int i0), .val (.int i1), .val (.int i2), .val (.int i3), .val (.ref x105), .val (u11), .val (.null), .val (u25), .val (u32), .val (u39), .val (.ref a43), .val (.ref a66), .val (.ref a96), .val (.ref x105), .val (u25), .unset, .unset] at_129 r27 (XS.store1 (o := .unset) rfl (Or.inl rfl) (ref_cat r27)) ?_
      refine Wl.aload 133 at_131 rfl r34 ?_
      rcases ref_cases r34 with rfl | ⟨x262, rfl⟩
      · refine Wl.ifnullY 141 at_133 ?_
        refine Wl.aload 143 at_141 rfl r41 ?_
        refine Wl.astore 145 #[.val (.int i0), .val (.int i1), .val (.int i2), .val (.int i3), .val (.ref x105), .val (u11), .val (.null), .val (u25), .val (.null), .val (u39), .val (.ref a43), .val (.ref a66), .val (.ref a96), .val (.ref x105), .val (u25), .val (u39), .unset] at_143 r41 (XS.store1 (o := .unset) rfl (Or.inl rfl) (ref_cat r41)) ?_
        refine Wl.aload 147 at_145 rfl rfl ?_
        refine Wl.ifnullN 150 at_147 ?_
        refine Wl.aload 152 at_150 rfl r27 ?_
        rcases ref_cases r27 with rfl | ⟨x263, rfl⟩
        · refine Wl.ifnullY 164 at_152 ?_
          refine Wl.iconst 165 (0 : Int32) at_164 (by decide) ?_
          refine Wl.istore 167 #[.val (.int i0), .val (.int i1), .val (.int i2), .val (.int i3), .val (.ref x105), .val (u11), .val (.null), .val (.null), .val (.null), .val (u39), .val (.ref a43), .val (.ref a66), .val (.ref a96), .val (.ref x105), .val (.null), .val (u39), .val (.int (0 : Int32))] at_165 rfl ?_
          refine Wl.aload 169 at_167 rfl rfl ?_
          refine Wl.virtual 172 (argsL := []) at_169 (w54 hw) (w55 hw) (w57 hw) (w56 hw) (w36 hw) (w58 hw) (nf_sel (w57 hw) rfl) X98 (show parseMethodDescriptor "()Ljava/lang/String;" = some ⟨[], some (.object "java/lang/String")⟩ by decide +kernel) rfl (getType_met hw (v0 := .ref x105) rfl F99) (fun _ q => nomatch q) rfl rfl rfl (by decide) ⟨⟨nle rfl, nle rfl⟩, nle rfl, nle rfl⟩ ?_
          intro v264 h265 hq266 _
          obtain ⟨rfl, rfl⟩ := hq266
          show WlO _ _ _ _ _ _ _ _ _ _ _ _ _ _ _ _ _ _ [.ref x105]
          refine Wl.aload 174 at_172 rfl rfl ?_
          refine Wl.acmp 177 true at_174 rfl rfl (decide_eq_true rfl) ?_
          refine Wl.aload 179 at_177 rfl rfl ?_
          refine Wl.virtual 182 (argsL := []) at_179 (w59 hw) (w60 hw) (w62 hw) (w61 hw) (w36 hw) (w63 hw) (nf_sel (w62 hw) rfl) X98 (show parseMethodDescriptor "()Ljava/lang/String;" = some ⟨[], some (.object "java/lang/String")⟩ by decide +kernel) rfl (getPlatform_met hw (v0 := .null) rfl F100) (fun _ q => nomatch q) rfl rfl rfl (by decide) ⟨⟨nle rfl, nle rfl⟩, nle rfl, nle rfl⟩ ?_
          intro v267 h268 hq269 _
          obtain ⟨rfl, rfl⟩ := hq269
          show WlO _ _ _ _ _ _ _ _ _ _ _ _ _ _ _ _ _ _ [.null]
          refine Wl.aload 184 at_182 rfl rfl ?_
          refine Wl.acmp 187 true at_184 rfl rfl (decide_eq_true rfl) ?_
          refine Wl.aload 189 at_187 rfl rfl ?_
          refine Wl.virtual 192 (argsL := []) at_189 (w64 hw) (w65 hw) (w67 hw) (w66 hw) (w36 hw) (w68 hw) (nf_sel (w67 hw) rfl) X98 (show parseMethodDescriptor "()Ljava/lang/String;" = some ⟨[], some (.object "java/lang/String")⟩ by decide +kernel) rfl (getTenancy_met hw (v0 := u39) r41 F101) (fun _ q => nomatch q) rfl rfl rfl (by decide) ⟨⟨nle rfl, nle rfl⟩, nle rfl, nle rfl⟩ ?_
          intro v270 h271 hq272 _
          obtain ⟨rfl, rfl⟩ := hq272
          show WlO _ _ _ _ _ _ _ _ _ _ _ _ _ _ _ _ _ _ [u39]
          refine Wl.aload 194 at_192 rfl r41 ?_
          refine Wl.acmp 197 true at_194 r41 r41 (decide_eq_true rfl) ?_
          refine Wl.aload 199 at_197 rfl rfl ?_
          refine Wl.virtual 202 (argsL := []) at_199 (w69 hw) (w70 hw) (w72 hw) (w71 hw) (w36 hw) (w73 hw) (nf_sel (w72 hw) rfl) X98 (show parseMethodDescriptor "()Z" = some ⟨[], some .boolean⟩ by decide +kernel) rfl (isWhole_met hw (v0 := .ref x105) (v1 := .null) (v2 := u39) rfl rfl r41 F99 F100 F101) (fun _ q => nomatch q) rfl rfl rfl (by decide) ⟨⟨nle rfl, nle rfl⟩, nle rfl, nle rfl⟩ ?_
          intro v273 h274 hq275 _
          obtain ⟨rfl, rfl⟩ := hq275
          show WlO _ _ _ _ _ _ _ _ _ _ _ _ _ _ _ _ _ _ [.int (0 : Int32)]
          refine Wl.iload 204 at_202 rfl ?_
          refine Wl.icmpN 207 at_204 (teq (by decide)).2 ?_
          refine Wl.iconst 208 (1 : Int32) at_207 (by decide) ?_
          refine Wl.goto 212 at_208 ?_
          exact Wl.ireturn at_212 rfl rfl (by simp) (nle rfl) (nle rfl) rfl
        · refine Wl.ifnullN 155 at_152 ?_
          refine Wl.aload 157 at_155 rfl r41 ?_
          rcases ref_cases r41 with rfl | ⟨x276, rfl⟩
          · refine Wl.ifnullY 164 at_157 ?_
            refine Wl.iconst 165 (0 : Int32) at_164 (by decide) ?_
            refine Wl.istore 167 #[.val (.int i0), .val (.int i1), .val (.int i2), .val (.int i3), .val (.ref x105), .val (u11), .val (.null), .val (.ref x263), .val (.null), .val (.null), .val (.ref a43), .val (.ref a66), .val (.ref a96), .val (.ref x105), .val (.ref x263), .val (.null), .val (.int (0 : Int32))] at_165 rfl ?_
            refine Wl.aload 169 at_167 rfl rfl ?_
            refine Wl.virtual 172 (argsL := []) at_169 (w54 hw) (w55 hw) (w57 hw) (w56 hw) (w36 hw) (w58 hw) (nf_sel (w57 hw) rfl) X98 (show parseMethodDescriptor "()Ljava/lang/String;" = some ⟨[], some (.object "java/lang/String")⟩ by decide +kernel) rfl (getType_met hw (v0 := .ref x105) rfl F99) (fun _ q => nomatch q) rfl rfl rfl (by decide) ⟨⟨nle rfl, nle rfl⟩, nle rfl, nle rfl⟩ ?_
            intro v277 h278 hq279 _
            obtain ⟨rfl, rfl⟩ := hq279
            show WlO _ _ _ _ _ _ _ _ _ _ _ _ _ _ _ _ _ _ [.ref x105]
            refine Wl.aload 174 at_172 rfl rfl ?_
            refine Wl.acmp 177 true at_174 rfl rfl (decide_eq_true rfl) ?_
            refine Wl.aload 179 at_177 rfl rfl ?_
            refine Wl.virtual 182 (argsL := []) at_179 (w59 hw) (w60 hw) (w62 hw) (w61 hw) (w36 hw) (w63 hw) (nf_sel (w62 hw) rfl) X98 (show parseMethodDescriptor "()Ljava/lang/String;" = some ⟨[], some (.object "java/lang/String")⟩ by decide +kernel) rfl (getPlatform_met hw (v0 := .ref x263) rfl F100) (fun _ q => nomatch q) rfl rfl rfl (by decide) ⟨⟨nle rfl, nle rfl⟩, nle rfl, nle rfl⟩ ?_
            intro v280 h281 hq282 _
            obtain ⟨rfl, rfl⟩ := hq282
            show WlO _ _ _ _ _ _ _ _ _ _ _ _ _ _ _ _ _ _ [.ref x263]
            refine Wl.aload 184 at_182 rfl rfl ?_
            refine Wl.acmp 187 true at_184 rfl rfl (decide_eq_true rfl) ?_
            refine Wl.aload 189 at_187 rfl rfl ?_
            refine Wl.virtual 192 (argsL := []) at_189 (w64 hw) (w65 hw) (w67 hw) (w66 hw) (w36 hw) (w68 hw) (nf_sel (w67 hw) rfl) X98 (show parseMethodDescriptor "()Ljava/lang/String;" = some ⟨[], some (.object "java/lang/String")⟩ by decide +kernel) rfl (getTenancy_met hw (v0 := .null) rfl F101) (fun _ q => nomatch q) rfl rfl rfl (by decide) ⟨⟨nle rfl, nle rfl⟩, nle rfl, nle rfl⟩ ?_
            intro v283 h284 hq285 _
            obtain ⟨rfl, rfl⟩ := hq285
            show WlO _ _ _ _ _ _ _ _ _ _ _ _ _ _ _ _ _ _ [.null]
            refine Wl.aload 194 at_192 rfl rfl ?_
            refine Wl.acmp 197 true at_194 rfl rfl (decide_eq_true rfl) ?_
            refine Wl.aload 199 at_197 rfl rfl ?_
            refine Wl.virtual 202 (argsL := []) at_199 (w69 hw) (w70 hw) (w72 hw) (w71 hw) (w36 hw) (w73 hw) (nf_sel (w72 hw) rfl) X98 (show parseMethodDescriptor "()Z" = some ⟨[], some .boolean⟩ by decide +kernel) rfl (isWhole_met hw (v0 := .ref x105) (v1 := .ref x263) (v2 := .null) rfl rfl rfl F99 F100 F101) (fun _ q => nomatch q) rfl rfl rfl (by decide) ⟨⟨nle rfl, nle rfl⟩, nle rfl, nle rfl⟩ ?_
            intro v286 h287 hq288 _
            obtain ⟨rfl, rfl⟩ := hq288
            show WlO _ _ _ _ _ _ _ _ _ _ _ _ _ _ _ _ _ _ [.int (0 : Int32)]
            refine Wl.iload 204 at_202 rfl ?_
            refine Wl.icmpN 207 at_204 (teq (by decide)).2 ?_
            refine Wl.iconst 208 (1 : Int32) at_207 (by decide) ?_
            refine Wl.goto 212 at_208 ?_
            exact Wl.ireturn at_212 rfl rfl (by simp) (nle rfl) (nle rfl) rfl
          · refine Wl.ifnullN 160 at_157 ?_
            refine Wl.iconst 161 (1 : Int32) at_160 (by decide) ?_
            refine Wl.goto 165 at_161 ?_
            refine Wl.istore 167 #[.val (.int i0), .val (.int i1), .val (.int i2), .val (.int i3), .val (.ref x105), .val (u11), .val (.null), .val (.ref x263), .val (.null), .val (.ref x276), .val (.ref a43), .val (.ref a66), .val (.ref a96), .val (.ref x105), .val (.ref x263), .val (.ref x276), .val (.int (1 : Int32))] at_165 rfl ?_
            refine Wl.aload 169 at_167 rfl rfl ?_
            refine Wl.virtual 172 (argsL := []) at_169 (w54 hw) (w55 hw) (w57 hw) (w56 hw) (w36 hw) (w58 hw) (nf_sel (w57 hw) rfl) X98 (show parseMethodDescriptor "()Ljava/lang/String;" = some ⟨[], some (.object "java/lang/String")⟩ by decide +kernel) rfl (getType_met hw (v0 := .ref x105) rfl F99) (fun _ q => nomatch q) rfl rfl rfl (by decide) ⟨⟨nle rfl, nle rfl⟩, nle rfl, nle rfl⟩ ?_
            intro v289 h290 hq291 _
            obtain ⟨rfl, rfl⟩ := hq291
            show WlO _ _ _ _ _ _ _ _ _ _ _ _ _ _ _ _ _ _ [.ref x105]
            refine Wl.aload 174 at_172 rfl rfl ?_
            refine Wl.acmp 177 true at_174 rfl rfl (decide_eq_true rfl) ?_
            refine Wl.aload 179 at_177 rfl rfl ?_
            refine Wl.virtual 182 (argsL := []) at_179 (w59 hw) (w60 hw) (w62 hw) (w61 hw) (w36 hw) (w63 hw) (nf_sel (w62 hw) rfl) X98 (show parseMethodDescriptor "()Ljava/lang/String;" = some ⟨[], some (.object "java/lang/String")⟩ by decide +kernel) rfl (getPlatform_met hw (v0 := .ref x263) rfl F100) (fun _ q => nomatch q) rfl rfl rfl (by decide) ⟨⟨nle rfl, nle rfl⟩, nle rfl, nle rfl⟩ ?_
            intro v292 h293 hq294 _
            obtain ⟨rfl, rfl⟩ := hq294
            show WlO _ _ _ _ _ _ _ _ _ _ _ _ _ _ _ _ _ _ [.ref x263]
            refine Wl.aload 184 at_182 rfl rfl ?_
            refine Wl.acmp 187 true at_184 rfl rfl (decide_eq_true rfl) ?_
            refine Wl.aload 189 at_187 rfl rfl ?_
            refine Wl.virtual 192 (argsL := []) at_189 (w64 hw) (w65 hw) (w67 hw) (w66 hw) (w36 hw) (w68 hw) (nf_sel (w67 hw) rfl) X98 (show parseMethodDescriptor "()Ljava/lang/String;" = some ⟨[], some (.object "java/lang/String")⟩ by decide +kernel) rfl (getTenancy_met hw (v0 := .ref x276) rfl F101) (fun _ q => nomatch q) rfl rfl rfl (by decide) ⟨⟨nle rfl, nle rfl⟩, nle rfl, nle rfl⟩ ?_
            intro v295 h296 hq297 _
            obtain ⟨rfl, rfl⟩ := hq297
            show WlO _ _ _ _ _ _ _ _ _ _ _ _ _ _ _ _ _ _ [.ref x276]
            refine Wl.aload 194 at_192 rfl rfl ?_
            refine Wl.acmp 197 true at_194 rfl rfl (decide_eq_true rfl) ?_
            refine Wl.aload 199 at_197 rfl rfl ?_
            refine Wl.virtual 202 (argsL := []) at_199 (w69 hw) (w70 hw) (w72 hw) (w71 hw) (w36 hw) (w73 hw) (nf_sel (w72 hw) rfl) X98 (show parseMethodDescriptor "()Z" = some ⟨[], some .boolean⟩ by decide +kernel) rfl (isWhole_met hw (v0 := .ref x105) (v1 := .ref x263) (v2 := .ref x276) rfl rfl rfl F99 F100 F101) (fun _ q => nomatch q) rfl rfl rfl (by decide) ⟨⟨nle rfl, nle rfl⟩, nle rfl, nle rfl⟩ ?_
            intro v298 h299 hq300 _
            obtain ⟨rfl, rfl⟩ := hq300
            show WlO _ _ _ _ _ _ _ _ _ _ _ _ _ _ _ _ _ _ [.int (1 : Int32)]
            refine Wl.iload 204 at_202 rfl ?_
            refine Wl.icmpN 207 at_204 (teq (by decide)).2 ?_
            refine Wl.iconst 208 (1 : Int32) at_207 (by decide) ?_
            refine Wl.goto 212 at_208 ?_
            exact Wl.ireturn at_212 rfl rfl (by simp) (nle rfl) (nle rfl) rfl
      · refine Wl.ifnullN 136 at_133 ?_
        refine Wl.aload 138 at_136 rfl rfl ?_
        refine Wl.goto 143 at_138 ?_
        refine Wl.astore 145 #[.val (.int i0), .val (.int i1), .val (.int i2), .val (.int i3), .val (.ref x105), .val (u11), .val (.null), .val (u25), .val (.ref x262), .val (u39), .val (.ref a43), .val (.ref a66), .val (.ref a96), .val (.ref x105), .val (u25), .val (.ref x262), .unset] at_143 rfl rfl ?_
        refine Wl.aload 147 at_145 rfl rfl ?_
        refine Wl.ifnullN 150 at_147 ?_
        refine Wl.aload 152 at_150 rfl r27 ?_
        rcases ref_cases r27 with rfl | ⟨x301, rfl⟩
        · refine Wl.ifnullY 164 at_152 ?_
          refine Wl.iconst 165 (0 : Int32) at_164 (by decide) ?_
          refine Wl.istore 167 #[.val (.int i0), .val (.int i1), .val (.int i2), .val (.int i3), .val (.ref x105), .val (u11), .val (.null), .val (.null), .val (.ref x262), .val (u39), .val (.ref a43), .val (.ref a66), .val (.ref a96), .val (.ref x105), .val (.null), .val (.ref x262), .val (.int (0 : Int32))] at_165 rfl ?_
          refine Wl.aload 169 at_167 rfl rfl ?_
          refine Wl.virtual 172 (argsL := []) at_169 (w54 hw) (w55 hw) (w57 hw) (w56 hw) (w36 hw) (w58 hw) (nf_sel (w57 hw) rfl) X98 (show parseMethodDescriptor "()Ljava/lang/String;" = some ⟨[], some (.object "java/lang/String")⟩ by decide +kernel) rfl (getType_met hw (v0 := .ref x105) rfl F99) (fun _ q => nomatch q) rfl rfl rfl (by decide) ⟨⟨nle rfl, nle rfl⟩, nle rfl, nle rfl⟩ ?_
          intro v302 h303 hq304 _
          obtain ⟨rfl, rfl⟩ := hq304
          show WlO _ _ _ _ _ _ _ _ _ _ _ _ _ _ _ _ _ _ [.ref x105]
          refine Wl.aload 174 at_172 rfl rfl ?_
          refine Wl.acmp 177 true at_174 rfl rfl (decide_eq_true rfl) ?_
          refine Wl.aload 179 at_177 rfl rfl ?_
          refine Wl.virtual 182 (argsL := []) at_179 (w59 hw) (w60 hw) (w62 hw) (w61 hw) (w36 hw) (w63 hw) (nf_sel (w62 hw) rfl) X98 (show parseMethodDescriptor "()Ljava/lang/String;" = some ⟨[], some (.object "java/lang/String")⟩ by decide +kernel) rfl (getPlatform_met hw (v0 := .null) rfl F100) (fun _ q => nomatch q) rfl rfl rfl (by decide) ⟨⟨nle rfl, nle rfl⟩, nle rfl, nle rfl⟩ ?_
          intro v305 h306 hq307 _
          obtain ⟨rfl, rfl⟩ := hq307
          show WlO _ _ _ _ _ _ _ _ _ _ _ _ _ _ _ _ _ _ [.null]
          refine Wl.aload 184 at_182 rfl rfl ?_
          refine Wl.acmp 187 true at_184 rfl rfl (decide_eq_true rfl) ?_
          refine Wl.aload 189 at_187 rfl rfl ?_
          refine Wl.virtual 192 (argsL := []) at_189 (w64 hw) (w65 hw) (w67 hw) (w66 hw) (w36 hw) (w68 hw) (nf_sel (w67 hw) rfl) X98 (show parseMethodDescriptor "()Ljava/lang/String;" = some ⟨[], some (.object "java/lang/String")⟩ by decide +kernel) rfl (getTenancy_met hw (v0 := .ref x262) rfl F101) (fun _ q => nomatch q) rfl rfl rfl (by decide) ⟨⟨nle rfl, nle rfl⟩, nle rfl, nle rfl⟩ ?_
          intro v308 h309 hq310 _
          obtain ⟨rfl, rfl⟩ := hq310
          show WlO _ _ _ _ _ _ _ _ _ _ _ _ _ _ _ _ _ _ [.ref x262]
          refine Wl.aload 194 at_192 rfl rfl ?_
          refine Wl.acmp 197 true at_194 rfl rfl (decide_eq_true rfl) ?_
          refine Wl.aload 199 at_197 rfl rfl ?_
          refine Wl.virtual 202 (argsL := []) at_199 (w69 hw) (w70 hw) (w72 hw) (w71 hw) (w36 hw) (w73 hw) (nf_sel (w72 hw) rfl) X98 (show parseMethodDescriptor "()Z" = some ⟨[], some .boolean⟩ by decide +kernel) rfl (isWhole_met hw (v0 := .ref x105) (v1 := .null) (v2 := .ref x262) rfl rfl rfl F99 F100 F101) (fun _ q => nomatch q) rfl rfl rfl (by decide) ⟨⟨nle rfl, nle rfl⟩, nle rfl, nle rfl⟩ ?_
          intro v311 h312 hq313 _
          obtain ⟨rfl, rfl⟩ := hq313
          show WlO _ _ _ _ _ _ _ _ _ _ _ _ _ _ _ _ _ _ [.int (0 : Int32)]
          refine Wl.iload 204 at_202 rfl ?_
          refine Wl.icmpN 207 at_204 (teq (by decide)).2 ?_
          refine Wl.iconst 208 (1 : Int32) at_207 (by decide) ?_
          refine Wl.goto 212 at_208 ?_
          exact Wl.ireturn at_212 rfl rfl (by simp) (nle rfl) (nle rfl) rfl
        · refine Wl.ifnullN 155 at_152 ?_
          refine Wl.aload 157 at_155 rfl rfl ?_
          refine Wl.ifnullN 160 at_157 ?_
          refine Wl.iconst 161 (1 : Int32) at_160 (by decide) ?_
          refine Wl.goto 165 at_161 ?_
          refine Wl.istore 167 #[.val (.int i0), .val (.int i1), .val (.int i2), .val (.int i3), .val (.ref x105), .val (u11), .val (.null), .val (.ref x301), .val (.ref x262), .val (u39), .val (.ref a43), .val (.ref a66), .val (.ref a96), .val (.ref x105), .val (.ref x301), .val (.ref x262), .val (.int (1 : Int32))] at_165 rfl ?_
          refine Wl.aload 169 at_167 rfl rfl ?_
          refine Wl.virtual 172 (argsL := []) at_169 (w54 hw) (w55 hw) (w57 hw) (w56 hw) (w36 hw) (w58 hw) (nf_sel (w57 hw) rfl) X98 (show parseMethodDescriptor "()Ljava/lang/String;" = some ⟨[], some (.object "java/lang/String")⟩ by decide +kernel) rfl (getType_met hw (v0 := .ref x105) rfl F99) (fun _ q => nomatch q) rfl rfl rfl (by decide) ⟨⟨nle rfl, nle rfl⟩, nle rfl, nle rfl⟩ ?_
          intro v314 h315 hq316 _
          obtain ⟨rfl, rfl⟩ := hq316
          show WlO _ _ _ _ _ _ _ _ _ _ _ _ _ _ _ _ _ _ [.ref x105]
          refine Wl.aload 174 at_172 rfl rfl ?_
          refine Wl.acmp 177 true at_174 rfl rfl (decide_eq_true rfl) ?_
          refine Wl.aload 179 at_177 rfl rfl ?_
          refine Wl.virtual 182 (argsL := []) at_179 (w59 hw) (w60 hw) (w62 hw) (w61 hw) (w36 hw) (w63 hw) (nf_sel (w62 hw) rfl) X98 (show parseMethodDescriptor "()Ljava/lang/String;" = some ⟨[], some (.object "java/lang/String")⟩ by decide +kernel) rfl (getPlatform_met hw (v0 := .ref x301) rfl F100) (fun _ q => nomatch q) rfl rfl rfl (by decide) ⟨⟨nle rfl, nle rfl⟩, nle rfl, nle rfl⟩ ?_
          intro v317 h318 hq319 _
          obtain ⟨rfl, rfl⟩ := hq319
          show WlO _ _ _ _ _ _ _ _ _ _ _ _ _ _ _ _ _ _ [.ref x301]
          refine Wl.aload 184 at_182 rfl rfl ?_
          refine Wl.acmp 187 true at_184 rfl rfl (decide_eq_true rfl) ?_
          refine Wl.aload 189 at_187 rfl rfl ?_
          refine Wl.virtual 192 (argsL := []) at_189 (w64 hw) (w65 hw) (w67 hw) (w66 hw) (w36 hw) (w68 hw) (nf_sel (w67 hw) rfl) X98 (show parseMethodDescriptor "()Ljava/lang/String;" = some ⟨[], some (.object "java/lang/String")⟩ by decide +kernel) rfl (getTenancy_met hw (v0 := .ref x262) rfl F101) (fun _ q => nomatch q) rfl rfl rfl (by decide) ⟨⟨nle rfl, nle rfl⟩, nle rfl, nle rfl⟩ ?_
          intro v320 h321 hq322 _
          obtain ⟨rfl, rfl⟩ := hq322
          show WlO _ _ _ _ _ _ _ _ _ _ _ _ _ _ _ _ _ _ [.ref x262]
          refine Wl.aload 194 at_192 rfl rfl ?_
          refine Wl.acmp 197 true at_194 rfl rfl (decide_eq_true rfl) ?_
          refine Wl.aload 199 at_197 rfl rfl ?_
          refine Wl.virtual 202 (argsL := []) at_199 (w69 hw) (w70 hw) (w72 hw) (w71 hw) (w36 hw) (w73 hw) (nf_sel (w72 hw) rfl) X98 (show parseMethodDescriptor "()Z" = some ⟨[], some .boolean⟩ by decide +kernel) rfl (isWhole_met hw (v0 := .ref x105) (v1 := .ref x301) (v2 := .ref x262) rfl rfl rfl F99 F100 F101) (fun _ q => nomatch q) rfl rfl rfl (by decide) ⟨⟨nle rfl, nle rfl⟩, nle rfl, nle rfl⟩ ?_
          intro v323 h324 hq325 _
          obtain ⟨rfl, rfl⟩ := hq325
          show WlO _ _ _ _ _ _ _ _ _ _ _ _ _ _ _ _ _ _ [.int (1 : Int32)]
          refine Wl.iload 204 at_202 rfl ?_
          refine Wl.icmpN 207 at_204 (teq (by decide)).2 ?_
          refine Wl.iconst 208 (1 : Int32) at_207 (by decide) ?_
          refine Wl.goto 212 at_208 ?_
          exact Wl.ireturn at_212 rfl rfl (by simp) (nle rfl) (nle rfl) rfl
    · refine Wl.ifnullN 122 at_119 ?_
      refine Wl.aload 124 at_122 rfl rfl ?_
      refine Wl.goto 129 at_124 ?_
      refine Wl.astore 131 #[.val (.int i0), .val (.int i1), .val (.int i2), .val (.int i3), .val (.ref x105), .val (u11), .val (.ref x261), .val (u25), .val (u32), .val (u39), .val (.ref a43), .val (.ref a66), .val (.ref a96), .val (.ref x105), .val (.ref x261), .unset, .unset] at_129 rfl rfl ?_
      refine Wl.aload 133 at_131 rfl r34 ?_
      rcases ref_cases r34 with rfl | ⟨x326, rfl⟩
      · refine Wl.ifnullY 141 at_133 ?_
        refine Wl.aload 143 at_141 rfl r41 ?_
        refine Wl.astore 145 #[.val (.int i0), .val (.int i1), .val (.int i2), .val (.int i3), .val (.ref x105), .val (u11), .val (.ref x261), .val (u25), .val (.null), .val (u39), .val (.ref a43), .val (.ref a66), .val (.ref a96), .val (.ref x105), .val (.ref x261), .val (u39), .unset] at_143 r41 (XS.store1 (o := .unset) rfl (Or.inl rfl) (ref_cat r41)) ?_
        refine Wl.aload 147 at_145 rfl rfl ?_
        refine Wl.ifnullN 150 at_147 ?_
        refine Wl.aload 152 at_150 rfl rfl ?_
        refine Wl.ifnullN 155 at_152 ?_
        refine Wl.aload 157 at_155 rfl r41 ?_
        rcases ref_cases r41 with rfl | ⟨x327, rfl⟩
        · refine Wl.ifnullY 164 at_157 ?_
          refine Wl.iconst 165 (0 : Int32) at_164 (by decide) ?_
          refine Wl.istore 167 #[.val (.int i0), .val (.int i1), .val (.int i2), .val (.int i3), .val (.ref x105), .val (u11), .val (.ref x261), .val (u25), .val (.null), .val (.null), .val (.ref a43), .val (.ref a66), .val (.ref a96), .val (.ref x105), .val (.ref x261), .val (.null), .val (.int (0 : Int32))] at_165 rfl ?_
          refine Wl.aload 169 at_167 rfl rfl ?_
          refine Wl.virtual 172 (argsL := []) at_169 (w54 hw) (w55 hw) (w57 hw) (w56 hw) (w36 hw) (w58 hw) (nf_sel (w57 hw) rfl) X98 (show parseMethodDescriptor "()Ljava/lang/String;" = some ⟨[], some (.object "java/lang/String")⟩ by decide +kernel) rfl (getType_met hw (v0 := .ref x105) rfl F99) (fun _ q => nomatch q) rfl rfl rfl (by decide) ⟨⟨nle rfl, nle rfl⟩, nle rfl, nle rfl⟩ ?_
          intro v328 h329 hq330 _
          obtain ⟨rfl, rfl⟩ := hq330
          show WlO _ _ _ _ _ _ _ _ _ _ _ _ _ _ _ _ _ _ [.ref x105]
          refine Wl.aload 174 at_172 rfl rfl ?_
          refine Wl.acmp 177 true at_174 rfl rfl (decide_eq_true rfl) ?_
          refine Wl.aload 179 at_177 rfl rfl ?_
          refine Wl.virtual 182 (argsL := []) at_179 (w59 hw) (w60 hw) (w62 hw) (w61 hw) (w36 hw) (w63 hw) (nf_sel (w62 hw) rfl) X98 (show parseMethodDescriptor "()Ljava/lang/String;" = some ⟨[], some (.object "java/lang/String")⟩ by decide +kernel) rfl (getPlatform_met hw (v0 := .ref x261) rfl F100) (fun _ q => nomatch q) rfl rfl rfl (by decide) ⟨⟨nle rfl, nle rfl⟩, nle rfl, nle rfl⟩ ?_
          intro v331 h332 hq333 _
          obtain ⟨rfl, rfl⟩ := hq333
          show WlO _ _ _ _ _ _ _ _ _ _ _ _ _ _ _ _ _ _ [.ref x261]
          refine Wl.aload 184 at_182 rfl rfl ?_
          refine Wl.acmp 187 true at_184 rfl rfl (decide_eq_true rfl) ?_
          refine Wl.aload 189 at_187 rfl rfl ?_
          refine Wl.virtual 192 (argsL := []) at_189 (w64 hw) (w65 hw) (w67 hw) (w66 hw) (w36 hw) (w68 hw) (nf_sel (w67 hw) rfl) X98 (show parseMethodDescriptor "()Ljava/lang/String;" = some ⟨[], some (.object "java/lang/String")⟩ by decide +kernel) rfl (getTenancy_met hw (v0 := .null) rfl F101) (fun _ q => nomatch q) rfl rfl rfl (by decide) ⟨⟨nle rfl, nle rfl⟩, nle rfl, nle rfl⟩ ?_
          intro v334 h335 hq336 _
          obtain ⟨rfl, rfl⟩ := hq336
          show WlO _ _ _ _ _ _ _ _ _ _ _ _ _ _ _ _ _ _ [.null]
          refine Wl.aload 194 at_192 rfl rfl ?_
          refine Wl.acmp 197 true at_194 rfl rfl (decide_eq_true rfl) ?_
          refine Wl.aload 199 at_197 rfl rfl ?_
          refine Wl.virtual 202 (argsL := []) at_199 (w69 hw) (w70 hw) (w72 hw) (w71 hw) (w36 hw) (w73 hw) (nf_sel (w72 hw) rfl) X98 (show parseMethodDescriptor "()Z" = some ⟨[], some .boolean⟩ by decide +kernel) rfl (isWhole_met hw (v0 := .ref x105) (v1 := .ref x261) (v2 := .null) rfl rfl rfl F99 F100 F101) (fun _ q => nomatch q) rfl rfl rfl (by decide) ⟨⟨nle rfl, nle rfl⟩, nle rfl, nle rfl⟩ ?_
          intro v337 h338 hq339 _
          obtain ⟨rfl, rfl⟩ := hq339
          show WlO _ _ _ _ _ _ _ _ _ _ _ _ _ _ _ _ _ _ [.int (0 : Int32)]
          refine Wl.iload 204 at_202 rfl ?_
          refine Wl.icmpN 207 at_204 (teq (by decide)).2 ?_
          refine Wl.iconst 208 (1 : Int32) at_207 (by decide) ?_
          refine Wl.goto 212 at_208 ?_
          exact Wl.ireturn at_212 rfl rfl (by simp) (nle rfl) (nle rfl) rfl
        · refine Wl.ifnullN 160 at_157 ?_
          refine Wl.iconst 161 (1 : Int32) at_160 (by decide) ?_
          refine Wl.goto 165 at_161 ?_
          refine Wl.istore 167 #[.val (.int i0), .val (.int i1), .val (.int i2), .val (.int i3), .val (.ref x105), .val (u11), .val (.ref x261), .val (u25), .val (.null), .val (.ref x327), .val (.ref a43), .val (.ref a66), .val (.ref a96), .val (.ref x105), .val (.ref x261), .val (.ref x327), .val (.int (1 : Int32))] at_165 rfl ?_
          refine Wl.aload 169 at_167 rfl rfl ?_
          refine Wl.virtual 172 (argsL := []) at_169 (w54 hw) (w55 hw) (w57 hw) (w56 hw) (w36 hw) (w58 hw) (nf_sel (w57 hw) rfl) X98 (show parseMethodDescriptor "()Ljava/lang/String;" = some ⟨[], some (.object "java/lang/String")⟩ by decide +kernel) rfl (getType_met hw (v0 := .ref x105) rfl F99) (fun _ q => nomatch q) rfl rfl rfl (by decide) ⟨⟨nle rfl, nle rfl⟩, nle rfl, nle rfl⟩ ?_
          intro v340 h341 hq342 _
          obtain ⟨rfl, rfl⟩ := hq342
          show WlO _ _ _ _ _ _ _ _ _ _ _ _ _ _ _ _ _ _ [.ref x105]
          refine Wl.aload 174 at_172 rfl rfl ?_
          refine Wl.acmp 177 true at_174 rfl rfl (decide_eq_true rfl) ?_
          refine Wl.aload 179 at_177 rfl rfl ?_
          refine Wl.virtual 182 (argsL := []) at_179 (w59 hw) (w60 hw) (w62 hw) (w61 hw) (w36 hw) (w63 hw) (nf_sel (w62 hw) rfl) X98 (show parseMethodDescriptor "()Ljava/lang/String;" = some ⟨[], some (.object "java/lang/String")⟩ by decide +kernel) rfl (getPlatform_met hw (v0 := .ref x261) rfl F100) (fun _ q => nomatch q) rfl rfl rfl (by decide) ⟨⟨nle rfl, nle rfl⟩, nle rfl, nle rfl⟩ ?_
          intro v343 h344 hq345 _
          obtain ⟨rfl, rfl⟩ := hq345
          show WlO _ _ _ _ _ _ _ _ _ _ _ _ _ _ _ _ _ _ [.ref x261]
          refine Wl.aload 184 at_182 rfl rfl ?_
          refine Wl.acmp 187 true at_184 rfl rfl (decide_eq_true rfl) ?_
          refine Wl.aload 189 at_187 rfl rfl ?_
          refine Wl.virtual 192 (argsL := []) at_189 (w64 hw) (w65 hw) (w67 hw) (w66 hw) (w36 hw) (w68 hw) (nf_sel (w67 hw) rfl) X98 (show parseMethodDescriptor "()Ljava/lang/String;" = some ⟨[], some (.object "java/lang/String")⟩ by decide +kernel) rfl (getTenancy_met hw (v0 := .ref x327) rfl F101) (fun _ q => nomatch q) rfl rfl rfl (by decide) ⟨⟨nle rfl, nle rfl⟩, nle rfl, nle rfl⟩ ?_
          intro v346 h347 hq348 _
          obtain ⟨rfl, rfl⟩ := hq348
          show WlO _ _ _ _ _ _ _ _ _ _ _ _ _ _ _ _ _ _ [.ref x327]
          refine Wl.aload 194 at_192 rfl rfl ?_
          refine Wl.acmp 197 true at_194 rfl rfl (decide_eq_true rfl) ?_
          refine Wl.aload 199 at_197 rfl rfl ?_
          refine Wl.virtual 202 (argsL := []) at_199 (w69 hw) (w70 hw) (w72 hw) (w71 hw) (w36 hw) (w73 hw) (nf_sel (w72 hw) rfl) X98 (show parseMethodDescriptor "()Z" = some ⟨[], some .boolean⟩ by decide +kernel) rfl (isWhole_met hw (v0 := .ref x105) (v1 := .ref x261) (v2 := .ref x327) rfl rfl rfl F99 F100 F101) (fun _ q => nomatch q) rfl rfl rfl (by decide) ⟨⟨nle rfl, nle rfl⟩, nle rfl, nle rfl⟩ ?_
          intro v349 h350 hq351 _
          obtain ⟨rfl, rfl⟩ := hq351
          show WlO _ _ _ _ _ _ _ _ _ _ _ _ _ _ _ _ _ _ [.int (1 : Int32)]
          refine Wl.iload 204 at_202 rfl ?_
          refine Wl.icmpN 207 at_204 (teq (by decide)).2 ?_
          refine Wl.iconst 208 (1 : Int32) at_207 (by decide) ?_
          refine Wl.goto 212 at_208 ?_
          exact Wl.ireturn at_212 rfl rfl (by simp) (nle rfl) (nle rfl) rfl
      · refine Wl.ifnullN 136 at_133 ?_
        refine Wl.aload 138 at_136 rfl rfl ?_
        refine Wl.goto 143 at_138 ?_
        refine Wl.astore 145 #[.val (.int i0), .val (.int i1), .val (.int i2), .val (.int i3), .val (.ref x105), .val (u11), .val (.ref x261), .val (u25), .val (.ref x326), .val (u39), .val (.ref a43), .val (.ref a66), .val (.ref a96), .val (.ref x105), .val (.ref x261), .val (.ref x326), .unset] at_143 rfl rfl ?_
        refine Wl.aload 147 at_145 rfl rfl ?_
        refine Wl.ifnullN 150 at_147 ?_
        refine Wl.aload 152 at_150 rfl rfl ?_
        refine Wl.ifnullN 155 at_152 ?_
        refine Wl.aload 157 at_155 rfl rfl ?_
        refine Wl.ifnullN 160 at_157 ?_
        refine Wl.iconst 161 (1 : Int32) at_160 (by decide) ?_
        refine Wl.goto 165 at_161 ?_
        refine Wl.istore 167 #[.val (.int i0), .val (.int i1), .val (.int i2), .val (.int i3), .val (.ref x105), .val (u11), .val (.ref x261), .val (u25), .val (.ref x326), .val (u39), .val (.ref a43), .val (.ref a66), .val (.ref a96), .val (.ref x105), .val (.ref x261), .val (.ref x326), .val (.int (1 : Int32))] at_165 rfl ?_
        refine Wl.aload 169 at_167 rfl rfl ?_
        refine Wl.virtual 172 (argsL := []) at_169 (w54 hw) (w55 hw) (w57 hw) (w56 hw) (w36 hw) (w58 hw) (nf_sel (w57 hw) rfl) X98 (show parseMethodDescriptor "()Ljava/lang/String;" = some ⟨[], some (.object "java/lang/String")⟩ by decide +kernel) rfl (getType_met hw (v0 := .ref x105) rfl F99) (fun _ q => nomatch q) rfl rfl rfl (by decide) ⟨⟨nle rfl, nle rfl⟩, nle rfl, nle rfl⟩ ?_
        intro v352 h353 hq354 _
        obtain ⟨rfl, rfl⟩ := hq354
        show WlO _ _ _ _ _ _ _ _ _ _ _ _ _ _ _ _ _ _ [.ref x105]
        refine Wl.aload 174 at_172 rfl rfl ?_
        refine Wl.acmp 177 true at_174 rfl rfl (decide_eq_true rfl) ?_
        refine Wl.aload 179 at_177 rfl rfl ?_
        refine Wl.virtual 182 (argsL := []) at_179 (w59 hw) (w60 hw) (w62 hw) (w61 hw) (w36 hw) (w63 hw) (nf_sel (w62 hw) rfl) X98 (show parseMethodDescriptor "()Ljava/lang/String;" = some ⟨[], some (.object "java/lang/String")⟩ by decide +kernel) rfl (getPlatform_met hw (v0 := .ref x261) rfl F100) (fun _ q => nomatch q) rfl rfl rfl (by decide) ⟨⟨nle rfl, nle rfl⟩, nle rfl, nle rfl⟩ ?_
        intro v355 h356 hq357 _
        obtain ⟨rfl, rfl⟩ := hq357
        show WlO _ _ _ _ _ _ _ _ _ _ _ _ _ _ _ _ _ _ [.ref x261]
        refine Wl.aload 184 at_182 rfl rfl ?_
        refine Wl.acmp 187 true at_184 rfl rfl (decide_eq_true rfl) ?_
        refine Wl.aload 189 at_187 rfl rfl ?_
        refine Wl.virtual 192 (argsL := []) at_189 (w64 hw) (w65 hw) (w67 hw) (w66 hw) (w36 hw) (w68 hw) (nf_sel (w67 hw) rfl) X98 (show parseMethodDescriptor "()Ljava/lang/String;" = some ⟨[], some (.object "java/lang/String")⟩ by decide +kernel) rfl (getTenancy_met hw (v0 := .ref x326) rfl F101) (fun _ q => nomatch q) rfl rfl rfl (by decide) ⟨⟨nle rfl, nle rfl⟩, nle rfl, nle rfl⟩ ?_
        intro v358 h359 hq360 _
        obtain ⟨rfl, rfl⟩ := hq360
        show WlO _ _ _ _ _ _ _ _ _ _ _ _ _ _ _ _ _ _ [.ref x326]
        refine Wl.aload 194 at_192 rfl rfl ?_
        refine Wl.acmp 197 true at_194 rfl rfl (decide_eq_true rfl) ?_
        refine Wl.aload 199 at_197 rfl rfl ?_
        refine Wl.virtual 202 (argsL := []) at_199 (w69 hw) (w70 hw) (w72 hw) (w71 hw) (w36 hw) (w73 hw) (nf_sel (w72 hw) rfl) X98 (show parseMethodDescriptor "()Z" = some ⟨[], some .boolean⟩ by decide +kernel) rfl (isWhole_met hw (v0 := .ref x105) (v1 := .ref x261) (v2 := .ref x326) rfl rfl rfl F99 F100 F101) (fun _ q => nomatch q) rfl rfl rfl (by decide) ⟨⟨nle rfl, nle rfl⟩, nle rfl, nle rfl⟩ ?_
        intro v361 h362 hq363 _
        obtain ⟨rfl, rfl⟩ := hq363
        show WlO _ _ _ _ _ _ _ _ _ _ _ _ _ _ _ _ _ _ [.int (1 : Int32)]
        refine Wl.iload 204 at_202 rfl ?_
        refine Wl.icmpN 207 at_204 (teq (by decide)).2 ?_
        refine Wl.iconst 208 (1 : Int32) at_207 (by decide) ?_
        refine Wl.goto 212 at_208 ?_
        exact Wl.ireturn at_212 rfl rfl (by simp) (nle rfl) (nle rfl) rfl
/-! from the case's words to the law's walk, and the owed theorems -/
set_option maxRecDepth 65536 in
set_option maxHeartbeats 40000000 in
theorem comes_1 {Post : Tables → Env → Array Value → State → Outcome → State → Prop} (hpost : ∀ tb e args s v u, (limb_1_1.after args s (.returned v) u = true ∧ limb_1_2.after args s (.returned v) u = true ∧ True) → FrameEnd s (.returned v) u (Jvm.fieldLocs frame_1_writes args s ++ Jvm.arrayLocs frame_1_arrays args s ++ Jvm.staticLocs frame_1_statics s) 56 192 → Post tb e args s (.returned v) u) :
    ArmFor flags0 classFile x code maxLocals ret World_1 tables_1 room_1 Calls_1 rest_1 Pre_1 Post := by
  intro l hfl _ _ p e ha hc hk s m args below hf hA hF happ hP
  obtain ⟨hcalls, hrest, hpre⟩ := hP
  obtain ⟨-, -, -, hnamed, -, -, -, hat⟩ := (Spec.applies_iff hf).mp happ
  obtain ⟨hg, hn⟩ := and_e (Cond.before_iff.mp (show (Jvm.Cond.and given_1 narrow_1).before args s = true from hpre))
  obtain ⟨g0, r0⟩ := and_e hg
  obtain ⟨g1, r1⟩ := and_e r0
  obtain ⟨g2, r2⟩ := and_e r1
  obtain ⟨g3, r3⟩ := and_e r2
  obtain ⟨w0_, w1_, w2_, w3_, rfl⟩ : ∃ w0_ w1_ w2_ w3_ : Value, args = #[w0_, w1_, w2_, w3_] := by
    have hs : args.size = 4 := by simpa [Cond.value, given_1] using g0
    obtain ⟨L⟩ := args
    match L, hs with
    | [w0_, w1_, w2_, w3_], _ => exact ⟨w0_, w1_, w2_, w3_, rfl⟩
  have hw := fun d (hd : d ∈ tables_1) => atoms_spec (ws := Jvm.Cond.code x code maxLocals ret :: tables_1) hat d (List.mem_cons_of_mem _ hd)
  obtain ⟨hsets, hown0⟩ := atoms_of _ (rest_1_c_eq ▸ (show rest_1_c.before _ s = true from hrest))
  obtain ⟨i0, ei0⟩ := is_v g1
  obtain rfl : w0_ = (.int i0) := Option.some.inj ei0
  obtain ⟨i1, ei1⟩ := is_v g2
  obtain rfl : w1_ = (.int i1) := Option.some.inj ei1
  obtain ⟨i2, ei2⟩ := is_v g3
  obtain rfl : w2_ = (.int i2) := Option.some.inj ei2
  obtain ⟨i3, ei3⟩ := is_v r3
  obtain rfl : w3_ = (.int i3) := Option.some.inj ei3
  have hcw : Jvm.Lit.compactW.before _ s = true := hsets _ (List.mem_of_getElem? (i := 2) rfl)
  have hcs : CSon s := by
    obtain ⟨cst, ev⟩ := is_v (Cond.before_iff.mp (hsets _ (List.mem_of_getElem? (i := 1) rfl)))
    refine ⟨cst, Sta.start ev (Or.inl (hsets _ (List.mem_of_getElem? (i := 0) rfl))), fun q => ?_⟩
    have h1 := not_v (Cond.before_iff.mp (hsets _ (List.mem_of_getElem? (i := 2) rfl)))
    rw [eq_i ev (Term.int_eval 0) (by rw [q])] at h1
    cases h1

  obtain ⟨n, o, h1, h2, h3, v, L, rfl, ⟨hq, N⟩, -, hE, hH, -⟩ := law_met (l := l) (Z := s) hw hcs i0 i1 i2 i3  p e ha hc hk s m _ below hf ((Spec.applies_iff_loose hf).mp happ).1 ⟨rfl, State.Warmed39.refl s, rfl, (fun q hq => nomatch hq), ext_rfl _, Mine.nil⟩ trivial
  subst hq
  exact ⟨n, _, h1, h2, h3, hpost _ _ _ _ _ _ ⟨Cond.after_iff.mpr rfl, Cond.after_iff.mpr (eq_i res_at (Term.int_eval (1)) rfl), trivial⟩ ⟨hE.1, hH rfl, (hE.2.2.2.sift fun y hy => Or.inr (N y hy)).mono (by decide) (by decide)⟩⟩
theorem main_1_1 : Claimed_1_1 := comes_1 fun _ _ _ _ _ _ h hF => ⟨h.1, hF⟩
theorem main_1_2 : Claimed_1_2 := comes_1 fun _ _ _ _ _ _ h hF => ⟨h.2.1, hF⟩

end Jvm.Pilot.@@N@@
namespace Jvm.Pilot.@@N@@
open Jvm Jvm.ClassFile Sem Op Lib Jvm.Free Jvm.Stand Jvm.Pilot.@@N@@.Jvm.D
/-! MADE BY PROGRAM (witnessworld.py) out of the Statement's table words and the real class files: 20 classes; the members and pool entries that the words name. The judged class is class 1, her method 1. -/
namespace start1
open Jvm.ClassFile
def u (s : String) : CpInfo := .utf8 (stringToUtf16 s)
/-- a pool by its gaps: so many unusable entries, then the entry; so many at the end -/
def gap : Nat → List CpInfo → List CpInfo
  | 0, r => r
  | n + 1, r => .unusable :: gap n r
def poolList (es : List (Nat × CpInfo)) (last : Nat) : List CpInfo := es.foldr (fun e r => gap e.1 (e.2 :: r)) (gap last [])
def pool (es : List (Nat × CpInfo)) (last : Nat) : Array CpInfo := ⟨poolList es last⟩
def fileOf (pool : Array CpInfo) (this : Nat) (attrs : Array Attribute := #[]) (ms : Array MethodInfo := #[]) (fl : Nat := 33) (sup : Nat := 0) (ifs : Array Nat := #[]) (fds : Array FieldInfo := #[]) : ClassFile where
  minorVersion := 0
  majorVersion := 65
  constantPool := pool
  accessFlags := fl
  thisClass := this
  superClass := sup
  interfaces := ifs
  fields := fds
  methods := ms
  attributes := attrs
def plain (name : String) (sup : Option ClassId) : Class where
  name := name
  kind := .ordinary
  loader := none
  accessFlags := 33
  super := sup
  interfaces := #[]
  cf := none
  fields := #[]
  methods := #[]
  instanceTypes := #[]
  staticTypes := #[]
  resolved := #[]
  callSites := []
  init := .initialized
  statics := none
  mirror := none

def pool0 : Array CpInfo := pool [(5, u "<init>"), (0, u "()V"), (1, .class_ 10), (1, u "java/lang/Object")] 113

def k0c0 : Code := { maxStack := 0, maxLocals := 1, code := object_method_1_code, exceptionTable := #[], attributes := #[] }
def k0m0 : Method := { name := "<init>", desc := "()V", sig := { parameters := [], returnType := none }, accessFlags := 1, code := some k0c0 }
/-- java/lang/Object -/
def k0 : Class := { plain "java/lang/Object" none with
  accessFlags := 33
  interfaces := #[]
  cf := some (fileOf pool0 8 #[] #[{ accessFlags := 1, nameIndex := 5, descriptorIndex := 6, attributes := #[] }] 33 0 #[] #[])
  fields := #[]
  methods := #[k0m0]
  instanceTypes := #[]
  staticTypes := #[]
  resolved := Array.replicate 124 none
  statics := none }

def pool1 : Array CpInfo := pool [(2, .class_ 4), (1, u "java/lang/Object"), (0, u "<init>"), (0, u "()V"), (0, .methodref 8 9), (0, .class_ 10), (0, .nameAndType 11 12), (0, u "com/example/tallyfold/tallyfold/io/InstanceOrElsePinLaw"), (0, u "drawn"), (0, u "(III)Ljava/lang/String;"), (0, .class_ 14), (0, u "com/example/tallyfold/tallyfold/io/Instance"), (0, .methodref 13 16), (0, .nameAndType 5 17), (0, u "(Ljava/lang/String;Ljava/lang/String;Ljava/lang/String;)V"), (0, .methodref 13 19), (0, .nameAndType 20 21), (0, u "orElse"), (0, u "(Lcom/example/tallyfold/tallyfold/io/Instance;)Lcom/example/tallyfold/tallyfold/io/Instance;"), (0, .methodref 13 23), (0, .nameAndType 24 25), (0, u "getType"), (0, u "()Ljava/lang/String;"), (0, .methodref 13 27), (0, .nameAndType 28 25), (0, u "getPlatform"), (0, .methodref 13 30), (0, .nameAndType 31 25), (0, u "getTenancy"), (0, .methodref 13 33), (0, .nameAndType 34 35), (0, u "isWhole"), (0, u "()Z"), (0, .class_ 37), (0, u "java/lang/String"), (0, .methodref 36 39), (0, .nameAndType 5 40), (0, u "([C)V"), (2, u "law"), (0, u "(IIII)Z")] 3

def k1m0 : Method := { name := "<init>", desc := "()V", sig := { parameters := [], returnType := none }, accessFlags := 2, code := none }
def k1c1 : Code := { maxStack := 5, maxLocals := 17, code := code, exceptionTable := #[], attributes := #[] }
def k1m1 : Method := { name := "law", desc := "(IIII)Z", sig := { parameters := [.int, .int, .int, .int], returnType := some .boolean }, accessFlags := 9, code := some k1c1 }
def k1c2 : Code := { maxStack := 4, maxLocals := 4, code := method_3_code, exceptionTable := #[], attributes := #[] }
def k1m2 : Method := { name := "drawn", desc := "(III)Ljava/lang/String;", sig := { parameters := [.int, .int, .int], returnType := some (.object "java/lang/String") }, accessFlags := 10, code := some k1c2 }
/-- com/example/tallyfold/tallyfold/io/InstanceOrElsePinLaw -/
def k1 : Class := { plain "com/example/tallyfold/tallyfold/io/InstanceOrElsePinLaw" (some 0) with
  accessFlags := 49
  interfaces := #[]
  cf := some (fileOf pool1 8 #[] #[{ accessFlags := 2, nameIndex := 5, descriptorIndex := 6, attributes := #[] }, { accessFlags := 9, nameIndex := 43, descriptorIndex := 44, attributes := #[] }, { accessFlags := 10, nameIndex := 11, descriptorIndex := 12, attributes := #[] }] 49 2 #[] #[])
  fields := #[]
  methods := #[k1m0, k1m1, k1m2]
  instanceTypes := #[]
  staticTypes := #[]
  resolved := Array.replicate 48 none
  statics := none }

def pool2 : Array CpInfo := pool [(1, .class_ 2), (0, u "java/io/Serializable"), (0, .class_ 4), (0, u "java/lang/Object")] 2

/-- java/io/Serializable -/
def k2 : Class := { plain "java/io/Serializable" (some 0) with
  accessFlags := 1537
  interfaces := #[]
  cf := some (fileOf pool2 1 #[] #[] 1537 3 #[] #[])
  fields := #[]
  methods := #[]
  instanceTypes := #[]
  staticTypes := #[]
  resolved := Array.replicate 7 none
  statics := none }

def pool3 : Array CpInfo := pool [(1, .class_ 2), (0, u "java/lang/Comparable"), (0, .class_ 4), (0, u "java/lang/Object")] 7

/-- java/lang/Comparable -/
def k3 : Class := { plain "java/lang/Comparable" (some 0) with
  accessFlags := 1537
  interfaces := #[]
  cf := some (fileOf pool3 1 #[] #[] 1537 3 #[] #[])
  fields := #[]
  methods := #[]
  instanceTypes := #[]
  staticTypes := #[]
  resolved := Array.replicate 12 none
  statics := none }

def pool4 : Array CpInfo := pool [(2, .class_ 4), (1, u "java/lang/CharSequence"), (42, .class_ 48), (0, u "java/lang/CharSequence$1CodePointIterator"), (10, .class_ 60), (0, u "java/lang/CharSequence$1CharIterator"), (5, .class_ 67), (0, u "java/lang/Object")] 63

/-- java/lang/CharSequence -/
def k4 : Class := { plain "java/lang/CharSequence" (some 0) with
  accessFlags := 1537
  interfaces := #[]
  cf := some (fileOf pool4 2 #[.nestMembers #[47, 59]] #[] 1537 66 #[] #[])
  fields := #[]
  methods := #[]
  instanceTypes := #[]
  staticTypes := #[]
  resolved := Array.replicate 131 none
  statics := none }

def pool5 : Array CpInfo := pool [(1, .class_ 2), (0, u "java/lang/constant/Constable"), (0, .class_ 4), (0, u "java/lang/Object")] 6

/-- java/lang/constant/Constable -/
def k5 : Class := { plain "java/lang/constant/Constable" (some 0) with
  accessFlags := 1537
  interfaces := #[]
  cf := some (fileOf pool5 1 #[] #[] 1537 3 #[] #[])
  fields := #[]
  methods := #[]
  instanceTypes := #[]
  staticTypes := #[]
  resolved := Array.replicate 11 none
  statics := none }

def pool6 : Array CpInfo := pool [(1, .class_ 2), (0, u "java/lang/constant/ConstantDesc"), (0, .class_ 4), (0, u "java/lang/Object")] 32

/-- java/lang/constant/ConstantDesc -/
def k6 : Class := { plain "java/lang/constant/ConstantDesc" (some 0) with
  accessFlags := 1537
  interfaces := #[]
  cf := some (fileOf pool6 1 #[] #[] 1537 3 #[] #[])
  fields := #[]
  methods := #[]
  instanceTypes := #[]
  staticTypes := #[]
  resolved := Array.replicate 37 none
  statics := none }

def pool7 : Array CpInfo := pool [(1, .methodref 2 3), (0, .class_ 4), (0, .nameAndType 5 6), (0, u "java/lang/Object"), (0, u "<init>"), (0, u "()V"), (2, .fieldref 10 11), (0, .class_ 12), (0, .nameAndType 13 14), (0, u "java/lang/String"), (0, u "value"), (0, u "[B"), (0, .fieldref 10 16), (0, .nameAndType 17 18), (0, u "coder"), (0, u "B"), (2, u "hash"), (0, u "I"), (2, u "hashIsZero"), (0, u "Z"), (0, .methodref 10 28), (0, .nameAndType 5 29), (0, u "([CIILjava/lang/Void;)V"), (8, .fieldref 10 39), (0, .nameAndType 40 26), (0, u "COMPACT_STRINGS"), (1, .class_ 44), (1, u "java/lang/StringUTF16"), (0, u "compress"), (1, .methodref 42 48), (0, .nameAndType 49 50), (0, u "coderFromArrayLen"), (0, u "([BI)B"), (126, .methodref 42 178), (0, .nameAndType 45 179), (0, u "([CII)[B"), (395, .class_ 576), (0, u "java/lang/CharSequence"), (22, u "CASE_INSENSITIVE_ORDER"), (0, u "Ljava/util/Comparator;"), (409, u "([C)V"), (90, u "serialPersistentFields"), (0, u "[Ljava/io/ObjectStreamField;"), (0, .class_ 1104), (0, u "java/lang/String$CaseInsensitiveComparator"), (1, .class_ 1107), (0, u "java/io/Serializable"), (0, .class_ 1109), (0, u "java/lang/Comparable"), (0, .class_ 1111), (0, u "java/lang/constant/Constable"), (0, .class_ 1113), (0, u "java/lang/constant/ConstantDesc"), (2, u "serialVersionUID"), (0, u "J"), (3, u "REPL"), (0, u "C"), (2, u "LATIN1"), (1, u "UTF16")] 323

def k7m0 : Method := { name := "<init>", desc := "()V", sig := { parameters := [], returnType := none }, accessFlags := 1, code := none }
def k7c1 : Code := { maxStack := 5, maxLocals := 2, code := jdk_42_method_3_code, exceptionTable := #[], attributes := #[] }
def k7m1 : Method := { name := "<init>", desc := "([C)V", sig := { parameters := [(.array .char)], returnType := none }, accessFlags := 1, code := some k7c1 }
def k7c2 : Code := { maxStack := 4, maxLocals := 6, code := jdk_42_method_149_code, exceptionTable := #[], attributes := #[] }
def k7m2 : Method := { name := "<init>", desc := "([CIILjava/lang/Void;)V", sig := { parameters := [(.array .char), .int, .int, (.object "java/lang/Void")], returnType := none }, accessFlags := 2, code := some k7c2 }
/-- java/lang/String -/
def k7 : Class := { plain "java/lang/String" (some 0) with
  accessFlags := 49
  interfaces := #[2, 3, 4, 5, 6]
  cf := some (fileOf pool7 10 #[.nestMembers #[1103]] #[{ accessFlags := 1, nameIndex := 5, descriptorIndex := 6, attributes := #[] }, { accessFlags := 1, nameIndex := 5, descriptorIndex := 1010, attributes := #[] }, { accessFlags := 2, nameIndex := 5, descriptorIndex := 29, attributes := #[] }] 49 2 #[1106, 1108, 575, 1110, 1112] #[{ accessFlags := 18, nameIndex := 13, descriptorIndex := 14, attributes := #[] }, { accessFlags := 18, nameIndex := 17, descriptorIndex := 18, attributes := #[] }, { accessFlags := 2, nameIndex := 21, descriptorIndex := 22, attributes := #[] }, { accessFlags := 2, nameIndex := 25, descriptorIndex := 26, attributes := #[] }, { accessFlags := 26, nameIndex := 1116, descriptorIndex := 1117, attributes := #[] }, { accessFlags := 24, nameIndex := 40, descriptorIndex := 26, attributes := #[] }, { accessFlags := 26, nameIndex := 1101, descriptorIndex := 1102, attributes := #[] }, { accessFlags := 26, nameIndex := 1121, descriptorIndex := 1122, attributes := #[] }, { accessFlags := 25, nameIndex := 599, descriptorIndex := 600, attributes := #[] }, { accessFlags := 24, nameIndex := 1125, descriptorIndex := 18, attributes := #[] }, { accessFlags := 24, nameIndex := 1127, descriptorIndex := 18, attributes := #[] }])
  fields := #[{ name := "value", type := (.array .byte), accessFlags := 18, slot := 0, constantValue := 0 }, { name := "coder", type := .byte, accessFlags := 18, slot := 1, constantValue := 0 }, { name := "hash", type := .int, accessFlags := 2, slot := 2, constantValue := 0 }, { name := "hashIsZero", type := .boolean, accessFlags := 2, slot := 3, constantValue := 0 }, { name := "serialVersionUID", type := .long, accessFlags := 26, slot := 0, constantValue := 0 }, { name := "COMPACT_STRINGS", type := .boolean, accessFlags := 24, slot := 1, constantValue := 0 }, { name := "serialPersistentFields", type := (.array (.object "java/io/ObjectStreamField")), accessFlags := 26, slot := 2, constantValue := 0 }, { name := "REPL", type := .char, accessFlags := 26, slot := 3, constantValue := 0 }, { name := "CASE_INSENSITIVE_ORDER", type := (.object "java/util/Comparator"), accessFlags := 25, slot := 4, constantValue := 0 }, { name := "LATIN1", type := .byte, accessFlags := 24, slot := 5, constantValue := 0 }, { name := "UTF16", type := .byte, accessFlags := 24, slot := 6, constantValue := 0 }]
  methods := #[k7m0, k7m1, k7m2]
  instanceTypes := #[(.array .byte), .byte, .int, .boolean]
  staticTypes := #[.long, .boolean, (.array (.object "java/io/ObjectStreamField")), .char, (.object "java/util/Comparator"), .byte, .byte]
  resolved := Array.replicate 1451 none
  statics := some 0 }

def pool8 : Array CpInfo := pool [(6, .class_ 8), (1, u "java/lang/Object"), (0, u "<init>"), (0, u "()V"), (1, .class_ 14), (1, u "java/lang/StringUTF16"), (31, u "$assertionsDisabled"), (0, u "Z"), (13, u "HI_BYTE_SHIFT"), (0, u "I"), (2, u "LO_BYTE_SHIFT"), (49, .methodref 12 116), (0, .nameAndType 117 118), (0, u "compress"), (0, u "([CI[BII)I"), (3, u "([CII)[B"), (138, u "coderFromArrayLen"), (0, u "([BI)B"), (106, .class_ 371), (1, u "java/lang/StringUTF16$LinesSpliterator"), (58, u "MAX_LENGTH"), (196, .class_ 628), (0, u "java/lang/StringUTF16$CodePointsSpliterator"), (0, .class_ 630), (0, u "java/lang/StringUTF16$CharsSpliterator")] 4

def k8m0 : Method := { name := "<init>", desc := "()V", sig := { parameters := [], returnType := none }, accessFlags := 0, code := none }
def k8c1 : Code := { maxStack := 2, maxLocals := 2, code := jdk_52_method_15_code, exceptionTable := #[], attributes := #[] }
def k8m1 : Method := { name := "coderFromArrayLen", desc := "([BI)B", sig := { parameters := [(.array .byte), .int], returnType := some .byte }, accessFlags := 8, code := some k8c1 }
def k8c2 : Code := { maxStack := 5, maxLocals := 6, code := jdk_52_method_16_code, exceptionTable := #[], attributes := #[] }
def k8m2 : Method := { name := "compress", desc := "([CII)[B", sig := { parameters := [(.array .char), .int, .int], returnType := some (.array .byte) }, accessFlags := 9, code := some k8c2 }
def k8c3 : Code := { maxStack := 3, maxLocals := 7, code := jdk_52_method_21_code, exceptionTable := #[], attributes := #[] }
def k8m3 : Method := { name := "compress", desc := "([CI[BII)I", sig := { parameters := [(.array .char), .int, (.array .byte), .int, .int], returnType := some .int }, accessFlags := 9, code := some k8c3 }
/-- java/lang/StringUTF16 -/
def k8 : Class := { plain "java/lang/StringUTF16" (some 0) with
  accessFlags := 48
  interfaces := #[]
  cf := some (fileOf pool8 12 #[.nestMembers #[627, 629, 369]] #[{ accessFlags := 0, nameIndex := 9, descriptorIndex := 10, attributes := #[] }, { accessFlags := 8, nameIndex := 261, descriptorIndex := 262, attributes := #[] }, { accessFlags := 9, nameIndex := 117, descriptorIndex := 122, attributes := #[] }, { accessFlags := 9, nameIndex := 117, descriptorIndex := 118, attributes := #[] }] 48 6 #[] #[{ accessFlags := 26, nameIndex := 61, descriptorIndex := 62, attributes := #[] }, { accessFlags := 26, nameIndex := 65, descriptorIndex := 62, attributes := #[] }, { accessFlags := 24, nameIndex := 430, descriptorIndex := 62, attributes := #[] }, { accessFlags := 4120, nameIndex := 46, descriptorIndex := 47, attributes := #[] }])
  fields := #[{ name := "HI_BYTE_SHIFT", type := .int, accessFlags := 26, slot := 0, constantValue := 0 }, { name := "LO_BYTE_SHIFT", type := .int, accessFlags := 26, slot := 1, constantValue := 0 }, { name := "MAX_LENGTH", type := .int, accessFlags := 24, slot := 2, constantValue := 0 }, { name := "$assertionsDisabled", type := .boolean, accessFlags := 4120, slot := 3, constantValue := 0 }]
  methods := #[k8m0, k8m1, k8m2, k8m3]
  instanceTypes := #[]
  staticTypes := #[.int, .int, .int, .boolean]
  resolved := Array.replicate 635 none
  statics := none }

def pool9 : Array CpInfo := pool [(3, .methodref 4 5), (0, .class_ 6), (0, .nameAndType 7 8), (0, u "java/lang/Object"), (0, u "<init>"), (0, u "()V"), (0, .fieldref 10 11), (0, .class_ 12), (0, .nameAndType 13 14), (0, u "com/example/tallyfold/tallyfold/io/Instance"), (0, u "type"), (0, u "Ljava/lang/String;"), (0, .fieldref 10 16), (0, .nameAndType 17 14), (0, u "platform"), (0, .fieldref 10 19), (0, .nameAndType 20 14), (0, u "tenancy"), (12, .methodref 10 34), (0, .nameAndType 7 35), (0, u "(Ljava/lang/String;Ljava/lang/String;Ljava/lang/String;)V"), (2, u "UNKNOWN"), (0, u "Lcom/example/tallyfold/tallyfold/io/Instance;"), (0, u "LINUX_UNIX"), (7, u "isWhole"), (0, u "()Z"), (1, u "orElse"), (0, u "(Lcom/example/tallyfold/tallyfold/io/Instance;)Lcom/example/tallyfold/tallyfold/io/Instance;"), (2, u "getType"), (0, u "()Ljava/lang/String;"), (0, u "getPlatform"), (0, u "getTenancy")] 3

def k9c0 : Code := { maxStack := 2, maxLocals := 4, code := prog_102_method_1_code, exceptionTable := #[], attributes := #[] }
def k9m0 : Method := { name := "<init>", desc := "(Ljava/lang/String;Ljava/lang/String;Ljava/lang/String;)V", sig := { parameters := [(.object "java/lang/String"), (.object "java/lang/String"), (.object "java/lang/String")], returnType := none }, accessFlags := 0, code := some k9c0 }
def k9c1 : Code := { maxStack := 1, maxLocals := 1, code := prog_102_method_3_code, exceptionTable := #[], attributes := #[] }
def k9m1 : Method := { name := "isWhole", desc := "()Z", sig := { parameters := [], returnType := some .boolean }, accessFlags := 0, code := some k9c1 }
def k9c2 : Code := { maxStack := 5, maxLocals := 2, code := prog_102_method_4_code, exceptionTable := #[], attributes := #[] }
def k9m2 : Method := { name := "orElse", desc := "(Lcom/example/tallyfold/tallyfold/io/Instance;)Lcom/example/tallyfold/tallyfold/io/Instance;", sig := { parameters := [(.object "com/example/tallyfold/tallyfold/io/Instance")], returnType := some (.object "com/example/tallyfold/tallyfold/io/Instance") }, accessFlags := 0, code := some k9c2 }
def k9c3 : Code := { maxStack := 1, maxLocals := 1, code := prog_102_method_5_code, exceptionTable := #[], attributes := #[] }
def k9m3 : Method := { name := "getType", desc := "()Ljava/lang/String;", sig := { parameters := [], returnType := some (.object "java/lang/String") }, accessFlags := 0, code := some k9c3 }
def k9c4 : Code := { maxStack := 1, maxLocals := 1, code := prog_102_method_6_code, exceptionTable := #[], attributes := #[] }
def k9m4 : Method := { name := "getPlatform", desc := "()Ljava/lang/String;", sig := { parameters := [], returnType := some (.object "java/lang/String") }, accessFlags := 0, code := some k9c4 }
def k9c5 : Code := { maxStack := 1, maxLocals := 1, code := prog_102_method_7_code, exceptionTable := #[], attributes := #[] }
def k9m5 : Method := { name := "getTenancy", desc := "()Ljava/lang/String;", sig := { parameters := [], returnType := some (.object "java/lang/String") }, accessFlags := 0, code := some k9c5 }
/-- com/example/tallyfold/tallyfold/io/Instance -/
def k9 : Class := { plain "com/example/tallyfold/tallyfold/io/Instance" (some 0) with
  accessFlags := 48
  interfaces := #[]
  cf := some (fileOf pool9 10 #[] #[{ accessFlags := 0, nameIndex := 7, descriptorIndex := 35, attributes := #[] }, { accessFlags := 0, nameIndex := 48, descriptorIndex := 49, attributes := #[] }, { accessFlags := 0, nameIndex := 51, descriptorIndex := 52, attributes := #[] }, { accessFlags := 0, nameIndex := 55, descriptorIndex := 56, attributes := #[] }, { accessFlags := 0, nameIndex := 57, descriptorIndex := 56, attributes := #[] }, { accessFlags := 0, nameIndex := 58, descriptorIndex := 56, attributes := #[] }] 48 4 #[] #[{ accessFlags := 24, nameIndex := 40, descriptorIndex := 14, attributes := #[] }, { accessFlags := 24, nameIndex := 38, descriptorIndex := 39, attributes := #[] }, { accessFlags := 18, nameIndex := 13, descriptorIndex := 14, attributes := #[] }, { accessFlags := 18, nameIndex := 17, descriptorIndex := 14, attributes := #[] }, { accessFlags := 18, nameIndex := 20, descriptorIndex := 14, attributes := #[] }])
  fields := #[{ name := "LINUX_UNIX", type := (.object "java/lang/String"), accessFlags := 24, slot := 0, constantValue := 0 }, { name := "UNKNOWN", type := (.object "com/example/tallyfold/tallyfold/io/Instance"), accessFlags := 24, slot := 1, constantValue := 0 }, { name := "type", type := (.object "java/lang/String"), accessFlags := 18, slot := 0, constantValue := 0 }, { name := "platform", type := (.object "java/lang/String"), accessFlags := 18, slot := 1, constantValue := 0 }, { name := "tenancy", type := (.object "java/lang/String"), accessFlags := 18, slot := 2, constantValue := 0 }]
  methods := #[k9m0, k9m1, k9m2, k9m3, k9m4, k9m5]
  instanceTypes := #[(.object "java/lang/String"), (.object "java/lang/String"), (.object "java/lang/String")]
  staticTypes := #[(.object "java/lang/String"), (.object "com/example/tallyfold/tallyfold/io/Instance")]
  resolved := Array.replicate 62 none
  statics := none }

def pool10 : Array CpInfo := pool [(4, .class_ 6), (1, u "java/lang/Object"), (0, u "<init>"), (0, u "()V"), (5, .class_ 16), (1, u "java/lang/StringLatin1"), (104, u "$assertionsDisabled"), (0, u "Z"), (98, .class_ 223), (1, u "java/lang/StringLatin1$LinesSpliterator"), (166, .class_ 391), (0, u "java/lang/StringLatin1$CharsSpliterator")] 3

def k10m0 : Method := { name := "<init>", desc := "()V", sig := { parameters := [], returnType := none }, accessFlags := 0, code := none }
/-- java/lang/StringLatin1 -/
def k10 : Class := { plain "java/lang/StringLatin1" (some 0) with
  accessFlags := 48
  interfaces := #[]
  cf := some (fileOf pool10 14 #[.nestMembers #[390, 221]] #[{ accessFlags := 0, nameIndex := 7, descriptorIndex := 8, attributes := #[] }] 48 4 #[] #[{ accessFlags := 4120, nameIndex := 121, descriptorIndex := 122, attributes := #[] }])
  fields := #[{ name := "$assertionsDisabled", type := .boolean, accessFlags := 4120, slot := 0, constantValue := 0 }]
  methods := #[k10m0]
  instanceTypes := #[]
  staticTypes := #[.boolean]
  resolved := Array.replicate 395 none
  statics := none }

def pool11 : Array CpInfo := pool [(2, .class_ 4), (1, u "java/lang/Object"), (0, u "<init>"), (0, u "()V"), (17, .class_ 26), (1, u "jdk/internal/util/Preconditions"), (28, .class_ 56), (0, u "jdk/internal/util/Preconditions$4"), (57, .class_ 115), (0, u "jdk/internal/util/Preconditions$1"), (7, u "SIOOBE_FORMATTER"), (0, u "Ljava/util/function/BiFunction;"), (0, .class_ 126), (0, u "jdk/internal/util/Preconditions$2"), (3, u "AIOOBE_FORMATTER"), (0, .class_ 132), (0, u "jdk/internal/util/Preconditions$3"), (3, u "IOOBE_FORMATTER")] 57

def k11m0 : Method := { name := "<init>", desc := "()V", sig := { parameters := [], returnType := none }, accessFlags := 1, code := none }
/-- jdk/internal/util/Preconditions -/
def k11 : Class := { plain "jdk/internal/util/Preconditions" (some 0) with
  accessFlags := 33
  interfaces := #[]
  cf := some (fileOf pool11 24 #[.nestMembers #[55, 131, 125, 114]] #[{ accessFlags := 1, nameIndex := 5, descriptorIndex := 6, attributes := #[] }] 33 2 #[] #[{ accessFlags := 25, nameIndex := 123, descriptorIndex := 124, attributes := #[] }, { accessFlags := 25, nameIndex := 130, descriptorIndex := 124, attributes := #[] }, { accessFlags := 25, nameIndex := 136, descriptorIndex := 124, attributes := #[] }])
  fields := #[{ name := "SIOOBE_FORMATTER", type := (.object "java/util/function/BiFunction"), accessFlags := 25, slot := 0, constantValue := 0 }, { name := "AIOOBE_FORMATTER", type := (.object "java/util/function/BiFunction"), accessFlags := 25, slot := 1, constantValue := 0 }, { name := "IOOBE_FORMATTER", type := (.object "java/util/function/BiFunction"), accessFlags := 25, slot := 2, constantValue := 0 }]
  methods := #[k11m0]
  instanceTypes := #[]
  staticTypes := #[(.object "java/util/function/BiFunction"), (.object "java/util/function/BiFunction"), (.object "java/util/function/BiFunction")]
  resolved := Array.replicate 194 none
  statics := some 1 }

def pool12 : Array CpInfo := pool [(9, u "<init>"), (6, .class_ 18), (1, u "java/lang/Object"), (0, u "()V"), (1, .class_ 23), (1, u "jdk/internal/util/ArraysSupport"), (0, u "LOG2_ARRAY_LONG_INDEX_SCALE"), (0, u "I"), (2, u "U"), (0, u "Ljdk/internal/misc/Unsafe;"), (8, u "BIG_ENDIAN"), (0, u "Z"), (8, u "LOG2_BYTE_BIT_SIZE"), (4, u "LOG2_ARRAY_INT_INDEX_SCALE"), (54, u "JLA"), (0, u "Ljdk/internal/access/JavaLangAccess;"), (11, u "LOG2_ARRAY_BOOLEAN_INDEX_SCALE"), (9, u "LOG2_ARRAY_BYTE_INDEX_SCALE"), (5, u "LOG2_ARRAY_CHAR_INDEX_SCALE"), (5, u "LOG2_ARRAY_SHORT_INDEX_SCALE"), (18, u "LOG2_ARRAY_FLOAT_INDEX_SCALE"), (24, u "LOG2_ARRAY_DOUBLE_INDEX_SCALE"), (89, u "T_BOOLEAN"), (2, u "T_CHAR"), (1, u "T_FLOAT"), (1, u "T_DOUBLE"), (1, u "T_BYTE"), (1, u "T_SHORT"), (1, u "T_INT"), (1, u "T_LONG"), (1, u "SOFT_MAX_ARRAY_LENGTH")] 83

def k12m0 : Method := { name := "<init>", desc := "()V", sig := { parameters := [], returnType := none }, accessFlags := 2, code := none }
/-- jdk/internal/util/ArraysSupport -/
def k12 : Class := { plain "jdk/internal/util/ArraysSupport" (some 0) with
  accessFlags := 33
  interfaces := #[]
  cf := some (fileOf pool12 21 #[] #[{ accessFlags := 2, nameIndex := 9, descriptorIndex := 19, attributes := #[] }] 33 16 #[] #[{ accessFlags := 24, nameIndex := 28, descriptorIndex := 29, attributes := #[] }, { accessFlags := 26, nameIndex := 38, descriptorIndex := 39, attributes := #[] }, { accessFlags := 25, nameIndex := 121, descriptorIndex := 25, attributes := #[] }, { accessFlags := 25, nameIndex := 131, descriptorIndex := 25, attributes := #[] }, { accessFlags := 25, nameIndex := 137, descriptorIndex := 25, attributes := #[] }, { accessFlags := 25, nameIndex := 143, descriptorIndex := 25, attributes := #[] }, { accessFlags := 25, nameIndex := 53, descriptorIndex := 25, attributes := #[] }, { accessFlags := 25, nameIndex := 24, descriptorIndex := 25, attributes := #[] }, { accessFlags := 25, nameIndex := 162, descriptorIndex := 25, attributes := #[] }, { accessFlags := 25, nameIndex := 187, descriptorIndex := 25, attributes := #[] }, { accessFlags := 26, nameIndex := 48, descriptorIndex := 25, attributes := #[] }, { accessFlags := 25, nameIndex := 277, descriptorIndex := 25, attributes := #[] }, { accessFlags := 25, nameIndex := 280, descriptorIndex := 25, attributes := #[] }, { accessFlags := 25, nameIndex := 282, descriptorIndex := 25, attributes := #[] }, { accessFlags := 25, nameIndex := 284, descriptorIndex := 25, attributes := #[] }, { accessFlags := 25, nameIndex := 286, descriptorIndex := 25, attributes := #[] }, { accessFlags := 25, nameIndex := 288, descriptorIndex := 25, attributes := #[] }, { accessFlags := 25, nameIndex := 290, descriptorIndex := 25, attributes := #[] }, { accessFlags := 25, nameIndex := 292, descriptorIndex := 25, attributes := #[] }, { accessFlags := 26, nameIndex := 108, descriptorIndex := 109, attributes := #[] }, { accessFlags := 25, nameIndex := 294, descriptorIndex := 25, attributes := #[] }])
  fields := #[{ name := "U", type := (.object "jdk/internal/misc/Unsafe"), accessFlags := 24, slot := 0, constantValue := 0 }, { name := "BIG_ENDIAN", type := .boolean, accessFlags := 26, slot := 1, constantValue := 0 }, { name := "LOG2_ARRAY_BOOLEAN_INDEX_SCALE", type := .int, accessFlags := 25, slot := 2, constantValue := 0 }, { name := "LOG2_ARRAY_BYTE_INDEX_SCALE", type := .int, accessFlags := 25, slot := 3, constantValue := 0 }, { name := "LOG2_ARRAY_CHAR_INDEX_SCALE", type := .int, accessFlags := 25, slot := 4, constantValue := 0 }, { name := "LOG2_ARRAY_SHORT_INDEX_SCALE", type := .int, accessFlags := 25, slot := 5, constantValue := 0 }, { name := "LOG2_ARRAY_INT_INDEX_SCALE", type := .int, accessFlags := 25, slot := 6, constantValue := 0 }, { name := "LOG2_ARRAY_LONG_INDEX_SCALE", type := .int, accessFlags := 25, slot := 7, constantValue := 0 }, { name := "LOG2_ARRAY_FLOAT_INDEX_SCALE", type := .int, accessFlags := 25, slot := 8, constantValue := 0 }, { name := "LOG2_ARRAY_DOUBLE_INDEX_SCALE", type := .int, accessFlags := 25, slot := 9, constantValue := 0 }, { name := "LOG2_BYTE_BIT_SIZE", type := .int, accessFlags := 26, slot := 10, constantValue := 0 }, { name := "T_BOOLEAN", type := .int, accessFlags := 25, slot := 11, constantValue := 0 }, { name := "T_CHAR", type := .int, accessFlags := 25, slot := 12, constantValue := 0 }, { name := "T_FLOAT", type := .int, accessFlags := 25, slot := 13, constantValue := 0 }, { name := "T_DOUBLE", type := .int, accessFlags := 25, slot := 14, constantValue := 0 }, { name := "T_BYTE", type := .int, accessFlags := 25, slot := 15, constantValue := 0 }, { name := "T_SHORT", type := .int, accessFlags := 25, slot := 16, constantValue := 0 }, { name := "T_INT", type := .int, accessFlags := 25, slot := 17, constantValue := 0 }, { name := "T_LONG", type := .int, accessFlags := 25, slot := 18, constantValue := 0 }, { name := "JLA", type := (.object "jdk/internal/access/JavaLangAccess"), accessFlags := 26, slot := 19, constantValue := 0 }, { name := "SOFT_MAX_ARRAY_LENGTH", type := .int, accessFlags := 25, slot := 20, constantValue := 0 }]
  methods := #[k12m0]
  instanceTypes := #[]
  staticTypes := #[(.object "jdk/internal/misc/Unsafe"), .boolean, .int, .int, .int, .int, .int, .int, .int, .int, .int, .int, .int, .int, .int, .int, .int, .int, .int, (.object "jdk/internal/access/JavaLangAccess"), .int]
  resolved := Array.replicate 378 none
  statics := none }

def pool13 : Array CpInfo := pool [(1, u "java/lang/Cloneable"), (0, .class_ 1), (0, u "java/lang/Object"), (0, .class_ 3)] 3

/-- java/lang/Cloneable -/
def k13 : Class := { plain "java/lang/Cloneable" (some 0) with
  accessFlags := 1537
  interfaces := #[]
  cf := some (fileOf pool13 2 #[] #[] 1537 4 #[] #[])
  fields := #[]
  methods := #[]
  instanceTypes := #[]
  staticTypes := #[]
  resolved := Array.replicate 8 none
  statics := none }

/-- the primitive byte -/
def k14 : Class := { plain "byte" none with kind := .primitive 'B', accessFlags := 0x411 }
/-- [B -/
def k15 : Class := { plain "[B" (some 0) with kind := .array 14 .byte, interfaces := #[13, 2], accessFlags := 1041 }

/-- the primitive char -/
def k16 : Class := { plain "char" none with kind := .primitive 'C', accessFlags := 0x411 }
/-- [C -/
def k17 : Class := { plain "[C" (some 0) with kind := .array 16 .char, interfaces := #[13, 2], accessFlags := 1041 }

/-- the primitive int -/
def k18 : Class := { plain "int" none with kind := .primitive 'I', accessFlags := 0x411 }
/-- [I -/
def k19 : Class := { plain "[I" (some 0) with kind := .array 18 .int, interfaces := #[13, 2], accessFlags := 1041 }

def heap : Heap := #[{ cls := 7, slots := #[.long 0, .int 1, .null, .int 0, .null, .int 0, .int 0], vm := .statics 7 },
  { cls := 11, slots := #[.null, .null, .null], vm := .statics 11 }]
def classes : Array Class := #[k0, k1, k2, k3, k4, k5, k6, k7, k8, k9, k10, k11, k12, k13, k14, k15, k16, k17, k18, k19]
def interned : List (Array UInt16 × Addr) := []
def slotsUsed : Nat := 10
def theMethod : MethodId := ⟨1, 1⟩
def args0 : Array Value := #[.int 5, .int 5, .int 5, .int 5]
def aboutOver (below : List Frame) : State where
  vm := { classes := classes, interned := interned.toArray }
  heap := heap
  slotsUsed := slotsUsed
  threads := #[{ frames := .invoking theMethod args0 :: below }]
def below0 : List Frame := [.native { method := ⟨0, 0⟩, args := #[] }]
def about1 : State := aboutOver below0
def p0 : Program := .bare "" "" ""
def e0 : Env := launch0.env 0 0 0
theorem w_frames : about1.frames = Frame.invoking theMethod args0 :: below0 := rfl
set_option maxRecDepth 65536 in
theorem w_args : argsFit about1.vm theMethod args0 = true := by decide +kernel
set_option maxRecDepth 65536 in
theorem w_heap : heapFits about1 = true := by decide +kernel
set_option maxRecDepth 65536 in
theorem w_runnable : about1.curStatus? = some .runnable := by decide +kernel
set_option maxRecDepth 65536 in
theorem w_alone : about1.alone = true := by decide +kernel
set_option maxRecDepth 65536 in
theorem w_named : about1.methodNamed? x = some theMethod := by decide +kernel
set_option maxRecDepth 65536 in
theorem w_hears : about1.hears theMethod below0 = true := by decide +kernel
set_option maxRecDepth 65536 in
theorem w_ripe : about1.ripe theMethod args0 below0 = true := by decide +kernel
theorem w_running : about1.status = .running := rfl
set_option maxRecDepth 65536 in
theorem w_room : about1.hasRoom e0.platform room_1 = true :=
  launch0.hasRoom_least _ room_1 (by decide +kernel) (by decide +kernel) (by decide +kernel) (by decide +kernel) (by decide +kernel) (by decide +kernel)
theorem allAtoms_all (ts : List Jvm.Cond) (a : Array Jvm.Value) (st : Jvm.State) : (allAtoms ts).before a st = ts.all (fun c => c.before a st) := by
  induction ts with
  | nil => rfl
  | cons c t ih =>
    show (Jvm.Cond.and c (allAtoms t)).before a st = _
    rw [Jvm.Cond.before_and, ih, List.all_cons]
def words1 : List Jvm.Cond := Jvm.Cond.code x code maxLocals ret :: tables_1
/-- a 'code' word, met by the world's own term for the bytes: nothing is compared byte by byte -/
theorem code_word {y : MethodName} {bytes : ByteArray} {mx : Nat} {rt : Option FieldType} {a : Array Value} {s : State} {m : MethodId} {meth : Method} {c : Code} (h1 : s.methodNamed? y = some m) (h2 : s.vm.method? m = some meth) (h3 : meth.code = some c) (h4 : c.code = bytes)
    (h5 : (c.maxLocals == mx && c.exceptionTable.isEmpty && decide (c.maxStack ≤ mostOperands) && decide (meth.sig.returnType = rt) && !meth.locks && decide (parseMethodDescriptor y.desc = some meth.sig)) = true) : (Jvm.Cond.code y bytes mx rt).before a s = true := by
  simp only [Bool.and_eq_true, beq_iff_eq, Bool.not_eq_true', decide_eq_true_eq] at h5
  obtain ⟨⟨⟨⟨⟨g1, g2⟩, g3⟩, g4⟩, g5⟩, g6⟩ := h5
  simp [Cond.before, Cond.holds, Cond.value, h1, h2, h3, h4, g1, g2, g3, g4, g5, g6]
def isCode : Jvm.Cond → Bool
  | .code _ _ _ _ => true
  | _ => false
theorem all_split {L : List Jvm.Cond} {P : Jvm.Cond → Bool} (h1 : L.all (fun c => isCode c || P c) = true) (h2 : ∀ c ∈ L.filter isCode, P c = true) : L.all P = true := by
  refine List.all_eq_true.mpr fun c hc => ?_
  have h := List.all_eq_true.mp h1 c hc
  rcases Bool.eq_false_or_eq_true (isCode c) with hi | hi
  · exact h2 c (List.mem_filter.mpr ⟨hc, hi⟩)
  · simpa [hi] using h
set_option maxRecDepth 65536 in
theorem w_c0 : (Jvm.Cond.code x code maxLocals ret).before args0 about1 = true := code_word (m := ⟨1, 1⟩) (meth := k1m1) (c := k1c1) (by decide +kernel) rfl rfl rfl (by decide +kernel)
set_option maxRecDepth 65536 in
theorem w_c1 : (Jvm.Cond.code ({ cls := "com/example/tallyfold/tallyfold/io/InstanceOrElsePinLaw", name := "drawn", desc := "(III)Ljava/lang/String;" } : Jvm.MethodName) method_3_code (4 : Nat) (Option.some (Jvm.ClassFile.FieldType.object "java/lang/String"))).before args0 about1 = true := code_word (m := ⟨1, 2⟩) (meth := k1m2) (c := k1c2) (by decide +kernel) rfl rfl rfl (by decide +kernel)
set_option maxRecDepth 65536 in
theorem w_c2 : (Jvm.Cond.code ({ cls := "java/lang/String", name := "<init>", desc := "([C)V" } : Jvm.MethodName) jdk_42_method_3_code (2 : Nat) (Option.none : Option Jvm.ClassFile.FieldType)).before args0 about1 = true := code_word (m := ⟨7, 1⟩) (meth := k7m1) (c := k7c1) (by decide +kernel) rfl rfl rfl (by decide +kernel)
set_option maxRecDepth 65536 in
theorem w_c3 : (Jvm.Cond.code ({ cls := "java/lang/String", name := "<init>", desc := "([CIILjava/lang/Void;)V" } : Jvm.MethodName) jdk_42_method_149_code (6 : Nat) (Option.none : Option Jvm.ClassFile.FieldType)).before args0 about1 = true := code_word (m := ⟨7, 2⟩) (meth := k7m2) (c := k7c2) (by decide +kernel) rfl rfl rfl (by decide +kernel)
set_option maxRecDepth 65536 in
theorem w_c4 : (Jvm.Cond.code ({ cls := "java/lang/Object", name := "<init>", desc := "()V" } : Jvm.MethodName) object_method_1_code (1 : Nat) (Option.none : Option Jvm.ClassFile.FieldType)).before args0 about1 = true := code_word (m := ⟨0, 0⟩) (meth := k0m0) (c := k0c0) (by decide +kernel) rfl rfl rfl (by decide +kernel)
set_option maxRecDepth 65536 in
theorem w_c5 : (Jvm.Cond.code ({ cls := "java/lang/StringUTF16", name := "compress", desc := "([CII)[B" } : Jvm.MethodName) jdk_52_method_16_code (6 : Nat) (Option.some (Jvm.ClassFile.FieldType.array Jvm.ClassFile.FieldType.byte))).before args0 about1 = true := code_word (m := ⟨8, 2⟩) (meth := k8m2) (c := k8c2) (by decide +kernel) rfl rfl rfl (by decide +kernel)
set_option maxRecDepth 65536 in
theorem w_c6 : (Jvm.Cond.code ({ cls := "java/lang/StringUTF16", name := "compress", desc := "([CI[BII)I" } : Jvm.MethodName) jdk_52_method_21_code (7 : Nat) (Option.some Jvm.ClassFile.FieldType.int)).before args0 about1 = true := code_word (m := ⟨8, 3⟩) (meth := k8m3) (c := k8c3) (by decide +kernel) rfl rfl rfl (by decide +kernel)
set_option maxRecDepth 65536 in
theorem w_c7 : (Jvm.Cond.code ({ cls := "java/lang/StringUTF16", name := "coderFromArrayLen", desc := "([BI)B" } : Jvm.MethodName) jdk_52_method_15_code (2 : Nat) (Option.some Jvm.ClassFile.FieldType.byte)).before args0 about1 = true := code_word (m := ⟨8, 1⟩) (meth := k8m1) (c := k8c1) (by decide +kernel) rfl rfl rfl (by decide +kernel)
set_option maxRecDepth 65536 in
theorem w_c8 : (Jvm.Cond.code ({ cls := "com/example/tallyfold/tallyfold/io/Instance", name := "<init>", desc := "(Ljava/lang/String;Ljava/lang/String;Ljava/lang/String;)V" } : Jvm.MethodName) prog_102_method_1_code (4 : Nat) (Option.none : Option Jvm.ClassFile.FieldType)).before args0 about1 = true := code_word (m := ⟨9, 0⟩) (meth := k9m0) (c := k9c0) (by decide +kernel) rfl rfl rfl (by decide +kernel)
set_option maxRecDepth 65536 in
theorem w_c9 : (Jvm.Cond.code ({ cls := "com/example/tallyfold/tallyfold/io/Instance", name := "orElse", desc := "(Lcom/example/tallyfold/tallyfold/io/Instance;)Lcom/example/tallyfold/tallyfold/io/Instance;" } : Jvm.MethodName) prog_102_method_4_code (2 : Nat) (Option.some (Jvm.ClassFile.FieldType.object "com/example/tallyfold/tallyfold/io/Instance"))).before args0 about1 = true := code_word (m := ⟨9, 2⟩) (meth := k9m2) (c := k9c2) (by decide +kernel) rfl rfl rfl (by decide +kernel)
set_option maxRecDepth 65536 in
theorem w_c10 : (Jvm.Cond.code ({ cls := "com/example/tallyfold/tallyfold/io/Instance", name := "getType", desc := "()Ljava/lang/String;" } : Jvm.MethodName) prog_102_method_5_code (1 : Nat) (Option.some (Jvm.ClassFile.FieldType.object "java/lang/String"))).before args0 about1 = true := code_word (m := ⟨9, 3⟩) (meth := k9m3) (c := k9c3) (by decide +kernel) rfl rfl rfl (by decide +kernel)
set_option maxRecDepth 65536 in
theorem w_c11 : (Jvm.Cond.code ({ cls := "com/example/tallyfold/tallyfold/io/Instance", name := "getPlatform", desc := "()Ljava/lang/String;" } : Jvm.MethodName) prog_102_method_6_code (1 : Nat) (Option.some (Jvm.ClassFile.FieldType.object "java/lang/String"))).before args0 about1 = true := code_word (m := ⟨9, 4⟩) (meth := k9m4) (c := k9c4) (by decide +kernel) rfl rfl rfl (by decide +kernel)
set_option maxRecDepth 65536 in
theorem w_c12 : (Jvm.Cond.code ({ cls := "com/example/tallyfold/tallyfold/io/Instance", name := "getTenancy", desc := "()Ljava/lang/String;" } : Jvm.MethodName) prog_102_method_7_code (1 : Nat) (Option.some (Jvm.ClassFile.FieldType.object "java/lang/String"))).before args0 about1 = true := code_word (m := ⟨9, 5⟩) (meth := k9m5) (c := k9c5) (by decide +kernel) rfl rfl rfl (by decide +kernel)
set_option maxRecDepth 65536 in
theorem w_c13 : (Jvm.Cond.code ({ cls := "com/example/tallyfold/tallyfold/io/Instance", name := "isWhole", desc := "()Z" } : Jvm.MethodName) prog_102_method_3_code (1 : Nat) (Option.some Jvm.ClassFile.FieldType.boolean)).before args0 about1 = true := code_word (m := ⟨9, 1⟩) (meth := k9m1) (c := k9c1) (by decide +kernel) rfl rfl rfl (by decide +kernel)
def codes1 : List Jvm.Cond := [Jvm.Cond.code x code maxLocals ret, Jvm.Cond.code ({ cls := "com/example/tallyfold/tallyfold/io/InstanceOrElsePinLaw", name := "drawn", desc := "(III)Ljava/lang/String;" } : Jvm.MethodName) method_3_code (4 : Nat) (Option.some (Jvm.ClassFile.FieldType.object "java/lang/String")), Jvm.Cond.code ({ cls := "java/lang/String", name := "<init>", desc := "([C)V" } : Jvm.MethodName) jdk_42_method_3_code (2 : Nat) (Option.none : Option Jvm.ClassFile.FieldType), Jvm.Cond.code ({ cls := "java/lang/String", name := "<init>", desc := "([CIILjava/lang/Void;)V" } : Jvm.MethodName) jdk_42_method_149_code (6 : Nat) (Option.none : Option Jvm.ClassFile.FieldType), Jvm.Cond.code ({ cls := "java/lang/Object", name := "<init>", desc := "()V" } : Jvm.MethodName) object_method_1_code (1 : Nat) (Option.none : Option Jvm.ClassFile.FieldType), Jvm.Cond.code ({ cls := "java/lang/StringUTF16", name := "compress", desc := "([CII)[B" } : Jvm.MethodName) jdk_52_method_16_code (6 : Nat) (Option.some (Jvm.ClassFile.FieldType.array Jvm.ClassFile.FieldType.byte)), Jvm.Cond.code ({ cls := "java/lang/StringUTF16", name := "compress", desc := "([CI[BII)I" } : Jvm.MethodName) jdk_52_method_21_code (7 : Nat) (Option.some Jvm.ClassFile.FieldType.int), Jvm.Cond.code ({ cls := "java/lang/StringUTF16", name := "coderFromArrayLen", desc := "([BI)B" } : Jvm.MethodName) jdk_52_method_15_code (2 : Nat) (Option.some Jvm.ClassFile.FieldType.byte), Jvm.Cond.code ({ cls := "com/example/tallyfold/tallyfold/io/Instance", name := "<init>", desc := "(Ljava/lang/String;Ljava/lang/String;Ljava/lang/String;)V" } : Jvm.MethodName) prog_102_method_1_code (4 : Nat) (Option.none : Option Jvm.ClassFile.FieldType), Jvm.Cond.code ({ cls := "com/example/tallyfold/tallyfold/io/Instance", name := "orElse", desc := "(Lcom/example/tallyfold/tallyfold/io/Instance;)Lcom/example/tallyfold/tallyfold/io/Instance;" } : Jvm.MethodName) prog_102_method_4_code (2 : Nat) (Option.some (Jvm.ClassFile.FieldType.object "com/example/tallyfold/tallyfold/io/Instance")), Jvm.Cond.code ({ cls := "com/example/tallyfold/tallyfold/io/Instance", name := "getType", desc := "()Ljava/lang/String;" } : Jvm.MethodName) prog_102_method_5_code (1 : Nat) (Option.some (Jvm.ClassFile.FieldType.object "java/lang/String")), Jvm.Cond.code ({ cls := "com/example/tallyfold/tallyfold/io/Instance", name := "getPlatform", desc := "()Ljava/lang/String;" } : Jvm.MethodName) prog_102_method_6_code (1 : Nat) (Option.some (Jvm.ClassFile.FieldType.object "java/lang/String")), Jvm.Cond.code ({ cls := "com/example/tallyfold/tallyfold/io/Instance", name := "getTenancy", desc := "()Ljava/lang/String;" } : Jvm.MethodName) prog_102_method_7_code (1 : Nat) (Option.some (Jvm.ClassFile.FieldType.object "java/lang/String")), Jvm.Cond.code ({ cls := "com/example/tallyfold/tallyfold/io/Instance", name := "isWhole", desc := "()Z" } : Jvm.MethodName) prog_102_method_3_code (1 : Nat) (Option.some Jvm.ClassFile.FieldType.boolean)]
set_option maxRecDepth 65536 in
theorem codes_eq : words1.filter isCode = codes1 := rfl
theorem w_codes : ∀ c ∈ words1.filter isCode, c.before args0 about1 = true := by
  rw [codes_eq]
  intro c hc
  simp only [codes1, List.mem_cons, List.not_mem_nil, or_false] at hc
  rcases hc with rfl | rfl | rfl | rfl | rfl | rfl | rfl | rfl | rfl | rfl | rfl | rfl | rfl | rfl
  · exact w_c0
  · exact w_c1
  · exact w_c2
  · exact w_c3
  · exact w_c4
  · exact w_c5
  · exact w_c6
  · exact w_c7
  · exact w_c8
  · exact w_c9
  · exact w_c10
  · exact w_c11
  · exact w_c12
  · exact w_c13
set_option maxRecDepth 65536 in
theorem w_t1 : (words1.take 24).all (fun c => isCode c || c.before args0 about1) = true := by decide +kernel
set_option maxRecDepth 65536 in
theorem w_t2 : ((words1.drop 24).take 24).all (fun c => isCode c || c.before args0 about1) = true := by decide +kernel
set_option maxRecDepth 65536 in
theorem w_t3 : (((words1.drop 24).drop 24).take 24).all (fun c => isCode c || c.before args0 about1) = true := by decide +kernel
set_option maxRecDepth 65536 in
theorem w_t4 : (((words1.drop 24).drop 24).drop 24).all (fun c => isCode c || c.before args0 about1) = true := by decide +kernel
theorem w_tables : (allAtoms (Jvm.Cond.code x code maxLocals ret :: tables_1)).before args0 about1 = true := by
  rw [allAtoms_all]
  show words1.all (fun c => c.before args0 about1) = true
  refine all_split ?_ w_codes
  rw [← List.take_append_drop 24 words1, List.all_append, w_t1, ← List.take_append_drop 24 (words1.drop 24), List.all_append, w_t2, ← List.take_append_drop 24 ((words1.drop 24).drop 24), List.all_append, w_t3, w_t4]
  rfl
set_option maxRecDepth 65536 in
theorem w_rest : rest_1_c.before args0 about1 = true := by decide +kernel
set_option maxRecDepth 65536 in
theorem w_case : (Jvm.Cond.and given_1 narrow_1).before args0 about1 = true := by decide +kernel
theorem w_applies : (headSpec (Jvm.Cond.code x code maxLocals ret :: tables_1) room_1).applies x e0.platform about1 = true :=
  (Spec.applies_iff w_frames).mpr ⟨w_running, w_runnable, w_alone, w_named, w_hears, w_ripe, w_room, w_tables⟩
theorem atStart : AtStart classFile x code maxLocals ret World_1 tables_1 room_1 Calls_1 rest_1 Pre_1 launch0 p0 e0 about1 theMethod args0 below0 :=
  ⟨lists_1, trivial, launch0.admits_env _ _ _, launch0.least_env, fairChoices_fair.cas, fairChoices_fair.clock, w_frames, w_args, w_heap, w_applies, trivial, w_rest, w_case⟩
end start1
theorem witness_1 : WitnessClaimed_1 := ⟨start1.p0, start1.e0, start1.about1, start1.theMethod, start1.args0, start1.below0, start1.atStart⟩
end Jvm.Pilot.@@N@@
