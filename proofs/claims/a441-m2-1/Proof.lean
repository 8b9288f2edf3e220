import JvmDerived
import JvmDerived.Pilot.@@N@@Statement
import JvmDerived.Pilot.@@N@@Code
set_option linter.unusedVariables false
set_option linter.unusedSimpArgs false
@@BLOCK:TracedD.lean.txt@@
namespace Jvm.Pilot.@@N@@
open Jvm Jvm.ClassFile Sem Op Lib Jvm.Free Jvm.Stand Jvm.LawKit Jvm.RoadKit Bundle Jvm.Pilot.@@N@@.Jvm.D

/-! own_K: where a walk stands, with all that its steps ask; own_Ct: a body's contract. -/
section Own
def own_Cl (p : Program) (e : Env) (below : List Frame) (G : State → Prop) : Prop := ∀ S S', (∀ t, Steps p.tables e below S' t → Steps p.tables e below S t) → G S' → G S
def own_Out (p : Program) (e : Env) (m : MethodId) (below : List Frame) (T : State) (v : Option Value) (S : State) : Prop := ∀ fs : List Frame, (∀ (f : JFrame) (acts : List Action), f.method = m → f.locked = none → f.entered = [] → (doReturn e (T.setTop f) acts v).1 = T.setFrames fs) → Steps p.tables e below S (T.setFrames fs)
def own_Fin (p : Program) (l : Launch) (e : Env) (R : Room) (s : State) (m : MethodId) (args : Array Value) (below : List Frame) (meth : Method) (c : Code) (Q : Option Value → Heap → Prop) (G : State → Prop) (Z : State) : Prop :=
  ∀ (T : State) (L : List Loc) (k n : Nat) (v : Option Value) (S : State), Stand p l e R s m args below meth c T L k n → Fr Z.heap.size L → Ext Z.heap T.heap → k ≤ R.cells → n ≤ R.slots → (meth.sig.returnType = none → v = none) → Q v T.heap → own_Out p e m below T v S → G S
def own_K (p : Program) (l : Launch) (e : Env) (R : Room) (s : State) (m : MethodId) (args : Array Value) (below : List Frame) (meth : Method) (c : Code) (bytes : ByteArray) (own nm : String) (mx : Nat) (ret : Option FieldType) (Q : Option Value → Heap → Prop) (G : State → Prop) (Z T : State) (L : List Loc) (k n : Nat) (h : Heap) : Prop :=
  Stand p l e R s m args below meth c T L k n ∧ p.tables.exec = Jvm.exec ∧ c.code = bytes ∧ c.maxLocals = mx ∧ s.vm.findClass own = some m.cls ∧ meth.name = nm ∧ meth.sig.returnType = ret ∧ Z.Warmed39 s.vm ∧ T.heap = h ∧ Fr Z.heap.size L ∧ Ext Z.heap h ∧ own_Cl p e below G ∧ own_Fin p l e R s m args below meth c Q G Z
def own_Ct (l : Launch) (Z : State) (y : MethodName) (bytes : ByteArray) (mx : Nat) (ret : Option FieldType) (ws : List Jvm.Cond) (rm : Room) (as' : Array Value) (h0 : Heap) (Q : Option Value → Heap → Prop) : Prop :=
  MetFree l y (head1 (Jvm.Cond.code y bytes mx ret :: ws) rm) (fun a U => a = as' ∧ Z.Warmed39 U.vm ∧ U.heap = h0) (fun _ _ _ _ _ => True) (fun _ U o U' => ∃ v L, o = .returned v ∧ (Fr Z.heap.size L ∧ Ext Z.heap U'.heap ∧ Q v U'.heap) ∧ FrameEnd U o U' L rm.cells rm.slots)
def own_CtK (l : Launch) (Z : State) (y : MethodName) (bytes : ByteArray) (mx : Nat) (ret : Option FieldType) (ws : List Jvm.Cond) (rm : Room) (as' : Array Value) (h0 : Heap) (Q : Option Value → Heap → Prop) : Prop :=
  MetFree l y (head1 (Jvm.Cond.code y bytes mx ret :: ws) rm) (fun a U => a = as' ∧ Z.Warmed39 U.vm ∧ U.heap = h0) (fun _ _ bl s _ => s.vm.MethodsKnown ∧ s.vm.FramesKnown bl) (fun _ U o U' => ∃ v L, o = .returned v ∧ (Fr Z.heap.size L ∧ Ext Z.heap U'.heap ∧ Q v U'.heap) ∧ FrameEnd U o U' L rm.cells rm.slots)
variable {p : Program} {l : Launch} {e : Env} {R : Room} {s : State} {m : MethodId} {args : Array Value} {below : List Frame} {meth : Method} {c : Code} {bytes : ByteArray} {own nm : String} {mx : Nat} {ret : Option FieldType} {Q : Option Value → Heap → Prop} {G : State → Prop} {Z T T' : State} {L L' : List Loc} {k n k' n' : Nat} {h h' h1 h2 : Heap} {a0 : Array Value} {pc pc' : Nat} {Ls Ls' : Array Slot} {st rest : List Value}
theorem own_K.X (K : own_K p l e R s m args below meth c bytes own nm mx ret Q G Z T L k n h) : Stand p l e R s m args below meth c T L k n := K.1
theorem own_K.here (K : own_K p l e R s m args below meth c bytes own nm mx ret Q G Z T L k n h) : At T m c below := K.1.here
theorem own_K.hx (K : own_K p l e R s m args below meth c bytes own nm mx ret Q G Z T L k n h) : p.tables.exec = Jvm.exec := K.2.1
theorem own_K.hby (K : own_K p l e R s m args below meth c bytes own nm mx ret Q G Z T L k n h) : c.code = bytes := K.2.2.1
theorem own_K.hml (K : own_K p l e R s m args below meth c bytes own nm mx ret Q G Z T L k n h) : c.maxLocals = mx := K.2.2.2.1
theorem own_K.hown (K : own_K p l e R s m args below meth c bytes own nm mx ret Q G Z T L k n h) : s.vm.findClass own = some m.cls := K.2.2.2.2.1
theorem own_K.hnm (K : own_K p l e R s m args below meth c bytes own nm mx ret Q G Z T L k n h) : meth.name = nm := K.2.2.2.2.2.1
theorem own_K.hret (K : own_K p l e R s m args below meth c bytes own nm mx ret Q G Z T L k n h) : meth.sig.returnType = ret := K.2.2.2.2.2.2.1
theorem own_K.hZ (K : own_K p l e R s m args below meth c bytes own nm mx ret Q G Z T L k n h) : Z.Warmed39 s.vm := K.2.2.2.2.2.2.2.1
theorem own_K.eh (K : own_K p l e R s m args below meth c bytes own nm mx ret Q G Z T L k n h) : T.heap = h := K.2.2.2.2.2.2.2.2.1
theorem own_K.fr (K : own_K p l e R s m args below meth c bytes own nm mx ret Q G Z T L k n h) : Fr Z.heap.size L := K.2.2.2.2.2.2.2.2.2.1
theorem own_K.O (K : own_K p l e R s m args below meth c bytes own nm mx ret Q G Z T L k n h) : Ext Z.heap h := K.2.2.2.2.2.2.2.2.2.2.1
theorem own_K.cl (K : own_K p l e R s m args below meth c bytes own nm mx ret Q G Z T L k n h) : own_Cl p e below G := K.2.2.2.2.2.2.2.2.2.2.2.1
theorem own_K.fin (K : own_K p l e R s m args below meth c bytes own nm mx ret Q G Z T L k n h) : own_Fin p l e R s m args below meth c Q G Z := K.2.2.2.2.2.2.2.2.2.2.2.2
theorem own_K.nx (K : own_K p l e R s m args below meth c bytes own nm mx ret Q G Z T L k n h) (X' : Stand p l e R s m args below meth c T' L' k' n') (e' : T'.heap = h') (N' : Fr Z.heap.size L') (O' : Ext Z.heap h') : own_K p l e R s m args below meth c bytes own nm mx ret Q G Z T' L' k' n' h' :=
  ⟨X', K.hx, K.hby, K.hml, K.hown, K.hnm, K.hret, K.hZ, e', N', O', K.cl, K.fin⟩
theorem own_K.more (K : own_K p l e R s m args below meth c bytes own nm mx ret Q G Z T L k n h) (hk : k ≤ k') (hn : n ≤ n') : own_K p l e R s m args below meth c bytes own nm mx ret Q G Z T L k' n' h :=
  K.nx (K.X.more hk hn) K.eh K.fr K.O
theorem own_cat1 {v : Value} (h : v.isRef = true) : v.category = 1 := by cases v <;> simp [Value.isRef] at h <;> rfl
/-- the heap goes on: what was written lies in cells at or above the elder heap's end -/
theorem own_ext_refl (h : Heap) : Ext h h := ⟨Nat.le_refl _, fun _ _ q => q⟩
theorem own_ext_trans (E : Ext h h1) (E' : Ext h1 h2) : Ext h h2 := ⟨Nat.le_trans E.1 E'.1, fun a c q => E'.2 a c (E.2 a c q)⟩
theorem own_ext_keep {ws : List Addr} (E : Ext h h1) (K : Keep h1 h2 ws) (q : ∀ x ∈ ws, h.size ≤ x) : Ext h h2 := ⟨Nat.le_trans E.1 K.1, fun a c r => K.2.1 a c (E.2 a c r) fun z => absurd (Array.getElem?_eq_some_iff.mp r).1 (Nat.not_lt.mpr (q a z))⟩
theorem own_ext_wr {a : Addr} {sl : Nat} {v : Value} (E : Ext h h1) (W : Wr h1 h2 a sl v) (q : h.size ≤ a) : Ext h h2 := own_ext_keep E (Keep.of_wr W) fun x hx => by cases List.mem_singleton.mp hx; exact q
theorem own_keep_ext (K : Keep h h1 []) : Ext h h1 := ⟨K.1, fun a c q => K.2.1 a c q (fun z => nomatch z)⟩
theorem own_ext_of_keep (E : Ext h h1) : Keep h h1 [] := (Keep.refl h []).ext E
/-- a body's contract, from its walk -/
theorem own_body {y : MethodName} {ws : List Jvm.Cond} {rm : Room} {as' : Array Value} {h0 : Heap} (hpl : plainFor y = true) (hef : ∀ m, entryFrame m as' mx = mkF m 0 Ls []) (O0 : Ext Z.heap h0)
    (H : ∀ (p : Program) (e : Env) (s : State) (m : MethodId) (below : List Frame) (meth : Method) (c : Code) (T : State) (G : State → Prop), own_K p l e rm s m as' below meth c bytes y.cls y.name mx ret Q G Z T [] 0 0 h0 → G (T.setTop (mkF m 0 Ls []))) :
    own_Ct l Z y bytes mx ret ws rm as' h0 Q := by
  refine MetFree.of_bodySF hpl hisR ?_
  intro p e s m args below meth c s₁ Bd hml0 hP hK
  obtain ⟨rfl, hZ, hh⟩ := hP
  have X0 : Stand p l e rm s m args below meth c s₁ [] 0 0 := Stand.of_body Bd
  have e0 : s₁.heap = h0 := by rw [← hh, Bd.state]; rfl
  have hlocks := BodyLoose.notSynchronized Bd
  have q := H p e s m below meth c s₁ (fun S => ∃ (T : State) (L : List Loc) (k n : Nat) (v : Option Value), Stand p l e rm s m args below meth c T L k n ∧ Fr Z.heap.size L ∧ Ext Z.heap T.heap ∧ k ≤ rm.cells ∧ n ≤ rm.slots ∧ (meth.sig.returnType = none → v = none) ∧ Q v T.heap ∧ own_Out p e m below T v S)
    ⟨X0, Bd.exec, Bd.bytes, hml0, findClass_of_methodNamed Bd.named, (name_of_methodNamed Bd.named Bd.method).1, Bd.returns, hZ, e0, Fr.nil _, O0, fun S S' hs ⟨T, L, k, n, v, h1, h2, h3, h4, h5, h6, h7, h8⟩ => ⟨T, L, k, n, v, h1, h2, h3, h4, h5, h6, h7, fun fs hfs => hs _ (h8 fs hfs)⟩, fun T L k n v S h1 h2 h3 h4 h5 h6 h7 h8 => ⟨T, L, k, n, v, h1, h2, h3, h4, h5, h6, h7, h8⟩⟩
  obtain ⟨T, L, k, n, v, X, N, O, hk, hn, hv, hQ, hout⟩ := q
  obtain ⟨fs, hr, hrun, hended, hW, hsame⟩ := X.leave (v := v) hv
  refine ⟨_, _, castTop (hef m) (hout fs hr), hrun, hended, _, _, rfl, ⟨N, O, hQ⟩, ⟨_, rfl⟩, hW, hsame.mono hk hn⟩
/-- the same, where a stack trace is filled in beneath -/
theorem own_bodyK {y : MethodName} {ws : List Jvm.Cond} {rm : Room} {as' : Array Value} {h0 : Heap} (hpl : plainFor y = true) (hef : ∀ m, entryFrame m as' mx = mkF m 0 Ls []) (O0 : Ext Z.heap h0)
    (H : ∀ (p : Program) (e : Env) (s : State) (m : MethodId) (below : List Frame) (meth : Method) (c : Code) (T : State) (G : State → Prop), s.vm.MethodsKnown ∧ s.vm.FramesKnown below → s.heap = h0 → own_K p l e rm s m as' below meth c bytes y.cls y.name mx ret Q G Z T [] 0 0 h0 → G (T.setTop (mkF m 0 Ls []))) :
    own_CtK l Z y bytes mx ret ws rm as' h0 Q := by
  refine MetFree.of_bodySF hpl hisR ?_
  intro p e s m args below meth c s₁ Bd hml0 hP hK
  obtain ⟨rfl, hZ, hh⟩ := hP
  have X0 : Stand p l e rm s m args below meth c s₁ [] 0 0 := Stand.of_body Bd
  have e0 : s₁.heap = h0 := by rw [← hh, Bd.state]; rfl
  have hlocks := BodyLoose.notSynchronized Bd
  have q := H p e s m below meth c s₁ (fun S => ∃ (T : State) (L : List Loc) (k n : Nat) (v : Option Value), Stand p l e rm s m args below meth c T L k n ∧ Fr Z.heap.size L ∧ Ext Z.heap T.heap ∧ k ≤ rm.cells ∧ n ≤ rm.slots ∧ (meth.sig.returnType = none → v = none) ∧ Q v T.heap ∧ own_Out p e m below T v S) hK hh
    ⟨X0, Bd.exec, Bd.bytes, hml0, findClass_of_methodNamed Bd.named, (name_of_methodNamed Bd.named Bd.method).1, Bd.returns, hZ, e0, Fr.nil _, O0, fun S S' hs ⟨T, L, k, n, v, h1, h2, h3, h4, h5, h6, h7, h8⟩ => ⟨T, L, k, n, v, h1, h2, h3, h4, h5, h6, h7, fun fs hfs => hs _ (h8 fs hfs)⟩, fun T L k n v S h1 h2 h3 h4 h5 h6 h7 h8 => ⟨T, L, k, n, v, h1, h2, h3, h4, h5, h6, h7, h8⟩⟩
  obtain ⟨T, L, k, n, v, X, N, O, hk, hn, hv, hQ, hout⟩ := q
  obtain ⟨fs, hr, hrun, hended, hW, hsame⟩ := X.leave (v := v) hv
  refine ⟨_, _, castTop (hef m) (hout fs hr), hrun, hended, _, _, rfl, ⟨N, O, hQ⟩, ⟨_, rfl⟩, hW, hsame.mono hk hn⟩

theorem own_iadd (K : own_K p l e R s m args below meth c bytes own nm mx ret Q G Z T L k n h) {x y : Int32} (hd : decode bytes pc = .ok (.iadd, 1)) (hp : pc + 1 = pc') (kk : G (T.setTop (mkF m pc' Ls (.int (x + y) :: rest)))) : G (T.setTop (mkF m pc Ls (.int y :: .int x :: rest))) := by
  subst hp
  exact K.cl _ _ (fun t q => XS.iadd K.here K.hx rfl (hb K.hby hd) rfl q) kk
theorem own_isub (K : own_K p l e R s m args below meth c bytes own nm mx ret Q G Z T L k n h) {x y : Int32} (hd : decode bytes pc = .ok (.isub, 1)) (hp : pc + 1 = pc') (kk : G (T.setTop (mkF m pc' Ls (.int (x - y) :: rest)))) : G (T.setTop (mkF m pc Ls (.int y :: .int x :: rest))) := by
  subst hp
  exact K.cl _ _ (fun t q => XS.isub K.here K.hx rfl (hb K.hby hd) rfl q) kk
theorem own_imul (K : own_K p l e R s m args below meth c bytes own nm mx ret Q G Z T L k n h) {x y : Int32} (hd : decode bytes pc = .ok (.imul, 1)) (hp : pc + 1 = pc') (kk : G (T.setTop (mkF m pc' Ls (.int (x * y) :: rest)))) : G (T.setTop (mkF m pc Ls (.int y :: .int x :: rest))) := by
  subst hp
  exact K.cl _ _ (fun t q => XS.imul K.here K.hx rfl (hb K.hby hd) rfl q) kk
theorem own_iand (K : own_K p l e R s m args below meth c bytes own nm mx ret Q G Z T L k n h) {x y : Int32} (hd : decode bytes pc = .ok (.iand, 1)) (hp : pc + 1 = pc') (kk : G (T.setTop (mkF m pc' Ls (.int (x &&& y) :: rest)))) : G (T.setTop (mkF m pc Ls (.int y :: .int x :: rest))) := by
  subst hp
  exact K.cl _ _ (fun t q => XS.iand K.here K.hx rfl (hb K.hby hd) rfl q) kk
theorem own_ior (K : own_K p l e R s m args below meth c bytes own nm mx ret Q G Z T L k n h) {x y : Int32} (hd : decode bytes pc = .ok (.ior, 1)) (hp : pc + 1 = pc') (kk : G (T.setTop (mkF m pc' Ls (.int (x ||| y) :: rest)))) : G (T.setTop (mkF m pc Ls (.int y :: .int x :: rest))) := by
  subst hp
  exact K.cl _ _ (fun t q => XS.ior K.here K.hx rfl (hb K.hby hd) rfl q) kk
theorem own_ixor (K : own_K p l e R s m args below meth c bytes own nm mx ret Q G Z T L k n h) {x y : Int32} (hd : decode bytes pc = .ok (.ixor, 1)) (hp : pc + 1 = pc') (kk : G (T.setTop (mkF m pc' Ls (.int (x ^^^ y) :: rest)))) : G (T.setTop (mkF m pc Ls (.int y :: .int x :: rest))) := by
  subst hp
  exact K.cl _ _ (fun t q => XS.ixor K.here K.hx rfl (hb K.hby hd) rfl q) kk
theorem own_ishl (K : own_K p l e R s m args below meth c bytes own nm mx ret Q G Z T L k n h) {x y : Int32} (hd : decode bytes pc = .ok (.ishl, 1)) (hp : pc + 1 = pc') (kk : G (T.setTop (mkF m pc' Ls (.int (x <<< (y &&& 31)) :: rest)))) : G (T.setTop (mkF m pc Ls (.int y :: .int x :: rest))) := by
  subst hp
  exact K.cl _ _ (fun t q => XS.ishl K.here K.hx rfl (hb K.hby hd) rfl q) kk
theorem own_ishr (K : own_K p l e R s m args below meth c bytes own nm mx ret Q G Z T L k n h) {x y : Int32} (hd : decode bytes pc = .ok (.ishr, 1)) (hp : pc + 1 = pc') (kk : G (T.setTop (mkF m pc' Ls (.int (x >>> (y &&& 31)) :: rest)))) : G (T.setTop (mkF m pc Ls (.int y :: .int x :: rest))) := by
  subst hp
  exact K.cl _ _ (fun t q => XS.ishr K.here K.hx rfl (hb K.hby hd) rfl q) kk
theorem own_iushr (K : own_K p l e R s m args below meth c bytes own nm mx ret Q G Z T L k n h) {x y : Int32} (hd : decode bytes pc = .ok (.iushr, 1)) (hp : pc + 1 = pc') (kk : G (T.setTop (mkF m pc' Ls (.int ((x.toUInt32 >>> (y &&& 31).toUInt32).toInt32) :: rest)))) : G (T.setTop (mkF m pc Ls (.int y :: .int x :: rest))) := by
  subst hp
  exact K.cl _ _ (fun t q => XS.iushr K.here K.hx rfl (hb K.hby hd) rfl q) kk
theorem own_ladd (K : own_K p l e R s m args below meth c bytes own nm mx ret Q G Z T L k n h) {x y : Int64} (hd : decode bytes pc = .ok (.ladd, 1)) (hp : pc + 1 = pc') (kk : G (T.setTop (mkF m pc' Ls (.long (x + y) :: rest)))) : G (T.setTop (mkF m pc Ls (.long y :: .long x :: rest))) := by
  subst hp
  exact K.cl _ _ (fun t q => XS.ladd K.here K.hx rfl (hb K.hby hd) rfl q) kk
theorem own_lsub (K : own_K p l e R s m args below meth c bytes own nm mx ret Q G Z T L k n h) {x y : Int64} (hd : decode bytes pc = .ok (.lsub, 1)) (hp : pc + 1 = pc') (kk : G (T.setTop (mkF m pc' Ls (.long (x - y) :: rest)))) : G (T.setTop (mkF m pc Ls (.long y :: .long x :: rest))) := by
  subst hp
  exact K.cl _ _ (fun t q => XS.lsub K.here K.hx rfl (hb K.hby hd) rfl q) kk
theorem own_lmul (K : own_K p l e R s m args below meth c bytes own nm mx ret Q G Z T L k n h) {x y : Int64} (hd : decode bytes pc = .ok (.lmul, 1)) (hp : pc + 1 = pc') (kk : G (T.setTop (mkF m pc' Ls (.long (x * y) :: rest)))) : G (T.setTop (mkF m pc Ls (.long y :: .long x :: rest))) := by
  subst hp
  exact K.cl _ _ (fun t q => XS.lmul K.here K.hx rfl (hb K.hby hd) rfl q) kk
theorem own_land (K : own_K p l e R s m args below meth c bytes own nm mx ret Q G Z T L k n h) {x y : Int64} (hd : decode bytes pc = .ok (.land, 1)) (hp : pc + 1 = pc') (kk : G (T.setTop (mkF m pc' Ls (.long (x &&& y) :: rest)))) : G (T.setTop (mkF m pc Ls (.long y :: .long x :: rest))) := by
  subst hp
  exact K.cl _ _ (fun t q => XS.land K.here K.hx rfl (hb K.hby hd) rfl q) kk
theorem own_lor (K : own_K p l e R s m args below meth c bytes own nm mx ret Q G Z T L k n h) {x y : Int64} (hd : decode bytes pc = .ok (.lor, 1)) (hp : pc + 1 = pc') (kk : G (T.setTop (mkF m pc' Ls (.long (x ||| y) :: rest)))) : G (T.setTop (mkF m pc Ls (.long y :: .long x :: rest))) := by
  subst hp
  exact K.cl _ _ (fun t q => XS.lor K.here K.hx rfl (hb K.hby hd) rfl q) kk
theorem own_lxor (K : own_K p l e R s m args below meth c bytes own nm mx ret Q G Z T L k n h) {x y : Int64} (hd : decode bytes pc = .ok (.lxor, 1)) (hp : pc + 1 = pc') (kk : G (T.setTop (mkF m pc' Ls (.long (x ^^^ y) :: rest)))) : G (T.setTop (mkF m pc Ls (.long y :: .long x :: rest))) := by
  subst hp
  exact K.cl _ _ (fun t q => XS.lxor K.here K.hx rfl (hb K.hby hd) rfl q) kk
theorem own_lshl (K : own_K p l e R s m args below meth c bytes own nm mx ret Q G Z T L k n h) {x : Int64} {y : Int32} (hd : decode bytes pc = .ok (.lshl, 1)) (hp : pc + 1 = pc') (kk : G (T.setTop (mkF m pc' Ls (.long (x <<< (y &&& 0x3f).toInt64) :: rest)))) : G (T.setTop (mkF m pc Ls (.int y :: .long x :: rest))) := by
  subst hp
  exact K.cl _ _ (fun t q => XS.lshl K.here K.hx rfl (hb K.hby hd) rfl q) kk
theorem own_lshr (K : own_K p l e R s m args below meth c bytes own nm mx ret Q G Z T L k n h) {x : Int64} {y : Int32} (hd : decode bytes pc = .ok (.lshr, 1)) (hp : pc + 1 = pc') (kk : G (T.setTop (mkF m pc' Ls (.long (x >>> (y &&& 0x3f).toInt64) :: rest)))) : G (T.setTop (mkF m pc Ls (.int y :: .long x :: rest))) := by
  subst hp
  exact K.cl _ _ (fun t q => XS.lshr K.here K.hx rfl (hb K.hby hd) rfl q) kk
theorem own_lushr (K : own_K p l e R s m args below meth c bytes own nm mx ret Q G Z T L k n h) {x : Int64} {y : Int32} (hd : decode bytes pc = .ok (.lushr, 1)) (hp : pc + 1 = pc') (kk : G (T.setTop (mkF m pc' Ls (.long ((x.toUInt64 >>> (y &&& 0x3f).toInt64.toUInt64).toInt64) :: rest)))) : G (T.setTop (mkF m pc Ls (.int y :: .long x :: rest))) := by
  subst hp
  exact K.cl _ _ (fun t q => XS.lushr K.here K.hx rfl (hb K.hby hd) rfl q) kk
theorem own_idiv (K : own_K p l e R s m args below meth c bytes own nm mx ret Q G Z T L k n h) {x y : Int32} (hd : decode bytes pc = .ok (.idiv, 1)) (hp : pc + 1 = pc') (hy : y ≠ 0) (kk : G (T.setTop (mkF m pc' Ls (.int (x / y) :: rest)))) : G (T.setTop (mkF m pc Ls (.int y :: .int x :: rest))) := by
  subst hp
  exact K.cl _ _ (fun t q => XS.idiv K.here K.hx rfl (hb K.hby hd) rfl hy q) kk
theorem own_ldiv (K : own_K p l e R s m args below meth c bytes own nm mx ret Q G Z T L k n h) {x y : Int64} (hd : decode bytes pc = .ok (.ldiv, 1)) (hp : pc + 1 = pc') (hy : y ≠ 0) (kk : G (T.setTop (mkF m pc' Ls (.long (x / y) :: rest)))) : G (T.setTop (mkF m pc Ls (.long y :: .long x :: rest))) := by
  subst hp
  exact K.cl _ _ (fun t q => XS.ldiv K.here K.hx rfl (hb K.hby hd) rfl hy q) kk
theorem own_irem (K : own_K p l e R s m args below meth c bytes own nm mx ret Q G Z T L k n h) {x y : Int32} (hd : decode bytes pc = .ok (.irem, 1)) (hp : pc + 1 = pc') (hy : y ≠ 0) (kk : G (T.setTop (mkF m pc' Ls (.int (x % y) :: rest)))) : G (T.setTop (mkF m pc Ls (.int y :: .int x :: rest))) := by
  subst hp
  exact K.cl _ _ (fun t q => iremM K.X K.hx rfl (hb K.hby hd) rfl hy q) kk
theorem own_lrem (K : own_K p l e R s m args below meth c bytes own nm mx ret Q G Z T L k n h) {x y : Int64} (hd : decode bytes pc = .ok (.lrem, 1)) (hp : pc + 1 = pc') (hy : y ≠ 0) (kk : G (T.setTop (mkF m pc' Ls (.long (x % y) :: rest)))) : G (T.setTop (mkF m pc Ls (.long y :: .long x :: rest))) := by
  subst hp
  exact K.cl _ _ (fun t q => XS.lrem K.here K.hx rfl (hb K.hby hd) rfl hy (by rw [lrem_mod]; exact q)) kk
theorem own_ineg (K : own_K p l e R s m args below meth c bytes own nm mx ret Q G Z T L k n h) {x : Int32} (hd : decode bytes pc = .ok (.ineg, 1)) (hp : pc + 1 = pc') (kk : G (T.setTop (mkF m pc' Ls (.int (-x) :: rest)))) : G (T.setTop (mkF m pc Ls (.int x :: rest))) := by
  subst hp
  exact K.cl _ _ (fun t q => XS.ineg K.here K.hx rfl (hb K.hby hd) rfl q) kk
theorem own_lneg (K : own_K p l e R s m args below meth c bytes own nm mx ret Q G Z T L k n h) {x : Int64} (hd : decode bytes pc = .ok (.lneg, 1)) (hp : pc + 1 = pc') (kk : G (T.setTop (mkF m pc' Ls (.long (-x) :: rest)))) : G (T.setTop (mkF m pc Ls (.long x :: rest))) := by
  subst hp
  exact K.cl _ _ (fun t q => XS.lneg K.here K.hx rfl (hb K.hby hd) rfl q) kk
theorem own_i2l (K : own_K p l e R s m args below meth c bytes own nm mx ret Q G Z T L k n h) {x : Int32} (hd : decode bytes pc = .ok (.i2l, 1)) (hp : pc + 1 = pc') (kk : G (T.setTop (mkF m pc' Ls (.long x.toInt64 :: rest)))) : G (T.setTop (mkF m pc Ls (.int x :: rest))) := by
  subst hp
  exact K.cl _ _ (fun t q => XS.i2l K.here K.hx rfl (hb K.hby hd) rfl q) kk
theorem own_l2i (K : own_K p l e R s m args below meth c bytes own nm mx ret Q G Z T L k n h) {x : Int64} (hd : decode bytes pc = .ok (.l2i, 1)) (hp : pc + 1 = pc') (kk : G (T.setTop (mkF m pc' Ls (.int x.toInt32 :: rest)))) : G (T.setTop (mkF m pc Ls (.long x :: rest))) := by
  subst hp
  exact K.cl _ _ (fun t q => XS.l2i K.here K.hx rfl (hb K.hby hd) rfl q) kk
theorem own_i2b (K : own_K p l e R s m args below meth c bytes own nm mx ret Q G Z T L k n h) {x : Int32} (hd : decode bytes pc = .ok (.i2b, 1)) (hp : pc + 1 = pc') (kk : G (T.setTop (mkF m pc' Ls (.int x.toInt8.toInt32 :: rest)))) : G (T.setTop (mkF m pc Ls (.int x :: rest))) := by
  subst hp
  exact K.cl _ _ (fun t q => XS.i2b K.here K.hx rfl (hb K.hby hd) rfl q) kk
theorem own_i2c (K : own_K p l e R s m args below meth c bytes own nm mx ret Q G Z T L k n h) {x : Int32} (hd : decode bytes pc = .ok (.i2c, 1)) (hp : pc + 1 = pc') (kk : G (T.setTop (mkF m pc' Ls (.int x.toUInt32.toUInt16.toUInt32.toInt32 :: rest)))) : G (T.setTop (mkF m pc Ls (.int x :: rest))) := by
  subst hp
  exact K.cl _ _ (fun t q => XS.i2c K.here K.hx rfl (hb K.hby hd) rfl q) kk
theorem own_i2s (K : own_K p l e R s m args below meth c bytes own nm mx ret Q G Z T L k n h) {x : Int32} (hd : decode bytes pc = .ok (.i2s, 1)) (hp : pc + 1 = pc') (kk : G (T.setTop (mkF m pc' Ls (.int x.toInt16.toInt32 :: rest)))) : G (T.setTop (mkF m pc Ls (.int x :: rest))) := by
  subst hp
  exact K.cl _ _ (fun t q => XS.i2s K.here K.hx rfl (hb K.hby hd) rfl q) kk
theorem own_lcmp (K : own_K p l e R s m args below meth c bytes own nm mx ret Q G Z T L k n h) {x y : Int64} (hd : decode bytes pc = .ok (.lcmp, 1)) (hp : pc + 1 = pc') (kk : G (T.setTop (mkF m pc' Ls (.int (lcmpW x y) :: rest)))) : G (T.setTop (mkF m pc Ls (.long y :: .long x :: rest))) := by
  subst hp
  exact K.cl _ _ (fun t q => XS.lcmp K.here K.hx rfl (hb K.hby hd) rfl q) kk
theorem own_pop (K : own_K p l e R s m args below meth c bytes own nm mx ret Q G Z T L k n h) {x : Value} (hd : decode bytes pc = .ok (.pop, 1)) (hp : pc + 1 = pc') (hc : x.category = 1) (kk : G (T.setTop (mkF m pc' Ls rest))) : G (T.setTop (mkF m pc Ls (x :: rest))) := by
  subst hp
  exact K.cl _ _ (fun t q => XS.pop K.here K.hx rfl (hb K.hby hd) rfl hc q) kk
theorem own_dup (K : own_K p l e R s m args below meth c bytes own nm mx ret Q G Z T L k n h) {x : Value} (hd : decode bytes pc = .ok (.dup, 1)) (hp : pc + 1 = pc') (hc : x.category = 1) (kk : G (T.setTop (mkF m pc' Ls (x :: x :: rest)))) : G (T.setTop (mkF m pc Ls (x :: rest))) := by
  subst hp
  exact K.cl _ _ (fun t q => XS.dup K.here K.hx rfl (hb K.hby hd) rfl hc q) kk
theorem own_dupX1 (K : own_K p l e R s m args below meth c bytes own nm mx ret Q G Z T L k n h) {x y : Value} (hd : decode bytes pc = .ok (.dup_x1, 1)) (hp : pc + 1 = pc') (hc : x.category = 1) (hc' : y.category = 1) (kk : G (T.setTop (mkF m pc' Ls (x :: y :: x :: rest)))) : G (T.setTop (mkF m pc Ls (x :: y :: rest))) := by
  subst hp
  exact K.cl _ _ (fun t q => XS.dupX1 K.here K.hx rfl (hb K.hby hd) rfl hc hc' q) kk
theorem own_aconstNull (K : own_K p l e R s m args below meth c bytes own nm mx ret Q G Z T L k n h)  (hd : decode bytes pc = .ok (.aconst_null, 1)) (hp : pc + 1 = pc') (kk : G (T.setTop (mkF m pc' Ls (.null :: st)))) : G (T.setTop (mkF m pc Ls st)) := by
  subst hp
  exact K.cl _ _ (fun t q => XS.aconstNull K.here K.hx rfl (hb K.hby hd)  q) kk
theorem own_iconst (K : own_K p l e R s m args below meth c bytes own nm mx ret Q G Z T L k n h) {i : Int} {v : Int32} (hd : decode bytes pc = .ok (.iconst i, 1)) (hp : pc + 1 = pc') (hv : Int32.ofInt i = v) (kk : G (T.setTop (mkF m pc' Ls (.int v :: st)))) : G (T.setTop (mkF m pc Ls st)) := by
  subst hp hv
  exact K.cl _ _ (fun t q => XS.iconst K.here K.hx rfl (hb K.hby hd) q) kk
theorem own_bipush (K : own_K p l e R s m args below meth c bytes own nm mx ret Q G Z T L k n h) {i : Int} {v : Int32} (hd : decode bytes pc = .ok (.bipush i, 2)) (hp : pc + 2 = pc') (hv : (Int8.ofInt i).toInt32 = v) (kk : G (T.setTop (mkF m pc' Ls (.int v :: st)))) : G (T.setTop (mkF m pc Ls st)) := by
  subst hp hv
  exact K.cl _ _ (fun t q => XS.bipush K.here K.hx rfl (hb K.hby hd) q) kk
theorem own_sipush (K : own_K p l e R s m args below meth c bytes own nm mx ret Q G Z T L k n h) {i : Int} {v : Int32} (hd : decode bytes pc = .ok (.sipush i, 3)) (hp : pc + 3 = pc') (hv : (Int16.ofInt i).toInt32 = v) (kk : G (T.setTop (mkF m pc' Ls (.int v :: st)))) : G (T.setTop (mkF m pc Ls st)) := by
  subst hp hv
  exact K.cl _ _ (fun t q => XS.sipush K.here K.hx rfl (hb K.hby hd) q) kk
theorem own_lconst (K : own_K p l e R s m args below meth c bytes own nm mx ret Q G Z T L k n h) {i : Fin 2} {v : Int64} (hd : decode bytes pc = .ok (.lconst i, 1)) (hp : pc + 1 = pc') (hv : Int64.ofNat i = v) (kk : G (T.setTop (mkF m pc' Ls (.long v :: st)))) : G (T.setTop (mkF m pc Ls st)) := by
  subst hp hv
  exact K.cl _ _ (fun t q => XS.lconst K.here K.hx rfl (hb K.hby hd) q) kk
theorem own_iload (K : own_K p l e R s m args below meth c bytes own nm mx ret Q G Z T L k n h) {j : Nat} {v : Int32} (hd : decode bytes pc = .ok (.iload j, 2)) (hp : pc + 2 = pc') (hl : Ls[j]? = some (.val (.int v))) (kk : G (T.setTop (mkF m pc' Ls (.int v :: st)))) : G (T.setTop (mkF m pc Ls st)) := by
  subst hp
  exact K.cl _ _ (fun t q => XS.iload K.here K.hx rfl (hb K.hby hd) hl q) kk
theorem own_iloadN (K : own_K p l e R s m args below meth c bytes own nm mx ret Q G Z T L k n h) {j : Fin 4} {v : Int32} (hd : decode bytes pc = .ok (.iload_n j, 1)) (hp : pc + 1 = pc') (hl : Ls[j.val]? = some (.val (.int v))) (kk : G (T.setTop (mkF m pc' Ls (.int v :: st)))) : G (T.setTop (mkF m pc Ls st)) := by
  subst hp
  exact K.cl _ _ (fun t q => XS.iloadN K.here K.hx rfl (hb K.hby hd) hl q) kk
theorem own_lload (K : own_K p l e R s m args below meth c bytes own nm mx ret Q G Z T L k n h) {j : Nat} {v : Int64} (hd : decode bytes pc = .ok (.lload j, 2)) (hp : pc + 2 = pc') (hl : Ls[j]? = some (.val (.long v))) (kk : G (T.setTop (mkF m pc' Ls (.long v :: st)))) : G (T.setTop (mkF m pc Ls st)) := by
  subst hp
  exact K.cl _ _ (fun t q => XS.lload K.here K.hx rfl (hb K.hby hd) hl q) kk
theorem own_lloadN (K : own_K p l e R s m args below meth c bytes own nm mx ret Q G Z T L k n h) {j : Fin 4} {v : Int64} (hd : decode bytes pc = .ok (.lload_n j, 1)) (hp : pc + 1 = pc') (hl : Ls[j.val]? = some (.val (.long v))) (kk : G (T.setTop (mkF m pc' Ls (.long v :: st)))) : G (T.setTop (mkF m pc Ls st)) := by
  subst hp
  exact K.cl _ _ (fun t q => XS.lloadN K.here K.hx rfl (hb K.hby hd) hl q) kk
theorem own_aload (K : own_K p l e R s m args below meth c bytes own nm mx ret Q G Z T L k n h) {j : Nat} {v : Value} (hd : decode bytes pc = .ok (.aload j, 2)) (hp : pc + 2 = pc') (hl : Ls[j]? = some (.val v)) (hv : v.isRef = true) (kk : G (T.setTop (mkF m pc' Ls (v :: st)))) : G (T.setTop (mkF m pc Ls st)) := by
  subst hp
  exact K.cl _ _ (fun t q => XS.aload K.here K.hx rfl (hb K.hby hd) hl hv q) kk
theorem own_aloadN (K : own_K p l e R s m args below meth c bytes own nm mx ret Q G Z T L k n h) {j : Fin 4} {v : Value} (hd : decode bytes pc = .ok (.aload_n j, 1)) (hp : pc + 1 = pc') (hl : Ls[j.val]? = some (.val v)) (hv : v.isRef = true) (kk : G (T.setTop (mkF m pc' Ls (v :: st)))) : G (T.setTop (mkF m pc Ls st)) := by
  subst hp
  exact K.cl _ _ (fun t q => XS.aloadN K.here K.hx rfl (hb K.hby hd) hl hv q) kk
theorem own_istore (K : own_K p l e R s m args below meth c bytes own nm mx ret Q G Z T L k n h) {j : Nat} {v : Int32} (hd : decode bytes pc = .ok (.istore j, 2)) (hp : pc + 2 = pc') (hl : storeLocals Ls j (.int v) = some Ls') (kk : G (T.setTop (mkF m pc' Ls' rest))) : G (T.setTop (mkF m pc Ls (.int v :: rest))) := by
  subst hp
  exact K.cl _ _ (fun t q => XS.istore K.here K.hx rfl (hb K.hby hd) rfl hl q) kk
theorem own_istoreN (K : own_K p l e R s m args below meth c bytes own nm mx ret Q G Z T L k n h) {j : Fin 4} {v : Int32} (hd : decode bytes pc = .ok (.istore_n j, 1)) (hp : pc + 1 = pc') (hl : storeLocals Ls j.val (.int v) = some Ls') (kk : G (T.setTop (mkF m pc' Ls' rest))) : G (T.setTop (mkF m pc Ls (.int v :: rest))) := by
  subst hp
  exact K.cl _ _ (fun t q => XS.istoreN K.here K.hx rfl (hb K.hby hd) rfl hl q) kk
theorem own_lstore (K : own_K p l e R s m args below meth c bytes own nm mx ret Q G Z T L k n h) {j : Nat} {v : Int64} (hd : decode bytes pc = .ok (.lstore j, 2)) (hp : pc + 2 = pc') (hl : storeLocals Ls j (.long v) = some Ls') (kk : G (T.setTop (mkF m pc' Ls' rest))) : G (T.setTop (mkF m pc Ls (.long v :: rest))) := by
  subst hp
  exact K.cl _ _ (fun t q => XS.lstore K.here K.hx rfl (hb K.hby hd) rfl hl q) kk
theorem own_lstoreN (K : own_K p l e R s m args below meth c bytes own nm mx ret Q G Z T L k n h) {j : Fin 4} {v : Int64} (hd : decode bytes pc = .ok (.lstore_n j, 1)) (hp : pc + 1 = pc') (hl : storeLocals Ls j.val (.long v) = some Ls') (kk : G (T.setTop (mkF m pc' Ls' rest))) : G (T.setTop (mkF m pc Ls (.long v :: rest))) := by
  subst hp
  exact K.cl _ _ (fun t q => XS.lstoreN K.here K.hx rfl (hb K.hby hd) rfl hl q) kk
theorem own_astore (K : own_K p l e R s m args below meth c bytes own nm mx ret Q G Z T L k n h) {j : Nat} {v : Value} (hd : decode bytes pc = .ok (.astore j, 2)) (hp : pc + 2 = pc') (hv : v.isRef = true) (hl : storeLocals Ls j v = some Ls') (kk : G (T.setTop (mkF m pc' Ls' rest))) : G (T.setTop (mkF m pc Ls (v :: rest))) := by
  subst hp
  exact K.cl _ _ (fun t q => XS.astore K.here K.hx rfl (hb K.hby hd) rfl hv hl q) kk
theorem own_astoreN (K : own_K p l e R s m args below meth c bytes own nm mx ret Q G Z T L k n h) {j : Fin 4} {v : Value} (hd : decode bytes pc = .ok (.astore_n j, 1)) (hp : pc + 1 = pc') (hv : v.isRef = true) (hl : storeLocals Ls j.val v = some Ls') (kk : G (T.setTop (mkF m pc' Ls' rest))) : G (T.setTop (mkF m pc Ls (v :: rest))) := by
  subst hp
  exact K.cl _ _ (fun t q => XS.astoreN K.here K.hx rfl (hb K.hby hd) rfl hv hl q) kk
theorem own_iinc (K : own_K p l e R s m args below meth c bytes own nm mx ret Q G Z T L k n h) {j : Nat} {cst : Int} {x v : Int32} (hd : decode bytes pc = .ok (.iinc j cst, 3)) (hp : pc + 3 = pc') (hl : Ls[j]? = some (.val (.int x))) (hl' : storeLocals Ls j (.int (x + Int32.ofInt cst)) = some Ls') (kk : G (T.setTop (mkF m pc' Ls' st))) : G (T.setTop (mkF m pc Ls st)) := by
  subst hp
  exact K.cl _ _ (fun t q => XS.iinc K.here K.hx rfl (hb K.hby hd) hl hl' q) kk
theorem own_goto (K : own_K p l e R s m args below meth c bytes own nm mx ret Q G Z T L k n h) {o : Int} (hd : decode bytes pc = .ok (.goto o, 3)) (hp : ((pc : Int) + o).toNat = pc') (ho : 0 ≤ (pc : Int) + o) (kk : G (T.setTop (mkF m pc' Ls st))) : G (T.setTop (mkF m pc Ls st)) :=
  K.cl _ _ (fun t q => XS.goto K.here K.hx rfl rfl (hb K.hby hd) ho hp q) kk
theorem own_ifYes (K : own_K p l e R s m args below meth c bytes own nm mx ret Q G Z T L k n h) {cd : ClassFile.Cond} {x : Int32} {o : Int} (hd : decode bytes pc = .ok (.ifCond cd o, 3)) (hp : ((pc : Int) + o).toNat = pc') (ho : 0 ≤ (pc : Int) + o) (hc : ifCond.holds cd x = true) (kk : G (T.setTop (mkF m pc' Ls rest))) : G (T.setTop (mkF m pc Ls (.int x :: rest))) :=
  K.cl _ _ (fun t q => XS.ifYes K.here K.hx rfl rfl (hb K.hby hd) rfl hc ho hp q) kk
theorem own_ifNo (K : own_K p l e R s m args below meth c bytes own nm mx ret Q G Z T L k n h) {cd : ClassFile.Cond} {x : Int32} {o : Int} (hd : decode bytes pc = .ok (.ifCond cd o, 3)) (hp : pc + 3 = pc') (hc : ifCond.holds cd x = false) (kk : G (T.setTop (mkF m pc' Ls rest))) : G (T.setTop (mkF m pc Ls (.int x :: rest))) := by
  subst hp
  exact K.cl _ _ (fun t q => XS.ifNo K.here K.hx rfl (hb K.hby hd) rfl hc q) kk
theorem own_icmpYes (K : own_K p l e R s m args below meth c bytes own nm mx ret Q G Z T L k n h) {cd : ClassFile.Cond} {x y : Int32} {o : Int} (hd : decode bytes pc = .ok (.if_icmp cd o, 3)) (hp : ((pc : Int) + o).toNat = pc') (ho : 0 ≤ (pc : Int) + o) (hc : if_icmp.holds cd x y = true) (kk : G (T.setTop (mkF m pc' Ls rest))) : G (T.setTop (mkF m pc Ls (.int y :: .int x :: rest))) :=
  K.cl _ _ (fun t q => XS.icmpYes K.here K.hx rfl rfl (hb K.hby hd) rfl hc ho hp q) kk
theorem own_icmpNo (K : own_K p l e R s m args below meth c bytes own nm mx ret Q G Z T L k n h) {cd : ClassFile.Cond} {x y : Int32} {o : Int} (hd : decode bytes pc = .ok (.if_icmp cd o, 3)) (hp : pc + 3 = pc') (hc : if_icmp.holds cd x y = false) (kk : G (T.setTop (mkF m pc' Ls rest))) : G (T.setTop (mkF m pc Ls (.int y :: .int x :: rest))) := by
  subst hp
  exact K.cl _ _ (fun t q => XS.icmpNo K.here K.hx rfl (hb K.hby hd) rfl hc q) kk
theorem own_ifnullYes (K : own_K p l e R s m args below meth c bytes own nm mx ret Q G Z T L k n h) {o : Int} (hd : decode bytes pc = .ok (.ifnull o, 3)) (hp : ((pc : Int) + o).toNat = pc') (ho : 0 ≤ (pc : Int) + o) (kk : G (T.setTop (mkF m pc' Ls rest))) : G (T.setTop (mkF m pc Ls (.null :: rest))) :=
  K.cl _ _ (fun t q => XS.ifnullYes K.here K.hx rfl rfl (hb K.hby hd) rfl ho hp q) kk
theorem own_ifnullNo (K : own_K p l e R s m args below meth c bytes own nm mx ret Q G Z T L k n h) {o : Int} {b : Addr} (hd : decode bytes pc = .ok (.ifnull o, 3)) (hp : pc + 3 = pc') (kk : G (T.setTop (mkF m pc' Ls rest))) : G (T.setTop (mkF m pc Ls (.ref b :: rest))) := by
  subst hp
  exact K.cl _ _ (fun t q => XS.ifnullNo K.here K.hx rfl (hb K.hby hd) rfl q) kk
theorem own_ifnonnullYes (K : own_K p l e R s m args below meth c bytes own nm mx ret Q G Z T L k n h) {o : Int} {b : Addr} (hd : decode bytes pc = .ok (.ifnonnull o, 3)) (hp : ((pc : Int) + o).toNat = pc') (ho : 0 ≤ (pc : Int) + o) (kk : G (T.setTop (mkF m pc' Ls rest))) : G (T.setTop (mkF m pc Ls (.ref b :: rest))) :=
  K.cl _ _ (fun t q => XS.ifnonnullYes K.here K.hx rfl rfl (hb K.hby hd) rfl ho hp q) kk
theorem own_ifnonnullNo (K : own_K p l e R s m args below meth c bytes own nm mx ret Q G Z T L k n h) {o : Int} (hd : decode bytes pc = .ok (.ifnonnull o, 3)) (hp : pc + 3 = pc') (kk : G (T.setTop (mkF m pc' Ls rest))) : G (T.setTop (mkF m pc Ls (.null :: rest))) := by
  subst hp
  exact K.cl _ _ (fun t q => XS.ifnonnullNo K.here K.hx rfl (hb K.hby hd) rfl q) kk
theorem own_acmp (K : own_K p l e R s m args below meth c bytes own nm mx ret Q G Z T L k n h) {cd : ACond} {x y : Value} {o : Int} {same : Bool} (hd : decode bytes pc = .ok (.if_acmp cd o, 3)) (h1 : x.isRef = true) (h2 : y.isRef = true) (hq : decide (x = y) = same) (ho : 0 ≤ (pc : Int) + o) (hp : pc' = if acV cd same = true then ((pc : Int) + o).toNat else pc + 3) (kk : G (T.setTop (mkF m pc' Ls rest))) : G (T.setTop (mkF m pc Ls (y :: x :: rest))) :=
  K.cl _ _ (fun t q => RoadKit.acmp K.X K.hx rfl h1 h2 rfl (hb K.hby hd) rfl hq ho hp q) kk
theorem own_getF (K : own_K p l e R s m args below meth c bytes own nm mx ret Q G Z T L k n h) {R0 O nf d host : String} {index : Nat} {a : Addr} {v : Value} (w : (Cond.fieldLink own index R0 nf d).before a0 Z = true ∨ (Cond.fieldLinkNest own index R0 nf d host).before a0 Z = true) (via : Via Z R0 O nf d) (F : Fld Z h a O nf d v) (hd : decode bytes pc = .ok (.getfield index, 3)) (hp : pc + 3 = pc') (kk : ∀ T', own_K p l e R s m args below meth c bytes own nm mx ret Q G Z T' L k n h → G (T'.setTop (mkF m pc' Ls (v :: rest)))) : G (T.setTop (mkF m pc Ls (.ref a :: rest))) := by
  subst hp
  obtain ⟨T', X', e', st'⟩ := getF K.X K.hx K.hZ K.hown w via K.eh F (g := mkF m pc Ls (.ref a :: rest)) rfl rfl (hb K.hby hd)
  exact K.cl _ _ st' (kk T' (K.nx X' e' K.fr K.O))
theorem own_getS (K : own_K p l e R s m args below meth c bytes own nm mx ret Q G Z T L k n h) {R0 O nf d : String} {index : Nat} {v : Value} (w : (Cond.fieldLink own index R0 nf d).before a0 Z = true) (via : Via Z R0 O nf d) (F : Sta Z h O nf d v) (hd : decode bytes pc = .ok (.getstatic index, 3)) (hp : pc + 3 = pc') (kk : ∀ T', own_K p l e R s m args below meth c bytes own nm mx ret Q G Z T' L k n h → G (T'.setTop (mkF m pc' Ls (v :: st)))) : G (T.setTop (mkF m pc Ls st)) := by
  subst hp
  obtain ⟨T', X', e', st'⟩ := getS (host := "") K.X K.hx K.hZ K.hown w via K.eh F (g := mkF m pc Ls st) rfl (hb K.hby hd)
  exact K.cl _ _ st' (kk T' (K.nx X' e' K.fr K.O))
theorem own_putF (K : own_K p l e R s m args below meth c bytes own nm mx ret Q G Z T L k n h) {R0 O nf d host C : String} {index kk0 : Nat} {ty : FieldType} {a : Addr} {v old : Value} (w : (Cond.fieldLink own index R0 nf d).before a0 Z = true ∨ (Cond.fieldLinkNest own index R0 nf d host).before a0 Z = true) (via : Via Z R0 O nf d) (F : Fld Z h a O nf d old) (E : Exa Z h a C) (Ly : (Cond.lays C O nf d).before a0 Z = true ∨ ((Cond.laysFinal C O nf d).before a0 Z = true ∧ own = O ∧ nm = "<init>")) (wi : (Cond.instantiable C kk0).before a0 Z = true) (hty : parseFieldDescriptor d = some ty) (hn : narrow ty v = v) (hf : fits ty v = true) (ha : Z.heap.size ≤ a) (hd : decode bytes pc = .ok (.putfield index, 3)) (hp : pc + 3 = pc') (kk : ∀ T' h', own_K p l e R s m args below meth c bytes own nm mx ret Q G Z T' (L ++ [⟨a, RoadKit.slotOf Z O nf d⟩]) k n h' → Wr h h' a (RoadKit.slotOf Z O nf d) v → G (T'.setTop (mkF m pc' Ls rest))) : G (T.setTop (mkF m pc Ls (v :: .ref a :: rest))) := by
  subst hp
  obtain ⟨T', h', X', e', W', st'⟩ := putF K.X K.hx K.hZ K.hown w via K.eh F E (Ly.imp id fun q => ⟨q.1, q.2.1, K.hnm.trans q.2.2⟩) wi hty hn hf (g := mkF m pc Ls (v :: .ref a :: rest)) rfl rfl (hb K.hby hd)
  exact K.cl _ _ st' (kk T' h' (K.nx X' e' (Fr.snoc X' K.fr ha) (own_ext_wr K.O W' ha)) W')
theorem own_putFN (K : own_K p l e R s m args below meth c bytes own nm mx ret Q G Z T L k n h) {R0 O nf d C : String} {index kk0 : Nat} {ty : FieldType} {a : Addr} {v v' old : Value} (w : (Cond.fieldLink own index R0 nf d).before a0 Z = true) (via : Via Z R0 O nf d) (F : Fld Z h a O nf d old) (E : Exa Z h a C) (Ly : (Cond.lays C O nf d).before a0 Z = true ∨ ((Cond.laysFinal C O nf d).before a0 Z = true ∧ own = O ∧ nm = "<init>")) (wi : (Cond.instantiable C kk0).before a0 Z = true) (hty : parseFieldDescriptor d = some ty) (hn : narrow ty v = v') (hf : fits ty v' = true) (ha : Z.heap.size ≤ a) (hd : decode bytes pc = .ok (.putfield index, 3)) (hp : pc + 3 = pc') (kk : ∀ T' h', own_K p l e R s m args below meth c bytes own nm mx ret Q G Z T' (L ++ [⟨a, RoadKit.slotOf Z O nf d⟩]) k n h' → Wr h h' a (RoadKit.slotOf Z O nf d) v' → G (T'.setTop (mkF m pc' Ls rest))) : G (T.setTop (mkF m pc Ls (v :: .ref a :: rest))) := by
  subst hp
  obtain ⟨T', h', X', e', W', st'⟩ := putFN K.X K.hx K.hZ K.hown w via K.eh F E (Ly.imp id fun q => ⟨q.1, q.2.1, K.hnm.trans q.2.2⟩) wi hty hn hf (g := mkF m pc Ls (v :: .ref a :: rest)) rfl rfl (hb K.hby hd)
  exact K.cl _ _ st' (kk T' h' (K.nx X' e' (Fr.snoc X' K.fr ha) (own_ext_wr K.O W' ha)) W')
theorem own_newO (K : own_K p l e R s m args below meth c bytes own nm mx ret Q G Z T L k n h) {C : String} {index j : Nat} (w : (Cond.classLink own index C).before a0 Z = true) (wi : (Cond.instantiable C j).before a0 Z = true) (wz : (Cond.initialized C).before a0 Z = true) (hd : decode bytes pc = .ok (.new index, 3)) (hc : k + 1 ≤ R.cells) (hl : n + j ≤ R.slots) (hp : pc + 3 = pc') (kk : ∀ T' h' (a : Addr), own_K p l e R s m args below meth c bytes own nm mx ret Q G Z T' L (k + 1) (n + j) h' → a = h.size → Ext h h' → Exa Z h' a C → (∀ {O nf d : String} {ty : FieldType}, Laid Z a0 C O nf d → parseFieldDescriptor d = some ty → Fld Z h' a O nf d (defaultValue ty)) → Unt h' a → G (T'.setTop (mkF m pc' Ls (.ref a :: st)))) : G (T.setTop (mkF m pc Ls st)) := by
  subst hp
  obtain ⟨T', h', X', e', E', A', D', U', st'⟩ := newO K.X K.hx K.hZ K.hown w wi wz K.eh (g := mkF m pc Ls st) rfl (hb K.hby hd) hc hl
  exact K.cl _ _ st' (kk T' h' h.size (K.nx X' e' K.fr (own_ext_trans K.O E')) rfl E' A' D' U')
theorem own_newP (K : own_K p l e R s m args below meth c bytes own nm mx ret Q G Z T L k n h) {aty : ArrayType} {z : Int32} {cap : Nat} (w : (Cond.arrayClass (newarray.typeOf aty)).before a0 Z = true) (hd : decode bytes pc = .ok (.newarray aty, 2)) (hz : ¬ z < 0) (hcap : z.toNatClampNeg ≤ cap) (hcb : cap * 8 ≤ 536870912) (hc : k + 1 ≤ R.cells) (hl : n + cap ≤ R.slots) (hp : pc + 2 = pc') (kk : ∀ T' h' (a : Addr) (cA : ClassId), own_K p l e R s m args below meth c bytes own nm mx ret Q G Z T' L (k + 1) (n + cap) h' → a = h.size → Ext h h' → Arv Z h' a cA (newarray.typeOf aty) z [] (defaultValue (newarray.typeOf aty)) → G (T'.setTop (mkF m pc' Ls (.ref a :: rest)))) : G (T.setTop (mkF m pc Ls (.int z :: rest))) := by
  subst hp
  obtain ⟨T', h', cA, X', e', E', A', st'⟩ := newP K.X K.hx K.hZ w K.eh (g := mkF m pc Ls (.int z :: rest)) rfl (hb K.hby hd) rfl hz hcap hcb hc hl
  exact K.cl _ _ st' (kk T' h' h.size cA (K.nx X' e' K.fr (own_ext_trans K.O E')) rfl E' (Arv.new A' hz))
theorem own_newR (K : own_K p l e R s m args below meth c bytes own nm mx ret Q G Z T L k n h) {C : String} {index : Nat} {z : Int32} {cap : Nat} (w1 : (Cond.classLink own index C).before a0 Z = true) (w2 : (Cond.arrayOver (.object C)).before a0 Z = true) (hd : decode bytes pc = .ok (.anewarray index, 3)) (hz : ¬ z < 0) (hcap : z.toNatClampNeg ≤ cap) (hcb : cap * 8 ≤ 536870912) (hc : k + 1 ≤ R.cells) (hl : n + cap ≤ R.slots) (hp : pc + 3 = pc') (kk : ∀ T' h' (a : Addr) (cA : ClassId), own_K p l e R s m args below meth c bytes own nm mx ret Q G Z T' L (k + 1) (n + cap) h' → a = h.size → Ext h h' → Arv Z h' a cA (.object C) z [] .null → Ovr Z cA C → G (T'.setTop (mkF m pc' Ls (.ref a :: rest)))) : G (T.setTop (mkF m pc Ls (.int z :: rest))) := by
  subst hp
  obtain ⟨T', h', cA, X', e', E', A', O', st'⟩ := newR K.X K.hx K.hZ K.hown w1 w2 K.eh (g := mkF m pc Ls (.int z :: rest)) rfl (hb K.hby hd) rfl hz hcap hcb hc hl
  exact K.cl _ _ st' (kk T' h' h.size cA (K.nx X' e' K.fr (own_ext_trans K.O E')) rfl E' (Arv.new A' hz) O')
theorem own_castY (K : own_K p l e R s m args below meth c bytes own nm mx ret Q G Z T L k n h) {Kc : String} {index : Nat} {a : Addr} (w : (Cond.classLink own index Kc).before a0 Z = true) (F : Ins Z h a Kc true) (hd : decode bytes pc = .ok (.checkcast index, 3)) (hp : pc + 3 = pc') (kk : ∀ T', own_K p l e R s m args below meth c bytes own nm mx ret Q G Z T' L k n h → G (T'.setTop (mkF m pc' Ls (.ref a :: rest)))) : G (T.setTop (mkF m pc Ls (.ref a :: rest))) := by
  subst hp
  obtain ⟨T', X', e', st'⟩ := castY K.X K.hx K.hZ K.hown w K.eh F (g := mkF m pc Ls (.ref a :: rest)) rfl rfl (hb K.hby hd)
  exact K.cl _ _ st' (kk T' (K.nx X' e' K.fr K.O))
theorem own_instY (K : own_K p l e R s m args below meth c bytes own nm mx ret Q G Z T L k n h) {Kc : String} {index : Nat} {a : Addr} (w : (Cond.classLink own index Kc).before a0 Z = true) (F : Ins Z h a Kc true) (hd : decode bytes pc = .ok (.instanceof index, 3)) (hp : pc + 3 = pc') (kk : ∀ T', own_K p l e R s m args below meth c bytes own nm mx ret Q G Z T' L k n h → G (T'.setTop (mkF m pc' Ls (.int 1 :: rest)))) : G (T.setTop (mkF m pc Ls (.ref a :: rest))) := by
  subst hp
  obtain ⟨T', X', e', st'⟩ := instY K.X K.hx K.hZ K.hown w K.eh F (g := mkF m pc Ls (.ref a :: rest)) rfl rfl (hb K.hby hd)
  exact K.cl _ _ st' (kk T' (K.nx X' e' K.fr K.O))
theorem own_castNull (K : own_K p l e R s m args below meth c bytes own nm mx ret Q G Z T L k n h) {index : Nat} (hd : decode bytes pc = .ok (.checkcast index, 3)) (hp : pc + 3 = pc') (kk : G (T.setTop (mkF m pc' Ls (.null :: rest)))) : G (T.setTop (mkF m pc Ls (.null :: rest))) := by
  subst hp
  exact K.cl _ _ (K.X.checkcastNull K.hx (g := mkF m pc Ls (.null :: rest)) rfl rfl (hb K.hby hd)) kk
theorem own_ldcInt (K : own_K p l e R s m args below meth c bytes own nm mx ret Q G Z T L k n h) {index : Nat} {v : Int32} (w : (Cond.constant own index v).before a0 Z = true) (hd : decode bytes pc = .ok (.ldc index, 2)) (hp : pc + 2 = pc') (kk : G (T.setTop (mkF m pc' Ls (.int v :: st)))) : G (T.setTop (mkF m pc Ls st)) := by
  subst hp
  exact K.cl _ _ (K.X.ldcInt K.hx K.hown (mvT K.hZ w) (g := mkF m pc Ls st) rfl (hb K.hby hd)) kk
theorem own_ldcwInt (K : own_K p l e R s m args below meth c bytes own nm mx ret Q G Z T L k n h) {index : Nat} {v : Int32} (w : (Cond.constant own index v).before a0 Z = true) (hd : decode bytes pc = .ok (.ldc_w index, 3)) (hp : pc + 3 = pc') (kk : G (T.setTop (mkF m pc' Ls (.int v :: st)))) : G (T.setTop (mkF m pc Ls st)) := by
  subst hp
  exact K.cl _ _ (K.X.ldcwInt K.hx K.hown (mvT K.hZ w) (g := mkF m pc Ls st) rfl (hb K.hby hd)) kk
theorem own_ldc2Long (K : own_K p l e R s m args below meth c bytes own nm mx ret Q G Z T L k n h) {index : Nat} {v : Int64} (w : (Cond.constantLong own index v).before a0 Z = true) (hd : decode bytes pc = .ok (.ldc2_w index, 3)) (hp : pc + 3 = pc') (kk : G (T.setTop (mkF m pc' Ls (.long v :: st)))) : G (T.setTop (mkF m pc Ls st)) := by
  subst hp
  exact K.cl _ _ (K.X.ldc2Long K.hx K.hown (mvT K.hZ w) (g := mkF m pc Ls st) rfl (hb K.hby hd)) kk
theorem own_inb {z j : Int32} {cl : Cell} (S : cl.slots.size = z.toNatClampNeg) (q : ¬ j < 0 ∧ j < z) : ¬ (j < 0 ∨ cl.slots.size ≤ j.toNatClampNeg) := inb_of S q
theorem own_at {z j : Int32} {cl : Cell} {vs : List Value} {dv v : Value} (S : cl.slots.size = z.toNatClampNeg) (H : Has cl vs dv) (q : ¬ j < 0 ∧ j < z) (hv : vs.getD j.toNatClampNeg dv = v) : cl.slots[j.toNatClampNeg]? = some v := by
  have h1 := inb_of S q
  rw [← hv]; exact H _ (by omega)
theorem own_iaload (K : own_K p l e R s m args below meth c bytes own nm mx ret Q G Z T L k n h) {a : Addr} {kA : ClassId} {z j : Int32} {vs : List Value} {dv : Value} {x : Int32} (V : Arv Z h a kA .int z vs dv) (hj : ¬ j < 0 ∧ j < z) (hv : vs.getD j.toNatClampNeg dv = .int x) (hd : decode bytes pc = .ok (.iaload, 1)) (hp : pc + 1 = pc') (kk : G (T.setTop (mkF m pc' Ls (.int x :: rest)))) : G (T.setTop (mkF m pc Ls (.int j :: .ref a :: rest))) := by
  subst hp
  obtain ⟨cl, A, -, S, -, H, -⟩ := V
  exact K.cl _ _ (K.X.iaload K.hx (j := j) (v := .int x) (by rw [K.eh]; exact A.1) (State.isArrayOf_alike K.hZ.alike A.2.1) A.2.2 (own_inb S hj) (own_at S H hj hv) (g := mkF m pc Ls (.int j :: .ref a :: rest)) rfl rfl (hb K.hby hd)) kk
theorem own_caload (K : own_K p l e R s m args below meth c bytes own nm mx ret Q G Z T L k n h) {a : Addr} {kA : ClassId} {z j : Int32} {vs : List Value} {dv : Value} {x : Int32} (V : Arv Z h a kA .char z vs dv) (hj : ¬ j < 0 ∧ j < z) (hv : vs.getD j.toNatClampNeg dv = .int x) (hd : decode bytes pc = .ok (.caload, 1)) (hp : pc + 1 = pc') (kk : G (T.setTop (mkF m pc' Ls (.int x :: rest)))) : G (T.setTop (mkF m pc Ls (.int j :: .ref a :: rest))) := by
  subst hp
  obtain ⟨cl, A, -, S, -, H, -⟩ := V
  exact K.cl _ _ (K.X.caload K.hx (j := j) (v := .int x) (by rw [K.eh]; exact A.1) (State.isArrayOf_alike K.hZ.alike A.2.1) A.2.2 (own_inb S hj) (own_at S H hj hv) (g := mkF m pc Ls (.int j :: .ref a :: rest)) rfl rfl (hb K.hby hd)) kk
theorem own_baload (K : own_K p l e R s m args below meth c bytes own nm mx ret Q G Z T L k n h) {a : Addr} {kA : ClassId} {z j : Int32} {vs : List Value} {dv : Value} {x : Int32} (V : Arv Z h a kA .byte z vs dv) (hj : ¬ j < 0 ∧ j < z) (hv : vs.getD j.toNatClampNeg dv = .int x) (hd : decode bytes pc = .ok (.baload, 1)) (hp : pc + 1 = pc') (kk : G (T.setTop (mkF m pc' Ls (.int x :: rest)))) : G (T.setTop (mkF m pc Ls (.int j :: .ref a :: rest))) := by
  subst hp
  obtain ⟨cl, A, -, S, -, H, -⟩ := V
  exact K.cl _ _ (K.X.baloadBytes K.hx (j := j) (v := .int x) (by rw [K.eh]; exact A.1) (State.isArrayOf_alike K.hZ.alike A.2.1) A.2.2 (own_inb S hj) (own_at S H hj hv) (g := mkF m pc Ls (.int j :: .ref a :: rest)) rfl rfl (hb K.hby hd)) kk
theorem own_laload (K : own_K p l e R s m args below meth c bytes own nm mx ret Q G Z T L k n h) {a : Addr} {kA : ClassId} {z j : Int32} {vs : List Value} {dv : Value} {x : Int64} (V : Arv Z h a kA .long z vs dv) (hj : ¬ j < 0 ∧ j < z) (hv : vs.getD j.toNatClampNeg dv = .long x) (hd : decode bytes pc = .ok (.laload, 1)) (hp : pc + 1 = pc') (kk : G (T.setTop (mkF m pc' Ls (.long x :: rest)))) : G (T.setTop (mkF m pc Ls (.int j :: .ref a :: rest))) := by
  subst hp
  obtain ⟨cl, A, -, S, -, H, -⟩ := V
  exact K.cl _ _ (K.X.laload K.hx (j := j) (v := .long x) (by rw [K.eh]; exact A.1) (State.isArrayOf_alike K.hZ.alike A.2.1) A.2.2 (own_inb S hj) (own_at S H hj hv) (g := mkF m pc Ls (.int j :: .ref a :: rest)) rfl rfl (hb K.hby hd)) kk
theorem own_aaload (K : own_K p l e R s m args below meth c bytes own nm mx ret Q G Z T L k n h) {a : Addr} {kA : ClassId} {ty : FieldType} {z j : Int32} {vs : List Value} {dv v : Value} (V : Arv Z h a kA ty z vs dv) (hty : ty.isReference = true) (hj : ¬ j < 0 ∧ j < z) (hv : vs.getD j.toNatClampNeg dv = v) (hr : v.isRef = true) (hd : decode bytes pc = .ok (.aaload, 1)) (hp : pc + 1 = pc') (kk : G (T.setTop (mkF m pc' Ls (v :: rest)))) : G (T.setTop (mkF m pc Ls (.int j :: .ref a :: rest))) := by
  subst hp
  obtain ⟨cl, A, -, S, -, H, -⟩ := V
  exact K.cl _ _ (K.X.aaload K.hx (j := j) (v := v) (by rw [K.eh]; exact A.1) (State.isArrayOf_alike K.hZ.alike A.2.1) hty A.2.2 (own_inb S hj) (own_at S H hj hv) (g := mkF m pc Ls (.int j :: .ref a :: rest)) rfl rfl (hb K.hby hd)) kk
theorem own_arraylength (K : own_K p l e R s m args below meth c bytes own nm mx ret Q G Z T L k n h) {a : Addr} {kA : ClassId} {ty : FieldType} {z : Int32} {vs : List Value} {dv : Value} (V : Arv Z h a kA ty z vs dv) (hd : decode bytes pc = .ok (.arraylength, 1)) (hp : pc + 1 = pc') (kk : G (T.setTop (mkF m pc' Ls (.int z :: rest)))) : G (T.setTop (mkF m pc Ls (.ref a :: rest))) := by
  subst hp
  obtain ⟨cl, A, -, S, hz, H, -⟩ := V
  refine K.cl _ _ (K.X.arraylength K.hx (by rw [K.eh]; exact A.1) (State.isArrayOf_alike K.hZ.alike A.2.1) (g := mkF m pc Ls (.ref a :: rest)) rfl rfl (hb K.hby hd)) ?_
  rw [len_of S hz]; exact kk
theorem own_castore (K : own_K p l e R s m args below meth c bytes own nm mx ret Q G Z T L k n h) {a : Addr} {kA : ClassId} {z j x x' : Int32} {vs : List Value} {dv : Value} (V : Arv Z h a kA .char z vs dv) (hj : ¬ j < 0 ∧ j < z) (i : Nat) (hi : j.toNatClampNeg = i) (hl : i < vs.length) (hx' : nar .char x = x') (ha : Z.heap.size ≤ a) (hd : decode bytes pc = .ok (.castore, 1)) (hp : pc + 1 = pc')
    (kk : ∀ T' h', own_K p l e R s m args below meth c bytes own nm mx ret Q G Z T' (L ++ [⟨a, i⟩]) k n h' → Wr h h' a i (.int x') → Arv Z h' a kA .char z (vs.set i (.int x')) dv → G (T'.setTop (mkF m pc' Ls rest))) : G (T.setTop (mkF m pc Ls (.int x :: .int j :: .ref a :: rest))) := by
  subst hp hx' hi
  obtain ⟨cl, A, q1, S, hz, H, Gf⟩ := V
  obtain ⟨T', h', X', e', W', st'⟩ := stC K.X K.hx K.hZ K.eh A (j := j) (own_inb S hj) (g := mkF m pc Ls (.int x :: .int j :: .ref a :: rest)) rfl rfl (hb K.hby hd)
  exact K.cl _ _ st' (kk T' h' (K.nx X' e' (Fr.snoc X' K.fr ha) (own_ext_wr K.O W' ha)) W' (Arv.set A q1 S hz H Gf (fits_nar_char _) W' _ rfl hl))
theorem own_bastore (K : own_K p l e R s m args below meth c bytes own nm mx ret Q G Z T L k n h) {a : Addr} {kA : ClassId} {z j x x' : Int32} {vs : List Value} {dv : Value} (V : Arv Z h a kA .byte z vs dv) (hj : ¬ j < 0 ∧ j < z) (i : Nat) (hi : j.toNatClampNeg = i) (hl : i < vs.length) (hx' : nar .byte x = x') (ha : Z.heap.size ≤ a) (hd : decode bytes pc = .ok (.bastore, 1)) (hp : pc + 1 = pc')
    (kk : ∀ T' h', own_K p l e R s m args below meth c bytes own nm mx ret Q G Z T' (L ++ [⟨a, i⟩]) k n h' → Wr h h' a i (.int x') → Arv Z h' a kA .byte z (vs.set i (.int x')) dv → G (T'.setTop (mkF m pc' Ls rest))) : G (T.setTop (mkF m pc Ls (.int x :: .int j :: .ref a :: rest))) := by
  subst hp hx' hi
  obtain ⟨cl, A, q1, S, hz, H, Gf⟩ := V
  obtain ⟨T', h', X', e', W', st'⟩ := stB K.X K.hx K.hZ K.eh A (j := j) (own_inb S hj) (g := mkF m pc Ls (.int x :: .int j :: .ref a :: rest)) rfl rfl (hb K.hby hd)
  exact K.cl _ _ st' (kk T' h' (K.nx X' e' (Fr.snoc X' K.fr ha) (own_ext_wr K.O W' ha)) W' (Arv.set A q1 S hz H Gf (fits_nar_byte _) W' _ rfl hl))
theorem own_zastore (K : own_K p l e R s m args below meth c bytes own nm mx ret Q G Z T L k n h) {a : Addr} {kA : ClassId} {z j x x' : Int32} {vs : List Value} {dv : Value} (V : Arv Z h a kA .boolean z vs dv) (hj : ¬ j < 0 ∧ j < z) (i : Nat) (hi : j.toNatClampNeg = i) (hl : i < vs.length) (hx' : nar .boolean x = x') (ha : Z.heap.size ≤ a) (hd : decode bytes pc = .ok (.bastore, 1)) (hp : pc + 1 = pc')
    (kk : ∀ T' h', own_K p l e R s m args below meth c bytes own nm mx ret Q G Z T' (L ++ [⟨a, i⟩]) k n h' → Wr h h' a i (.int x') → Arv Z h' a kA .boolean z (vs.set i (.int x')) dv → G (T'.setTop (mkF m pc' Ls rest))) : G (T.setTop (mkF m pc Ls (.int x :: .int j :: .ref a :: rest))) := by
  subst hp hx' hi
  obtain ⟨cl, A, q1, S, hz, H, Gf⟩ := V
  obtain ⟨T', h', X', e', W', st'⟩ := stZ K.X K.hx K.hZ K.eh A (j := j) (own_inb S hj) (g := mkF m pc Ls (.int x :: .int j :: .ref a :: rest)) rfl rfl (hb K.hby hd)
  exact K.cl _ _ st' (kk T' h' (K.nx X' e' (Fr.snoc X' K.fr ha) (own_ext_wr K.O W' ha)) W' (Arv.set A q1 S hz H Gf (fits_nar_bool _) W' _ rfl hl))
theorem own_aastore (K : own_K p l e R s m args below meth c bytes own nm mx ret Q G Z T L k n h) {a : Addr} {kA : ClassId} {ty : FieldType} {z j : Int32} {v : Value} {vs : List Value} {dv : Value} (V : Arv Z h a kA ty z vs dv) (hty : ty.isReference = true) (hf : fits ty v = true) (F : Sto Z h a v) (hj : ¬ j < 0 ∧ j < z) (i : Nat) (hi : j.toNatClampNeg = i) (hl : i < vs.length) (ha : Z.heap.size ≤ a) (hd : decode bytes pc = .ok (.aastore, 1)) (hp : pc + 1 = pc')
    (kk : ∀ T' h', own_K p l e R s m args below meth c bytes own nm mx ret Q G Z T' (L ++ [⟨a, i⟩]) k n h' → Wr h h' a i v → Arv Z h' a kA ty z (vs.set i v) dv → G (T'.setTop (mkF m pc' Ls rest))) : G (T.setTop (mkF m pc Ls (v :: .int j :: .ref a :: rest))) := by
  subst hp hi
  obtain ⟨cl, A, q1, S, hz, H, Gf⟩ := V
  obtain ⟨T', h', X', e', W', st'⟩ := stR K.X K.hx K.hZ K.eh A (j := j) (own_inb S hj) hty F (g := mkF m pc Ls (v :: .int j :: .ref a :: rest)) rfl rfl (hb K.hby hd)
  exact K.cl _ _ st' (kk T' h' (K.nx X' e' (Fr.snoc X' K.fr ha) (own_ext_wr K.O W' ha)) W' (Arv.set A q1 S hz H Gf hf W' _ rfl hl))
theorem own_initO (K : own_K p l e R s m args below meth c bytes own nm mx ret Q G Z T L k n h) {idx : Nat} {a : Addr} {W : Nat} (w1 : (Cond.methodLink own idx Lib.objectInit).before a0 Z = true) (w2 : (Cond.instanceMethod Lib.objectInit).before a0 Z = true) (w3 : (Cond.code Lib.objectInit ⟨#[0xb1]⟩ 1 none).before a0 Z = true) (hsz : Ls.size = mx) (hW : (rest.map fun v => v.category).sum = W) (hf : 1 ≤ R.frames) (hl : W + 12 ≤ R.locals) (hd : decode bytes pc = .ok (.invokespecial idx, 3)) (hp : pc + 3 = pc')
    (kk : ∀ T', own_K p l e R s m args below meth c bytes own nm mx ret Q G Z T' L k n h → G (T'.setTop (mkF m pc' Ls rest))) : G (T.setTop (mkF m pc Ls (.ref a :: rest))) := by
  subst hp
  obtain ⟨T', X', e', st'⟩ := initO K.X K.hx K.hZ K.hown w1 w2 w3 K.eh (g := mkF m pc Ls (.ref a :: rest)) rfl (by rw [K.hml]; exact hsz) rfl (hb K.hby hd) hf (W := W) (by show 2 * 0 + _ ≤ _; rw [hW]; omega) hl
  exact K.cl _ _ st' (kk T' (K.nx X' e' K.fr K.O))
theorem own_callS (K : own_K p l e R s m args below meth c bytes own nm mx ret Q G Z T L k n h) {index W mx' : Nat} {y : MethodName} {bytes' : ByteArray} {ret' : Option FieldType} {rm : Room} {ps : List FieldType} {rr : Option FieldType} {Qc : Option Value → Heap → Prop} {argsL : List Value} (wl : (Cond.methodLink own index y).before a0 Z = true) (ws : (Cond.static y).before a0 Z = true) (C : own_Ct l Z y bytes' mx' ret' [] rm argsL.toArray h Qc) (hcd : (Cond.code y bytes' mx' ret').before a0 Z = true) (hin : (Cond.initialized (y).cls).before a0 Z = true) (hy : y.cls ≠ "java/lang/invoke/MethodHandle" ∧ y.cls ≠ "java/lang/invoke/VarHandle")  (hstk : st = (argsL.reverse ++ rest)) (hpd : parseMethodDescriptor y.desc = some ⟨ps, rr⟩) (hal : argsL.length = ps.length) (hsz : Ls.size = mx) (hW : (rest.map fun v => v.category).sum = W) (hrf : rm.frames + 1 ≤ R.frames) (hrl : W + (mx' + 11) + rm.locals ≤ R.locals) (hrc : k + rm.cells ≤ R.cells) (hrs : n + rm.slots ≤ R.slots) (hd : decode bytes pc = .ok (.invokestatic index, 3)) (hp : pc + 3 = pc')
    (kk : ∀ T' h' L' v, own_K p l e R s m args below meth c bytes own nm mx ret Q G Z T' (L ++ L') (k + rm.cells) (n + rm.slots) h' → Qc v h' → G (T'.setTop (mkF m pc' Ls (v.toList ++ rest)))) : G (T.setTop (mkF m pc Ls st)) := by
  subst hp hstk
  obtain ⟨v, _, ⟨T', L1, k1, n1⟩, -, X', ⟨L', hQ, l1, l2, l3⟩, st'⟩ := Jvm.LawKit.callS K.X K.hx (y := y) K.hown (mvT K.hZ wl) (mvT K.hZ ws) (mvT K.hZ hin) (mvT K.hZ hcd) hy (backOf (W := W) (Q := fun v h L => Fr Z.heap.size L ∧ Ext Z.heap h ∧ Qc v h) C K.hZ hcd hin hrf hrl) (g := mkF m pc Ls (argsL.reverse ++ rest)) rfl (by rw [K.hml]; exact hsz) (argsL := argsL) (rest := rest) (fun sig q => by rw [hpd] at q; cases q; exact hal) rfl (by show 2 * 0 + _ ≤ _; rw [hW]; omega) (hb K.hby hd) (fun _ _ => ⟨rfl, K.eh, hrc, hrs⟩)
  dsimp only [Pt.U, Pt.locs, Pt.cells, Pt.slots] at X' l1 l2 l3 st' hQ
  subst l1 l2 l3
  obtain ⟨hN, hO, hq⟩ := hQ
  exact K.cl _ _ (fun t q => st' t q) (kk T' T'.heap L' v (K.nx X' rfl (Fr.app K.fr hN) hO) hq)
theorem own_callI (K : own_K p l e R s m args below meth c bytes own nm mx ret Q G Z T L k n h) {index W mx' : Nat} {y : MethodName} {bytes' : ByteArray} {rm : Room} {ps : List FieldType} {rr : Option FieldType} {Qc : Option Value → Heap → Prop} {argsL : List Value} {a : Addr} (wl : (Cond.methodLink own index y).before a0 Z = true) (wi : (Cond.instanceMethod y).before a0 Z = true) (C : own_Ct l Z y bytes' mx' none [] rm (.ref a :: argsL).toArray h Qc) (hcd : (Cond.code y bytes' mx' none).before a0 Z = true) (hin : (Cond.initialized (y).cls).before a0 Z = true) (hy : y.cls ≠ "java/lang/invoke/MethodHandle" ∧ y.cls ≠ "java/lang/invoke/VarHandle") (hy1 : y.name = "<init>")  (hstk : st = (argsL.reverse ++ .ref a :: rest)) (hpd : parseMethodDescriptor y.desc = some ⟨ps, rr⟩) (hal : argsL.length = ps.length) (hsz : Ls.size = mx) (hW : (rest.map fun v => v.category).sum = W) (hrf : rm.frames + 1 ≤ R.frames) (hrl : W + (mx' + 11) + rm.locals ≤ R.locals) (hrc : k + rm.cells ≤ R.cells) (hrs : n + rm.slots ≤ R.slots) (hd : decode bytes pc = .ok (.invokespecial index, 3)) (hp : pc + 3 = pc')
    (kk : ∀ T' h' L' v, own_K p l e R s m args below meth c bytes own nm mx ret Q G Z T' (L ++ L') (k + rm.cells) (n + rm.slots) h' → Qc v h' → G (T'.setTop (mkF m pc' Ls (v.toList ++ rest)))) : G (T.setTop (mkF m pc Ls st)) := by
  subst hp hstk
  obtain ⟨v, _, ⟨T', L1, k1, n1⟩, -, X', ⟨L', hQ, l1, l2, l3⟩, st'⟩ := K.X.specialBack K.hx (y := y) hy1 K.hown (mvT K.hZ wl) (mvT K.hZ wi) (mvT K.hZ hcd) hy (backOf (W := W) (Q := fun v h L => Fr Z.heap.size L ∧ Ext Z.heap h ∧ Qc v h) C K.hZ hcd hin hrf hrl) (g := mkF m pc Ls (argsL.reverse ++ .ref a :: rest)) rfl (by rw [K.hml]; exact hsz) (Steps.refl _) (a := a) (argsL := argsL) (rest := rest) (fun sig q => by rw [hpd] at q; cases q; exact hal) rfl (by show 2 * 0 + _ ≤ _; rw [hW]; omega) (hb K.hby hd) (fun _ _ => ⟨rfl, K.eh, hrc, hrs⟩)
  dsimp only [Pt.U, Pt.locs, Pt.cells, Pt.slots] at X' l1 l2 l3 st' hQ
  subst l1 l2 l3
  obtain ⟨hN, hO, hq⟩ := hQ
  exact K.cl _ _ (fun t q => st'.trans q) (kk T' T'.heap L' v (K.nx X' rfl (Fr.app K.fr hN) hO) hq)
theorem own_callV (K : own_K p l e R s m args below meth c bytes own nm mx ret Q G Z T L k n h) {index W mx' : Nat} {y : MethodName} {bytes' : ByteArray} {ret' : Option FieldType} {rm : Room} {ps : List FieldType} {rr : Option FieldType} {Qc : Option Value → Heap → Prop} {argsL : List Value} {a : Addr} {Cc : String} {x0 : MethodName} (wl : (Cond.methodLink own index x0).before a0 Z = true) (wd : (Cond.declares x0).before a0 Z = true) (hnf : ∀ {s : State}, Z.Warmed39 s.vm → NotFace s x0) (wsel : (Cond.selects Cc x0 y).before a0 Z = true) (wi : (Cond.instanceMethod y).before a0 Z = true) (C : own_Ct l Z y bytes' mx' ret' [] rm (.ref a :: argsL).toArray h Qc) (hcd : (Cond.code y bytes' mx' ret').before a0 Z = true) (hin : (Cond.initialized (y).cls).before a0 Z = true) (hy : x0.cls ≠ "java/lang/invoke/MethodHandle" ∧ x0.cls ≠ "java/lang/invoke/VarHandle") (E : Exa Z h a Cc)  (hstk : st = (argsL.reverse ++ .ref a :: rest)) (hpd : parseMethodDescriptor x0.desc = some ⟨ps, rr⟩) (hal : argsL.length = ps.length) (hsz : Ls.size = mx) (hW : (rest.map fun v => v.category).sum = W) (hrf : rm.frames + 1 ≤ R.frames) (hrl : W + (mx' + 11) + rm.locals ≤ R.locals) (hrc : k + rm.cells ≤ R.cells) (hrs : n + rm.slots ≤ R.slots) (hd : decode bytes pc = .ok (.invokevirtual index, 3)) (hp : pc + 3 = pc')
    (kk : ∀ T' h' L' v, own_K p l e R s m args below meth c bytes own nm mx ret Q G Z T' (L ++ L') (k + rm.cells) (n + rm.slots) h' → Qc v h' → G (T'.setTop (mkF m pc' Ls (v.toList ++ rest)))) : G (T.setTop (mkF m pc Ls st)) := by
  subst hp hstk
  obtain ⟨v, _, ⟨T', L1, k1, n1⟩, -, X', ⟨L', hQ, l1, l2, l3⟩, st'⟩ := (isOf K.hZ K.eh E).elim fun cB q => q.elim fun kB q => K.X.virtualBack K.hx (y := x0) (z := y) K.hown (mvT K.hZ wl) (mvT K.hZ wd) (hnf K.hZ) (mvT K.hZ wsel) (mvT K.hZ wi) hy (backOf (W := W) (Q := fun v h L => Fr Z.heap.size L ∧ Ext Z.heap h ∧ Qc v h) C K.hZ hcd hin hrf hrl) q.1 q.2.2 (g := mkF m pc Ls (argsL.reverse ++ .ref a :: rest)) rfl (by rw [K.hml]; exact hsz) (Steps.refl _) (argsL := argsL) (rest := rest) (fun sig q => by rw [hpd] at q; cases q; exact hal) rfl (by show 2 * 0 + _ ≤ _; rw [hW]; omega) (hb K.hby hd) (fun _ _ => ⟨rfl, K.eh, hrc, hrs⟩)
  dsimp only [Pt.U, Pt.locs, Pt.cells, Pt.slots] at X' l1 l2 l3 st' hQ
  subst l1 l2 l3
  obtain ⟨hN, hO, hq⟩ := hQ
  exact K.cl _ _ (fun t q => st'.trans q) (kk T' T'.heap L' v (K.nx X' rfl (Fr.app K.fr hN) hO) hq)
theorem own_callVU (K : own_K p l e R s m args below meth c bytes own nm mx ret Q G Z T L k n h) {index W mx' : Nat} {y : MethodName} {bytes' : ByteArray} {ret' : Option FieldType} {rm : Room} {ps : List FieldType} {rr : Option FieldType} {Qc : Option Value → Heap → Prop} {argsL : List Value} {a : Addr} {Cc owner : String} {x0 : MethodName} (wl : (Cond.methodLink own index x0).before a0 Z = true) (wsm : (Cond.sameMethod x0.cls owner x0.name x0.desc).before a0 Z = true) (wd : (Cond.declares ⟨owner, x0.name, x0.desc⟩).before a0 Z = true) (wsel : (Cond.selects Cc x0 y).before a0 Z = true) (wi : (Cond.instanceMethod y).before a0 Z = true) (C : own_Ct l Z y bytes' mx' ret' [] rm (.ref a :: argsL).toArray h Qc) (hcd : (Cond.code y bytes' mx' ret').before a0 Z = true) (hin : (Cond.initialized (y).cls).before a0 Z = true) (hy : owner ≠ "java/lang/invoke/MethodHandle" ∧ owner ≠ "java/lang/invoke/VarHandle") (E : Exa Z h a Cc)  (hstk : st = (argsL.reverse ++ .ref a :: rest)) (hpd : parseMethodDescriptor x0.desc = some ⟨ps, rr⟩) (hal : argsL.length = ps.length) (hsz : Ls.size = mx) (hW : (rest.map fun v => v.category).sum = W) (hrf : rm.frames + 1 ≤ R.frames) (hrl : W + (mx' + 11) + rm.locals ≤ R.locals) (hrc : k + rm.cells ≤ R.cells) (hrs : n + rm.slots ≤ R.slots) (hd : decode bytes pc = .ok (.invokevirtual index, 3)) (hp : pc + 3 = pc')
    (kk : ∀ T' h' L' v, own_K p l e R s m args below meth c bytes own nm mx ret Q G Z T' (L ++ L') (k + rm.cells) (n + rm.slots) h' → Qc v h' → G (T'.setTop (mkF m pc' Ls (v.toList ++ rest)))) : G (T.setTop (mkF m pc Ls st)) := by
  subst hp hstk
  obtain ⟨v, _, ⟨T', L1, k1, n1⟩, -, X', ⟨L', hQ, l1, l2, l3⟩, st'⟩ := (isOf K.hZ K.eh E).elim fun cB q => q.elim fun kB q => K.X.virtualBackUp K.hx (x := x0) (y := y) K.hown (mvT K.hZ wl) (mvT K.hZ wsm) (mvT K.hZ wd) hy (mvT K.hZ wsel) (mvT K.hZ wi) (backOf (W := W) (Q := fun v h L => Fr Z.heap.size L ∧ Ext Z.heap h ∧ Qc v h) C K.hZ hcd hin hrf hrl) q.1 q.2.2 (g := mkF m pc Ls (argsL.reverse ++ .ref a :: rest)) rfl (by rw [K.hml]; exact hsz) (Steps.refl _) (argsL := argsL) (rest := rest) (fun sig q => by rw [hpd] at q; cases q; exact hal) rfl (by show 2 * 0 + _ ≤ _; rw [hW]; omega) (hb K.hby hd) (fun _ _ => ⟨rfl, K.eh, hrc, hrs⟩)
  dsimp only [Pt.U, Pt.locs, Pt.cells, Pt.slots] at X' l1 l2 l3 st' hQ
  subst l1 l2 l3
  obtain ⟨hN, hO, hq⟩ := hQ
  exact K.cl _ _ (fun t q => st'.trans q) (kk T' T'.heap L' v (K.nx X' rfl (Fr.app K.fr hN) hO) hq)
theorem own_callF (K : own_K p l e R s m args below meth c bytes own nm mx ret Q G Z T L k n h) {index W mx' : Nat} {y : MethodName} {bytes' : ByteArray} {ret' : Option FieldType} {rm : Room} {ps : List FieldType} {rr : Option FieldType} {Qc : Option Value → Heap → Prop} {argsL : List Value} {cnt : Nat} {a : Addr} {Cc : String} {x0 : MethodName} (wl : (Cond.methodLink own index x0).before a0 Z = true) (wd : (Cond.declares x0).before a0 Z = true) (wf : ∀ {s : State} {args : Array Value}, Z.Warmed39 s.vm → (Cond.interfaceMethod x0.cls x0.cls x0.name x0.desc).before args s = true) (wsel : (Cond.selects Cc x0 y).before a0 Z = true) (wi : (Cond.instanceMethod y).before a0 Z = true) (wp : (Cond.publicMethod y).before a0 Z = true) (wu : (Cond.unhidden Cc x0.name x0.desc).before a0 Z = true) (wc : (Cond.castable Cc x0.cls).before a0 Z = true) (C : own_Ct l Z y bytes' mx' ret' [] rm (.ref a :: argsL).toArray h Qc) (hcd : (Cond.code y bytes' mx' ret').before a0 Z = true) (hin : (Cond.initialized (y).cls).before a0 Z = true) (hy : x0.cls ≠ "java/lang/invoke/MethodHandle" ∧ x0.cls ≠ "java/lang/invoke/VarHandle") (E : Exa Z h a Cc)  (hstk : st = (argsL.reverse ++ .ref a :: rest)) (hpd : parseMethodDescriptor x0.desc = some ⟨ps, rr⟩) (hal : argsL.length = ps.length) (hsz : Ls.size = mx) (hW : (rest.map fun v => v.category).sum = W) (hrf : rm.frames + 1 ≤ R.frames) (hrl : W + (mx' + 11) + rm.locals ≤ R.locals) (hrc : k + rm.cells ≤ R.cells) (hrs : n + rm.slots ≤ R.slots) (hd : decode bytes pc = .ok (.invokeinterface index cnt, 5)) (hp : pc + 5 = pc')
    (kk : ∀ T' h' L' v, own_K p l e R s m args below meth c bytes own nm mx ret Q G Z T' (L ++ L') (k + rm.cells) (n + rm.slots) h' → Qc v h' → G (T'.setTop (mkF m pc' Ls (v.toList ++ rest)))) : G (T.setTop (mkF m pc Ls st)) := by
  subst hp hstk
  obtain ⟨v, _, ⟨T', L1, k1, n1⟩, -, X', ⟨L', hQ, l1, l2, l3⟩, st'⟩ := (isOf K.hZ K.eh E).elim fun cB q => q.elim fun kB q => K.X.interfaceBack K.hx (xi := x0) (y := y) K.hown (mvT K.hZ wl) (mvT K.hZ wd) (wf K.hZ) (mvT K.hZ wsel) (mvT K.hZ wi) (mvT K.hZ wp) (mvT K.hZ wu) (mvT K.hZ wc) hy (backOf (W := W) (Q := fun v h L => Fr Z.heap.size L ∧ Ext Z.heap h ∧ Qc v h) C K.hZ hcd hin hrf hrl) q.1 q.2.1 q.2.2 (g := mkF m pc Ls (argsL.reverse ++ .ref a :: rest)) rfl (by rw [K.hml]; exact hsz) (Steps.refl _) (argsL := argsL) (rest := rest) (fun sig q => by rw [hpd] at q; cases q; exact hal) rfl (by show 2 * 0 + _ ≤ _; rw [hW]; omega) (hb K.hby hd) (fun _ _ => ⟨rfl, K.eh, hrc, hrs⟩)
  dsimp only [Pt.U, Pt.locs, Pt.cells, Pt.slots] at X' l1 l2 l3 st' hQ
  subst l1 l2 l3
  obtain ⟨hN, hO, hq⟩ := hQ
  exact K.cl _ _ (fun t q => st'.trans q) (kk T' T'.heap L' v (K.nx X' rfl (Fr.app K.fr hN) hO) hq)
theorem own_callP (K : own_K p l e R s m args below meth c bytes own nm mx ret Q G Z T L k n h) {index W mx' : Nat} {y : MethodName} {bytes' : ByteArray} {ret' : Option FieldType} {rm : Room} {ps : List FieldType} {rr : Option FieldType} {Qc : Option Value → Heap → Prop} {argsL : List Value} {a : Addr} {Cc : String} (wl : (Cond.methodLink own index y).before a0 Z = true) (wi : (Cond.instanceMethod y).before a0 Z = true) (wsel : (Cond.selects y.cls y y).before a0 Z = true) (wp : (Cond.privateMethod y).before a0 Z = true) (C : own_Ct l Z y bytes' mx' ret' [] rm (.ref a :: argsL).toArray h Qc) (hcd : (Cond.code y bytes' mx' ret').before a0 Z = true) (hin : (Cond.initialized (y).cls).before a0 Z = true) (hy : y.cls ≠ "java/lang/invoke/MethodHandle" ∧ y.cls ≠ "java/lang/invoke/VarHandle") (E : Exa Z h a Cc)  (hstk : st = (argsL.reverse ++ .ref a :: rest)) (hpd : parseMethodDescriptor y.desc = some ⟨ps, rr⟩) (hal : argsL.length = ps.length) (hsz : Ls.size = mx) (hW : (rest.map fun v => v.category).sum = W) (hrf : rm.frames + 1 ≤ R.frames) (hrl : W + (mx' + 11) + rm.locals ≤ R.locals) (hrc : k + rm.cells ≤ R.cells) (hrs : n + rm.slots ≤ R.slots) (hd : decode bytes pc = .ok (.invokevirtual index, 3)) (hp : pc + 3 = pc')
    (kk : ∀ T' h' L' v, own_K p l e R s m args below meth c bytes own nm mx ret Q G Z T' (L ++ L') (k + rm.cells) (n + rm.slots) h' → Qc v h' → G (T'.setTop (mkF m pc' Ls (v.toList ++ rest)))) : G (T.setTop (mkF m pc Ls st)) := by
  subst hp hstk
  obtain ⟨v, _, ⟨T', L1, k1, n1⟩, -, X', ⟨L', hQ, l1, l2, l3⟩, st'⟩ := E.cell.elim fun cq q => K.X.privateBack K.hx (y := y) K.hown (mvT K.hZ wl) (mvT K.hZ wi) (mvT K.hZ wsel) (Cond.privateMethod_at (mvP K.hZ wp (args := #[]))) (mvT K.hZ hcd) hy (backOf (W := W) (Q := fun v h L => Fr Z.heap.size L ∧ Ext Z.heap h ∧ Qc v h) C K.hZ hcd hin hrf hrl) (g := mkF m pc Ls (argsL.reverse ++ .ref a :: rest)) rfl (by rw [K.hml]; exact hsz) (Steps.refl _) (a := a) (by rw [K.eh]; exact q.1) q.2 (argsL := argsL) (rest := rest) (fun sig q => by rw [hpd] at q; cases q; exact hal) rfl (by show 2 * 0 + _ ≤ _; rw [hW]; omega) (hb K.hby hd) (fun _ _ => ⟨rfl, K.eh, hrc, hrs⟩)
  dsimp only [Pt.U, Pt.locs, Pt.cells, Pt.slots] at X' l1 l2 l3 st' hQ
  subst l1 l2 l3
  obtain ⟨hN, hO, hq⟩ := hQ
  exact K.cl _ _ (fun t q => st'.trans q) (kk T' T'.heap L' v (K.nx X' rfl (Fr.app K.fr hN) hO) hq)
theorem own_callSK (K : own_K p l e R s m args below meth c bytes own nm mx ret Q G Z T L k n h) {index W mx' : Nat} {y : MethodName} {bytes' : ByteArray} {ret' : Option FieldType} {rm : Room} {ps : List FieldType} {rr : Option FieldType} {Qc : Option Value → Heap → Prop} {argsL : List Value} (hkn : s.vm.MethodsKnown ∧ s.vm.FramesKnown below) (wl : (Cond.methodLink own index y).before a0 Z = true) (ws : (Cond.static y).before a0 Z = true) (C : own_CtK l Z y bytes' mx' ret' [] rm argsL.toArray h Qc) (hcd : (Cond.code y bytes' mx' ret').before a0 Z = true) (hin : (Cond.initialized (y).cls).before a0 Z = true) (hy : y.cls ≠ "java/lang/invoke/MethodHandle" ∧ y.cls ≠ "java/lang/invoke/VarHandle")  (hstk : st = (argsL.reverse ++ rest)) (hpd : parseMethodDescriptor y.desc = some ⟨ps, rr⟩) (hal : argsL.length = ps.length) (hsz : Ls.size = mx) (hW : (rest.map fun v => v.category).sum = W) (hrf : rm.frames + 1 ≤ R.frames) (hrl : W + (mx' + 11) + rm.locals ≤ R.locals) (hrc : k + rm.cells ≤ R.cells) (hrs : n + rm.slots ≤ R.slots) (hd : decode bytes pc = .ok (.invokestatic index, 3)) (hp : pc + 3 = pc')
    (kk : ∀ T' h' L' v, own_K p l e R s m args below meth c bytes own nm mx ret Q G Z T' (L ++ L') (k + rm.cells) (n + rm.slots) h' → Qc v h' → G (T'.setTop (mkF m pc' Ls (v.toList ++ rest)))) : G (T.setTop (mkF m pc Ls st)) := by
  subst hp hstk
  obtain ⟨v, _, ⟨T', L1, k1, n1⟩, -, X', ⟨L', hQ, l1, l2, l3⟩, st'⟩ := Jvm.LawKit.callS K.X K.hx (y := y) K.hown (mvT K.hZ wl) (mvT K.hZ ws) (mvT K.hZ hin) (mvT K.hZ hcd) hy (backOfKL (W := W) (Q := fun v h L => Fr Z.heap.size L ∧ Ext Z.heap h ∧ Qc v h) C K.hZ hcd hin hrf hrl hkn.1 hkn.2) (g := mkF m pc Ls (argsL.reverse ++ rest)) rfl (by rw [K.hml]; exact hsz) (argsL := argsL) (rest := rest) (fun sig q => by rw [hpd] at q; cases q; exact hal) rfl (by show 2 * 0 + _ ≤ _; rw [hW]; omega) (hb K.hby hd) (fun _ _ => ⟨rfl, K.eh, hrc, hrs⟩)
  dsimp only [Pt.U, Pt.locs, Pt.cells, Pt.slots] at X' l1 l2 l3 st' hQ
  subst l1 l2 l3
  obtain ⟨hN, hO, hq⟩ := hQ
  exact K.cl _ _ (fun t q => st' t q) (kk T' T'.heap L' v (K.nx X' rfl (Fr.app K.fr hN) hO) hq)
theorem own_callIK (K : own_K p l e R s m args below meth c bytes own nm mx ret Q G Z T L k n h) {index W mx' : Nat} {y : MethodName} {bytes' : ByteArray} {rm : Room} {ps : List FieldType} {rr : Option FieldType} {Qc : Option Value → Heap → Prop} {argsL : List Value} (hkn : s.vm.MethodsKnown ∧ s.vm.FramesKnown below) {a : Addr} (wl : (Cond.methodLink own index y).before a0 Z = true) (wi : (Cond.instanceMethod y).before a0 Z = true) (C : own_CtK l Z y bytes' mx' none [] rm (.ref a :: argsL).toArray h Qc) (hcd : (Cond.code y bytes' mx' none).before a0 Z = true) (hin : (Cond.initialized (y).cls).before a0 Z = true) (hy : y.cls ≠ "java/lang/invoke/MethodHandle" ∧ y.cls ≠ "java/lang/invoke/VarHandle") (hy1 : y.name = "<init>")  (hstk : st = (argsL.reverse ++ .ref a :: rest)) (hpd : parseMethodDescriptor y.desc = some ⟨ps, rr⟩) (hal : argsL.length = ps.length) (hsz : Ls.size = mx) (hW : (rest.map fun v => v.category).sum = W) (hrf : rm.frames + 1 ≤ R.frames) (hrl : W + (mx' + 11) + rm.locals ≤ R.locals) (hrc : k + rm.cells ≤ R.cells) (hrs : n + rm.slots ≤ R.slots) (hd : decode bytes pc = .ok (.invokespecial index, 3)) (hp : pc + 3 = pc')
    (kk : ∀ T' h' L' v, own_K p l e R s m args below meth c bytes own nm mx ret Q G Z T' (L ++ L') (k + rm.cells) (n + rm.slots) h' → Qc v h' → G (T'.setTop (mkF m pc' Ls (v.toList ++ rest)))) : G (T.setTop (mkF m pc Ls st)) := by
  subst hp hstk
  obtain ⟨v, _, ⟨T', L1, k1, n1⟩, -, X', ⟨L', hQ, l1, l2, l3⟩, st'⟩ := K.X.specialBack K.hx (y := y) hy1 K.hown (mvT K.hZ wl) (mvT K.hZ wi) (mvT K.hZ hcd) hy (backOfKL (W := W) (Q := fun v h L => Fr Z.heap.size L ∧ Ext Z.heap h ∧ Qc v h) C K.hZ hcd hin hrf hrl hkn.1 hkn.2) (g := mkF m pc Ls (argsL.reverse ++ .ref a :: rest)) rfl (by rw [K.hml]; exact hsz) (Steps.refl _) (a := a) (argsL := argsL) (rest := rest) (fun sig q => by rw [hpd] at q; cases q; exact hal) rfl (by show 2 * 0 + _ ≤ _; rw [hW]; omega) (hb K.hby hd) (fun _ _ => ⟨rfl, K.eh, hrc, hrs⟩)
  dsimp only [Pt.U, Pt.locs, Pt.cells, Pt.slots] at X' l1 l2 l3 st' hQ
  subst l1 l2 l3
  obtain ⟨hN, hO, hq⟩ := hQ
  exact K.cl _ _ (fun t q => st'.trans q) (kk T' T'.heap L' v (K.nx X' rfl (Fr.app K.fr hN) hO) hq)
theorem own_excL1 (K : own_K p l e R s m args below meth c bytes own nm mx ret Q G Z T L k n h) (hkn : s.vm.MethodsKnown ∧ s.vm.FramesKnown below) (hl : l.stackTraces = true) {rc : String} {links : List Jvm.Free.Exc.Link} {ic j W : Nat} {a : Addr} {msg : Value} (hok : Jvm.Free.Exc.linksOk 1 links = true) (w1 : (Cond.methodLink own ic (Jvm.Free.Exc.ctor 1 (Jvm.Free.Exc.headName links))).before a0 Z = true) (w2 : (Cond.instanceMethod (Jvm.Free.Exc.ctor 1 (Jvm.Free.Exc.headName links))).before a0 Z = true) (wT : (Jvm.Free.Exc.chainTab 1 rc links).before a0 Z = true) (wi : (Cond.instantiable rc j).before a0 Z = true) (r : ∀ d ∈ twoRefs, d.before a0 Z = true) (hT0 : ThS Z s.heap) (E : Exa Z h a rc) (N : Unt h a) (B : Fld Z h a "java/lang/Throwable" "backtrace" "Ljava/lang/Object;" .null) (B2 : Fld Z h a "java/lang/Throwable" "detailMessage" "Ljava/lang/String;" .null) (hmsg : msg.isRef = true) (ha : Z.heap.size ≤ a) (hsz : Ls.size = mx) (hW : (rest.map fun v => v.category).sum = W) (hf : 4 + links.length ≤ R.frames) (hlo : W + (56 + 14 * links.length) ≤ R.locals) (hc : k + 1 ≤ R.cells) (hsl : n + 2752 ≤ R.slots) (hd : decode bytes pc = .ok (.invokespecial ic, 3)) (hp : pc + 3 = pc')
    (kk : ∀ T' h', own_K p l e R s m args below meth c bytes own nm mx ret Q G Z T' (L ++ sixLocs Z a) (k + 1) (n + 2752) h' → Kp Z h h' a → Exa Z h' a rc → Unt h' a → Fld Z h' a "java/lang/Throwable" "detailMessage" "Ljava/lang/String;" msg → G (T'.setTop (mkF m pc' Ls rest))) : G (T.setTop (mkF m pc Ls (msg :: .ref a :: rest))) := by
  subst hp
  obtain ⟨T', h', X', e', Kp', E', U', F', -, -, st'⟩ := excL1 K.X K.hx hl K.hZ K.hown (links := links) hok w1 w2 wT wi r hT0 (ThS.start.ext K.O) hkn.1 hkn.2 K.eh E N B B2 hmsg (g := mkF m pc Ls (msg :: .ref a :: rest)) rfl (by rw [K.hml]; exact hsz) (rest := rest) rfl (hb K.hby hd) hf (by show 2 * 0 + _ + _ ≤ _; rw [hW]; omega) hc hsl
  exact K.cl _ _ st' (kk T' h' (K.nx X' e' (Fr.six K.fr ha) (own_ext_keep K.O (keep_of_kp Kp') (fun x hx => by cases List.mem_singleton.mp hx; exact ha))) Kp' E' U' F')
theorem own_retI (K : own_K p l e R s m args below meth c bytes own nm mx ret Q G Z T L k n h) {z : Int32} (hd : decode bytes pc = .ok (.ireturn, 1)) (hr : ret = some .int) (hc : k ≤ R.cells) (hn : n ≤ R.slots) (hq : Q (some (.int z)) h) : G (T.setTop (mkF m pc Ls (.int z :: rest))) :=
  K.fin T L k n (some (.int z)) _ K.X K.fr (by rw [K.eh]; exact K.O) hc hn (fun q => by rw [K.hret, hr] at q; cases q) (by rw [K.eh]; exact hq) (fun fs hfs => retOut K.X K.hx (K.hret.trans hr) rfl (Or.inl ⟨rfl, Or.inl rfl, _, rfl⟩) (hb K.hby hd) hfs)
theorem own_retJ (K : own_K p l e R s m args below meth c bytes own nm mx ret Q G Z T L k n h) {z : Int64} (hd : decode bytes pc = .ok (.lreturn, 1)) (hr : ret = some .long) (hc : k ≤ R.cells) (hn : n ≤ R.slots) (hq : Q (some (.long z)) h) : G (T.setTop (mkF m pc Ls (.long z :: rest))) :=
  K.fin T L k n (some (.long z)) _ K.X K.fr (by rw [K.eh]; exact K.O) hc hn (fun q => by rw [K.hret, hr] at q; cases q) (by rw [K.eh]; exact hq) (fun fs hfs => retOut K.X K.hx (K.hret.trans hr) rfl (Or.inr (Or.inl ⟨rfl, rfl, _, rfl⟩)) (hb K.hby hd) hfs)
theorem own_retA (K : own_K p l e R s m args below meth c bytes own nm mx ret Q G Z T L k n h) {w : Value} {t : FieldType} (hd : decode bytes pc = .ok (.areturn, 1)) (hr : ret = some t) (ht : t.isReference = true) (hw : w.isRef = true) (hnw : narrow t w = w) (hc : k ≤ R.cells) (hn : n ≤ R.slots) (hq : Q (some (w)) h) : G (T.setTop (mkF m pc Ls (w :: rest))) :=
  K.fin T L k n (some (w)) _ K.X K.fr (by rw [K.eh]; exact K.O) hc hn (fun q => by rw [K.hret, hr] at q; cases q) (by rw [K.eh]; exact hq) (fun fs hfs => retOut K.X K.hx (K.hret.trans hr) hnw (Or.inr (Or.inr (Or.inr (Or.inr ⟨rfl, ht, hw⟩)))) (hb K.hby hd) hfs)
theorem own_retN (K : own_K p l e R s m args below meth c bytes own nm mx ret Q G Z T L k n h) {z z' : Int32} {t : FieldType} (hd : decode bytes pc = .ok (.ireturn, 1)) (hr : ret = some t) (ht : t = .boolean ∨ t = .byte ∨ t = .char ∨ t = .short) (hz : nar t z = z') (hc : k ≤ R.cells) (hn : n ≤ R.slots) (hq : Q (some (.int z')) h) : G (T.setTop (mkF m pc Ls (.int z :: rest))) := by
  subst hz
  exact K.fin T L k n (some (.int (nar t z))) _ K.X K.fr (by rw [K.eh]; exact K.O) hc hn (fun q => by rw [K.hret, hr] at q; cases q) (by rw [K.eh]; exact hq) (fun fs hfs => retN K.X K.hx (K.hret.trans hr) ht (hb K.hby hd) hfs)
theorem own_ret0 (K : own_K p l e R s m args below meth c bytes own nm mx ret Q G Z T L k n h) (hd : decode bytes pc = .ok (.return_, 1)) (hr : ret = none) (hc : k ≤ R.cells) (hn : n ≤ R.slots) (hq : Q none h) : G (T.setTop (mkF m pc Ls [])) :=
  K.fin T L k n none _ K.X K.fr (by rw [K.eh]; exact K.O) hc hn (fun _ => rfl) (by rw [K.eh]; exact hq) (fun fs hfs => K.X.returnOut K.hx (K.hret.trans hr) (hb K.hby hd) hfs)
end Own
section OwnNum
theorem own_lt {i n : Nat} (h : i < n) (hn : n < 2147483648) : Int32.ofNat i < Int32.ofNat n := by
  rw [Int32.lt_iff_toInt_lt, Int32.toInt_ofNat_of_lt (by omega), Int32.toInt_ofNat_of_lt (by omega)]
  omega
theorem own_nlt {i n : Nat} (h : n ≤ i) (hn : i < 2147483648) : ¬ Int32.ofNat i < Int32.ofNat n := by
  rw [Int32.lt_iff_toInt_lt, Int32.toInt_ofNat_of_lt (by omega), Int32.toInt_ofNat_of_lt (by omega)]
  omega
theorem own_nn {i : Nat} (h : i < 2147483648) : ¬ Int32.ofNat i < 0 := by
  rw [Int32.lt_iff_toInt_lt, Int32.toInt_ofNat_of_lt (by omega)]
  show ¬ (i : Int) < 0
  omega
theorem own_clamp {i : Nat} (h : i < 2147483648) : (Int32.ofNat i).toNatClampNeg = i := by
  rw [Int32.toNatClampNeg, Int32.toInt_ofNat_of_lt (by omega)]; rfl
theorem own_one (i : Nat) : Int32.ofNat i + (1 : Int32) = Int32.ofNat (i + 1) := (Int32.ofNat_add i 1).symm
theorem own_ofNat_inj {i n : Nat} (hi : i < 2147483648) (hn : n < 2147483648) (h : Int32.ofNat i = Int32.ofNat n) : i = n := by
  have := congrArg Int32.toInt h
  rw [Int32.toInt_ofNat_of_lt (by omega), Int32.toInt_ofNat_of_lt (by omega)] at this; omega
theorem own_i2c255 (x : Int32) : ¬ (x &&& (255 : Int32)).toUInt32.toUInt16.toUInt32.toInt32 < 0 ∧ (x &&& (255 : Int32)).toUInt32.toUInt16.toUInt32.toInt32 < 256 := by
  have h1 := c_mask x 255 8 (by decide) (by decide)
  have h2 := c_i2c (x &&& 255)
  rw [Int32.lt_iff_toInt_lt, Int32.lt_iff_toInt_lt]
  rw [show (0 : Int32).toInt = 0 from rfl, show (256 : Int32).toInt = 256 from rfl]
  omega
theorem own_nar_char {x : Int32} (h : ¬ x < 0 ∧ x < 65536) : nar .char x = x := by
  have h2 := c_i2c x
  rw [Int32.lt_iff_toInt_lt, Int32.lt_iff_toInt_lt, show (0 : Int32).toInt = 0 from rfl, show (65536 : Int32).toInt = 65536 from rfl] at h
  apply Int32.toInt_inj.mp
  show (x.toUInt32.toUInt16.toUInt32.toInt32).toInt = _
  omega
theorem own_lt_trans {x a b : Int32} (h : x < a) (h2 : a ≤ b) : x < b := by
  rw [Int32.lt_iff_toInt_lt] at *; rw [Int32.le_iff_toInt_le] at h2; omega
theorem own_nar_char8 {x : Int32} (h : ¬ x < 0 ∧ x < 256) : nar .char x = x := own_nar_char ⟨h.1, own_lt_trans h.2 (by decide)⟩
theorem own_n255 {x : Int32} (h : ¬ x < 0 ∧ x < 256) : ¬ (255 : Int32) < x := by
  obtain ⟨h1, h2⟩ := h
  rw [Int32.lt_iff_toInt_lt] at *; rw [show (256 : Int32).toInt = 256 from rfl] at h2; rw [show (255 : Int32).toInt = 255 from rfl]; omega
theorem own_nar_byte (x : Int32) : nar .byte x.toInt8.toInt32 = x.toInt8.toInt32 := by
  show (x.toInt8.toInt32).toInt8.toInt32 = _
  simp
theorem own_shr0 (x : Int32) : x >>> ((0 : Int32) &&& 31) = x := by
  have := c_ishr x 0 0 (by decide)
  apply Int32.toInt_inj.mp
  rw [this]; simp
end OwnNum
section OwnStr
/-- the bytes that a Latin-1 String keeps of its chars -/
def own_by (cs : List Int32) : List Value := cs.map fun c => Value.int c.toInt8.toInt32
theorem own_by_len (cs : List Int32) : (own_by cs).length = cs.length := by simp [own_by]
/-- a String of these chars, none above 255 -/
def own_Str (Z : State) (h : Heap) (a : Addr) (cs : List Int32) : Prop := Exa Z h a "java/lang/String" ∧ Fld Z h a "java/lang/String" "coder" "B" (.int 0) ∧ ∃ (b : Addr) (kb : ClassId), Fld Z h a "java/lang/String" "value" "[B" (.ref b) ∧ Arv Z h b kb .byte (Int32.ofNat cs.length) (own_by cs) (.int 0)
variable {Z : State} {h h' : Heap} {a : Addr} {cs : List Int32}
theorem own_Str.ext (S : own_Str Z h a cs) (E : Ext h h') : own_Str Z h' a cs := by
  obtain ⟨h1, h2, b, kb, h3, h4⟩ := S
  exact ⟨h1.ext E, h2.ext E, b, kb, h3.ext E, h4.ext E⟩
theorem own_Str.exa (S : own_Str Z h a cs) : Exa Z h a "java/lang/String" := S.1
theorem own_fill {cs : List Int32} {i : Nat} (hi : i < cs.length) : ((own_by (cs.take i)) ++ List.replicate (cs.length - i) (Value.int 0)).set i (.int (cs[i]).toInt8.toInt32) = (own_by (cs.take (i + 1))) ++ List.replicate (cs.length - (i + 1)) (Value.int 0) := by
  have hl : (own_by (cs.take i)).length = i := by rw [own_by_len, List.length_take]; omega
  rw [List.set_append_right _ _ (by omega), hl, Nat.sub_self, show cs.length - i = (cs.length - (i + 1)) + 1 by omega, List.replicate_succ, List.set_cons_zero]
  have e : own_by (cs.take (i + 1)) = own_by (cs.take i) ++ [.int (cs[i]).toInt8.toInt32] := by
    unfold own_by; rw [List.map_take, List.map_take, List.take_add_one, List.getElem?_map, List.getElem?_eq_getElem hi]; rfl
  rw [e, List.append_assoc, List.singleton_append]
end OwnStr
section OwnExc
open LibCode.Throwable
/-- the words on Throwable that the filling in of a stack trace asks; the fields as the class rc lays them -/
def own_thW (rc : String) : List Jvm.Cond :=
  [.native tFill0, .initialized tN, .superclass tN "java/lang/Object", .instanceMethod tFill, .codeSync tFill Fill.code 1 (some (.object tN)), .instanceMethod tFill0, .instanceMethod oInit, .code oInit ⟨#[0xb1]⟩ 1 none, .methodLink tN 1 oInit, .methodLink tN 27 tFill, .methodLink tN 202 tFill0,
   .fieldLink tN 7 tN "cause" "Ljava/lang/Throwable;", .fieldLink tN 17 tN "stackTrace" steD, .fieldLink tN 24 tN "suppressedExceptions" listD, .fieldLink tN 13 tN "UNASSIGNED_STACK" steD, .fieldLink tN 20 tN "SUPPRESSED_SENTINEL" listD, .fieldLink tN 198 tN "backtrace" "Ljava/lang/Object;",
   .laysStatic tN "UNASSIGNED_STACK" steD, .laysStatic tN "SUPPRESSED_SENTINEL" listD, .lays rc tN "cause" "Ljava/lang/Throwable;", .lays rc tN "stackTrace" steD, .lays rc tN "suppressedExceptions" listD, .lays rc tN "detailMessage" "Ljava/lang/String;", .lays rc tN "backtrace" "Ljava/lang/Object;", .lays rc tN "depth" "I",
   .declares tFill, .selects rc tFill0 tFill0, .selects rc tFill tFill, .arrayOver (.object "java/lang/Object"), .soleField tN "backtrace", .soleField tN "depth"]
theorem own_thOk {rc : String} : (own_thW rc).all xOk = true := rfl
theorem own_links {args : Array Value} {s : State} {pl : Platform} (h1 : pl.frameOwnsMonitors = true) (h2 : pl.finalization = false) (h3 : pl.magicAccessors = ({} : Platform).magicAccessors) {rc : String} (W : ∀ d ∈ own_thW rc, d.before args s = true) :
    ∃ T : ThrowableC, T.Links pl s ∧ s.vm.findClass tN = some T.cT ∧ s.methodNamed? tFill = some T.fill ∧ s.methodNamed? tFill0 = some T.fill0 ∧ s.fieldFound? tN "stackTrace" steD = some (T.cT, T.kT, T.i17, T.fStack) ∧ T.fStack.type = .array (.object "java/lang/StackTraceElement") ∧ s.fieldFound? tN "UNASSIGNED_STACK" steD = some (T.cT, T.kT, T.i13, T.fUnassigned) := by
  have w : ∀ d, d ∈ own_thW rc → d.holds args s none s [] = true := fun d hd => W d hd
  -- the class
  obtain ⟨⟨ct, j0⟩, me0, nn0, mm0, nat0, cod0, lok0, sig0⟩ := Cond.native_spec (w (.native tFill0) (by simp [own_thW]))
  have fc : s.vm.findClass tN = some ct := findClass_of_methodNamed nn0
  obtain ⟨kt, ck, knm⟩ := Vm.findClass_spec fc
  obtain ⟨_, _, _, _, ck', _, _, _, _, nif⟩ := Cond.superclass_spec fc (w (.superclass tN "java/lang/Object") (by simp [own_thW]))
  cases ck.symm.trans ck'
  have ini := Cond.initialized_spec fc ck (w (.initialized tN) (by simp [own_thW]))
  -- Object's constructor
  obtain ⟨mo, meo, nno, mmo, sto, abo⟩ := Cond.instanceMethod_spec (w (.instanceMethod oInit) (by simp [own_thW]))
  obtain ⟨_, co, mmo', coo, byo, _, _, lko, _, sgo⟩ := Cond.code_spec nno (w (.code oInit ⟨#[0xb1]⟩ 1 none) (by simp [own_thW]))
  cases mmo.symm.trans mmo'
  obtain ⟨ko, cko, nmko⟩ := Vm.findClass_spec (findClass_of_methodNamed nno)
  obtain ⟨nmo, dso⟩ := name_of_methodNamed nno mmo
  -- the two methods
  obtain ⟨jf, mef, nnf, mmf, atf, stf, abf, _, _⟩ := Cond.ownMethod (x := tFill) fc ck (w (.instanceMethod tFill) (by simp [own_thW]))
  obtain ⟨_, cf_, mmf', cof, byf, mlf, rtf, lkf, _, sgf⟩ := Cond.codeSync_spec nnf (w (.codeSync tFill Fill.code 1 (some (.object tN))) (by simp [own_thW]))
  cases mmf.symm.trans mmf'
  obtain ⟨_, _, nn0', mm0', at0, st0, ab0, nm0, ds0⟩ := Cond.ownMethod (x := tFill0) fc ck (w (.instanceMethod tFill0) (by simp [own_thW]))
  cases nn0.symm.trans nn0'
  cases mm0.symm.trans mm0'
  -- the pool
  obtain ⟨a1, b1, file, l1, r1, fi1, p1⟩ := Cond.linkedMethod fc ck nno (w (.methodLink tN 1 oInit) (by simp [own_thW])) pl h3
  obtain ⟨a27, b27, _, l27, r27, fi27, p27⟩ := Cond.linkedMethod fc ck nnf (w (.methodLink tN 27 tFill) (by simp [own_thW])) pl h3
  cases fi1.symm.trans fi27
  obtain ⟨a202, b202, _, l202, r202, fi202, p202⟩ := Cond.linkedMethod fc ck nn0 (w (.methodLink tN 202 tFill0) (by simp [own_thW])) pl h3
  cases fi1.symm.trans fi202
  -- the fields
  obtain ⟨a7, i7, f7, l7, r7, t7, s7, n7, m7, ty7, ff7⟩ := Cond.ownField (t := .object tN) fc ck (by decide +kernel) (w (.fieldLink tN 7 tN "cause" "Ljava/lang/Throwable;") (by simp [own_thW])) (w (.lays rc tN "cause" "Ljava/lang/Throwable;") (by simp [own_thW])) pl h3
  obtain ⟨a17, i17, f17, l17, r17, t17, s17, n17, m17, ty17, ff17⟩ := Cond.ownField (t := .array (.object "java/lang/StackTraceElement")) fc ck (by decide +kernel) (w (.fieldLink tN 17 tN "stackTrace" steD) (by simp [own_thW])) (w (.lays rc tN "stackTrace" steD) (by simp [own_thW])) pl h3
  obtain ⟨a24, i24, f24, l24, r24, t24, s24, n24, m24, ty24, ff24⟩ := Cond.ownField (t := .object "java/util/List") fc ck (by decide +kernel) (w (.fieldLink tN 24 tN "suppressedExceptions" listD) (by simp [own_thW])) (w (.lays rc tN "suppressedExceptions" listD) (by simp [own_thW])) pl h3
  obtain ⟨a13, i13, f13, sa, sc, l13, r13, t13, s13, _, _, hsta, _, _, _, _, ff13⟩ := Cond.ownStatic (t := .array (.object "java/lang/StackTraceElement")) fc ck (by decide +kernel) (w (.fieldLink tN 13 tN "UNASSIGNED_STACK" steD) (by simp [own_thW])) (w (.laysStatic tN "UNASSIGNED_STACK" steD) (by simp [own_thW])) pl h3
  obtain ⟨a20, i20, f20, _, _, l20, r20, t20, s20, _, _, _, _, _, _, _, ff20⟩ := Cond.ownStatic (t := .object "java/util/List") fc ck (by decide +kernel) (w (.fieldLink tN 20 tN "SUPPRESSED_SENTINEL" listD) (by simp [own_thW])) (w (.laysStatic tN "SUPPRESSED_SENTINEL" listD) (by simp [own_thW])) pl h3
  obtain ⟨cx, kx, _, _, _, fM, fcx, ckx, ffM, sM, nM, _⟩ := Cond.lays_spec (w (.lays rc tN "detailMessage" "Ljava/lang/String;") (by simp [own_thW]))
  obtain ⟨_, d17, e17, g17⟩ := Cond.laysAt fcx ckx ff17 (w (.lays rc tN "stackTrace" steD) (by simp [own_thW]))
  obtain ⟨_, d24, e24, g24⟩ := Cond.laysAt fcx ckx ff24 (w (.lays rc tN "suppressedExceptions" listD) (by simp [own_thW]))
  have apart := Cond.laysApart e17 e24 g17 g24 (by rw [m17, m24]; decide)
  have pf : mef.sig.parameters = [] := by
    have q : (parseMethodDescriptor tFill.desc).map (·.parameters) = some [] := by decide +kernel
    rw [sgf] at q; simpa using q
  have p0 : me0.sig.parameters = [.int] := by
    have q : (parseMethodDescriptor tFill0.desc).map (·.parameters) = some [.int] := by decide +kernel
    rw [sig0] at q; simpa using q
  have po : meo.sig.parameters.length = 0 := by
    have q : (parseMethodDescriptor oInit.desc).map (·.parameters.length) = some 0 := by decide +kernel
    rw [sgo] at q; simpa using q
  refine ⟨{ cT := ct, kT := kt, cO := ct, aS := sa, fillIdx := jf, fill0Idx := j0, initSIdx := jf, obj := mo, kObj := ko, methFill := mef, methFill0 := me0, methInitS := mef, methObj := meo, codeFill := cf_, codeInitS := cf_, codeObj := co, fBack := f7, fDepth := f7, fStack := f17, fCause := f7, fSupp := f24, fMsg := fM, fUnassigned := f13, fSentinel := f20, cfT := file, ci1 := a1, n1 := b1, ci27 := a27, n27 := b27, ci202 := a202, n202 := b202, ci7 := a7, i7 := i7, ci13 := a13, i13 := i13, ci17 := a17, i17 := i17, ci20 := a20, i20 := i20, ci24 := a24, i24 := i24 }, ?_, fc, nnf, nn0, ff17, ty17, ff13⟩
  constructor <;> first | assumption | exact Vm.findClass_boot fc ck | exact knm | (rw [dso]; exact lookupSpecial_of_named nno mmo sto)
variable {p : Program} {l : Launch} {e : Env} {R : Room} {s : State} {m : MethodId} {args : Array Value} {below : List Frame} {meth : Method} {c : Code} {bytes : ByteArray} {nm : String} {mx : Nat} {ret : Option FieldType} {Q : Option Value → Heap → Prop} {G : State → Prop} {Z T T' : State} {L L' : List Loc} {k n k' n' : Nat} {h h' h1 h2 : Heap} {a0 : Array Value} {pc pc' : Nat} {Ls Ls' : Array Slot} {st rest : List Value}
/-- what stood at Z stands: the walk's places lie above -/
theorem own_old (X : Stand p l e R s m args below meth c T L k n) (O0 : Ext Z.heap s.heap) (N : Fr Z.heap.size L) : Ext Z.heap T.heap := by
  have key : ∀ (a : Addr) (cl : Cell), Z.heap[a]? = some cl → T.heap[a]? = some cl := fun a cl hcl => by
    obtain ⟨c', q1, q2, -, q4⟩ := X.same.2.2.2.2.2 a cl (O0.2 a cl hcl)
    have hb := (Array.getElem?_eq_some_iff.mp hcl).1
    have hsl : c'.slots = cl.slots := Array.ext_getElem? fun i => q4 i fun hm => absurd (N _ hm) (Nat.not_le.mpr hb)
    have hcc : c' = cl := by rw [q2, hsl]
    rw [← hcc]; exact q1
  refine ⟨Nat.le_of_not_lt fun q => ?_, key⟩
  have := key T.heap.size _ (Array.getElem?_eq_getElem q)
  exact Nat.lt_irrefl _ (Array.getElem?_eq_some_iff.mp this).1
theorem own_ff (hZ : Z.Warmed39 s.vm) {C nf d : String} {c1 c2 i1 i2 : Nat} {k1 k2 : Class} {f1 f2 : Field} (q1 : Z.fieldFound? C nf d = some (c1, k1, i1, f1)) (q2 : s.fieldFound? C nf d = some (c2, k2, i2, f2)) : f1 = f2 := by
  obtain ⟨k', e1, -⟩ := State.fieldFound?_setVm hZ.alike q1
  have e2 : s.fieldFound? C nf d = some (c1, k', i1, f1) := e1
  have := q2.symm.trans e2
  simp only [Option.some.injEq, Prod.mk.injEq] at this
  exact this.2.2.2.symm
theorem own_slotOf (hZ : Z.Warmed39 s.vm) {C nf d : String} {c2 i2 : Nat} {k2 : Class} {f2 : Field} (q2 : s.fieldFound? C nf d = some (c2, k2, i2, f2)) : RoadKit.slotOf Z C nf d = f2.slot := by
  obtain ⟨k', q⟩ := ff_back hZ.alike q2
  simp [RoadKit.slotOf, q]
theorem own_fillIn (K : own_K p l e R s m args below meth c bytes "java/lang/Throwable" nm mx ret Q G Z T L k n h) (hkn : s.vm.MethodsKnown ∧ s.vm.FramesKnown below) (hl : l.stackTraces = true) (O0 : Ext Z.heap s.heap) {rc : String} {j : Nat} (wi : (Cond.instantiable rc j).before a0 Z = true) (W : ∀ d ∈ own_thW rc, d.before a0 Z = true) {a : Addr} {u : Value} (E : Exa Z h a rc) (U : Unt h a) (FS : Fld Z h a "java/lang/Throwable" "stackTrace" "[Ljava/lang/StackTraceElement;" u) (hu : u.isRef = true) (SU : Sta Z Z.heap "java/lang/Throwable" "UNASSIGNED_STACK" "[Ljava/lang/StackTraceElement;" u) (FB : Fld Z h a "java/lang/Throwable" "backtrace" "Ljava/lang/Object;" .null) (ha : Z.heap.size ≤ a) (hsz : Ls.size = mx) (hf : 3 ≤ R.frames) (hlo : 42 ≤ R.locals) (hc : k + 1 ≤ R.cells) (hs : n + 2752 ≤ R.slots) (hd : decode bytes pc = .ok (.invokevirtual 27, 3)) (hp : pc + 3 = pc')
    (kk : ∀ T' h' L', own_K p l e R s m args below meth c bytes "java/lang/Throwable" nm mx ret Q G Z T' (L ++ L') (k + 1) (n + 2752) h' → (∀ y ∈ L', ∃ nd ∈ Jvm.Free.Exc.sixNames, y = ⟨a, RoadKit.slotOf Z tN nd.1 nd.2⟩) → Exa Z h' a rc → (∀ {O nf d : String} {v : Value}, Fld Z h a O nf d v → RoadKit.slotOf Z O nf d ≠ RoadKit.slotOf Z tN "backtrace" "Ljava/lang/Object;" → RoadKit.slotOf Z O nf d ≠ RoadKit.slotOf Z tN "depth" "I" → RoadKit.slotOf Z O nf d ≠ RoadKit.slotOf Z tN "stackTrace" steD → Fld Z h' a O nf d v) → G (T'.setTop (mkF m pc' Ls [.ref a]))) : G (T.setTop (mkF m pc Ls [.ref a])) := by
  subst hp
  have hT0 : ThS Z s.heap := ThS.start.ext O0
  have Ws : ∀ d ∈ own_thW rc, d.before args s = true := fun d hd => mvX hT0 K.hZ (List.all_eq_true.mp own_thOk d hd) (W d hd)
  have w : ∀ d, d ∈ own_thW rc → d.holds args s none s [] = true := fun d hd => Ws d hd
  have pl1 : e.platform.frameOwnsMonitors = true := by rw [K.X.admits.platform]
  have pl2 : e.platform.finalization = false := by rw [K.X.admits.platform]
  have pl3 : e.platform.magicAccessors = ({} : Platform).magicAccessors := by rw [K.X.admits.platform]
  have htr : e.platform.stackTraces = true := by rw [K.X.admits.platform]; exact hl
  obtain ⟨Th, Lk, fc, nf, n0, ffS, tyS, ffU⟩ := own_links pl1 pl2 pl3 Ws
  -- the object's cell
  have E0 := E
  obtain ⟨cl, kX, hcl, hfc, hkX, hst, hszX⟩ := E
  obtain ⟨cl', u1, u2, u3⟩ := U
  cases hcl.symm.trans u1
  obtain ⟨cI, kI, hfI, hkI, hkindI, -⟩ := Cond.instantiable_spec wi
  cases hfc.symm.trans hfI
  cases hkX.symm.trans hkI
  obtain ⟨kX', hkX', ekX⟩ := K.hZ.alike.2.2 _ _ hkX
  have hord : kX'.kind = .ordinary := by rw [ekX]; exact hkindI
  have hsz' : cl.slots.size = kX'.instanceTypes.size := by rw [ekX]; exact hszX hkindI
  have hfound : s.vm.findClass rc = some cl.cls := by rw [K.hZ.alike.findClass]; exact hfc
  obtain ⟨cS, _, _, _, fS, g1, g2, _, _, _, _, g7⟩ := FS
  cases hcl.symm.trans g1
  cases own_ff K.hZ g2 ffS
  obtain ⟨cB, _, _, _, fB0, b1, b2, _, _, _, _, b7⟩ := FB
  cases hcl.symm.trans b1
  -- backtrace, depth
  obtain ⟨c198, i198, fB, k198, r198, t198, sB, _, nB, tyB, ffB⟩ := Cond.ownField (t := .object "java/lang/Object") fc Lk.cls (by decide +kernel) (w (.fieldLink tN 198 tN "backtrace" "Ljava/lang/Object;") (by simp [own_thW])) (w (.lays rc tN "backtrace" "Ljava/lang/Object;") (by simp [own_thW])) e.platform pl3
  cases own_ff K.hZ b2 ffB
  obtain ⟨_, _, cD, kD, iD, fD, _, _, ffD, sD, _, _, _, _⟩ := Cond.lays_spec (w (.lays rc tN "depth" "I") (by simp [own_thW]))
  cases Option.some.inj ((Cond.lays_declared (w (.lays rc tN "depth" "I") (by simp [own_thW])) ffD).symm.trans fc)
  obtain ⟨kD', tD⟩ := State.fieldFound?_spec ffD
  cases Option.some.inj (kD'.symm.trans Lk.cls)
  obtain ⟨nD, tyD⟩ := State.fieldFound?_type ffD (t := .int) (by decide +kernel)
  have findB := Cond.soleField_find fc Lk.cls (w (.soleField tN "backtrace") (by simp [own_thW])) t198 nB sB
  have findD := Cond.soleField_find fc Lk.cls (w (.soleField tN "depth") (by simp [own_thW])) tD nD sD
  obtain ⟨comp, cO, kO, _, _, hkO, hkindO, hO⟩ := Cond.arrayOver_spec (Ws (.arrayOver (.object "java/lang/Object")) (by simp [own_thW]))
  obtain ⟨yS, _, _, _⟩ := Cond.laysAt hfound hkX' ffS (w (.lays rc tN "stackTrace" steD) (by simp [own_thW]))
  obtain ⟨yB, _, _, _⟩ := Cond.laysAt hfound hkX' ffB (w (.lays rc tN "backtrace" "Ljava/lang/Object;") (by simp [own_thW]))
  obtain ⟨yD, _, _, _⟩ := Cond.laysAt hfound hkX' ffD (w (.lays rc tN "depth" "I") (by simp [own_thW]))
  have takes : ∀ {f : Field} {v : Value}, kX'.instanceTypes[f.slot]? = some f.type → fits f.type v = true → Jvm.Takes s cl f v := fun {f v} z1 z2 => by
    obtain ⟨z3, z4⟩ := Takes.of_laid (v := v) hkX' hord z1 z2
    exact ⟨by rw [hsz']; simpa using z3, by rw [u2]; exact z4⟩
  -- the statics' cell
  obtain ⟨cU, iU, kU, fU, sta, cellS, v1, v2, v3, v4, v5, v6, v7⟩ := SU
  cases own_ff K.hZ v1 ffU
  have eU : Th.aS = sta := by
    obtain ⟨k', z1, z2⟩ := State.fieldFound?_setVm K.hZ.alike v1
    have z3 : s.fieldFound? tN "UNASSIGNED_STACK" steD = some (cU, k', iU, Th.fUnassigned) := z1
    have z4 := ffU.symm.trans z3
    simp only [Option.some.injEq, Prod.mk.injEq] at z4
    have z5 : Th.kT.statics = some sta := by rw [z4.2.1, z2]; exact v4
    exact Option.some.inj (Lk.statics.symm.trans z5)
  have atS : h[sta]? = some cellS := K.O.2 _ _ v5
  have neS : Th.aS ≠ a := fun q => by
    rw [eU] at q; subst q
    cases hcl.symm.trans atS
    rw [hst] at v6; cases v6
  have knS : cellS.vm ≠ .unknown := fun q => by rw [q] at v6; cases v6
  have sel0 : selectMethod e.platform s.vm cl.cls Th.fill0 = .method Th.fill0 := by
    obtain ⟨_, _, _, q1, q2, q3, q4, -⟩ := Cond.selects_spec (w (.selects rc tFill0 tFill0) (by simp [own_thW]))
    cases Option.some.inj (q1.symm.trans hfound)
    cases Option.some.inj (q2.symm.trans (State.methodFound?_of_named n0 (by decide)))
    cases Option.some.inj (q3.symm.trans n0)
    rw [Launch.admits_selectMethod K.X.admits]; exact q4
  have selF := Ws (.selects rc tFill tFill) (by simp [own_thW])
  obtain ⟨v, _, ⟨T', L1, k1, n1⟩, -, X', ⟨rfl, C, n2, hn2, hC, q1, q2, q3, q4, l1, l2, l3⟩, st'⟩ := K.X.virtualBack K.hx (own := tN) (C := rc) (index := 27) (y := tFill) (z := tFill) K.hown (Ws (.methodLink tN 27 tFill) (by simp [own_thW])) (Ws (.declares tFill) (by simp [own_thW])) (notFace_of_selects selF) selF (Ws (.instanceMethod tFill) (by simp [own_thW])) (by decide)
    (Jvm.Free.Exc.fillPaysAny (l := l) (W := 0) K.hx htr Th Lk nf (u0 := ⟨u, hu⟩) (self := a) (cell := cl) (cellS := cellS) (fun _ => by rw [u2]; simp) (by rw [u2]; simp) (by rw [u3]) (by rw [u3]) g7 sel0 neS knS v7 (takes yS (by rw [tyS]; exact fits_refV_array _ ⟨u, hu⟩))
      ⟨{ ci198 := c198, i198 := i198, fBack := fB0 }, ⟨k198, r198, t198, sB⟩, b7⟩ hkn.1 hkn.2 fc hO hkO hkindO findB findD (fun x => takes yB (by rw [tyB]; rfl)) (fun x => takes yD (by rw [tyD]; rfl)) (by omega) (by omega))
    (b := a) (cB := cl.cls) hfound ⟨cl, by rw [K.eh]; exact hcl, rfl, hst⟩ (g := mkF m pc Ls [.ref a]) rfl (by rw [K.hml]; exact hsz) (Steps.refl _) (argsL := []) (rest := [])
    (fun sig q => by rw [show parseMethodDescriptor tFill.desc = some ⟨[], some (.object tN)⟩ from by decide +kernel] at q; rw [← Option.some.inj q]; rfl) rfl (by show 2 * 0 + 0 ≤ 0; decide) (hb K.hby hd)
    (fun _ _ => ⟨rfl, hc, hs, by show T.heap[a]? = _; rw [K.eh]; exact hcl, by show T.heap[Th.aS]? = _; rw [K.eh, eU]; exact atS⟩)
  dsimp only [Pt.U, Pt.locs, Pt.cells, Pt.slots] at X' l1 l2 l3 st' hC
  subst l1 l2 l3
  have sB' := own_slotOf K.hZ ffB
  have sD' := own_slotOf K.hZ ffD
  have sS' := own_slotOf K.hZ ffS
  have six : ∀ y ∈ [(⟨a, fB0.slot⟩ : Loc), ⟨a, fD.slot⟩, ⟨a, Th.fStack.slot⟩], ∃ nd ∈ Jvm.Free.Exc.sixNames, y = ⟨a, RoadKit.slotOf Z tN nd.1 nd.2⟩ := fun y hy => by
    simp only [List.mem_cons, List.not_mem_nil, or_false] at hy
    rcases hy with rfl | rfl | rfl
    · exact ⟨("backtrace", "Ljava/lang/Object;"), by simp [Jvm.Free.Exc.sixNames, Jvm.Free.Exc.obD], by rw [sB']⟩
    · exact ⟨("depth", "I"), by simp [Jvm.Free.Exc.sixNames], by rw [sD']⟩
    · exact ⟨("stackTrace", steD), by simp [Jvm.Free.Exc.sixNames, steD], by rw [sS']⟩
  have N' : Fr Z.heap.size (L ++ [(⟨a, fB0.slot⟩ : Loc), ⟨a, fD.slot⟩, ⟨a, Th.fStack.slot⟩]) := K.fr.app fun y hy => by
    obtain ⟨nd, -, rfl⟩ := six y hy
    exact ha
  refine K.cl _ _ (fun t q => st'.trans q) (kk T' T'.heap _ (K.nx (X'.more (Nat.le_refl _) (Nat.add_le_add_left hn2 _)) rfl N' (own_old X' O0 N')) six ⟨C, kX, hC, by rw [q1]; exact hfc, by rw [q1]; exact hkX, by rw [q2]; exact hst, fun z => by rw [q3]; exact hszX z⟩ ?_)
  intro O nf' d v' F z1 z2 z3
  obtain ⟨cF, cf, kf, i, f, x1, x2, x3, x4, x5, x6, x7⟩ := F
  cases hcl.symm.trans x1
  have sl : RoadKit.slotOf Z O nf' d = f.slot := by simp [RoadKit.slotOf, x2]
  rw [sl] at z1 z2 z3
  exact ⟨C, cf, kf, i, f, hC, x2, x3, by rw [q2]; exact x4, by rw [q2]; exact x5, by rw [q1]; exact x6, by rw [q4 _ (by rw [← sB']; exact z1) (by rw [← sD']; exact z2) (by rw [← sS']; exact z3)]; exact x7⟩
def own_Six (Z : State) (a : Addr) (L : List Loc) : Prop := ∀ y ∈ L, ∃ nd ∈ Jvm.Free.Exc.sixNames, y = ⟨a, RoadKit.slotOf Z tN nd.1 nd.2⟩
theorem own_six0 {a : Addr} : own_Six Z a [] := fun _ q => nomatch q
theorem own_sixA {a : Addr} (A : own_Six Z a L) (B : own_Six Z a L') : own_Six Z a (L ++ L') := fun y q => (List.mem_append.mp q).elim (A y) (B y)
theorem own_six1 {a : Addr} {nf d : String} (q : (nf, d) ∈ Jvm.Free.Exc.sixNames) : own_Six Z a [⟨a, RoadKit.slotOf Z "java/lang/Throwable" nf d⟩] := fun y hy => ⟨(nf, d), q, List.mem_singleton.mp hy⟩
theorem own_kp {own : String} (K : own_K p l e R s m args below meth c bytes own nm mx ret Q G Z T L k n h) {h0 : Heap} (hs0 : s.heap = h0) {a : Addr} (six : own_Six Z a L) : Kp Z h0 h a := by
  subst hs0
  have key : ∀ (y : Addr) (cy : Cell), s.heap[y]? = some cy → ∃ c' : Cell, h[y]? = some c' ∧ c' = { cy with slots := c'.slots } ∧ c'.slots.size = cy.slots.size ∧ (y ≠ a → c' = cy) ∧ ∀ i, (∀ nd ∈ Jvm.Free.Exc.sixNames, RoadKit.slotOf Z tN nd.1 nd.2 ≠ i) → c'.slots[i]? = cy.slots[i]? := fun y cy hy => by
    obtain ⟨c', q1, q2, q3, q4⟩ := K.X.same.2.2.2.2.2 y cy hy
    have q1' : h[y]? = some c' := by rw [← K.eh]; exact q1
    refine ⟨c', q1', q2, q3, fun hne => ?_, fun i hi => q4 i fun hm => ?_⟩
    · have hsl : c'.slots = cy.slots := Array.ext_getElem? fun i => q4 i fun hm => by
        obtain ⟨nd, -, e⟩ := six _ hm
        exact hne (congrArg Loc.base e)
      rw [q2, hsl]
    · obtain ⟨nd, hnd, e⟩ := six _ hm
      exact hi nd hnd (congrArg Loc.slot e).symm
  refine ⟨Nat.le_of_not_lt fun q => ?_, key⟩
  obtain ⟨c', q1, -⟩ := key h.size _ (Array.getElem?_eq_getElem q)
  exact Nat.lt_irrefl _ (Array.getElem?_eq_some_iff.mp q1).1
theorem own_sixNe {sl : Nat} (h1 : RoadKit.slotOf Z "java/lang/Throwable" "cause" "Ljava/lang/Throwable;" ≠ sl) (h2 : RoadKit.slotOf Z "java/lang/Throwable" "stackTrace" "[Ljava/lang/StackTraceElement;" ≠ sl) (h3 : RoadKit.slotOf Z "java/lang/Throwable" "suppressedExceptions" "Ljava/util/List;" ≠ sl) (h4 : RoadKit.slotOf Z "java/lang/Throwable" "backtrace" "Ljava/lang/Object;" ≠ sl) (h5 : RoadKit.slotOf Z "java/lang/Throwable" "depth" "I" ≠ sl) (h6 : RoadKit.slotOf Z "java/lang/Throwable" "detailMessage" "Ljava/lang/String;" ≠ sl) : ∀ nd ∈ Jvm.Free.Exc.sixNames, RoadKit.slotOf Z tN nd.1 nd.2 ≠ sl := fun nd hnd => by
  simp only [Jvm.Free.Exc.sixNames, List.mem_cons, List.not_mem_nil, or_false] at hnd
  rcases hnd with rfl | rfl | rfl | rfl | rfl | rfl
  · exact h1
  · exact h2
  · exact h3
  · exact h4
  · exact h5
  · exact h6
theorem own_unassigned {F D : String} (q : (Jvm.Cond.isRef (.static "java/lang/Throwable" F D)).before a0 Z = true) (w1 : (Cond.initialized "java/lang/Throwable").before a0 Z = true) (w2 : (Cond.laysStatic "java/lang/Throwable" F D).before a0 Z = true) : ∃ u, Sta Z Z.heap "java/lang/Throwable" F D u ∧ u.isRef = true := by
  obtain ⟨u, ev, hu⟩ := isR_v (Cond.before_iff.mp q)
  exact ⟨u, Sta.start ev (Or.inr ⟨w1, w2⟩), hu⟩
end OwnExc
theorem d_jdk_43_m3_0 : decode jdk_43_method_3_code 0 = .ok (.iload_n 0, 1) := by decide +kernel
theorem d_jdk_43_m3_1 : decode jdk_43_method_3_code 1 = .ok (.sipush 255, 3) := by decide +kernel
theorem d_jdk_43_m3_4 : decode jdk_43_method_3_code 4 = .ok (.if_icmp .gt 7, 3) := by decide +kernel
theorem d_jdk_43_m3_7 : decode jdk_43_method_3_code 7 = .ok (.iconst 1, 1) := by decide +kernel
theorem d_jdk_43_m3_8 : decode jdk_43_method_3_code 8 = .ok (.goto 4, 3) := by decide +kernel
theorem d_jdk_43_m3_12 : decode jdk_43_method_3_code 12 = .ok (.ireturn, 1) := by decide +kernel
theorem pn_java_lang_StringLatin1 : plainName "java/lang/StringLatin1" = true := by first | (simp [plainName, overriddenIn]; done) | decide +kernel
set_option maxRecDepth 65536 in
set_option maxHeartbeats 40000000 in
theorem rm_canEncode {l : Launch} {Z : State} {a0 : Array Value} (hw : ∀ d ∈ tables_1, d.before a0 Z = true) (hs : ∀ d ∈ jdkStatics_1, d.before a0 Z = true) {x : Int32} {h0 : Heap} (O0 : Ext Z.heap h0) (hx8 : ¬ x < 0 ∧ x < 256) :
    own_Ct l Z (⟨"java/lang/StringLatin1", "canEncode", "(C)Z"⟩ : MethodName) jdk_43_method_3_code 1 (some .boolean) [] ({ frames := 0, locals := 0, cells := 0, slots := 0 } : Room) #[(.int x)] h0 (fun v h => v = some (.int 1) ∧ h = h0) := by
  refine own_body (Ls := #[.val (.int x)]) (plainFor_of_name pn_java_lang_StringLatin1) (fun m => by first | (simp [entryFrame, mkF, argsToLocals, Value.category]; done) | rfl) O0 ?_
  intro p e s m below meth c T0 G K0
  refine own_iloadN K0 d_jdk_43_m3_0 rfl rfl ?_
  refine own_sipush K0 (v := (255 : Int32)) d_jdk_43_m3_1 rfl rfl ?_
  refine own_icmpNo K0 d_jdk_43_m3_4 rfl (flt (own_n255 hx8)).2.2.1 ?_
  refine own_iconst K0 (v := (1 : Int32)) d_jdk_43_m3_7 rfl rfl ?_
  refine own_goto K0 d_jdk_43_m3_8 (pc' := 12) (by decide) (by decide) ?_
  exact own_retN K0 (z' := (1 : Int32)) d_jdk_43_m3_12 rfl (by simp) (by decide) (by decide) (by decide) ⟨rfl, rfl⟩
theorem d_jdk_43_m46_0 : decode jdk_43_method_46_code 0 = .ok (.iconst 1, 1) := by decide +kernel
theorem d_jdk_43_m46_1 : decode jdk_43_method_46_code 1 = .ok (.newarray .byte, 2) := by decide +kernel
theorem wd20 {a0 : Array Value} {Z : State} (hw : ∀ d ∈ tables_1, d.before a0 Z = true) : (Jvm.Cond.arrayClass Jvm.ClassFile.FieldType.byte).before a0 Z = true := hw _ (List.mem_of_getElem? (i := 20) rfl)
theorem d_jdk_43_m46_3 : decode jdk_43_method_46_code 3 = .ok (.dup, 1) := by decide +kernel
theorem d_jdk_43_m46_4 : decode jdk_43_method_46_code 4 = .ok (.iconst 0, 1) := by decide +kernel
theorem d_jdk_43_m46_5 : decode jdk_43_method_46_code 5 = .ok (.iload_n 0, 1) := by decide +kernel
theorem d_jdk_43_m46_6 : decode jdk_43_method_46_code 6 = .ok (.i2b, 1) := by decide +kernel
theorem d_jdk_43_m46_7 : decode jdk_43_method_46_code 7 = .ok (.bastore, 1) := by decide +kernel
theorem d_jdk_43_m46_8 : decode jdk_43_method_46_code 8 = .ok (.areturn, 1) := by decide +kernel
set_option maxRecDepth 65536 in
set_option maxHeartbeats 40000000 in
theorem rm_toBytesC {l : Launch} {Z : State} {a0 : Array Value} (hw : ∀ d ∈ tables_1, d.before a0 Z = true) (hs : ∀ d ∈ jdkStatics_1, d.before a0 Z = true) {x : Int32} {h0 : Heap} (O0 : Ext Z.heap h0)  :
    own_Ct l Z (⟨"java/lang/StringLatin1", "toBytes", "(C)[B"⟩ : MethodName) jdk_43_method_46_code 1 (some (.array .byte)) [] ({ frames := 0, locals := 0, cells := 1, slots := 1 } : Room) #[(.int x)] h0 (fun v h => ∃ (b : Addr) (kb : ClassId), v = some (.ref b) ∧ h0.size ≤ b ∧ Ext h0 h ∧ Arv Z h b kb .byte (Int32.ofNat [x].length) (own_by [x]) (.int 0)) := by
  refine own_body (Ls := #[.val (.int x)]) (plainFor_of_name pn_java_lang_StringLatin1) (fun m => by first | (simp [entryFrame, mkF, argsToLocals, Value.category]; done) | rfl) O0 ?_
  intro p e s m below meth c T0 G K0
  refine own_iconst K0 (v := (1 : Int32)) d_jdk_43_m46_0 rfl rfl ?_
  refine own_newP K0 (aty := .byte) (wd20 hw) d_jdk_43_m46_1 (by decide) (cap := 1) (by decide) (by decide) (by decide) (by decide) rfl ?_
  intro T1 h1 a1 c1 K1 g1 E1 V1
  refine own_dup K1 d_jdk_43_m46_3 rfl rfl ?_
  refine own_iconst K1 (v := (0 : Int32)) d_jdk_43_m46_4 rfl rfl ?_
  refine own_iloadN K1 d_jdk_43_m46_5 rfl rfl ?_
  refine own_i2b K1 d_jdk_43_m46_6 rfl ?_
  have gz1 : Z.heap.size ≤ a1 := by rw [g1]; exact K0.O.1
  refine own_bastore K1 (V1.pad (pad_rep [] _ 1)) ⟨by decide, by decide⟩ 0 rfl (by decide) (x' := x.toInt8.toInt32) (own_nar_byte x) gz1 d_jdk_43_m46_7 rfl ?_
  intro T2 h2 K2 W2 V2
  exact own_retA K2 d_jdk_43_m46_8 rfl rfl rfl rfl (by decide) (by decide) ⟨a1, c1, rfl, Nat.le_of_eq g1.symm, own_ext_wr E1 W2 (Nat.le_of_eq g1.symm), V2⟩
theorem d_jdk_42_m151_0 : decode jdk_42_method_151_code 0 = .ok (.aload_n 0, 1) := by decide +kernel
theorem d_jdk_42_m151_1 : decode jdk_42_method_151_code 1 = .ok (.invokespecial 1, 3) := by decide +kernel
theorem wd12 {a0 : Array Value} {Z : State} (hw : ∀ d ∈ tables_1, d.before a0 Z = true) : (Jvm.Cond.methodLink "java/lang/String" (1 : Nat) ({ cls := "java/lang/Object", name := "<init>", desc := "()V" } : Jvm.MethodName)).before a0 Z = true := hw _ (List.mem_of_getElem? (i := 12) rfl)
theorem wd13 {a0 : Array Value} {Z : State} (hw : ∀ d ∈ tables_1, d.before a0 Z = true) : (Jvm.Cond.instanceMethod ({ cls := "java/lang/Object", name := "<init>", desc := "()V" } : Jvm.MethodName)).before a0 Z = true := hw _ (List.mem_of_getElem? (i := 13) rfl)
theorem wd14 {a0 : Array Value} {Z : State} (hw : ∀ d ∈ tables_1, d.before a0 Z = true) : (Jvm.Cond.code ({ cls := "java/lang/Object", name := "<init>", desc := "()V" } : Jvm.MethodName) object_method_1_code (1 : Nat) (Option.none : Option Jvm.ClassFile.FieldType)).before a0 Z = true := hw _ (List.mem_of_getElem? (i := 14) rfl)
theorem d_jdk_42_m151_4 : decode jdk_42_method_151_code 4 = .ok (.aload_n 0, 1) := by decide +kernel
theorem d_jdk_42_m151_5 : decode jdk_42_method_151_code 5 = .ok (.aload_n 1, 1) := by decide +kernel
theorem wd29 {a0 : Array Value} {Z : State} (hw : ∀ d ∈ tables_1, d.before a0 Z = true) : (Jvm.Cond.fieldLink "java/lang/String" (9 : Nat) "java/lang/String" "value" "[B").before a0 Z = true := hw _ (List.mem_of_getElem? (i := 29) rfl)
theorem wd30 {a0 : Array Value} {Z : State} (hw : ∀ d ∈ tables_1, d.before a0 Z = true) : (Jvm.Cond.laysFinal "java/lang/String" "java/lang/String" "value" "[B").before a0 Z = true := hw _ (List.mem_of_getElem? (i := 30) rfl)
theorem d_jdk_42_m151_6 : decode jdk_42_method_151_code 6 = .ok (.putfield 9, 3) := by decide +kernel
theorem wd2 {a0 : Array Value} {Z : State} (hw : ∀ d ∈ tables_1, d.before a0 Z = true) : (Jvm.Cond.instantiable "java/lang/String" (4 : Nat)).before a0 Z = true := hw _ (List.mem_of_getElem? (i := 2) rfl)
theorem d_jdk_42_m151_9 : decode jdk_42_method_151_code 9 = .ok (.aload_n 0, 1) := by decide +kernel
theorem d_jdk_42_m151_10 : decode jdk_42_method_151_code 10 = .ok (.iload_n 2, 1) := by decide +kernel
theorem wd28 {a0 : Array Value} {Z : State} (hw : ∀ d ∈ tables_1, d.before a0 Z = true) : (Jvm.Cond.laysFinal "java/lang/String" "java/lang/String" "coder" "B").before a0 Z = true := hw _ (List.mem_of_getElem? (i := 28) rfl)
theorem wd27 {a0 : Array Value} {Z : State} (hw : ∀ d ∈ tables_1, d.before a0 Z = true) : (Jvm.Cond.fieldLink "java/lang/String" (15 : Nat) "java/lang/String" "coder" "B").before a0 Z = true := hw _ (List.mem_of_getElem? (i := 27) rfl)
theorem d_jdk_42_m151_11 : decode jdk_42_method_151_code 11 = .ok (.putfield 15, 3) := by decide +kernel
theorem d_jdk_42_m151_14 : decode jdk_42_method_151_code 14 = .ok (.return_, 1) := by decide +kernel
theorem pn_java_lang_String : plainName "java/lang/String" = true := by first | (simp [plainName, overriddenIn]; done) | decide +kernel
set_option maxRecDepth 65536 in
set_option maxHeartbeats 40000000 in
theorem rm_initBB {l : Launch} {Z : State} {a0 : Array Value} (hw : ∀ d ∈ tables_1, d.before a0 Z = true) (hs : ∀ d ∈ jdkStatics_1, d.before a0 Z = true) {x : Addr} {b : Addr} {cd : Int32} {u1 : Value} {u2 : Value} {h0 : Heap} (O0 : Ext Z.heap h0) (hcd : nar .byte cd = cd) (E : Exa Z h0 x "java/lang/String") (F1 : Fld Z h0 x "java/lang/String" "value" "[B" u1) (F2 : Fld Z h0 x "java/lang/String" "coder" "B" u2) (gx : Z.heap.size ≤ x) :
    own_Ct l Z (⟨"java/lang/String", "<init>", "([BB)V"⟩ : MethodName) jdk_42_method_151_code 3 none [] ({ frames := 1, locals := 12, cells := 0, slots := 0 } : Room) #[(.ref x), (.ref b), (.int cd)] h0 (fun v h => v = none ∧ Keep h0 h [x] ∧ Exa Z h x "java/lang/String" ∧ Fld Z h x "java/lang/String" "value" "[B" (.ref b) ∧ Fld Z h x "java/lang/String" "coder" "B" (.int cd)) := by
  refine own_body (Ls := #[.val (.ref x), .val (.ref b), .val (.int cd)]) (plainFor_of_name pn_java_lang_String) (fun m => by first | (simp [entryFrame, mkF, argsToLocals, Value.category]; done) | rfl) O0 ?_
  intro p e s m below meth c T0 G K0
  refine own_aloadN K0 d_jdk_42_m151_0 rfl rfl rfl ?_
  refine own_initO K0 (W := 0) (wd12 hw) (wd13 hw) (wd14 hw) rfl rfl (by decide) (by decide) d_jdk_42_m151_1 rfl ?_
  intro T3 K3
  refine own_aloadN K3 d_jdk_42_m151_4 rfl rfl rfl ?_
  refine own_aloadN K3 d_jdk_42_m151_5 rfl rfl rfl ?_
  refine own_putF K3 (host := "") (Or.inl (wd29 hw)) Via.refl F1 E (Or.inr ⟨(wd30 hw), rfl, rfl⟩) (wd2 hw) (ty := (.array .byte)) (by decide) rfl rfl gx d_jdk_42_m151_6 rfl ?_
  intro T4 h4 K4 W4
  refine own_aloadN K4 d_jdk_42_m151_9 rfl rfl rfl ?_
  refine own_iloadN K4 d_jdk_42_m151_10 rfl rfl ?_
  refine own_putFN K4 (wd27 hw) Via.refl (F2.other W4 (Or.inr (slot_ne (Or.inr (wd28 hw)) (Or.inr (wd30 hw)) (by decide) (t := .byte) (t' := (.array .byte)) (by decide) (by decide)))) (E.wr W4) (Or.inr ⟨(wd28 hw), rfl, rfl⟩) (wd2 hw) (ty := .byte) (v' := .int cd) (by decide) (congrArg Value.int hcd) (hcd ▸ fits_nar_byte cd) gx d_jdk_42_m151_11 rfl ?_
  intro T5 h5 K5 W5
  exact own_ret0 K5 d_jdk_42_m151_14 rfl (by decide) (by decide) ⟨rfl, ((Keep.refl h0 [x]).wr W4 (Or.inl (List.mem_singleton.mpr rfl))).wr W5 (Or.inl (List.mem_singleton.mpr rfl)), (E.wr W4).wr W5, (F1.same W4).other W5 (Or.inr (slot_ne (Or.inr (wd30 hw)) (Or.inr (wd28 hw)) (by decide) (t := (.array .byte)) (t' := .byte) (by decide) (by decide))), (F2.other W4 (Or.inr (slot_ne (Or.inr (wd28 hw)) (Or.inr (wd30 hw)) (by decide) (t := .byte) (t' := (.array .byte)) (by decide) (by decide)))).same W5⟩
theorem st0 {a0 : Array Value} {Z : State} (hs : ∀ d ∈ jdkStatics_1, d.before a0 Z = true) : (Jvm.Cond.initializedFor "java/lang/String" "COMPACT_STRINGS" "Z").before a0 Z = true := hs _ (List.mem_of_getElem? (i := 0) rfl)
theorem st1 {a0 : Array Value} {Z : State} (hs : ∀ d ∈ jdkStatics_1, d.before a0 Z = true) : (Jvm.Cond.isInt (Jvm.Term.static "java/lang/String" "COMPACT_STRINGS" "Z")).before a0 Z = true := hs _ (List.mem_of_getElem? (i := 1) rfl)
theorem st2 {a0 : Array Value} {Z : State} (hs : ∀ d ∈ jdkStatics_1, d.before a0 Z = true) : (Jvm.Cond.not (Jvm.Cond.eq (Jvm.Term.static "java/lang/String" "COMPACT_STRINGS" "Z") (Jvm.Term.int (0 : Int32)))).before a0 Z = true := hs _ (List.mem_of_getElem? (i := 2) rfl)
theorem own_compact {a0 : Array Value} {Z : State} (hs : ∀ d ∈ jdkStatics_1, d.before a0 Z = true) : ∃ zc : Int32, Sta Z Z.heap "java/lang/String" "COMPACT_STRINGS" "Z" (.int zc) ∧ ¬ zc = 0 := by
  obtain ⟨i, e⟩ := is_v (Cond.before_iff.mp (st1 hs))
  exact ⟨i, Sta.start e (Or.inl (st0 hs)), gotF (Cond.eq_ints e (Term.int_eval (0))) (not_v (Cond.before_iff.mp (st2 hs)))⟩
theorem d_jdk_42_m139_0 : decode jdk_42_method_139_code 0 = .ok (.getstatic 38, 3) := by decide +kernel
theorem wd15 {a0 : Array Value} {Z : State} (hw : ∀ d ∈ tables_1, d.before a0 Z = true) : (Jvm.Cond.fieldLink "java/lang/String" (38 : Nat) "java/lang/String" "COMPACT_STRINGS" "Z").before a0 Z = true := hw _ (List.mem_of_getElem? (i := 15) rfl)
theorem d_jdk_42_m139_3 : decode jdk_42_method_139_code 3 = .ok (.ifCond .eq 23, 3) := by decide +kernel
theorem d_jdk_42_m139_6 : decode jdk_42_method_139_code 6 = .ok (.iload_n 0, 1) := by decide +kernel
theorem d_jdk_42_m139_7 : decode jdk_42_method_139_code 7 = .ok (.invokestatic 1015, 3) := by decide +kernel
theorem wd37 {a0 : Array Value} {Z : State} (hw : ∀ d ∈ tables_1, d.before a0 Z = true) : (Jvm.Cond.code ({ cls := "java/lang/StringLatin1", name := "canEncode", desc := "(C)Z" } : Jvm.MethodName) jdk_43_method_3_code (1 : Nat) (Option.some Jvm.ClassFile.FieldType.boolean)).before a0 Z = true := hw _ (List.mem_of_getElem? (i := 37) rfl)
theorem wd36 {a0 : Array Value} {Z : State} (hw : ∀ d ∈ tables_1, d.before a0 Z = true) : (Jvm.Cond.initialized "java/lang/StringLatin1").before a0 Z = true := hw _ (List.mem_of_getElem? (i := 36) rfl)
theorem pd_28C29Z : parseMethodDescriptor "(C)Z" = some ⟨[.char], some .boolean⟩ := by decide +kernel
theorem wd34 {a0 : Array Value} {Z : State} (hw : ∀ d ∈ tables_1, d.before a0 Z = true) : (Jvm.Cond.methodLink "java/lang/String" (1015 : Nat) ({ cls := "java/lang/StringLatin1", name := "canEncode", desc := "(C)Z" } : Jvm.MethodName)).before a0 Z = true := hw _ (List.mem_of_getElem? (i := 34) rfl)
theorem wd35 {a0 : Array Value} {Z : State} (hw : ∀ d ∈ tables_1, d.before a0 Z = true) : (Jvm.Cond.static ({ cls := "java/lang/StringLatin1", name := "canEncode", desc := "(C)Z" } : Jvm.MethodName)).before a0 Z = true := hw _ (List.mem_of_getElem? (i := 35) rfl)
theorem d_jdk_42_m139_10 : decode jdk_42_method_139_code 10 = .ok (.ifCond .eq 16, 3) := by decide +kernel
theorem d_jdk_42_m139_13 : decode jdk_42_method_139_code 13 = .ok (.new 10, 3) := by decide +kernel
theorem wd38 {a0 : Array Value} {Z : State} (hw : ∀ d ∈ tables_1, d.before a0 Z = true) : (Jvm.Cond.classLink "java/lang/String" (10 : Nat) "java/lang/String").before a0 Z = true := hw _ (List.mem_of_getElem? (i := 38) rfl)
theorem wd3 {a0 : Array Value} {Z : State} (hw : ∀ d ∈ tables_1, d.before a0 Z = true) : (Jvm.Cond.initialized "java/lang/String").before a0 Z = true := hw _ (List.mem_of_getElem? (i := 3) rfl)
theorem d_jdk_42_m139_16 : decode jdk_42_method_139_code 16 = .ok (.dup, 1) := by decide +kernel
theorem d_jdk_42_m139_17 : decode jdk_42_method_139_code 17 = .ok (.iload_n 0, 1) := by decide +kernel
theorem d_jdk_42_m139_18 : decode jdk_42_method_139_code 18 = .ok (.invokestatic 1018, 3) := by decide +kernel
theorem wd41 {a0 : Array Value} {Z : State} (hw : ∀ d ∈ tables_1, d.before a0 Z = true) : (Jvm.Cond.code ({ cls := "java/lang/StringLatin1", name := "toBytes", desc := "(C)[B" } : Jvm.MethodName) jdk_43_method_46_code (1 : Nat) (Option.some (Jvm.ClassFile.FieldType.array Jvm.ClassFile.FieldType.byte))).before a0 Z = true := hw _ (List.mem_of_getElem? (i := 41) rfl)
theorem pd_28C295bB : parseMethodDescriptor "(C)[B" = some ⟨[.char], some (.array .byte)⟩ := by decide +kernel
theorem wd39 {a0 : Array Value} {Z : State} (hw : ∀ d ∈ tables_1, d.before a0 Z = true) : (Jvm.Cond.methodLink "java/lang/String" (1018 : Nat) ({ cls := "java/lang/StringLatin1", name := "toBytes", desc := "(C)[B" } : Jvm.MethodName)).before a0 Z = true := hw _ (List.mem_of_getElem? (i := 39) rfl)
theorem wd40 {a0 : Array Value} {Z : State} (hw : ∀ d ∈ tables_1, d.before a0 Z = true) : (Jvm.Cond.static ({ cls := "java/lang/StringLatin1", name := "toBytes", desc := "(C)[B" } : Jvm.MethodName)).before a0 Z = true := hw _ (List.mem_of_getElem? (i := 40) rfl)
theorem d_jdk_42_m139_21 : decode jdk_42_method_139_code 21 = .ok (.iconst 0, 1) := by decide +kernel
theorem d_jdk_42_m139_22 : decode jdk_42_method_139_code 22 = .ok (.invokespecial 209, 3) := by decide +kernel
theorem wd44 {a0 : Array Value} {Z : State} (hw : ∀ d ∈ tables_1, d.before a0 Z = true) : (Jvm.Cond.code ({ cls := "java/lang/String", name := "<init>", desc := "([BB)V" } : Jvm.MethodName) jdk_42_method_151_code (3 : Nat) (Option.none : Option Jvm.ClassFile.FieldType)).before a0 Z = true := hw _ (List.mem_of_getElem? (i := 44) rfl)
theorem pd_285bBB29V : parseMethodDescriptor "([BB)V" = some ⟨[(.array .byte), .byte], none⟩ := by decide +kernel
theorem wd42 {a0 : Array Value} {Z : State} (hw : ∀ d ∈ tables_1, d.before a0 Z = true) : (Jvm.Cond.methodLink "java/lang/String" (209 : Nat) ({ cls := "java/lang/String", name := "<init>", desc := "([BB)V" } : Jvm.MethodName)).before a0 Z = true := hw _ (List.mem_of_getElem? (i := 42) rfl)
theorem wd43 {a0 : Array Value} {Z : State} (hw : ∀ d ∈ tables_1, d.before a0 Z = true) : (Jvm.Cond.instanceMethod ({ cls := "java/lang/String", name := "<init>", desc := "([BB)V" } : Jvm.MethodName)).before a0 Z = true := hw _ (List.mem_of_getElem? (i := 43) rfl)
theorem d_jdk_42_m139_25 : decode jdk_42_method_139_code 25 = .ok (.areturn, 1) := by decide +kernel
set_option maxRecDepth 65536 in
set_option maxHeartbeats 40000000 in
theorem rm_valueOfC {l : Launch} {Z : State} {a0 : Array Value} (hw : ∀ d ∈ tables_1, d.before a0 Z = true) (hs : ∀ d ∈ jdkStatics_1, d.before a0 Z = true) {x : Int32} {h0 : Heap} (O0 : Ext Z.heap h0) (hx8 : ¬ x < 0 ∧ x < 256) :
    own_Ct l Z (⟨"java/lang/String", "valueOf", "(C)Ljava/lang/String;"⟩ : MethodName) jdk_42_method_139_code 1 (some (.object "java/lang/String")) [] ({ frames := 2, locals := 27, cells := 2, slots := 5 } : Room) #[(.int x)] h0 (fun v h => ∃ a : Addr, v = some (.ref a) ∧ h0.size ≤ a ∧ Ext h0 h ∧ own_Str Z h a [x]) := by
  obtain ⟨zc, SC, hzc⟩ := own_compact hs
  refine own_body (Ls := #[.val (.int x)]) (plainFor_of_name pn_java_lang_String) (fun m => by first | (simp [entryFrame, mkF, argsToLocals, Value.category]; done) | rfl) O0 ?_
  intro p e s m below meth c T0 G K0
  refine own_getS K0 (wd15 hw) Via.refl (SC.ext K0.O) d_jdk_42_m139_0 rfl ?_
  intro T6 K6
  refine own_ifNo K6 d_jdk_42_m139_3 rfl ((if0 _ _).trans (feq hzc).1) ?_
  refine own_iloadN K6 d_jdk_42_m139_6 rfl rfl ?_
  refine own_callS K6 (wd34 hw) (wd35 hw) (rm_canEncode hw hs K6.O hx8) (wd37 hw) (wd36 hw) (by decide) (argsL := [(.int x)]) (rest := []) rfl pd_28C29Z rfl rfl (W := 0) rfl (by decide) (by decide) (by decide) (by decide) d_jdk_42_m139_7 rfl ?_
  intro T7 h7 L7 v7 K7 q7
  obtain ⟨rfl, e7⟩ := q7
  have f7 := e7.symm
  subst f7
  show G (T7.setTop (mkF m 10 #[.val (.int x)] [(.int (1 : Int32))]))
  refine own_ifNo K7 d_jdk_42_m139_10 rfl ((if0 _ _).trans (feq (by decide)).1) ?_
  refine own_newO K7 (wd38 hw) (wd2 hw) (wd3 hw) d_jdk_42_m139_13 (by decide) (by decide) rfl ?_
  intro T8 h8 a8 K8 g8 E8 A8 D8 U8
  have F_coder_8 : Fld Z h8 a8 "java/lang/String" "coder" "B" (.int (0 : Int32)) := D8 (Or.inr (wd28 hw)) (ty := .byte) (by decide)
  have F_value_8 : Fld Z h8 a8 "java/lang/String" "value" "[B" .null := D8 (Or.inr (wd30 hw)) (ty := (.array .byte)) (by decide)
  refine own_dup K8 d_jdk_42_m139_16 rfl rfl ?_
  refine own_iloadN K8 d_jdk_42_m139_17 rfl rfl ?_
  refine own_callS K8 (wd39 hw) (wd40 hw) (rm_toBytesC hw hs (x := x) K8.O) (wd41 hw) (wd36 hw) (by decide) (argsL := [(.int x)]) (rest := [(.ref a8), (.ref a8)]) rfl pd_28C295bB rfl rfl (W := 2) rfl (by decide) (by decide) (by decide) (by decide) d_jdk_42_m139_18 rfl ?_
  intro T9 h9 L9 v9 K9 q9
  obtain ⟨b9, kb9, rfl, gb9, E9, V9⟩ := q9
  show G (T9.setTop (mkF m 21 #[.val (.int x)] [(.ref b9), (.ref a8), (.ref a8)]))
  refine own_iconst K9 (v := (0 : Int32)) d_jdk_42_m139_21 rfl rfl ?_
  have gx8 : Z.heap.size ≤ a8 := by rw [g8]; exact K0.O.1
  refine own_callI K9 (a := a8) (wd42 hw) (wd43 hw) (rm_initBB hw hs K9.O rfl (A8.ext E9) (F_value_8.ext E9) (F_coder_8.ext E9) gx8) (wd44 hw) (wd3 hw) (by decide) rfl (argsL := [(.ref b9), (.int (0 : Int32))]) (rest := [(.ref a8)]) rfl pd_285bBB29V rfl rfl (W := 1) rfl (by decide) (by decide) (by decide) (by decide) d_jdk_42_m139_22 rfl ?_
  intro T10 h10 L10 v10 K10 q10
  obtain ⟨rfl, Kp10, A10, Fv10, Fc10⟩ := q10
  show G (T10.setTop (mkF m 25 #[.val (.int x)] [(.ref a8)]))
  have hne10 : b9 ∉ [a8] := fun q => Nat.ne_of_gt (Nat.lt_of_lt_of_le A8.lt gb9) (List.mem_singleton.mp q)
  have hE10 : Ext h0 h10 := own_ext_keep (own_ext_trans E8 E9) Kp10 (fun y q => by cases List.mem_singleton.mp q; exact Nat.le_of_eq g8.symm)
  exact own_retA K10 d_jdk_42_m139_25 rfl rfl rfl rfl (by decide) (by decide) ⟨a8, rfl, Nat.le_of_eq g8.symm, hE10, A10, Fc10, b9, kb9, Fv10, V9.keep Kp10 hne10⟩
theorem d_jdk_52_m21_3 : decode jdk_52_method_21_code 3 = .ok (.iload 5, 2) := by decide +kernel
theorem d_jdk_52_m21_5 : decode jdk_52_method_21_code 5 = .ok (.iload 4, 2) := by decide +kernel
theorem d_jdk_52_m21_7 : decode jdk_52_method_21_code 7 = .ok (.if_icmp .ge 37, 3) := by decide +kernel
theorem d_jdk_52_m21_10 : decode jdk_52_method_21_code 10 = .ok (.aload_n 0, 1) := by decide +kernel
theorem d_jdk_52_m21_11 : decode jdk_52_method_21_code 11 = .ok (.iload_n 1, 1) := by decide +kernel
theorem d_jdk_52_m21_12 : decode jdk_52_method_21_code 12 = .ok (.caload, 1) := by decide +kernel
theorem d_jdk_52_m21_13 : decode jdk_52_method_21_code 13 = .ok (.istore 6, 2) := by decide +kernel
theorem d_jdk_52_m21_15 : decode jdk_52_method_21_code 15 = .ok (.iload 6, 2) := by decide +kernel
theorem d_jdk_52_m21_17 : decode jdk_52_method_21_code 17 = .ok (.sipush 255, 3) := by decide +kernel
theorem d_jdk_52_m21_20 : decode jdk_52_method_21_code 20 = .ok (.if_icmp .le 6, 3) := by decide +kernel
theorem d_jdk_52_m21_26 : decode jdk_52_method_21_code 26 = .ok (.aload_n 2, 1) := by decide +kernel
theorem d_jdk_52_m21_27 : decode jdk_52_method_21_code 27 = .ok (.iload_n 3, 1) := by decide +kernel
theorem d_jdk_52_m21_28 : decode jdk_52_method_21_code 28 = .ok (.iload 6, 2) := by decide +kernel
theorem d_jdk_52_m21_30 : decode jdk_52_method_21_code 30 = .ok (.i2b, 1) := by decide +kernel
theorem d_jdk_52_m21_31 : decode jdk_52_method_21_code 31 = .ok (.bastore, 1) := by decide +kernel
theorem d_jdk_52_m21_32 : decode jdk_52_method_21_code 32 = .ok (.iinc 1 1, 3) := by decide +kernel
theorem d_jdk_52_m21_35 : decode jdk_52_method_21_code 35 = .ok (.iinc 3 1, 3) := by decide +kernel
theorem d_jdk_52_m21_38 : decode jdk_52_method_21_code 38 = .ok (.iinc 5 1, 3) := by decide +kernel
theorem d_jdk_52_m21_41 : decode jdk_52_method_21_code 41 = .ok (.goto (-38), 3) := by decide +kernel
section Lp
variable {p : Program} {l : Launch} {e : Env} {R : Room} {s : State} {m : MethodId} {args : Array Value} {below : List Frame} {meth : Method} {c : Code} {own nm : String} {mx : Nat} {ret : Option FieldType} {Q : Option Value → Heap → Prop} {G : State → Prop} {Z T : State} {L : List Loc} {k n : Nat} {h h0 : Heap} {a0 : Array Value}
set_option maxRecDepth 65536 in
set_option maxHeartbeats 40000000 in
theorem lp_compress5 {a b : Addr} {ka kb : ClassId} {cs : List Int32} (A : Arv Z h0 a ka .char (Int32.ofNat cs.length) (cs.map Value.int) (.int 0)) (hab : a ∉ [b]) (gb : Z.heap.size ≤ b) (hlat : ∀ c ∈ cs, ¬ c < 0 ∧ c < 256) (hlen : cs.length ≤ 4000)
    (ex : ∀ (T' : State) (L' : List Loc) (h' : Heap), own_K p l e R s m args below meth c jdk_52_method_21_code own nm mx ret Q G Z T' L' k n h' → Keep h0 h' [b] → Arv Z h' b kb .byte (Int32.ofNat cs.length) (own_by cs) (.int 0) → ∀ (x1 x3 x5 : Int32) (s6 : Slot), G (T'.setTop (mkF m 44 #[.val (.ref a), .val (.int x1), .val (.ref b), .val (.int x3), .val (.int (Int32.ofNat cs.length)), .val (.int x5), s6] [])))
    (j : Nat) : ∀ (i : Nat), i + j = cs.length → ∀ {T : State} {L : List Loc} {h : Heap} {s6 : Slot}, own_K p l e R s m args below meth c jdk_52_method_21_code own nm mx ret Q G Z T L k n h → Keep h0 h [b] → Arv Z h b kb .byte (Int32.ofNat cs.length) (own_by (cs.take i) ++ List.replicate (cs.length - i) (Value.int 0)) (.int 0) → One s6 → G (T.setTop (mkF m 3 #[.val (.ref a), .val (.int (Int32.ofNat i)), .val (.ref b), .val (.int (Int32.ofNat i)), .val (.int (Int32.ofNat cs.length)), .val (.int (Int32.ofNat i)), s6] [])) := by
  induction j with
  | zero =>
    intro i hij T L h s6 K Kp V hs6
    refine own_iload K d_jdk_52_m21_3 rfl rfl ?_
    refine own_iload K d_jdk_52_m21_5 rfl rfl ?_
    refine own_icmpYes K d_jdk_52_m21_7 (pc' := 44) (by decide) (by decide) (flt (own_nlt (by omega) (by omega))).2.1 ?_
    exact ex _ _ _ K Kp (by rw [List.take_of_length_le (by omega), Nat.sub_eq_zero_of_le (by omega), List.replicate_zero, List.append_nil] at V; exact V) _ _ _ _
  | succ j ih =>
    intro i hij T L h s6 K Kp V hs6
    have hin : i < cs.length := by omega
    refine own_iload K d_jdk_52_m21_3 rfl rfl ?_
    refine own_iload K d_jdk_52_m21_5 rfl rfl ?_
    refine own_icmpNo K d_jdk_52_m21_7 rfl (tlt (own_lt hin (by omega))).2.1 ?_
    refine own_aloadN K d_jdk_52_m21_10 rfl rfl rfl ?_
    refine own_iloadN K d_jdk_52_m21_11 rfl rfl ?_
    refine own_caload K (x := cs[i]) (A.keep Kp hab) ⟨own_nn (by omega), own_lt hin (by omega)⟩ (by rw [own_clamp (by omega)]; simp [hin]) d_jdk_52_m21_12 rfl ?_
    refine own_istore K (Ls' := #[.val (.ref a), .val (.int (Int32.ofNat i)), .val (.ref b), .val (.int (Int32.ofNat i)), .val (.int (Int32.ofNat cs.length)), .val (.int (Int32.ofNat i)), .val (.int cs[i])]) d_jdk_52_m21_13 rfl (XS.store1 rfl hs6 rfl) ?_
    refine own_iload K d_jdk_52_m21_15 rfl rfl ?_
    refine own_sipush K (v := (255 : Int32)) d_jdk_52_m21_17 rfl rfl ?_
    refine own_icmpYes K d_jdk_52_m21_20 (pc' := 26) (by decide) (by decide) (flt (own_n255 (hlat _ (List.getElem_mem hin)))).2.2.2 ?_
    refine own_aloadN K d_jdk_52_m21_26 rfl rfl rfl ?_
    refine own_iloadN K d_jdk_52_m21_27 rfl rfl ?_
    refine own_iload K d_jdk_52_m21_28 rfl rfl ?_
    refine own_i2b K d_jdk_52_m21_30 rfl ?_
    refine own_bastore K V ⟨own_nn (by omega), own_lt hin (by omega)⟩ i (own_clamp (by omega)) (by rw [List.length_append, own_by_len, List.length_take, List.length_replicate]; omega) (x' := (cs[i]).toInt8.toInt32) (own_nar_byte _) gb d_jdk_52_m21_31 rfl ?_
    intro T11 h11 K11 W11 V11
    refine own_iinc K11 (Ls' := #[.val (.ref a), .val (.int ((Int32.ofNat i) + (1 : Int32))), .val (.ref b), .val (.int (Int32.ofNat i)), .val (.int (Int32.ofNat cs.length)), .val (.int (Int32.ofNat i)), .val (.int cs[i])]) (x := (Int32.ofNat i)) (v := (Int32.ofNat i)) d_jdk_52_m21_32 rfl rfl rfl ?_
    refine own_iinc K11 (Ls' := #[.val (.ref a), .val (.int ((Int32.ofNat i) + (1 : Int32))), .val (.ref b), .val (.int ((Int32.ofNat i) + (1 : Int32))), .val (.int (Int32.ofNat cs.length)), .val (.int (Int32.ofNat i)), .val (.int cs[i])]) (x := (Int32.ofNat i)) (v := (Int32.ofNat i)) d_jdk_52_m21_35 rfl rfl rfl ?_
    refine own_iinc K11 (Ls' := #[.val (.ref a), .val (.int ((Int32.ofNat i) + (1 : Int32))), .val (.ref b), .val (.int ((Int32.ofNat i) + (1 : Int32))), .val (.int (Int32.ofNat cs.length)), .val (.int ((Int32.ofNat i) + (1 : Int32))), .val (.int cs[i])]) (x := (Int32.ofNat i)) (v := (Int32.ofNat i)) d_jdk_52_m21_38 rfl rfl rfl ?_
    refine own_goto K11 d_jdk_52_m21_41 (pc' := 3) (by decide) (by decide) ?_
    rw [own_one]
    exact ih (i + 1) (by omega) K11 (Kp.wr W11 (Or.inl (List.mem_singleton.mpr rfl))) (by rw [← own_fill hin]; exact V11) (One.val rfl)
end Lp
theorem d_jdk_52_m21_0 : decode jdk_52_method_21_code 0 = .ok (.iconst 0, 1) := by decide +kernel
theorem d_jdk_52_m21_1 : decode jdk_52_method_21_code 1 = .ok (.istore 5, 2) := by decide +kernel
theorem d_jdk_52_m21_44 : decode jdk_52_method_21_code 44 = .ok (.iload 4, 2) := by decide +kernel
theorem d_jdk_52_m21_46 : decode jdk_52_method_21_code 46 = .ok (.ireturn, 1) := by decide +kernel
theorem pn_java_lang_StringUTF16 : plainName "java/lang/StringUTF16" = true := by first | (simp [plainName, overriddenIn]; done) | decide +kernel
set_option maxRecDepth 65536 in
set_option maxHeartbeats 40000000 in
theorem rm_compress5 {l : Launch} {Z : State} {a0 : Array Value} (hw : ∀ d ∈ tables_1, d.before a0 Z = true) (hs : ∀ d ∈ jdkStatics_1, d.before a0 Z = true) {a : Addr} {b : Addr} {ka : ClassId} {kb : ClassId} {cs : List Int32} {h0 : Heap} (O0 : Ext Z.heap h0) (A : Arv Z h0 a ka .char (Int32.ofNat cs.length) (cs.map Value.int) (.int 0)) (B : Arv Z h0 b kb .byte (Int32.ofNat cs.length) (List.replicate cs.length (Value.int 0)) (.int 0)) (hab : a ∉ [b]) (gb : Z.heap.size ≤ b) (hlat : ∀ c ∈ cs, ¬ c < 0 ∧ c < 256) (hlen : cs.length ≤ 4000) :
    own_Ct l Z (⟨"java/lang/StringUTF16", "compress", "([CI[BII)I"⟩ : MethodName) jdk_52_method_21_code 7 (some .int) [] ({ frames := 0, locals := 0, cells := 0, slots := 0 } : Room) #[(.ref a), (.int 0), (.ref b), (.int 0), (.int (Int32.ofNat cs.length))] h0 (fun v h => v = some (.int (Int32.ofNat cs.length)) ∧ Keep h0 h [b] ∧ Arv Z h b kb .byte (Int32.ofNat cs.length) (own_by cs) (.int 0)) := by
  refine own_body (Ls := #[.val (.ref a), .val (.int 0), .val (.ref b), .val (.int 0), .val (.int (Int32.ofNat cs.length)), .unset, .unset]) (plainFor_of_name pn_java_lang_StringUTF16) (fun m => by first | (simp [entryFrame, mkF, argsToLocals, Value.category]; done) | rfl) O0 ?_
  intro p e s m below meth c T0 G K0
  refine own_iconst K0 (v := (0 : Int32)) d_jdk_52_m21_0 rfl rfl ?_
  refine own_istore K0 (Ls' := #[.val (.ref a), .val (.int 0), .val (.ref b), .val (.int 0), .val (.int (Int32.ofNat cs.length)), .val (.int (0 : Int32)), .unset]) d_jdk_52_m21_1 rfl rfl ?_
  refine lp_compress5 A hab gb hlat hlen (fun T1 L1 h1 K1 Kp1 V1 x1 x3 x5 s6 => ?_) cs.length 0 (Nat.zero_add _) K0 (Keep.refl _ _) B One.u
  refine own_iload K1 d_jdk_52_m21_44 rfl rfl ?_
  exact own_retI K1 d_jdk_52_m21_46 rfl (by decide) (by decide) ⟨rfl, Kp1, V1⟩
theorem d_jdk_52_m16_0 : decode jdk_52_method_16_code 0 = .ok (.iload_n 2, 1) := by decide +kernel
theorem d_jdk_52_m16_1 : decode jdk_52_method_16_code 1 = .ok (.newarray .byte, 2) := by decide +kernel
theorem d_jdk_52_m16_3 : decode jdk_52_method_16_code 3 = .ok (.astore_n 3, 1) := by decide +kernel
theorem d_jdk_52_m16_4 : decode jdk_52_method_16_code 4 = .ok (.aload_n 0, 1) := by decide +kernel
theorem d_jdk_52_m16_5 : decode jdk_52_method_16_code 5 = .ok (.iload_n 1, 1) := by decide +kernel
theorem d_jdk_52_m16_6 : decode jdk_52_method_16_code 6 = .ok (.aload_n 3, 1) := by decide +kernel
theorem d_jdk_52_m16_7 : decode jdk_52_method_16_code 7 = .ok (.iconst 0, 1) := by decide +kernel
theorem d_jdk_52_m16_8 : decode jdk_52_method_16_code 8 = .ok (.iload_n 2, 1) := by decide +kernel
theorem d_jdk_52_m16_9 : decode jdk_52_method_16_code 9 = .ok (.invokestatic 115, 3) := by decide +kernel
theorem wd23 {a0 : Array Value} {Z : State} (hw : ∀ d ∈ tables_1, d.before a0 Z = true) : (Jvm.Cond.code ({ cls := "java/lang/StringUTF16", name := "compress", desc := "([CI[BII)I" } : Jvm.MethodName) jdk_52_method_21_code (7 : Nat) (Option.some Jvm.ClassFile.FieldType.int)).before a0 Z = true := hw _ (List.mem_of_getElem? (i := 23) rfl)
theorem wd18 {a0 : Array Value} {Z : State} (hw : ∀ d ∈ tables_1, d.before a0 Z = true) : (Jvm.Cond.initialized "java/lang/StringUTF16").before a0 Z = true := hw _ (List.mem_of_getElem? (i := 18) rfl)
theorem pd_285bCI5bBII29I : parseMethodDescriptor "([CI[BII)I" = some ⟨[(.array .char), .int, (.array .byte), .int, .int], some .int⟩ := by decide +kernel
theorem wd21 {a0 : Array Value} {Z : State} (hw : ∀ d ∈ tables_1, d.before a0 Z = true) : (Jvm.Cond.methodLink "java/lang/StringUTF16" (115 : Nat) ({ cls := "java/lang/StringUTF16", name := "compress", desc := "([CI[BII)I" } : Jvm.MethodName)).before a0 Z = true := hw _ (List.mem_of_getElem? (i := 21) rfl)
theorem wd22 {a0 : Array Value} {Z : State} (hw : ∀ d ∈ tables_1, d.before a0 Z = true) : (Jvm.Cond.static ({ cls := "java/lang/StringUTF16", name := "compress", desc := "([CI[BII)I" } : Jvm.MethodName)).before a0 Z = true := hw _ (List.mem_of_getElem? (i := 22) rfl)
theorem d_jdk_52_m16_12 : decode jdk_52_method_16_code 12 = .ok (.istore 4, 2) := by decide +kernel
theorem d_jdk_52_m16_14 : decode jdk_52_method_16_code 14 = .ok (.iload 4, 2) := by decide +kernel
theorem d_jdk_52_m16_16 : decode jdk_52_method_16_code 16 = .ok (.iload_n 2, 1) := by decide +kernel
theorem d_jdk_52_m16_17 : decode jdk_52_method_16_code 17 = .ok (.if_icmp .eq 40, 3) := by decide +kernel
theorem d_jdk_52_m16_57 : decode jdk_52_method_16_code 57 = .ok (.aload_n 3, 1) := by decide +kernel
theorem d_jdk_52_m16_58 : decode jdk_52_method_16_code 58 = .ok (.areturn, 1) := by decide +kernel
set_option maxRecDepth 65536 in
set_option maxHeartbeats 40000000 in
theorem rm_compress3 {l : Launch} {Z : State} {a0 : Array Value} (hw : ∀ d ∈ tables_1, d.before a0 Z = true) (hs : ∀ d ∈ jdkStatics_1, d.before a0 Z = true) {a : Addr} {ka : ClassId} {cs : List Int32} {cap : Nat} {h0 : Heap} (O0 : Ext Z.heap h0) (A : Arv Z h0 a ka .char (Int32.ofNat cs.length) (cs.map Value.int) (.int 0)) (hlat : ∀ c ∈ cs, ¬ c < 0 ∧ c < 256) (hlen : cs.length ≤ 4000) (hcap : cs.length ≤ cap) (hcap2 : cap ≤ 4000) :
    own_Ct l Z (⟨"java/lang/StringUTF16", "compress", "([CII)[B"⟩ : MethodName) jdk_52_method_16_code 6 (some (.array .byte)) [] ({ frames := 1, locals := 18, cells := 1, slots := 0 + cap } : Room) #[(.ref a), (.int 0), (.int (Int32.ofNat cs.length))] h0 (fun v h => ∃ (b : Addr) (kb : ClassId), v = some (.ref b) ∧ h0.size ≤ b ∧ Ext h0 h ∧ Arv Z h b kb .byte (Int32.ofNat cs.length) (own_by cs) (.int 0)) := by
  refine own_body (Ls := #[.val (.ref a), .val (.int 0), .val (.int (Int32.ofNat cs.length)), .unset, .unset, .unset]) (plainFor_of_name pn_java_lang_StringUTF16) (fun m => by first | (simp [entryFrame, mkF, argsToLocals, Value.category]; done) | rfl) O0 ?_
  intro p e s m below meth c T0 G K0
  refine own_iloadN K0 d_jdk_52_m16_0 rfl rfl ?_
  refine own_newP K0 (aty := .byte) (wd20 hw) d_jdk_52_m16_1 (own_nn (by omega)) (cap := cap) (by rw [own_clamp (by omega)]; exact hcap) (by omega) (by first | decide | (dsimp only; omega)) (by first | decide | (dsimp only; omega)) rfl ?_
  intro T12 h12 a12 c12 K12 g12 E12 V12
  refine own_astoreN K12 (Ls' := #[.val (.ref a), .val (.int 0), .val (.int (Int32.ofNat cs.length)), .val (.ref a12), .unset, .unset]) d_jdk_52_m16_3 rfl rfl rfl ?_
  refine own_aloadN K12 d_jdk_52_m16_4 rfl rfl rfl ?_
  refine own_iloadN K12 d_jdk_52_m16_5 rfl rfl ?_
  refine own_aloadN K12 d_jdk_52_m16_6 rfl rfl rfl ?_
  refine own_iconst K12 (v := (0 : Int32)) d_jdk_52_m16_7 rfl rfl ?_
  refine own_iloadN K12 d_jdk_52_m16_8 rfl rfl ?_
  have gb12 : Z.heap.size ≤ a12 := by rw [g12]; exact K0.O.1
  have hab12 : a ∉ [a12] := fun q => Nat.ne_of_lt (Nat.lt_of_lt_of_le A.lt (Nat.le_of_eq g12.symm)) (List.mem_singleton.mp q)
  refine own_callS K12 (wd21 hw) (wd22 hw) (rm_compress5 hw hs K12.O (A.ext E12) (V12.pad (pad_rep [] _ cs.length)) hab12 gb12 hlat hlen) (wd23 hw) (wd18 hw) (by decide) (argsL := [(.ref a), (.int 0), (.ref a12), (.int (0 : Int32)), (.int (Int32.ofNat cs.length))]) (rest := []) rfl pd_285bCI5bBII29I rfl rfl (W := 0) rfl (by first | decide | (dsimp only; omega)) (by first | decide | (dsimp only; omega)) (by first | decide | (dsimp only; omega)) (by first | decide | (dsimp only; omega)) d_jdk_52_m16_9 rfl ?_
  intro T13 h13 L13 v13 K13 q13
  obtain ⟨rfl, Kp13, V13⟩ := q13
  show G (T13.setTop (mkF m 12 #[.val (.ref a), .val (.int 0), .val (.int (Int32.ofNat cs.length)), .val (.ref a12), .unset, .unset] [(.int (Int32.ofNat cs.length))]))
  refine own_istore K13 (Ls' := #[.val (.ref a), .val (.int 0), .val (.int (Int32.ofNat cs.length)), .val (.ref a12), .val (.int (Int32.ofNat cs.length)), .unset]) d_jdk_52_m16_12 rfl rfl ?_
  refine own_iload K13 d_jdk_52_m16_14 rfl rfl ?_
  refine own_iloadN K13 d_jdk_52_m16_16 rfl rfl ?_
  refine own_icmpYes K13 d_jdk_52_m16_17 (pc' := 57) (by decide) (by decide) (teq rfl).1 ?_
  refine own_aloadN K13 d_jdk_52_m16_57 rfl rfl rfl ?_
  exact own_retA K13 d_jdk_52_m16_58 rfl rfl rfl rfl (by first | decide | (dsimp only; omega)) (by first | decide | (dsimp only; omega)) ⟨a12, c12, rfl, Nat.le_of_eq g12.symm, own_ext_keep E12 Kp13 (fun y q => by cases List.mem_singleton.mp q; exact Nat.le_of_eq g12.symm), V13⟩
theorem d_jdk_52_m15_0 : decode jdk_52_method_15_code 0 = .ok (.iload_n 1, 1) := by decide +kernel
theorem d_jdk_52_m15_1 : decode jdk_52_method_15_code 1 = .ok (.aload_n 0, 1) := by decide +kernel
theorem d_jdk_52_m15_2 : decode jdk_52_method_15_code 2 = .ok (.arraylength, 1) := by decide +kernel
theorem d_jdk_52_m15_3 : decode jdk_52_method_15_code 3 = .ok (.isub, 1) := by decide +kernel
theorem d_jdk_52_m15_4 : decode jdk_52_method_15_code 4 = .ok (.bipush 31, 2) := by decide +kernel
theorem d_jdk_52_m15_6 : decode jdk_52_method_15_code 6 = .ok (.iushr, 1) := by decide +kernel
theorem d_jdk_52_m15_7 : decode jdk_52_method_15_code 7 = .ok (.i2b, 1) := by decide +kernel
theorem own_coder0 (x : Int32) : nar .byte ((((x - x).toUInt32 >>> ((31 : Int32) &&& 31).toUInt32).toInt32).toInt8.toInt32) = 0 := by
  rw [Int32.sub_self]; decide
theorem d_jdk_52_m15_8 : decode jdk_52_method_15_code 8 = .ok (.ireturn, 1) := by decide +kernel
set_option maxRecDepth 65536 in
set_option maxHeartbeats 40000000 in
theorem rm_coderFrom {l : Launch} {Z : State} {a0 : Array Value} (hw : ∀ d ∈ tables_1, d.before a0 Z = true) (hs : ∀ d ∈ jdkStatics_1, d.before a0 Z = true) {b : Addr} {kb : ClassId} {nn : Nat} {vs : List Value} {dv : Value} {h0 : Heap} (O0 : Ext Z.heap h0) (B : Arv Z h0 b kb .byte (Int32.ofNat nn) vs dv) :
    own_Ct l Z (⟨"java/lang/StringUTF16", "coderFromArrayLen", "([BI)B"⟩ : MethodName) jdk_52_method_15_code 2 (some .byte) [] ({ frames := 0, locals := 0, cells := 0, slots := 0 } : Room) #[(.ref b), (.int (Int32.ofNat nn))] h0 (fun v h => v = some (.int 0) ∧ h = h0) := by
  refine own_body (Ls := #[.val (.ref b), .val (.int (Int32.ofNat nn))]) (plainFor_of_name pn_java_lang_StringUTF16) (fun m => by first | (simp [entryFrame, mkF, argsToLocals, Value.category]; done) | rfl) O0 ?_
  intro p e s m below meth c T0 G K0
  refine own_iloadN K0 d_jdk_52_m15_0 rfl rfl ?_
  refine own_aloadN K0 d_jdk_52_m15_1 rfl rfl rfl ?_
  refine own_arraylength K0 B d_jdk_52_m15_2 rfl ?_
  refine own_isub K0 d_jdk_52_m15_3 rfl ?_
  refine own_bipush K0 (v := (31 : Int32)) d_jdk_52_m15_4 rfl rfl ?_
  refine own_iushr K0 d_jdk_52_m15_6 rfl ?_
  refine own_i2b K0 d_jdk_52_m15_7 rfl ?_
  exact own_retN K0 (z' := 0) d_jdk_52_m15_8 rfl (by simp) (own_coder0 _) (by decide) (by decide) ⟨rfl, rfl⟩
theorem d_jdk_42_m149_0 : decode jdk_42_method_149_code 0 = .ok (.aload_n 0, 1) := by decide +kernel
theorem d_jdk_42_m149_1 : decode jdk_42_method_149_code 1 = .ok (.invokespecial 1, 3) := by decide +kernel
theorem d_jdk_42_m149_4 : decode jdk_42_method_149_code 4 = .ok (.iload_n 3, 1) := by decide +kernel
theorem own_ne0 {i : Nat} (h : 0 < i) (hn : i < 2147483648) : ¬ Int32.ofNat i = 0 := fun q => by have := own_ofNat_inj hn (by decide : 0 < 2147483648) q; omega
theorem d_jdk_42_m149_5 : decode jdk_42_method_149_code 5 = .ok (.ifCond .ne 22, 3) := by decide +kernel
theorem d_jdk_42_m149_27 : decode jdk_42_method_149_code 27 = .ok (.getstatic 38, 3) := by decide +kernel
theorem d_jdk_42_m149_30 : decode jdk_42_method_149_code 30 = .ok (.ifCond .eq 28, 3) := by decide +kernel
theorem d_jdk_42_m149_33 : decode jdk_42_method_149_code 33 = .ok (.aload_n 1, 1) := by decide +kernel
theorem d_jdk_42_m149_34 : decode jdk_42_method_149_code 34 = .ok (.iload_n 2, 1) := by decide +kernel
theorem d_jdk_42_m149_35 : decode jdk_42_method_149_code 35 = .ok (.iload_n 3, 1) := by decide +kernel
theorem d_jdk_42_m149_36 : decode jdk_42_method_149_code 36 = .ok (.invokestatic 177, 3) := by decide +kernel
theorem wd19 {a0 : Array Value} {Z : State} (hw : ∀ d ∈ tables_1, d.before a0 Z = true) : (Jvm.Cond.code ({ cls := "java/lang/StringUTF16", name := "compress", desc := "([CII)[B" } : Jvm.MethodName) jdk_52_method_16_code (6 : Nat) (Option.some (Jvm.ClassFile.FieldType.array Jvm.ClassFile.FieldType.byte))).before a0 Z = true := hw _ (List.mem_of_getElem? (i := 19) rfl)
theorem pd_285bCII295bB : parseMethodDescriptor "([CII)[B" = some ⟨[(.array .char), .int, .int], some (.array .byte)⟩ := by decide +kernel
theorem wd16 {a0 : Array Value} {Z : State} (hw : ∀ d ∈ tables_1, d.before a0 Z = true) : (Jvm.Cond.methodLink "java/lang/String" (177 : Nat) ({ cls := "java/lang/StringUTF16", name := "compress", desc := "([CII)[B" } : Jvm.MethodName)).before a0 Z = true := hw _ (List.mem_of_getElem? (i := 16) rfl)
theorem wd17 {a0 : Array Value} {Z : State} (hw : ∀ d ∈ tables_1, d.before a0 Z = true) : (Jvm.Cond.static ({ cls := "java/lang/StringUTF16", name := "compress", desc := "([CII)[B" } : Jvm.MethodName)).before a0 Z = true := hw _ (List.mem_of_getElem? (i := 17) rfl)
theorem d_jdk_42_m149_39 : decode jdk_42_method_149_code 39 = .ok (.astore 5, 2) := by decide +kernel
theorem d_jdk_42_m149_41 : decode jdk_42_method_149_code 41 = .ok (.aload_n 0, 1) := by decide +kernel
theorem d_jdk_42_m149_42 : decode jdk_42_method_149_code 42 = .ok (.aload 5, 2) := by decide +kernel
theorem d_jdk_42_m149_44 : decode jdk_42_method_149_code 44 = .ok (.iload_n 3, 1) := by decide +kernel
theorem d_jdk_42_m149_45 : decode jdk_42_method_149_code 45 = .ok (.invokestatic 47, 3) := by decide +kernel
theorem wd26 {a0 : Array Value} {Z : State} (hw : ∀ d ∈ tables_1, d.before a0 Z = true) : (Jvm.Cond.code ({ cls := "java/lang/StringUTF16", name := "coderFromArrayLen", desc := "([BI)B" } : Jvm.MethodName) jdk_52_method_15_code (2 : Nat) (Option.some Jvm.ClassFile.FieldType.byte)).before a0 Z = true := hw _ (List.mem_of_getElem? (i := 26) rfl)
theorem pd_285bBI29B : parseMethodDescriptor "([BI)B" = some ⟨[(.array .byte), .int], some .byte⟩ := by decide +kernel
theorem wd24 {a0 : Array Value} {Z : State} (hw : ∀ d ∈ tables_1, d.before a0 Z = true) : (Jvm.Cond.methodLink "java/lang/String" (47 : Nat) ({ cls := "java/lang/StringUTF16", name := "coderFromArrayLen", desc := "([BI)B" } : Jvm.MethodName)).before a0 Z = true := hw _ (List.mem_of_getElem? (i := 24) rfl)
theorem wd25 {a0 : Array Value} {Z : State} (hw : ∀ d ∈ tables_1, d.before a0 Z = true) : (Jvm.Cond.static ({ cls := "java/lang/StringUTF16", name := "coderFromArrayLen", desc := "([BI)B" } : Jvm.MethodName)).before a0 Z = true := hw _ (List.mem_of_getElem? (i := 25) rfl)
theorem d_jdk_42_m149_48 : decode jdk_42_method_149_code 48 = .ok (.putfield 15, 3) := by decide +kernel
theorem d_jdk_42_m149_51 : decode jdk_42_method_149_code 51 = .ok (.aload_n 0, 1) := by decide +kernel
theorem d_jdk_42_m149_52 : decode jdk_42_method_149_code 52 = .ok (.aload 5, 2) := by decide +kernel
theorem d_jdk_42_m149_54 : decode jdk_42_method_149_code 54 = .ok (.putfield 9, 3) := by decide +kernel
theorem d_jdk_42_m149_57 : decode jdk_42_method_149_code 57 = .ok (.return_, 1) := by decide +kernel
set_option maxRecDepth 65536 in
set_option maxHeartbeats 40000000 in
theorem rm_initC4 {l : Launch} {Z : State} {a0 : Array Value} (hw : ∀ d ∈ tables_1, d.before a0 Z = true) (hs : ∀ d ∈ jdkStatics_1, d.before a0 Z = true) {x : Addr} {a : Addr} {ka : ClassId} {cs : List Int32} {cap : Nat} {u1 : Value} {u2 : Value} {h0 : Heap} (O0 : Ext Z.heap h0) (E : Exa Z h0 x "java/lang/String") (F1 : Fld Z h0 x "java/lang/String" "value" "[B" u1) (F2 : Fld Z h0 x "java/lang/String" "coder" "B" u2) (gx : Z.heap.size ≤ x) (A : Arv Z h0 a ka .char (Int32.ofNat cs.length) (cs.map Value.int) (.int 0)) (hlat : ∀ c ∈ cs, ¬ c < 0 ∧ c < 256) (hpos : 0 < cs.length) (hlen : cs.length ≤ 4000) (hcap : cs.length ≤ cap) (hcap2 : cap ≤ 4000) :
    own_Ct l Z (⟨"java/lang/String", "<init>", "([CIILjava/lang/Void;)V"⟩ : MethodName) jdk_42_method_149_code 6 none [] ({ frames := 2, locals := 35, cells := 1, slots := 0 + 0 + cap } : Room) #[(.ref x), (.ref a), (.int 0), (.int (Int32.ofNat cs.length)), .null] h0 (fun v h => v = none ∧ Keep h0 h [x] ∧ own_Str Z h x cs) := by
  obtain ⟨zc, SC, hzc⟩ := own_compact hs
  refine own_body (Ls := #[.val (.ref x), .val (.ref a), .val (.int 0), .val (.int (Int32.ofNat cs.length)), .val .null, .unset]) (plainFor_of_name pn_java_lang_String) (fun m => by first | (simp [entryFrame, mkF, argsToLocals, Value.category]; done) | rfl) O0 ?_
  intro p e s m below meth c T0 G K0
  refine own_aloadN K0 d_jdk_42_m149_0 rfl rfl rfl ?_
  refine own_initO K0 (W := 0) (wd12 hw) (wd13 hw) (wd14 hw) rfl rfl (by first | decide | (dsimp only; omega)) (by first | decide | (dsimp only; omega)) d_jdk_42_m149_1 rfl ?_
  intro T14 K14
  refine own_iloadN K14 d_jdk_42_m149_4 rfl rfl ?_
  refine own_ifYes K14 d_jdk_42_m149_5 (pc' := 27) (by decide) (by decide) ((if0 _ _).trans (feq (own_ne0 hpos (by omega))).2) ?_
  refine own_getS K14 (wd15 hw) Via.refl (SC.ext K14.O) d_jdk_42_m149_27 rfl ?_
  intro T15 K15
  refine own_ifNo K15 d_jdk_42_m149_30 rfl ((if0 _ _).trans (feq hzc).1) ?_
  refine own_aloadN K15 d_jdk_42_m149_33 rfl rfl rfl ?_
  refine own_iloadN K15 d_jdk_42_m149_34 rfl rfl ?_
  refine own_iloadN K15 d_jdk_42_m149_35 rfl rfl ?_
  refine own_callS K15 (wd16 hw) (wd17 hw) (rm_compress3 hw hs K15.O A hlat hlen hcap hcap2) (wd19 hw) (wd18 hw) (by decide) (argsL := [(.ref a), (.int 0), (.int (Int32.ofNat cs.length))]) (rest := []) rfl pd_285bCII295bB rfl rfl (W := 0) rfl (by first | decide | (dsimp only; omega)) (by first | decide | (dsimp only; omega)) (by first | decide | (dsimp only; omega)) (by first | decide | (dsimp only; omega)) d_jdk_42_m149_36 rfl ?_
  intro T16 h16 L16 v16 K16 q16
  obtain ⟨b16, kb16, rfl, gb16, E16, V16⟩ := q16
  show G (T16.setTop (mkF m 39 #[.val (.ref x), .val (.ref a), .val (.int 0), .val (.int (Int32.ofNat cs.length)), .val .null, .unset] [(.ref b16)]))
  refine own_astore K16 (Ls' := #[.val (.ref x), .val (.ref a), .val (.int 0), .val (.int (Int32.ofNat cs.length)), .val .null, .val (.ref b16)]) d_jdk_42_m149_39 rfl rfl rfl ?_
  refine own_aloadN K16 d_jdk_42_m149_41 rfl rfl rfl ?_
  refine own_aload K16 d_jdk_42_m149_42 rfl rfl rfl ?_
  refine own_iloadN K16 d_jdk_42_m149_44 rfl rfl ?_
  refine own_callS K16 (wd24 hw) (wd25 hw) (rm_coderFrom hw hs (nn := cs.length) K16.O V16) (wd26 hw) (wd18 hw) (by decide) (argsL := [(.ref b16), (.int (Int32.ofNat cs.length))]) (rest := [(.ref x)]) rfl pd_285bBI29B rfl rfl (W := 1) rfl (by first | decide | (dsimp only; omega)) (by first | decide | (dsimp only; omega)) (by first | decide | (dsimp only; omega)) (by first | decide | (dsimp only; omega)) d_jdk_42_m149_45 rfl ?_
  intro T17 h17 L17 v17 K17 q17
  obtain ⟨rfl, e17⟩ := q17
  have f17 := e17.symm
  subst f17
  show G (T17.setTop (mkF m 48 #[.val (.ref x), .val (.ref a), .val (.int 0), .val (.int (Int32.ofNat cs.length)), .val .null, .val (.ref b16)] [(.int (0 : Int32)), (.ref x)]))
  refine own_putFN K17 (wd27 hw) Via.refl (F2.ext E16) (E.ext E16) (Or.inr ⟨(wd28 hw), rfl, rfl⟩) (wd2 hw) (ty := .byte) (v' := .int 0) (by decide) rfl rfl gx d_jdk_42_m149_48 rfl ?_
  intro T18 h18 K18 W18
  refine own_aloadN K18 d_jdk_42_m149_51 rfl rfl rfl ?_
  refine own_aload K18 d_jdk_42_m149_52 rfl rfl rfl ?_
  refine own_putF K18 (host := "") (Or.inl (wd29 hw)) Via.refl ((F1.ext E16).other W18 (Or.inr (slot_ne (Or.inr (wd30 hw)) (Or.inr (wd28 hw)) (by decide) (t := (.array .byte)) (t' := .byte) (by decide) (by decide)))) ((E.ext E16).wr W18) (Or.inr ⟨(wd30 hw), rfl, rfl⟩) (wd2 hw) (ty := (.array .byte)) (by decide) rfl rfl gx d_jdk_42_m149_54 rfl ?_
  intro T19 h19 K19 W19
  have hne16 : b16 ≠ x := Nat.ne_of_gt (Nat.lt_of_lt_of_le E.lt gb16)
  exact own_ret0 K19 d_jdk_42_m149_57 rfl (by first | decide | (dsimp only; omega)) (by first | decide | (dsimp only; omega)) ⟨rfl, (((Keep.refl h0 [x]).ext E16).wr W18 (Or.inl (List.mem_singleton.mpr rfl))).wr W19 (Or.inl (List.mem_singleton.mpr rfl)), ((E.ext E16).wr W18).wr W19, ((F2.ext E16).same W18).other W19 (Or.inr (slot_ne (Or.inr (wd28 hw)) (Or.inr (wd30 hw)) (by decide) (t := .byte) (t' := (.array .byte)) (by decide) (by decide))), b16, kb16, ((F1.ext E16).other W18 (Or.inr (slot_ne (Or.inr (wd30 hw)) (Or.inr (wd28 hw)) (by decide) (t := (.array .byte)) (t' := .byte) (by decide) (by decide)))).same W19, (V16.other W18 hne16).other W19 hne16⟩
theorem d_jdk_42_m3_0 : decode jdk_42_method_3_code 0 = .ok (.aload_n 0, 1) := by decide +kernel
theorem d_jdk_42_m3_1 : decode jdk_42_method_3_code 1 = .ok (.aload_n 1, 1) := by decide +kernel
theorem d_jdk_42_m3_2 : decode jdk_42_method_3_code 2 = .ok (.iconst 0, 1) := by decide +kernel
theorem d_jdk_42_m3_3 : decode jdk_42_method_3_code 3 = .ok (.aload_n 1, 1) := by decide +kernel
theorem d_jdk_42_m3_4 : decode jdk_42_method_3_code 4 = .ok (.arraylength, 1) := by decide +kernel
theorem d_jdk_42_m3_5 : decode jdk_42_method_3_code 5 = .ok (.aconst_null, 1) := by decide +kernel
theorem d_jdk_42_m3_6 : decode jdk_42_method_3_code 6 = .ok (.invokespecial 27, 3) := by decide +kernel
theorem wd11 {a0 : Array Value} {Z : State} (hw : ∀ d ∈ tables_1, d.before a0 Z = true) : (Jvm.Cond.code ({ cls := "java/lang/String", name := "<init>", desc := "([CIILjava/lang/Void;)V" } : Jvm.MethodName) jdk_42_method_149_code (6 : Nat) (Option.none : Option Jvm.ClassFile.FieldType)).before a0 Z = true := hw _ (List.mem_of_getElem? (i := 11) rfl)
theorem pd_285bCIILjava2flang2fVoid3b29V : parseMethodDescriptor "([CIILjava/lang/Void;)V" = some ⟨[(.array .char), .int, .int, (.object "java/lang/Void")], none⟩ := by decide +kernel
theorem wd8 {a0 : Array Value} {Z : State} (hw : ∀ d ∈ tables_1, d.before a0 Z = true) : (Jvm.Cond.methodLink "java/lang/String" (27 : Nat) ({ cls := "java/lang/String", name := "<init>", desc := "([CIILjava/lang/Void;)V" } : Jvm.MethodName)).before a0 Z = true := hw _ (List.mem_of_getElem? (i := 8) rfl)
theorem wd9 {a0 : Array Value} {Z : State} (hw : ∀ d ∈ tables_1, d.before a0 Z = true) : (Jvm.Cond.instanceMethod ({ cls := "java/lang/String", name := "<init>", desc := "([CIILjava/lang/Void;)V" } : Jvm.MethodName)).before a0 Z = true := hw _ (List.mem_of_getElem? (i := 9) rfl)
theorem d_jdk_42_m3_9 : decode jdk_42_method_3_code 9 = .ok (.return_, 1) := by decide +kernel
set_option maxRecDepth 65536 in
set_option maxHeartbeats 40000000 in
theorem rm_initC {l : Launch} {Z : State} {a0 : Array Value} (hw : ∀ d ∈ tables_1, d.before a0 Z = true) (hs : ∀ d ∈ jdkStatics_1, d.before a0 Z = true) {x : Addr} {a : Addr} {ka : ClassId} {cs : List Int32} {cap : Nat} {u1 : Value} {u2 : Value} {h0 : Heap} (O0 : Ext Z.heap h0) (E : Exa Z h0 x "java/lang/String") (F1 : Fld Z h0 x "java/lang/String" "value" "[B" u1) (F2 : Fld Z h0 x "java/lang/String" "coder" "B" u2) (gx : Z.heap.size ≤ x) (A : Arv Z h0 a ka .char (Int32.ofNat cs.length) (cs.map Value.int) (.int 0)) (hlat : ∀ c ∈ cs, ¬ c < 0 ∧ c < 256) (hpos : 0 < cs.length) (hlen : cs.length ≤ 4000) (hcap : cs.length ≤ cap) (hcap2 : cap ≤ 4000) :
    own_Ct l Z (⟨"java/lang/String", "<init>", "([C)V"⟩ : MethodName) jdk_42_method_3_code 2 none [] ({ frames := 3, locals := 52, cells := 1, slots := 0 + 0 + 0 + cap } : Room) #[(.ref x), (.ref a)] h0 (fun v h => v = none ∧ Keep h0 h [x] ∧ own_Str Z h x cs) := by
  refine own_body (Ls := #[.val (.ref x), .val (.ref a)]) (plainFor_of_name pn_java_lang_String) (fun m => by first | (simp [entryFrame, mkF, argsToLocals, Value.category]; done) | rfl) O0 ?_
  intro p e s m below meth c T0 G K0
  refine own_aloadN K0 d_jdk_42_m3_0 rfl rfl rfl ?_
  refine own_aloadN K0 d_jdk_42_m3_1 rfl rfl rfl ?_
  refine own_iconst K0 (v := (0 : Int32)) d_jdk_42_m3_2 rfl rfl ?_
  refine own_aloadN K0 d_jdk_42_m3_3 rfl rfl rfl ?_
  refine own_arraylength K0 A d_jdk_42_m3_4 rfl ?_
  refine own_aconstNull K0 d_jdk_42_m3_5 rfl ?_
  refine own_callI K0 (a := x) (wd8 hw) (wd9 hw) (rm_initC4 hw hs K0.O E F1 F2 gx A hlat hpos hlen hcap hcap2) (wd11 hw) (wd3 hw) (by decide) rfl (argsL := [(.ref a), (.int (0 : Int32)), (.int (Int32.ofNat cs.length)), .null]) (rest := []) rfl pd_285bCIILjava2flang2fVoid3b29V rfl rfl (W := 0) rfl (by first | decide | (dsimp only; omega)) (by first | decide | (dsimp only; omega)) (by first | decide | (dsimp only; omega)) (by first | decide | (dsimp only; omega)) d_jdk_42_m3_6 rfl ?_
  intro T20 h20 L20 v20 K20 q20
  obtain ⟨rfl, Kp20, S20⟩ := q20
  show G (T20.setTop (mkF m 9 #[.val (.ref x), .val (.ref a)] []))
  exact own_ret0 K20 d_jdk_42_m3_9 rfl (by first | decide | (dsimp only; omega)) (by first | decide | (dsimp only; omega)) ⟨rfl, Kp20, S20⟩
theorem d_jdk_42_m55_0 : decode jdk_42_method_55_code 0 = .ok (.aload_n 0, 1) := by decide +kernel
theorem d_jdk_42_m55_1 : decode jdk_42_method_55_code 1 = .ok (.getfield 9, 3) := by decide +kernel
theorem d_jdk_42_m55_4 : decode jdk_42_method_55_code 4 = .ok (.arraylength, 1) := by decide +kernel
theorem d_jdk_42_m55_5 : decode jdk_42_method_55_code 5 = .ok (.ifCond .ne 7, 3) := by decide +kernel
theorem d_jdk_42_m55_12 : decode jdk_42_method_55_code 12 = .ok (.iconst 0, 1) := by decide +kernel
theorem d_jdk_42_m55_13 : decode jdk_42_method_55_code 13 = .ok (.ireturn, 1) := by decide +kernel
set_option maxRecDepth 65536 in
set_option maxHeartbeats 40000000 in
theorem rm_isEmptyNo {l : Launch} {Z : State} {a0 : Array Value} (hw : ∀ d ∈ tables_1, d.before a0 Z = true) (hs : ∀ d ∈ jdkStatics_1, d.before a0 Z = true) {x : Addr} {cs : List Int32} {h0 : Heap} (O0 : Ext Z.heap h0) (S : own_Str Z h0 x cs) (hpos : 0 < cs.length) (hlen : cs.length ≤ 4000) :
    own_Ct l Z (⟨"java/lang/String", "isEmpty", "()Z"⟩ : MethodName) jdk_42_method_55_code 1 (some .boolean) [] ({ frames := 0, locals := 0, cells := 0, slots := 0 } : Room) #[(.ref x)] h0 (fun v h => v = some (.int 0) ∧ h = h0) := by
  obtain ⟨E, Fc, b, kb, Fv, V⟩ := S
  refine own_body (Ls := #[.val (.ref x)]) (plainFor_of_name pn_java_lang_String) (fun m => by first | (simp [entryFrame, mkF, argsToLocals, Value.category]; done) | rfl) O0 ?_
  intro p e s m below meth c T0 G K0
  refine own_aloadN K0 d_jdk_42_m55_0 rfl rfl rfl ?_
  refine own_getF K0 (host := "") (Or.inl (wd29 hw)) Via.refl Fv d_jdk_42_m55_1 rfl ?_
  intro T21 K21
  refine own_arraylength K21 V d_jdk_42_m55_4 rfl ?_
  refine own_ifYes K21 d_jdk_42_m55_5 (pc' := 12) (by decide) (by decide) ((if0 _ _).trans (feq (own_ne0 hpos (by omega))).2) ?_
  refine own_iconst K21 (v := (0 : Int32)) d_jdk_42_m55_12 rfl rfl ?_
  exact own_retN K21 (z' := (0 : Int32)) d_jdk_42_m55_13 rfl (by simp) (by decide) (by decide) (by decide) ⟨rfl, rfl⟩
theorem d_jdk_42_m66_0 : decode jdk_42_method_66_code 0 = .ok (.aload_n 0, 1) := by decide +kernel
theorem d_jdk_42_m66_1 : decode jdk_42_method_66_code 1 = .ok (.aload_n 1, 1) := by decide +kernel
theorem d_jdk_42_m66_2 : decode jdk_42_method_66_code 2 = .ok (.if_acmp .ne 5, 3) := by decide +kernel
theorem d_jdk_42_m66_5 : decode jdk_42_method_66_code 5 = .ok (.iconst 1, 1) := by decide +kernel
theorem d_jdk_42_m66_6 : decode jdk_42_method_66_code 6 = .ok (.ireturn, 1) := by decide +kernel
set_option maxRecDepth 65536 in
set_option maxHeartbeats 40000000 in
theorem rm_eqSame {l : Launch} {Z : State} {a0 : Array Value} (hw : ∀ d ∈ tables_1, d.before a0 Z = true) (hs : ∀ d ∈ jdkStatics_1, d.before a0 Z = true) {x : Addr} {h0 : Heap} (O0 : Ext Z.heap h0)  :
    own_Ct l Z (⟨"java/lang/String", "equals", "(Ljava/lang/Object;)Z"⟩ : MethodName) jdk_42_method_66_code 3 (some .boolean) [] ({ frames := 0, locals := 0, cells := 0, slots := 0 } : Room) #[(.ref x), (.ref x)] h0 (fun v h => v = some (.int 1) ∧ h = h0) := by
  refine own_body (Ls := #[.val (.ref x), .val (.ref x), .unset]) (plainFor_of_name pn_java_lang_String) (fun m => by first | (simp [entryFrame, mkF, argsToLocals, Value.category]; done) | rfl) O0 ?_
  intro p e s m below meth c T0 G K0
  refine own_aloadN K0 d_jdk_42_m66_0 rfl rfl rfl ?_
  refine own_aloadN K0 d_jdk_42_m66_1 rfl rfl rfl ?_
  refine own_acmp K0 (same := true) (pc' := 5) d_jdk_42_m66_2 rfl rfl (by simp) (by decide) (by decide) ?_
  refine own_iconst K0 (v := (1 : Int32)) d_jdk_42_m66_5 rfl rfl ?_
  exact own_retN K0 (z' := (1 : Int32)) d_jdk_42_m66_6 rfl (by simp) (by decide) (by decide) (by decide) ⟨rfl, rfl⟩
theorem own_thIn {a0 : Array Value} {Z : State} (hw : ∀ d ∈ tables_1, d.before a0 Z = true) : ∀ d ∈ own_thW "com/example/tallymark/tallymark/FileFormatException", d.before a0 Z = true := by
  have q : ∀ d ∈ own_thW "com/example/tallymark/tallymark/FileFormatException", d ∈ tables_1 := by decide +kernel
  exact fun d hd => hw d (q d hd)
theorem wd66 {a0 : Array Value} {Z : State} (hw : ∀ d ∈ tables_1, d.before a0 Z = true) : (Jvm.Cond.initialized "java/lang/Throwable").before a0 Z = true := hw _ (List.mem_of_getElem? (i := 66) rfl)
theorem wd97 {a0 : Array Value} {Z : State} (hw : ∀ d ∈ tables_1, d.before a0 Z = true) : (Jvm.Cond.laysStatic "java/lang/Throwable" "UNASSIGNED_STACK" "[Ljava/lang/StackTraceElement;").before a0 Z = true := hw _ (List.mem_of_getElem? (i := 97) rfl)
theorem wd98 {a0 : Array Value} {Z : State} (hw : ∀ d ∈ tables_1, d.before a0 Z = true) : (Jvm.Cond.laysStatic "java/lang/Throwable" "SUPPRESSED_SENTINEL" "Ljava/util/List;").before a0 Z = true := hw _ (List.mem_of_getElem? (i := 98) rfl)
theorem d_jdk_78_m2_0 : decode jdk_78_method_2_code 0 = .ok (.aload_n 0, 1) := by decide +kernel
theorem d_jdk_78_m2_1 : decode jdk_78_method_2_code 1 = .ok (.invokespecial 1, 3) := by decide +kernel
theorem wd68 {a0 : Array Value} {Z : State} (hw : ∀ d ∈ tables_1, d.before a0 Z = true) : (Jvm.Cond.methodLink "java/lang/Throwable" (1 : Nat) ({ cls := "java/lang/Object", name := "<init>", desc := "()V" } : Jvm.MethodName)).before a0 Z = true := hw _ (List.mem_of_getElem? (i := 68) rfl)
theorem d_jdk_78_m2_4 : decode jdk_78_method_2_code 4 = .ok (.aload_n 0, 1) := by decide +kernel
theorem d_jdk_78_m2_5 : decode jdk_78_method_2_code 5 = .ok (.aload_n 0, 1) := by decide +kernel
theorem wd69 {a0 : Array Value} {Z : State} (hw : ∀ d ∈ tables_1, d.before a0 Z = true) : (Jvm.Cond.fieldLink "java/lang/Throwable" (7 : Nat) "java/lang/Throwable" "cause" "Ljava/lang/Throwable;").before a0 Z = true := hw _ (List.mem_of_getElem? (i := 69) rfl)
theorem wd70 {a0 : Array Value} {Z : State} (hw : ∀ d ∈ tables_1, d.before a0 Z = true) : (Jvm.Cond.lays "com/example/tallymark/tallymark/FileFormatException" "java/lang/Throwable" "cause" "Ljava/lang/Throwable;").before a0 Z = true := hw _ (List.mem_of_getElem? (i := 70) rfl)
theorem d_jdk_78_m2_6 : decode jdk_78_method_2_code 6 = .ok (.putfield 7, 3) := by decide +kernel
theorem wd46 {a0 : Array Value} {Z : State} (hw : ∀ d ∈ tables_1, d.before a0 Z = true) : (Jvm.Cond.instantiable "com/example/tallymark/tallymark/FileFormatException" (8 : Nat)).before a0 Z = true := hw _ (List.mem_of_getElem? (i := 46) rfl)
theorem wd73 {a0 : Array Value} {Z : State} (hw : ∀ d ∈ tables_1, d.before a0 Z = true) : (Jvm.Cond.lays "com/example/tallymark/tallymark/FileFormatException" "java/lang/Throwable" "stackTrace" "[Ljava/lang/StackTraceElement;").before a0 Z = true := hw _ (List.mem_of_getElem? (i := 73) rfl)
theorem wd76 {a0 : Array Value} {Z : State} (hw : ∀ d ∈ tables_1, d.before a0 Z = true) : (Jvm.Cond.lays "com/example/tallymark/tallymark/FileFormatException" "java/lang/Throwable" "suppressedExceptions" "Ljava/util/List;").before a0 Z = true := hw _ (List.mem_of_getElem? (i := 76) rfl)
theorem wd100 {a0 : Array Value} {Z : State} (hw : ∀ d ∈ tables_1, d.before a0 Z = true) : (Jvm.Cond.lays "com/example/tallymark/tallymark/FileFormatException" "java/lang/Throwable" "detailMessage" "Ljava/lang/String;").before a0 Z = true := hw _ (List.mem_of_getElem? (i := 100) rfl)
theorem wd101 {a0 : Array Value} {Z : State} (hw : ∀ d ∈ tables_1, d.before a0 Z = true) : (Jvm.Cond.lays "com/example/tallymark/tallymark/FileFormatException" "java/lang/Throwable" "backtrace" "Ljava/lang/Object;").before a0 Z = true := hw _ (List.mem_of_getElem? (i := 101) rfl)
theorem d_jdk_78_m2_9 : decode jdk_78_method_2_code 9 = .ok (.aload_n 0, 1) := by decide +kernel
theorem d_jdk_78_m2_10 : decode jdk_78_method_2_code 10 = .ok (.getstatic 13, 3) := by decide +kernel
theorem wd71 {a0 : Array Value} {Z : State} (hw : ∀ d ∈ tables_1, d.before a0 Z = true) : (Jvm.Cond.fieldLink "java/lang/Throwable" (13 : Nat) "java/lang/Throwable" "UNASSIGNED_STACK" "[Ljava/lang/StackTraceElement;").before a0 Z = true := hw _ (List.mem_of_getElem? (i := 71) rfl)
theorem wd72 {a0 : Array Value} {Z : State} (hw : ∀ d ∈ tables_1, d.before a0 Z = true) : (Jvm.Cond.fieldLink "java/lang/Throwable" (17 : Nat) "java/lang/Throwable" "stackTrace" "[Ljava/lang/StackTraceElement;").before a0 Z = true := hw _ (List.mem_of_getElem? (i := 72) rfl)
theorem d_jdk_78_m2_13 : decode jdk_78_method_2_code 13 = .ok (.putfield 17, 3) := by decide +kernel
theorem d_jdk_78_m2_16 : decode jdk_78_method_2_code 16 = .ok (.aload_n 0, 1) := by decide +kernel
theorem d_jdk_78_m2_17 : decode jdk_78_method_2_code 17 = .ok (.getstatic 20, 3) := by decide +kernel
theorem wd74 {a0 : Array Value} {Z : State} (hw : ∀ d ∈ tables_1, d.before a0 Z = true) : (Jvm.Cond.fieldLink "java/lang/Throwable" (20 : Nat) "java/lang/Throwable" "SUPPRESSED_SENTINEL" "Ljava/util/List;").before a0 Z = true := hw _ (List.mem_of_getElem? (i := 74) rfl)
theorem wd75 {a0 : Array Value} {Z : State} (hw : ∀ d ∈ tables_1, d.before a0 Z = true) : (Jvm.Cond.fieldLink "java/lang/Throwable" (24 : Nat) "java/lang/Throwable" "suppressedExceptions" "Ljava/util/List;").before a0 Z = true := hw _ (List.mem_of_getElem? (i := 75) rfl)
theorem d_jdk_78_m2_20 : decode jdk_78_method_2_code 20 = .ok (.putfield 24, 3) := by decide +kernel
theorem d_jdk_78_m2_23 : decode jdk_78_method_2_code 23 = .ok (.aload_n 0, 1) := by decide +kernel
theorem d_jdk_78_m2_24 : decode jdk_78_method_2_code 24 = .ok (.invokevirtual 27, 3) := by decide +kernel
theorem d_jdk_78_m2_27 : decode jdk_78_method_2_code 27 = .ok (.pop, 1) := by decide +kernel
theorem d_jdk_78_m2_28 : decode jdk_78_method_2_code 28 = .ok (.aload_n 0, 1) := by decide +kernel
theorem d_jdk_78_m2_29 : decode jdk_78_method_2_code 29 = .ok (.aload_n 1, 1) := by decide +kernel
theorem wd102 {a0 : Array Value} {Z : State} (hw : ∀ d ∈ tables_1, d.before a0 Z = true) : (Jvm.Cond.lays "com/example/tallymark/tallymark/FileFormatException" "java/lang/Throwable" "depth" "I").before a0 Z = true := hw _ (List.mem_of_getElem? (i := 102) rfl)
theorem wd104 {a0 : Array Value} {Z : State} (hw : ∀ d ∈ tables_1, d.before a0 Z = true) : (Jvm.Cond.fieldLink "java/lang/Throwable" (31 : Nat) "java/lang/Throwable" "detailMessage" "Ljava/lang/String;").before a0 Z = true := hw _ (List.mem_of_getElem? (i := 104) rfl)
theorem d_jdk_78_m2_30 : decode jdk_78_method_2_code 30 = .ok (.putfield 31, 3) := by decide +kernel
theorem d_jdk_78_m2_33 : decode jdk_78_method_2_code 33 = .ok (.return_, 1) := by decide +kernel
theorem pn_java_lang_Throwable : plainName "java/lang/Throwable" = true := by first | (simp [plainName, overriddenIn]; done) | decide +kernel
set_option maxRecDepth 65536 in
set_option maxHeartbeats 40000000 in
theorem rm_thN {l : Launch} {Z : State} {a0 : Array Value} (hw : ∀ d ∈ tables_1, d.before a0 Z = true) (hs : ∀ d ∈ jdkStatics_1, d.before a0 Z = true) {x : Addr} {h0 : Heap} (O0 : Ext Z.heap h0) (hl : l.stackTraces = true) (r2 : ∀ d ∈ twoRefs, d.before a0 Z = true) (E : Exa Z h0 x "com/example/tallymark/tallymark/FileFormatException") (N0 : Unt h0 x) (F_cause : Fld Z h0 x "java/lang/Throwable" "cause" "Ljava/lang/Throwable;" .null) (F_stackTrace : Fld Z h0 x "java/lang/Throwable" "stackTrace" "[Ljava/lang/StackTraceElement;" .null) (F_suppressedExceptions : Fld Z h0 x "java/lang/Throwable" "suppressedExceptions" "Ljava/util/List;" .null) (F_detailMessage : Fld Z h0 x "java/lang/Throwable" "detailMessage" "Ljava/lang/String;" .null) (F_backtrace : Fld Z h0 x "java/lang/Throwable" "backtrace" "Ljava/lang/Object;" .null) (gx : Z.heap.size ≤ x) :
    own_CtK l Z (⟨"java/lang/Throwable", "<init>", "(Ljava/lang/String;)V"⟩ : MethodName) jdk_78_method_2_code 2 none [] ({ frames := 3, locals := 42, cells := 1, slots := 2752 } : Room) #[(.ref x), .null] h0 (fun v h => v = none ∧ Kp Z h0 h x ∧ Fld Z h x "java/lang/Throwable" "detailMessage" "Ljava/lang/String;" .null) := by
  obtain ⟨uu, SU, huu⟩ := own_unassigned (r2 _ (List.mem_cons_self ..)) (wd66 hw) (wd97 hw)
  obtain ⟨us, SS, hus⟩ := own_unassigned (r2 _ (List.mem_cons_of_mem _ (List.mem_cons_self ..))) (wd66 hw) (wd98 hw)
  refine own_bodyK (Ls := #[.val (.ref x), .val .null]) (plainFor_of_name pn_java_lang_Throwable) (fun m => by first | (simp [entryFrame, mkF, argsToLocals, Value.category]; done) | rfl) O0 ?_
  intro p e s m below meth c T0 G hkn hs0 K0
  refine own_aloadN K0 d_jdk_78_m2_0 rfl rfl rfl ?_
  refine own_initO K0 (W := 0) (wd68 hw) (wd13 hw) (wd14 hw) rfl rfl (by decide) (by decide) d_jdk_78_m2_1 rfl ?_
  intro T22 K22
  refine own_aloadN K22 d_jdk_78_m2_4 rfl rfl rfl ?_
  refine own_aloadN K22 d_jdk_78_m2_5 rfl rfl rfl ?_
  refine own_putF K22 (host := "") (Or.inl (wd69 hw)) Via.refl F_cause E (Or.inl (wd70 hw)) (wd46 hw) (ty := (.object "java/lang/Throwable")) (by decide) rfl rfl gx d_jdk_78_m2_6 rfl ?_
  intro T23 h23 K23 W23
  have G_cause_W23 := F_cause.same W23
  have G_stackTrace_W23 := F_stackTrace.other W23 (Or.inr (slot_ne (Or.inl (wd73 hw)) (Or.inl (wd70 hw)) (by decide) (t := (.array (.object "java/lang/StackTraceElement"))) (t' := (.object "java/lang/Throwable")) (by decide) (by decide)))
  have G_suppressedExceptions_W23 := F_suppressedExceptions.other W23 (Or.inr (slot_ne (Or.inl (wd76 hw)) (Or.inl (wd70 hw)) (by decide) (t := (.object "java/util/List")) (t' := (.object "java/lang/Throwable")) (by decide) (by decide)))
  have G_detailMessage_W23 := F_detailMessage.other W23 (Or.inr (slot_ne (Or.inl (wd100 hw)) (Or.inl (wd70 hw)) (by decide) (t := (.object "java/lang/String")) (t' := (.object "java/lang/Throwable")) (by decide) (by decide)))
  have G_backtrace_W23 := F_backtrace.other W23 (Or.inr (slot_ne (Or.inl (wd101 hw)) (Or.inl (wd70 hw)) (by decide) (t := (.object "java/lang/Object")) (t' := (.object "java/lang/Throwable")) (by decide) (by decide)))
  have E_W23 := E.wr W23
  have U_W23 := N0.wr W23
  refine own_aloadN K23 d_jdk_78_m2_9 rfl rfl rfl ?_
  refine own_getS K23 (wd71 hw) Via.refl (SU.ext K23.O) d_jdk_78_m2_10 rfl ?_
  intro T24 K24
  refine own_putF K24 (host := "") (Or.inl (wd72 hw)) Via.refl G_stackTrace_W23 E_W23 (Or.inl (wd73 hw)) (wd46 hw) (ty := (.array (.object "java/lang/StackTraceElement"))) (by decide) (narrow_isRef _ huu) (fits_refV_array _ ⟨uu, huu⟩) gx d_jdk_78_m2_13 rfl ?_
  intro T25 h25 K25 W25
  have G_cause_W25 := G_cause_W23.other W25 (Or.inr (slot_ne (Or.inl (wd70 hw)) (Or.inl (wd73 hw)) (by decide) (t := (.object "java/lang/Throwable")) (t' := (.array (.object "java/lang/StackTraceElement"))) (by decide) (by decide)))
  have G_stackTrace_W25 := G_stackTrace_W23.same W25
  have G_suppressedExceptions_W25 := G_suppressedExceptions_W23.other W25 (Or.inr (slot_ne (Or.inl (wd76 hw)) (Or.inl (wd73 hw)) (by decide) (t := (.object "java/util/List")) (t' := (.array (.object "java/lang/StackTraceElement"))) (by decide) (by decide)))
  have G_detailMessage_W25 := G_detailMessage_W23.other W25 (Or.inr (slot_ne (Or.inl (wd100 hw)) (Or.inl (wd73 hw)) (by decide) (t := (.object "java/lang/String")) (t' := (.array (.object "java/lang/StackTraceElement"))) (by decide) (by decide)))
  have G_backtrace_W25 := G_backtrace_W23.other W25 (Or.inr (slot_ne (Or.inl (wd101 hw)) (Or.inl (wd73 hw)) (by decide) (t := (.object "java/lang/Object")) (t' := (.array (.object "java/lang/StackTraceElement"))) (by decide) (by decide)))
  have E_W25 := E_W23.wr W25
  have U_W25 := U_W23.wr W25
  refine own_aloadN K25 d_jdk_78_m2_16 rfl rfl rfl ?_
  refine own_getS K25 (wd74 hw) Via.refl (SS.ext K25.O) d_jdk_78_m2_17 rfl ?_
  intro T26 K26
  refine own_putF K26 (host := "") (Or.inl (wd75 hw)) Via.refl G_suppressedExceptions_W25 E_W25 (Or.inl (wd76 hw)) (wd46 hw) (ty := (.object "java/util/List")) (by decide) (narrow_isRef _ hus) (fits_refV_object _ ⟨us, hus⟩) gx d_jdk_78_m2_20 rfl ?_
  intro T27 h27 K27 W27
  have G_cause_W27 := G_cause_W25.other W27 (Or.inr (slot_ne (Or.inl (wd70 hw)) (Or.inl (wd76 hw)) (by decide) (t := (.object "java/lang/Throwable")) (t' := (.object "java/util/List")) (by decide) (by decide)))
  have G_stackTrace_W27 := G_stackTrace_W25.other W27 (Or.inr (slot_ne (Or.inl (wd73 hw)) (Or.inl (wd76 hw)) (by decide) (t := (.array (.object "java/lang/StackTraceElement"))) (t' := (.object "java/util/List")) (by decide) (by decide)))
  have G_suppressedExceptions_W27 := G_suppressedExceptions_W25.same W27
  have G_detailMessage_W27 := G_detailMessage_W25.other W27 (Or.inr (slot_ne (Or.inl (wd100 hw)) (Or.inl (wd76 hw)) (by decide) (t := (.object "java/lang/String")) (t' := (.object "java/util/List")) (by decide) (by decide)))
  have G_backtrace_W27 := G_backtrace_W25.other W27 (Or.inr (slot_ne (Or.inl (wd101 hw)) (Or.inl (wd76 hw)) (by decide) (t := (.object "java/lang/Object")) (t' := (.object "java/util/List")) (by decide) (by decide)))
  have E_W27 := E_W25.wr W27
  have U_W27 := U_W25.wr W27
  refine own_aloadN K27 d_jdk_78_m2_23 rfl rfl rfl ?_
  refine own_fillIn K27 hkn hl (by rw [hs0]; exact O0) (wd46 hw) (own_thIn hw) E_W27 U_W27 G_stackTrace_W27 huu SU G_backtrace_W27 gx rfl (by decide) (by decide) (by decide) (by decide) d_jdk_78_m2_24 rfl ?_
  intro T28 h28 L28 K28 X28 E28 tr28
  refine own_pop K28 d_jdk_78_m2_27 rfl rfl ?_
  refine own_aloadN K28 d_jdk_78_m2_28 rfl rfl rfl ?_
  refine own_aloadN K28 d_jdk_78_m2_29 rfl rfl rfl ?_
  have M28 := tr28 G_detailMessage_W27 (slot_ne (Or.inl (wd100 hw)) (Or.inl (wd101 hw)) (by decide) (t := (.object "java/lang/String")) (t' := (.object "java/lang/Object")) (by decide) (by decide)) (slot_ne (Or.inl (wd100 hw)) (Or.inl (wd102 hw)) (by decide) (t := (.object "java/lang/String")) (t' := .int) (by decide) (by decide)) (slot_ne (Or.inl (wd100 hw)) (Or.inl (wd73 hw)) (by decide) (t := (.object "java/lang/String")) (t' := (.array (.object "java/lang/StackTraceElement"))) (by decide) (by decide))
  refine own_putF K28 (host := "") (Or.inl (wd104 hw)) Via.refl M28 E28 (Or.inl (wd100 hw)) (wd46 hw) (ty := (.object "java/lang/String")) (by decide) rfl rfl gx d_jdk_78_m2_30 rfl ?_
  intro T29 h29 K29 W29
  exact own_ret0 K29 d_jdk_78_m2_33 rfl (by decide) (by decide) ⟨rfl, own_kp K29 hs0 (own_sixA (own_sixA (own_sixA (own_sixA (own_sixA own_six0 (own_six1 (by decide))) (own_six1 (by decide))) (own_six1 (by decide))) X28) (own_six1 (by decide))), M28.same W29⟩
theorem d_jdk_59_m2_0 : decode jdk_59_method_2_code 0 = .ok (.aload_n 0, 1) := by decide +kernel
theorem d_jdk_59_m2_1 : decode jdk_59_method_2_code 1 = .ok (.aload_n 1, 1) := by decide +kernel
theorem d_jdk_59_m2_2 : decode jdk_59_method_2_code 2 = .ok (.invokespecial 7, 3) := by decide +kernel
theorem wd67 {a0 : Array Value} {Z : State} (hw : ∀ d ∈ tables_1, d.before a0 Z = true) : (Jvm.Cond.code ({ cls := "java/lang/Throwable", name := "<init>", desc := "(Ljava/lang/String;)V" } : Jvm.MethodName) jdk_78_method_2_code (2 : Nat) (Option.none : Option Jvm.ClassFile.FieldType)).before a0 Z = true := hw _ (List.mem_of_getElem? (i := 67) rfl)
theorem pd_28Ljava2flang2fString3b29V : parseMethodDescriptor "(Ljava/lang/String;)V" = some ⟨[(.object "java/lang/String")], none⟩ := by decide +kernel
theorem wd62 {a0 : Array Value} {Z : State} (hw : ∀ d ∈ tables_1, d.before a0 Z = true) : (Jvm.Cond.methodLink "java/lang/Exception" (7 : Nat) ({ cls := "java/lang/Throwable", name := "<init>", desc := "(Ljava/lang/String;)V" } : Jvm.MethodName)).before a0 Z = true := hw _ (List.mem_of_getElem? (i := 62) rfl)
theorem wd63 {a0 : Array Value} {Z : State} (hw : ∀ d ∈ tables_1, d.before a0 Z = true) : (Jvm.Cond.instanceMethod ({ cls := "java/lang/Throwable", name := "<init>", desc := "(Ljava/lang/String;)V" } : Jvm.MethodName)).before a0 Z = true := hw _ (List.mem_of_getElem? (i := 63) rfl)
theorem d_jdk_59_m2_5 : decode jdk_59_method_2_code 5 = .ok (.return_, 1) := by decide +kernel
theorem pn_java_lang_Exception : plainName "java/lang/Exception" = true := by first | (simp [plainName, overriddenIn]; done) | decide +kernel
set_option maxRecDepth 65536 in
set_option maxHeartbeats 40000000 in
theorem rm_ExceptionN {l : Launch} {Z : State} {a0 : Array Value} (hw : ∀ d ∈ tables_1, d.before a0 Z = true) (hs : ∀ d ∈ jdkStatics_1, d.before a0 Z = true) {x : Addr} {h0 : Heap} (O0 : Ext Z.heap h0) (hl : l.stackTraces = true) (r2 : ∀ d ∈ twoRefs, d.before a0 Z = true) (E : Exa Z h0 x "com/example/tallymark/tallymark/FileFormatException") (N0 : Unt h0 x) (F_cause : Fld Z h0 x "java/lang/Throwable" "cause" "Ljava/lang/Throwable;" .null) (F_stackTrace : Fld Z h0 x "java/lang/Throwable" "stackTrace" "[Ljava/lang/StackTraceElement;" .null) (F_suppressedExceptions : Fld Z h0 x "java/lang/Throwable" "suppressedExceptions" "Ljava/util/List;" .null) (F_detailMessage : Fld Z h0 x "java/lang/Throwable" "detailMessage" "Ljava/lang/String;" .null) (F_backtrace : Fld Z h0 x "java/lang/Throwable" "backtrace" "Ljava/lang/Object;" .null) (gx : Z.heap.size ≤ x) :
    own_CtK l Z (⟨"java/lang/Exception", "<init>", "(Ljava/lang/String;)V"⟩ : MethodName) jdk_59_method_2_code 2 none [] ({ frames := 4, locals := 55, cells := 1, slots := 2752 } : Room) #[(.ref x), .null] h0 (fun v h => v = none ∧ Kp Z h0 h x ∧ Fld Z h x "java/lang/Throwable" "detailMessage" "Ljava/lang/String;" .null) := by
  refine own_bodyK (Ls := #[.val (.ref x), .val .null]) (plainFor_of_name pn_java_lang_Exception) (fun m => by first | (simp [entryFrame, mkF, argsToLocals, Value.category]; done) | rfl) O0 ?_
  intro p e s m below meth c T0 G hkn hs0 K0
  refine own_aloadN K0 d_jdk_59_m2_0 rfl rfl rfl ?_
  refine own_aloadN K0 d_jdk_59_m2_1 rfl rfl rfl ?_
  refine own_callIK K0 hkn (a := x) (wd62 hw) (wd63 hw) (rm_thN hw hs K0.O hl r2 E N0 F_cause F_stackTrace F_suppressedExceptions F_detailMessage F_backtrace gx) (wd67 hw) (wd66 hw) (by decide) rfl (argsL := [.null]) (rest := []) rfl pd_28Ljava2flang2fString3b29V rfl rfl (W := 0) rfl (by decide) (by decide) (by decide) (by decide) d_jdk_59_m2_2 rfl ?_
  intro T30 h30 L30 v30 K30 q30
  obtain ⟨rfl, P30, M30⟩ := q30
  show G (T30.setTop (mkF m 5 #[.val (.ref x), .val .null] []))
  exact own_ret0 K30 d_jdk_59_m2_5 rfl (by decide) (by decide) ⟨rfl, P30, M30⟩
theorem d_jdk_131_m2_0 : decode jdk_131_method_2_code 0 = .ok (.aload_n 0, 1) := by decide +kernel
theorem d_jdk_131_m2_1 : decode jdk_131_method_2_code 1 = .ok (.aload_n 1, 1) := by decide +kernel
theorem d_jdk_131_m2_2 : decode jdk_131_method_2_code 2 = .ok (.invokespecial 7, 3) := by decide +kernel
theorem wd61 {a0 : Array Value} {Z : State} (hw : ∀ d ∈ tables_1, d.before a0 Z = true) : (Jvm.Cond.code ({ cls := "java/lang/Exception", name := "<init>", desc := "(Ljava/lang/String;)V" } : Jvm.MethodName) jdk_59_method_2_code (2 : Nat) (Option.none : Option Jvm.ClassFile.FieldType)).before a0 Z = true := hw _ (List.mem_of_getElem? (i := 61) rfl)
theorem wd60 {a0 : Array Value} {Z : State} (hw : ∀ d ∈ tables_1, d.before a0 Z = true) : (Jvm.Cond.initialized "java/lang/Exception").before a0 Z = true := hw _ (List.mem_of_getElem? (i := 60) rfl)
theorem wd56 {a0 : Array Value} {Z : State} (hw : ∀ d ∈ tables_1, d.before a0 Z = true) : (Jvm.Cond.methodLink "java/io/IOException" (7 : Nat) ({ cls := "java/lang/Exception", name := "<init>", desc := "(Ljava/lang/String;)V" } : Jvm.MethodName)).before a0 Z = true := hw _ (List.mem_of_getElem? (i := 56) rfl)
theorem wd57 {a0 : Array Value} {Z : State} (hw : ∀ d ∈ tables_1, d.before a0 Z = true) : (Jvm.Cond.instanceMethod ({ cls := "java/lang/Exception", name := "<init>", desc := "(Ljava/lang/String;)V" } : Jvm.MethodName)).before a0 Z = true := hw _ (List.mem_of_getElem? (i := 57) rfl)
theorem d_jdk_131_m2_5 : decode jdk_131_method_2_code 5 = .ok (.return_, 1) := by decide +kernel
theorem pn_java_io_IOException : plainName "java/io/IOException" = true := by first | (simp [plainName, overriddenIn]; done) | decide +kernel
set_option maxRecDepth 65536 in
set_option maxHeartbeats 40000000 in
theorem rm_IOExceptionN {l : Launch} {Z : State} {a0 : Array Value} (hw : ∀ d ∈ tables_1, d.before a0 Z = true) (hs : ∀ d ∈ jdkStatics_1, d.before a0 Z = true) {x : Addr} {h0 : Heap} (O0 : Ext Z.heap h0) (hl : l.stackTraces = true) (r2 : ∀ d ∈ twoRefs, d.before a0 Z = true) (E : Exa Z h0 x "com/example/tallymark/tallymark/FileFormatException") (N0 : Unt h0 x) (F_cause : Fld Z h0 x "java/lang/Throwable" "cause" "Ljava/lang/Throwable;" .null) (F_stackTrace : Fld Z h0 x "java/lang/Throwable" "stackTrace" "[Ljava/lang/StackTraceElement;" .null) (F_suppressedExceptions : Fld Z h0 x "java/lang/Throwable" "suppressedExceptions" "Ljava/util/List;" .null) (F_detailMessage : Fld Z h0 x "java/lang/Throwable" "detailMessage" "Ljava/lang/String;" .null) (F_backtrace : Fld Z h0 x "java/lang/Throwable" "backtrace" "Ljava/lang/Object;" .null) (gx : Z.heap.size ≤ x) :
    own_CtK l Z (⟨"java/io/IOException", "<init>", "(Ljava/lang/String;)V"⟩ : MethodName) jdk_131_method_2_code 2 none [] ({ frames := 5, locals := 68, cells := 1, slots := 2752 } : Room) #[(.ref x), .null] h0 (fun v h => v = none ∧ Kp Z h0 h x ∧ Fld Z h x "java/lang/Throwable" "detailMessage" "Ljava/lang/String;" .null) := by
  refine own_bodyK (Ls := #[.val (.ref x), .val .null]) (plainFor_of_name pn_java_io_IOException) (fun m => by first | (simp [entryFrame, mkF, argsToLocals, Value.category]; done) | rfl) O0 ?_
  intro p e s m below meth c T0 G hkn hs0 K0
  refine own_aloadN K0 d_jdk_131_m2_0 rfl rfl rfl ?_
  refine own_aloadN K0 d_jdk_131_m2_1 rfl rfl rfl ?_
  refine own_callIK K0 hkn (a := x) (wd56 hw) (wd57 hw) (rm_ExceptionN hw hs K0.O hl r2 E N0 F_cause F_stackTrace F_suppressedExceptions F_detailMessage F_backtrace gx) (wd61 hw) (wd60 hw) (by decide) rfl (argsL := [.null]) (rest := []) rfl pd_28Ljava2flang2fString3b29V rfl rfl (W := 0) rfl (by decide) (by decide) (by decide) (by decide) d_jdk_131_m2_2 rfl ?_
  intro T31 h31 L31 v31 K31 q31
  obtain ⟨rfl, P31, M31⟩ := q31
  show G (T31.setTop (mkF m 5 #[.val (.ref x), .val .null] []))
  exact own_ret0 K31 d_jdk_131_m2_5 rfl (by decide) (by decide) ⟨rfl, P31, M31⟩
set_option maxRecDepth 65536 in
set_option maxHeartbeats 40000000 in
theorem rm_thR {l : Launch} {Z : State} {a0 : Array Value} (hw : ∀ d ∈ tables_1, d.before a0 Z = true) (hs : ∀ d ∈ jdkStatics_1, d.before a0 Z = true) {x : Addr} {mg : Addr} {h0 : Heap} (O0 : Ext Z.heap h0) (hl : l.stackTraces = true) (r2 : ∀ d ∈ twoRefs, d.before a0 Z = true) (E : Exa Z h0 x "com/example/tallymark/tallymark/FileFormatException") (N0 : Unt h0 x) (F_cause : Fld Z h0 x "java/lang/Throwable" "cause" "Ljava/lang/Throwable;" .null) (F_stackTrace : Fld Z h0 x "java/lang/Throwable" "stackTrace" "[Ljava/lang/StackTraceElement;" .null) (F_suppressedExceptions : Fld Z h0 x "java/lang/Throwable" "suppressedExceptions" "Ljava/util/List;" .null) (F_detailMessage : Fld Z h0 x "java/lang/Throwable" "detailMessage" "Ljava/lang/String;" .null) (F_backtrace : Fld Z h0 x "java/lang/Throwable" "backtrace" "Ljava/lang/Object;" .null) (gx : Z.heap.size ≤ x) :
    own_CtK l Z (⟨"java/lang/Throwable", "<init>", "(Ljava/lang/String;)V"⟩ : MethodName) jdk_78_method_2_code 2 none [] ({ frames := 3, locals := 42, cells := 1, slots := 2752 } : Room) #[(.ref x), (.ref mg)] h0 (fun v h => v = none ∧ Kp Z h0 h x ∧ Fld Z h x "java/lang/Throwable" "detailMessage" "Ljava/lang/String;" (.ref mg)) := by
  obtain ⟨uu, SU, huu⟩ := own_unassigned (r2 _ (List.mem_cons_self ..)) (wd66 hw) (wd97 hw)
  obtain ⟨us, SS, hus⟩ := own_unassigned (r2 _ (List.mem_cons_of_mem _ (List.mem_cons_self ..))) (wd66 hw) (wd98 hw)
  refine own_bodyK (Ls := #[.val (.ref x), .val (.ref mg)]) (plainFor_of_name pn_java_lang_Throwable) (fun m => by first | (simp [entryFrame, mkF, argsToLocals, Value.category]; done) | rfl) O0 ?_
  intro p e s m below meth c T0 G hkn hs0 K0
  refine own_aloadN K0 d_jdk_78_m2_0 rfl rfl rfl ?_
  refine own_initO K0 (W := 0) (wd68 hw) (wd13 hw) (wd14 hw) rfl rfl (by decide) (by decide) d_jdk_78_m2_1 rfl ?_
  intro T32 K32
  refine own_aloadN K32 d_jdk_78_m2_4 rfl rfl rfl ?_
  refine own_aloadN K32 d_jdk_78_m2_5 rfl rfl rfl ?_
  refine own_putF K32 (host := "") (Or.inl (wd69 hw)) Via.refl F_cause E (Or.inl (wd70 hw)) (wd46 hw) (ty := (.object "java/lang/Throwable")) (by decide) rfl rfl gx d_jdk_78_m2_6 rfl ?_
  intro T33 h33 K33 W33
  have G_cause_W33 := F_cause.same W33
  have G_stackTrace_W33 := F_stackTrace.other W33 (Or.inr (slot_ne (Or.inl (wd73 hw)) (Or.inl (wd70 hw)) (by decide) (t := (.array (.object "java/lang/StackTraceElement"))) (t' := (.object "java/lang/Throwable")) (by decide) (by decide)))
  have G_suppressedExceptions_W33 := F_suppressedExceptions.other W33 (Or.inr (slot_ne (Or.inl (wd76 hw)) (Or.inl (wd70 hw)) (by decide) (t := (.object "java/util/List")) (t' := (.object "java/lang/Throwable")) (by decide) (by decide)))
  have G_detailMessage_W33 := F_detailMessage.other W33 (Or.inr (slot_ne (Or.inl (wd100 hw)) (Or.inl (wd70 hw)) (by decide) (t := (.object "java/lang/String")) (t' := (.object "java/lang/Throwable")) (by decide) (by decide)))
  have G_backtrace_W33 := F_backtrace.other W33 (Or.inr (slot_ne (Or.inl (wd101 hw)) (Or.inl (wd70 hw)) (by decide) (t := (.object "java/lang/Object")) (t' := (.object "java/lang/Throwable")) (by decide) (by decide)))
  have E_W33 := E.wr W33
  have U_W33 := N0.wr W33
  refine own_aloadN K33 d_jdk_78_m2_9 rfl rfl rfl ?_
  refine own_getS K33 (wd71 hw) Via.refl (SU.ext K33.O) d_jdk_78_m2_10 rfl ?_
  intro T34 K34
  refine own_putF K34 (host := "") (Or.inl (wd72 hw)) Via.refl G_stackTrace_W33 E_W33 (Or.inl (wd73 hw)) (wd46 hw) (ty := (.array (.object "java/lang/StackTraceElement"))) (by decide) (narrow_isRef _ huu) (fits_refV_array _ ⟨uu, huu⟩) gx d_jdk_78_m2_13 rfl ?_
  intro T35 h35 K35 W35
  have G_cause_W35 := G_cause_W33.other W35 (Or.inr (slot_ne (Or.inl (wd70 hw)) (Or.inl (wd73 hw)) (by decide) (t := (.object "java/lang/Throwable")) (t' := (.array (.object "java/lang/StackTraceElement"))) (by decide) (by decide)))
  have G_stackTrace_W35 := G_stackTrace_W33.same W35
  have G_suppressedExceptions_W35 := G_suppressedExceptions_W33.other W35 (Or.inr (slot_ne (Or.inl (wd76 hw)) (Or.inl (wd73 hw)) (by decide) (t := (.object "java/util/List")) (t' := (.array (.object "java/lang/StackTraceElement"))) (by decide) (by decide)))
  have G_detailMessage_W35 := G_detailMessage_W33.other W35 (Or.inr (slot_ne (Or.inl (wd100 hw)) (Or.inl (wd73 hw)) (by decide) (t := (.object "java/lang/String")) (t' := (.array (.object "java/lang/StackTraceElement"))) (by decide) (by decide)))
  have G_backtrace_W35 := G_backtrace_W33.other W35 (Or.inr (slot_ne (Or.inl (wd101 hw)) (Or.inl (wd73 hw)) (by decide) (t := (.object "java/lang/Object")) (t' := (.array (.object "java/lang/StackTraceElement"))) (by decide) (by decide)))
  have E_W35 := E_W33.wr W35
  have U_W35 := U_W33.wr W35
  refine own_aloadN K35 d_jdk_78_m2_16 rfl rfl rfl ?_
  refine own_getS K35 (wd74 hw) Via.refl (SS.ext K35.O) d_jdk_78_m2_17 rfl ?_
  intro T36 K36
  refine own_putF K36 (host := "") (Or.inl (wd75 hw)) Via.refl G_suppressedExceptions_W35 E_W35 (Or.inl (wd76 hw)) (wd46 hw) (ty := (.object "java/util/List")) (by decide) (narrow_isRef _ hus) (fits_refV_object _ ⟨us, hus⟩) gx d_jdk_78_m2_20 rfl ?_
  intro T37 h37 K37 W37
  have G_cause_W37 := G_cause_W35.other W37 (Or.inr (slot_ne (Or.inl (wd70 hw)) (Or.inl (wd76 hw)) (by decide) (t := (.object "java/lang/Throwable")) (t' := (.object "java/util/List")) (by decide) (by decide)))
  have G_stackTrace_W37 := G_stackTrace_W35.other W37 (Or.inr (slot_ne (Or.inl (wd73 hw)) (Or.inl (wd76 hw)) (by decide) (t := (.array (.object "java/lang/StackTraceElement"))) (t' := (.object "java/util/List")) (by decide) (by decide)))
  have G_suppressedExceptions_W37 := G_suppressedExceptions_W35.same W37
  have G_detailMessage_W37 := G_detailMessage_W35.other W37 (Or.inr (slot_ne (Or.inl (wd100 hw)) (Or.inl (wd76 hw)) (by decide) (t := (.object "java/lang/String")) (t' := (.object "java/util/List")) (by decide) (by decide)))
  have G_backtrace_W37 := G_backtrace_W35.other W37 (Or.inr (slot_ne (Or.inl (wd101 hw)) (Or.inl (wd76 hw)) (by decide) (t := (.object "java/lang/Object")) (t' := (.object "java/util/List")) (by decide) (by decide)))
  have E_W37 := E_W35.wr W37
  have U_W37 := U_W35.wr W37
  refine own_aloadN K37 d_jdk_78_m2_23 rfl rfl rfl ?_
  refine own_fillIn K37 hkn hl (by rw [hs0]; exact O0) (wd46 hw) (own_thIn hw) E_W37 U_W37 G_stackTrace_W37 huu SU G_backtrace_W37 gx rfl (by decide) (by decide) (by decide) (by decide) d_jdk_78_m2_24 rfl ?_
  intro T38 h38 L38 K38 X38 E38 tr38
  refine own_pop K38 d_jdk_78_m2_27 rfl rfl ?_
  refine own_aloadN K38 d_jdk_78_m2_28 rfl rfl rfl ?_
  refine own_aloadN K38 d_jdk_78_m2_29 rfl rfl rfl ?_
  have M38 := tr38 G_detailMessage_W37 (slot_ne (Or.inl (wd100 hw)) (Or.inl (wd101 hw)) (by decide) (t := (.object "java/lang/String")) (t' := (.object "java/lang/Object")) (by decide) (by decide)) (slot_ne (Or.inl (wd100 hw)) (Or.inl (wd102 hw)) (by decide) (t := (.object "java/lang/String")) (t' := .int) (by decide) (by decide)) (slot_ne (Or.inl (wd100 hw)) (Or.inl (wd73 hw)) (by decide) (t := (.object "java/lang/String")) (t' := (.array (.object "java/lang/StackTraceElement"))) (by decide) (by decide))
  refine own_putF K38 (host := "") (Or.inl (wd104 hw)) Via.refl M38 E38 (Or.inl (wd100 hw)) (wd46 hw) (ty := (.object "java/lang/String")) (by decide) rfl rfl gx d_jdk_78_m2_30 rfl ?_
  intro T39 h39 K39 W39
  exact own_ret0 K39 d_jdk_78_m2_33 rfl (by decide) (by decide) ⟨rfl, own_kp K39 hs0 (own_sixA (own_sixA (own_sixA (own_sixA (own_sixA own_six0 (own_six1 (by decide))) (own_six1 (by decide))) (own_six1 (by decide))) X38) (own_six1 (by decide))), M38.same W39⟩
set_option maxRecDepth 65536 in
set_option maxHeartbeats 40000000 in
theorem rm_ExceptionR {l : Launch} {Z : State} {a0 : Array Value} (hw : ∀ d ∈ tables_1, d.before a0 Z = true) (hs : ∀ d ∈ jdkStatics_1, d.before a0 Z = true) {x : Addr} {mg : Addr} {h0 : Heap} (O0 : Ext Z.heap h0) (hl : l.stackTraces = true) (r2 : ∀ d ∈ twoRefs, d.before a0 Z = true) (E : Exa Z h0 x "com/example/tallymark/tallymark/FileFormatException") (N0 : Unt h0 x) (F_cause : Fld Z h0 x "java/lang/Throwable" "cause" "Ljava/lang/Throwable;" .null) (F_stackTrace : Fld Z h0 x "java/lang/Throwable" "stackTrace" "[Ljava/lang/StackTraceElement;" .null) (F_suppressedExceptions : Fld Z h0 x "java/lang/Throwable" "suppressedExceptions" "Ljava/util/List;" .null) (F_detailMessage : Fld Z h0 x "java/lang/Throwable" "detailMessage" "Ljava/lang/String;" .null) (F_backtrace : Fld Z h0 x "java/lang/Throwable" "backtrace" "Ljava/lang/Object;" .null) (gx : Z.heap.size ≤ x) :
    own_CtK l Z (⟨"java/lang/Exception", "<init>", "(Ljava/lang/String;)V"⟩ : MethodName) jdk_59_method_2_code 2 none [] ({ frames := 4, locals := 55, cells := 1, slots := 2752 } : Room) #[(.ref x), (.ref mg)] h0 (fun v h => v = none ∧ Kp Z h0 h x ∧ Fld Z h x "java/lang/Throwable" "detailMessage" "Ljava/lang/String;" (.ref mg)) := by
  refine own_bodyK (Ls := #[.val (.ref x), .val (.ref mg)]) (plainFor_of_name pn_java_lang_Exception) (fun m => by first | (simp [entryFrame, mkF, argsToLocals, Value.category]; done) | rfl) O0 ?_
  intro p e s m below meth c T0 G hkn hs0 K0
  refine own_aloadN K0 d_jdk_59_m2_0 rfl rfl rfl ?_
  refine own_aloadN K0 d_jdk_59_m2_1 rfl rfl rfl ?_
  refine own_callIK K0 hkn (a := x) (wd62 hw) (wd63 hw) (rm_thR hw hs K0.O hl r2 E N0 F_cause F_stackTrace F_suppressedExceptions F_detailMessage F_backtrace gx) (wd67 hw) (wd66 hw) (by decide) rfl (argsL := [(.ref mg)]) (rest := []) rfl pd_28Ljava2flang2fString3b29V rfl rfl (W := 0) rfl (by decide) (by decide) (by decide) (by decide) d_jdk_59_m2_2 rfl ?_
  intro T40 h40 L40 v40 K40 q40
  obtain ⟨rfl, P40, M40⟩ := q40
  show G (T40.setTop (mkF m 5 #[.val (.ref x), .val (.ref mg)] []))
  exact own_ret0 K40 d_jdk_59_m2_5 rfl (by decide) (by decide) ⟨rfl, P40, M40⟩
set_option maxRecDepth 65536 in
set_option maxHeartbeats 40000000 in
theorem rm_IOExceptionR {l : Launch} {Z : State} {a0 : Array Value} (hw : ∀ d ∈ tables_1, d.before a0 Z = true) (hs : ∀ d ∈ jdkStatics_1, d.before a0 Z = true) {x : Addr} {mg : Addr} {h0 : Heap} (O0 : Ext Z.heap h0) (hl : l.stackTraces = true) (r2 : ∀ d ∈ twoRefs, d.before a0 Z = true) (E : Exa Z h0 x "com/example/tallymark/tallymark/FileFormatException") (N0 : Unt h0 x) (F_cause : Fld Z h0 x "java/lang/Throwable" "cause" "Ljava/lang/Throwable;" .null) (F_stackTrace : Fld Z h0 x "java/lang/Throwable" "stackTrace" "[Ljava/lang/StackTraceElement;" .null) (F_suppressedExceptions : Fld Z h0 x "java/lang/Throwable" "suppressedExceptions" "Ljava/util/List;" .null) (F_detailMessage : Fld Z h0 x "java/lang/Throwable" "detailMessage" "Ljava/lang/String;" .null) (F_backtrace : Fld Z h0 x "java/lang/Throwable" "backtrace" "Ljava/lang/Object;" .null) (gx : Z.heap.size ≤ x) :
    own_CtK l Z (⟨"java/io/IOException", "<init>", "(Ljava/lang/String;)V"⟩ : MethodName) jdk_131_method_2_code 2 none [] ({ frames := 5, locals := 68, cells := 1, slots := 2752 } : Room) #[(.ref x), (.ref mg)] h0 (fun v h => v = none ∧ Kp Z h0 h x ∧ Fld Z h x "java/lang/Throwable" "detailMessage" "Ljava/lang/String;" (.ref mg)) := by
  refine own_bodyK (Ls := #[.val (.ref x), .val (.ref mg)]) (plainFor_of_name pn_java_io_IOException) (fun m => by first | (simp [entryFrame, mkF, argsToLocals, Value.category]; done) | rfl) O0 ?_
  intro p e s m below meth c T0 G hkn hs0 K0
  refine own_aloadN K0 d_jdk_131_m2_0 rfl rfl rfl ?_
  refine own_aloadN K0 d_jdk_131_m2_1 rfl rfl rfl ?_
  refine own_callIK K0 hkn (a := x) (wd56 hw) (wd57 hw) (rm_ExceptionR hw hs K0.O hl r2 E N0 F_cause F_stackTrace F_suppressedExceptions F_detailMessage F_backtrace gx) (wd61 hw) (wd60 hw) (by decide) rfl (argsL := [(.ref mg)]) (rest := []) rfl pd_28Ljava2flang2fString3b29V rfl rfl (W := 0) rfl (by decide) (by decide) (by decide) (by decide) d_jdk_131_m2_2 rfl ?_
  intro T41 h41 L41 v41 K41 q41
  obtain ⟨rfl, P41, M41⟩ := q41
  show G (T41.setTop (mkF m 5 #[.val (.ref x), .val (.ref mg)] []))
  exact own_ret0 K41 d_jdk_131_m2_5 rfl (by decide) (by decide) ⟨rfl, P41, M41⟩
theorem d_prog_7_m1_0 : decode prog_7_method_1_code 0 = .ok (.aload_n 0, 1) := by decide +kernel
theorem d_prog_7_m1_1 : decode prog_7_method_1_code 1 = .ok (.aload 4, 2) := by decide +kernel
theorem d_prog_7_m1_3 : decode prog_7_method_1_code 3 = .ok (.invokespecial 1, 3) := by decide +kernel
theorem wd55 {a0 : Array Value} {Z : State} (hw : ∀ d ∈ tables_1, d.before a0 Z = true) : (Jvm.Cond.code ({ cls := "java/io/IOException", name := "<init>", desc := "(Ljava/lang/String;)V" } : Jvm.MethodName) jdk_131_method_2_code (2 : Nat) (Option.none : Option Jvm.ClassFile.FieldType)).before a0 Z = true := hw _ (List.mem_of_getElem? (i := 55) rfl)
theorem wd54 {a0 : Array Value} {Z : State} (hw : ∀ d ∈ tables_1, d.before a0 Z = true) : (Jvm.Cond.initialized "java/io/IOException").before a0 Z = true := hw _ (List.mem_of_getElem? (i := 54) rfl)
theorem wd51 {a0 : Array Value} {Z : State} (hw : ∀ d ∈ tables_1, d.before a0 Z = true) : (Jvm.Cond.methodLink "com/example/tallymark/tallymark/FileFormatException" (1 : Nat) ({ cls := "java/io/IOException", name := "<init>", desc := "(Ljava/lang/String;)V" } : Jvm.MethodName)).before a0 Z = true := hw _ (List.mem_of_getElem? (i := 51) rfl)
theorem wd52 {a0 : Array Value} {Z : State} (hw : ∀ d ∈ tables_1, d.before a0 Z = true) : (Jvm.Cond.instanceMethod ({ cls := "java/io/IOException", name := "<init>", desc := "(Ljava/lang/String;)V" } : Jvm.MethodName)).before a0 Z = true := hw _ (List.mem_of_getElem? (i := 52) rfl)
theorem wd106 {a0 : Array Value} {Z : State} (hw : ∀ d ∈ tables_1, d.before a0 Z = true) : (Jvm.Cond.laysFinal "com/example/tallymark/tallymark/FileFormatException" "com/example/tallymark/tallymark/FileFormatException" "line" "J").before a0 Z = true := hw _ (List.mem_of_getElem? (i := 106) rfl)
theorem wd108 {a0 : Array Value} {Z : State} (hw : ∀ d ∈ tables_1, d.before a0 Z = true) : (Jvm.Cond.laysFinal "com/example/tallymark/tallymark/FileFormatException" "com/example/tallymark/tallymark/FileFormatException" "key" "Ljava/lang/String;").before a0 Z = true := hw _ (List.mem_of_getElem? (i := 108) rfl)
theorem d_prog_7_m1_6 : decode prog_7_method_1_code 6 = .ok (.aload_n 0, 1) := by decide +kernel
theorem d_prog_7_m1_7 : decode prog_7_method_1_code 7 = .ok (.lload_n 1, 1) := by decide +kernel
theorem wd105 {a0 : Array Value} {Z : State} (hw : ∀ d ∈ tables_1, d.before a0 Z = true) : (Jvm.Cond.fieldLink "com/example/tallymark/tallymark/FileFormatException" (7 : Nat) "com/example/tallymark/tallymark/FileFormatException" "line" "J").before a0 Z = true := hw _ (List.mem_of_getElem? (i := 105) rfl)
theorem d_prog_7_m1_8 : decode prog_7_method_1_code 8 = .ok (.putfield 7, 3) := by decide +kernel
theorem d_prog_7_m1_11 : decode prog_7_method_1_code 11 = .ok (.aload_n 0, 1) := by decide +kernel
theorem d_prog_7_m1_12 : decode prog_7_method_1_code 12 = .ok (.aload_n 3, 1) := by decide +kernel
theorem wd107 {a0 : Array Value} {Z : State} (hw : ∀ d ∈ tables_1, d.before a0 Z = true) : (Jvm.Cond.fieldLink "com/example/tallymark/tallymark/FileFormatException" (13 : Nat) "com/example/tallymark/tallymark/FileFormatException" "key" "Ljava/lang/String;").before a0 Z = true := hw _ (List.mem_of_getElem? (i := 107) rfl)
theorem d_prog_7_m1_13 : decode prog_7_method_1_code 13 = .ok (.putfield 13, 3) := by decide +kernel
theorem d_prog_7_m1_16 : decode prog_7_method_1_code 16 = .ok (.return_, 1) := by decide +kernel
theorem pn_com_example_tallymark_tallymark_FileFormatException : plainName "com/example/tallymark/tallymark/FileFormatException" = true := by first | (simp [plainName, overriddenIn]; done) | decide +kernel
set_option maxRecDepth 65536 in
set_option maxHeartbeats 40000000 in
theorem rm_ffeNN {l : Launch} {Z : State} {a0 : Array Value} (hw : ∀ d ∈ tables_1, d.before a0 Z = true) (hs : ∀ d ∈ jdkStatics_1, d.before a0 Z = true) {x : Addr} {ln : Int64} {h0 : Heap} (O0 : Ext Z.heap h0) (hl : l.stackTraces = true) (r2 : ∀ d ∈ twoRefs, d.before a0 Z = true) (E : Exa Z h0 x "com/example/tallymark/tallymark/FileFormatException") (N0 : Unt h0 x) (F_cause : Fld Z h0 x "java/lang/Throwable" "cause" "Ljava/lang/Throwable;" .null) (F_stackTrace : Fld Z h0 x "java/lang/Throwable" "stackTrace" "[Ljava/lang/StackTraceElement;" .null) (F_suppressedExceptions : Fld Z h0 x "java/lang/Throwable" "suppressedExceptions" "Ljava/util/List;" .null) (F_detailMessage : Fld Z h0 x "java/lang/Throwable" "detailMessage" "Ljava/lang/String;" .null) (F_backtrace : Fld Z h0 x "java/lang/Throwable" "backtrace" "Ljava/lang/Object;" .null) (gx : Z.heap.size ≤ x) (FL : Fld Z h0 x "com/example/tallymark/tallymark/FileFormatException" "line" "J" (.long 0)) (FK : Fld Z h0 x "com/example/tallymark/tallymark/FileFormatException" "key" "Ljava/lang/String;" .null) :
    own_CtK l Z (⟨"com/example/tallymark/tallymark/FileFormatException", "<init>", "(JLjava/lang/String;Ljava/lang/String;)V"⟩ : MethodName) prog_7_method_1_code 5 none [] ({ frames := 6, locals := 81, cells := 1, slots := 2752 } : Room) #[(.ref x), (.long ln), .null, .null] h0 (fun v h => v = none ∧ Keep h0 h [x] ∧ Exa Z h x "com/example/tallymark/tallymark/FileFormatException" ∧ Fld Z h x "com/example/tallymark/tallymark/FileFormatException" "line" "J" (.long ln) ∧ Fld Z h x "com/example/tallymark/tallymark/FileFormatException" "key" "Ljava/lang/String;" .null ∧ Fld Z h x "java/lang/Throwable" "detailMessage" "Ljava/lang/String;" .null) := by
  refine own_bodyK (Ls := #[.val (.ref x), .val (.long ln), .second, .val .null, .val .null]) (plainFor_of_name pn_com_example_tallymark_tallymark_FileFormatException) (fun m => by first | (simp [entryFrame, mkF, argsToLocals, Value.category]; done) | rfl) O0 ?_
  intro p e s m below meth c T0 G hkn hs0 K0
  refine own_aloadN K0 d_prog_7_m1_0 rfl rfl rfl ?_
  refine own_aload K0 d_prog_7_m1_1 rfl rfl rfl ?_
  refine own_callIK K0 hkn (a := x) (wd51 hw) (wd52 hw) (rm_IOExceptionN hw hs K0.O hl r2 E N0 F_cause F_stackTrace F_suppressedExceptions F_detailMessage F_backtrace gx) (wd55 hw) (wd54 hw) (by decide) rfl (argsL := [.null]) (rest := []) rfl pd_28Ljava2flang2fString3b29V rfl rfl (W := 0) rfl (by decide) (by decide) (by decide) (by decide) d_prog_7_m1_3 rfl ?_
  intro T42 h42 L42 v42 K42 q42
  obtain ⟨rfl, P1, M1⟩ := q42
  show G (T42.setTop (mkF m 6 #[.val (.ref x), .val (.long ln), .second, .val .null, .val .null] []))
  have E1 := E.kp P1
  have FL1 := FL.kp P1 (Or.inr (own_sixNe (slot_ne (Or.inl (wd70 hw)) (Or.inr (wd106 hw)) (by decide) (t := (.object "java/lang/Throwable")) (t' := .long) (by decide) (by decide)) (slot_ne (Or.inl (wd73 hw)) (Or.inr (wd106 hw)) (by decide) (t := (.array (.object "java/lang/StackTraceElement"))) (t' := .long) (by decide) (by decide)) (slot_ne (Or.inl (wd76 hw)) (Or.inr (wd106 hw)) (by decide) (t := (.object "java/util/List")) (t' := .long) (by decide) (by decide)) (slot_ne (Or.inl (wd101 hw)) (Or.inr (wd106 hw)) (by decide) (t := (.object "java/lang/Object")) (t' := .long) (by decide) (by decide)) (slot_ne (Or.inl (wd102 hw)) (Or.inr (wd106 hw)) (by decide) (t := .int) (t' := .long) (by decide) (by decide)) (slot_ne (Or.inl (wd100 hw)) (Or.inr (wd106 hw)) (by decide) (t := (.object "java/lang/String")) (t' := .long) (by decide) (by decide))))
  have FK1 := FK.kp P1 (Or.inr (own_sixNe (slot_ne (Or.inl (wd70 hw)) (Or.inr (wd108 hw)) (by decide) (t := (.object "java/lang/Throwable")) (t' := (.object "java/lang/String")) (by decide) (by decide)) (slot_ne (Or.inl (wd73 hw)) (Or.inr (wd108 hw)) (by decide) (t := (.array (.object "java/lang/StackTraceElement"))) (t' := (.object "java/lang/String")) (by decide) (by decide)) (slot_ne (Or.inl (wd76 hw)) (Or.inr (wd108 hw)) (by decide) (t := (.object "java/util/List")) (t' := (.object "java/lang/String")) (by decide) (by decide)) (slot_ne (Or.inl (wd101 hw)) (Or.inr (wd108 hw)) (by decide) (t := (.object "java/lang/Object")) (t' := (.object "java/lang/String")) (by decide) (by decide)) (slot_ne (Or.inl (wd102 hw)) (Or.inr (wd108 hw)) (by decide) (t := .int) (t' := (.object "java/lang/String")) (by decide) (by decide)) (slot_ne (Or.inl (wd100 hw)) (Or.inr (wd108 hw)) (by decide) (t := (.object "java/lang/String")) (t' := (.object "java/lang/String")) (by decide) (by decide))))
  refine own_aloadN K42 d_prog_7_m1_6 rfl rfl rfl ?_
  refine own_lloadN K42 d_prog_7_m1_7 rfl rfl ?_
  refine own_putF K42 (host := "") (Or.inl (wd105 hw)) Via.refl FL1 E1 (Or.inr ⟨(wd106 hw), rfl, rfl⟩) (wd46 hw) (ty := .long) (by decide) rfl rfl gx d_prog_7_m1_8 rfl ?_
  intro T43 h43 K43 W43
  refine own_aloadN K43 d_prog_7_m1_11 rfl rfl rfl ?_
  refine own_aloadN K43 d_prog_7_m1_12 rfl rfl rfl ?_
  refine own_putF K43 (host := "") (Or.inl (wd107 hw)) Via.refl (FK1.other W43 (Or.inr (slot_ne (Or.inr (wd108 hw)) (Or.inr (wd106 hw)) (by decide) (t := (.object "java/lang/String")) (t' := .long) (by decide) (by decide)))) (E1.wr W43) (Or.inr ⟨(wd108 hw), rfl, rfl⟩) (wd46 hw) (ty := (.object "java/lang/String")) (by decide) rfl rfl gx d_prog_7_m1_13 rfl ?_
  intro T44 h44 K44 W44
  exact own_ret0 K44 d_prog_7_m1_16 rfl (by decide) (by decide) ⟨rfl, ((keep_of_kp P1).wr W43 (Or.inl (List.mem_singleton.mpr rfl))).wr W44 (Or.inl (List.mem_singleton.mpr rfl)), (E1.wr W43).wr W44, (FL1.same W43).other W44 (Or.inr (slot_ne (Or.inr (wd106 hw)) (Or.inr (wd108 hw)) (by decide) (t := .long) (t' := (.object "java/lang/String")) (by decide) (by decide))), (FK1.other W43 (Or.inr (slot_ne (Or.inr (wd108 hw)) (Or.inr (wd106 hw)) (by decide) (t := (.object "java/lang/String")) (t' := .long) (by decide) (by decide)))).same W44, (M1.other W43 (Or.inr (slot_ne (Or.inl (wd100 hw)) (Or.inr (wd106 hw)) (by decide) (t := (.object "java/lang/String")) (t' := .long) (by decide) (by decide)))).other W44 (Or.inr (slot_ne (Or.inl (wd100 hw)) (Or.inr (wd108 hw)) (by decide) (t := (.object "java/lang/String")) (t' := (.object "java/lang/String")) (by decide) (by decide)))⟩
set_option maxRecDepth 65536 in
set_option maxHeartbeats 40000000 in
theorem rm_ffeNR {l : Launch} {Z : State} {a0 : Array Value} (hw : ∀ d ∈ tables_1, d.before a0 Z = true) (hs : ∀ d ∈ jdkStatics_1, d.before a0 Z = true) {x : Addr} {ln : Int64} {mg : Addr} {h0 : Heap} (O0 : Ext Z.heap h0) (hl : l.stackTraces = true) (r2 : ∀ d ∈ twoRefs, d.before a0 Z = true) (E : Exa Z h0 x "com/example/tallymark/tallymark/FileFormatException") (N0 : Unt h0 x) (F_cause : Fld Z h0 x "java/lang/Throwable" "cause" "Ljava/lang/Throwable;" .null) (F_stackTrace : Fld Z h0 x "java/lang/Throwable" "stackTrace" "[Ljava/lang/StackTraceElement;" .null) (F_suppressedExceptions : Fld Z h0 x "java/lang/Throwable" "suppressedExceptions" "Ljava/util/List;" .null) (F_detailMessage : Fld Z h0 x "java/lang/Throwable" "detailMessage" "Ljava/lang/String;" .null) (F_backtrace : Fld Z h0 x "java/lang/Throwable" "backtrace" "Ljava/lang/Object;" .null) (gx : Z.heap.size ≤ x) (FL : Fld Z h0 x "com/example/tallymark/tallymark/FileFormatException" "line" "J" (.long 0)) (FK : Fld Z h0 x "com/example/tallymark/tallymark/FileFormatException" "key" "Ljava/lang/String;" .null) :
    own_CtK l Z (⟨"com/example/tallymark/tallymark/FileFormatException", "<init>", "(JLjava/lang/String;Ljava/lang/String;)V"⟩ : MethodName) prog_7_method_1_code 5 none [] ({ frames := 6, locals := 81, cells := 1, slots := 2752 } : Room) #[(.ref x), (.long ln), .null, (.ref mg)] h0 (fun v h => v = none ∧ Keep h0 h [x] ∧ Exa Z h x "com/example/tallymark/tallymark/FileFormatException" ∧ Fld Z h x "com/example/tallymark/tallymark/FileFormatException" "line" "J" (.long ln) ∧ Fld Z h x "com/example/tallymark/tallymark/FileFormatException" "key" "Ljava/lang/String;" .null ∧ Fld Z h x "java/lang/Throwable" "detailMessage" "Ljava/lang/String;" (.ref mg)) := by
  refine own_bodyK (Ls := #[.val (.ref x), .val (.long ln), .second, .val .null, .val (.ref mg)]) (plainFor_of_name pn_com_example_tallymark_tallymark_FileFormatException) (fun m => by first | (simp [entryFrame, mkF, argsToLocals, Value.category]; done) | rfl) O0 ?_
  intro p e s m below meth c T0 G hkn hs0 K0
  refine own_aloadN K0 d_prog_7_m1_0 rfl rfl rfl ?_
  refine own_aload K0 d_prog_7_m1_1 rfl rfl rfl ?_
  refine own_callIK K0 hkn (a := x) (wd51 hw) (wd52 hw) (rm_IOExceptionR hw hs K0.O hl r2 E N0 F_cause F_stackTrace F_suppressedExceptions F_detailMessage F_backtrace gx) (wd55 hw) (wd54 hw) (by decide) rfl (argsL := [(.ref mg)]) (rest := []) rfl pd_28Ljava2flang2fString3b29V rfl rfl (W := 0) rfl (by decide) (by decide) (by decide) (by decide) d_prog_7_m1_3 rfl ?_
  intro T45 h45 L45 v45 K45 q45
  obtain ⟨rfl, P1, M1⟩ := q45
  show G (T45.setTop (mkF m 6 #[.val (.ref x), .val (.long ln), .second, .val .null, .val (.ref mg)] []))
  have E1 := E.kp P1
  have FL1 := FL.kp P1 (Or.inr (own_sixNe (slot_ne (Or.inl (wd70 hw)) (Or.inr (wd106 hw)) (by decide) (t := (.object "java/lang/Throwable")) (t' := .long) (by decide) (by decide)) (slot_ne (Or.inl (wd73 hw)) (Or.inr (wd106 hw)) (by decide) (t := (.array (.object "java/lang/StackTraceElement"))) (t' := .long) (by decide) (by decide)) (slot_ne (Or.inl (wd76 hw)) (Or.inr (wd106 hw)) (by decide) (t := (.object "java/util/List")) (t' := .long) (by decide) (by decide)) (slot_ne (Or.inl (wd101 hw)) (Or.inr (wd106 hw)) (by decide) (t := (.object "java/lang/Object")) (t' := .long) (by decide) (by decide)) (slot_ne (Or.inl (wd102 hw)) (Or.inr (wd106 hw)) (by decide) (t := .int) (t' := .long) (by decide) (by decide)) (slot_ne (Or.inl (wd100 hw)) (Or.inr (wd106 hw)) (by decide) (t := (.object "java/lang/String")) (t' := .long) (by decide) (by decide))))
  have FK1 := FK.kp P1 (Or.inr (own_sixNe (slot_ne (Or.inl (wd70 hw)) (Or.inr (wd108 hw)) (by decide) (t := (.object "java/lang/Throwable")) (t' := (.object "java/lang/String")) (by decide) (by decide)) (slot_ne (Or.inl (wd73 hw)) (Or.inr (wd108 hw)) (by decide) (t := (.array (.object "java/lang/StackTraceElement"))) (t' := (.object "java/lang/String")) (by decide) (by decide)) (slot_ne (Or.inl (wd76 hw)) (Or.inr (wd108 hw)) (by decide) (t := (.object "java/util/List")) (t' := (.object "java/lang/String")) (by decide) (by decide)) (slot_ne (Or.inl (wd101 hw)) (Or.inr (wd108 hw)) (by decide) (t := (.object "java/lang/Object")) (t' := (.object "java/lang/String")) (by decide) (by decide)) (slot_ne (Or.inl (wd102 hw)) (Or.inr (wd108 hw)) (by decide) (t := .int) (t' := (.object "java/lang/String")) (by decide) (by decide)) (slot_ne (Or.inl (wd100 hw)) (Or.inr (wd108 hw)) (by decide) (t := (.object "java/lang/String")) (t' := (.object "java/lang/String")) (by decide) (by decide))))
  refine own_aloadN K45 d_prog_7_m1_6 rfl rfl rfl ?_
  refine own_lloadN K45 d_prog_7_m1_7 rfl rfl ?_
  refine own_putF K45 (host := "") (Or.inl (wd105 hw)) Via.refl FL1 E1 (Or.inr ⟨(wd106 hw), rfl, rfl⟩) (wd46 hw) (ty := .long) (by decide) rfl rfl gx d_prog_7_m1_8 rfl ?_
  intro T46 h46 K46 W46
  refine own_aloadN K46 d_prog_7_m1_11 rfl rfl rfl ?_
  refine own_aloadN K46 d_prog_7_m1_12 rfl rfl rfl ?_
  refine own_putF K46 (host := "") (Or.inl (wd107 hw)) Via.refl (FK1.other W46 (Or.inr (slot_ne (Or.inr (wd108 hw)) (Or.inr (wd106 hw)) (by decide) (t := (.object "java/lang/String")) (t' := .long) (by decide) (by decide)))) (E1.wr W46) (Or.inr ⟨(wd108 hw), rfl, rfl⟩) (wd46 hw) (ty := (.object "java/lang/String")) (by decide) rfl rfl gx d_prog_7_m1_13 rfl ?_
  intro T47 h47 K47 W47
  exact own_ret0 K47 d_prog_7_m1_16 rfl (by decide) (by decide) ⟨rfl, ((keep_of_kp P1).wr W46 (Or.inl (List.mem_singleton.mpr rfl))).wr W47 (Or.inl (List.mem_singleton.mpr rfl)), (E1.wr W46).wr W47, (FL1.same W46).other W47 (Or.inr (slot_ne (Or.inr (wd106 hw)) (Or.inr (wd108 hw)) (by decide) (t := .long) (t' := (.object "java/lang/String")) (by decide) (by decide))), (FK1.other W46 (Or.inr (slot_ne (Or.inr (wd108 hw)) (Or.inr (wd106 hw)) (by decide) (t := (.object "java/lang/String")) (t' := .long) (by decide) (by decide)))).same W47, (M1.other W46 (Or.inr (slot_ne (Or.inl (wd100 hw)) (Or.inr (wd106 hw)) (by decide) (t := (.object "java/lang/String")) (t' := .long) (by decide) (by decide)))).other W47 (Or.inr (slot_ne (Or.inl (wd100 hw)) (Or.inr (wd108 hw)) (by decide) (t := (.object "java/lang/String")) (t' := (.object "java/lang/String")) (by decide) (by decide)))⟩
set_option maxRecDepth 65536 in
set_option maxHeartbeats 40000000 in
theorem rm_ffeRN {l : Launch} {Z : State} {a0 : Array Value} (hw : ∀ d ∈ tables_1, d.before a0 Z = true) (hs : ∀ d ∈ jdkStatics_1, d.before a0 Z = true) {x : Addr} {ln : Int64} {ky : Addr} {h0 : Heap} (O0 : Ext Z.heap h0) (hl : l.stackTraces = true) (r2 : ∀ d ∈ twoRefs, d.before a0 Z = true) (E : Exa Z h0 x "com/example/tallymark/tallymark/FileFormatException") (N0 : Unt h0 x) (F_cause : Fld Z h0 x "java/lang/Throwable" "cause" "Ljava/lang/Throwable;" .null) (F_stackTrace : Fld Z h0 x "java/lang/Throwable" "stackTrace" "[Ljava/lang/StackTraceElement;" .null) (F_suppressedExceptions : Fld Z h0 x "java/lang/Throwable" "suppressedExceptions" "Ljava/util/List;" .null) (F_detailMessage : Fld Z h0 x "java/lang/Throwable" "detailMessage" "Ljava/lang/String;" .null) (F_backtrace : Fld Z h0 x "java/lang/Throwable" "backtrace" "Ljava/lang/Object;" .null) (gx : Z.heap.size ≤ x) (FL : Fld Z h0 x "com/example/tallymark/tallymark/FileFormatException" "line" "J" (.long 0)) (FK : Fld Z h0 x "com/example/tallymark/tallymark/FileFormatException" "key" "Ljava/lang/String;" .null) :
    own_CtK l Z (⟨"com/example/tallymark/tallymark/FileFormatException", "<init>", "(JLjava/lang/String;Ljava/lang/String;)V"⟩ : MethodName) prog_7_method_1_code 5 none [] ({ frames := 6, locals := 81, cells := 1, slots := 2752 } : Room) #[(.ref x), (.long ln), (.ref ky), .null] h0 (fun v h => v = none ∧ Keep h0 h [x] ∧ Exa Z h x "com/example/tallymark/tallymark/FileFormatException" ∧ Fld Z h x "com/example/tallymark/tallymark/FileFormatException" "line" "J" (.long ln) ∧ Fld Z h x "com/example/tallymark/tallymark/FileFormatException" "key" "Ljava/lang/String;" (.ref ky) ∧ Fld Z h x "java/lang/Throwable" "detailMessage" "Ljava/lang/String;" .null) := by
  refine own_bodyK (Ls := #[.val (.ref x), .val (.long ln), .second, .val (.ref ky), .val .null]) (plainFor_of_name pn_com_example_tallymark_tallymark_FileFormatException) (fun m => by first | (simp [entryFrame, mkF, argsToLocals, Value.category]; done) | rfl) O0 ?_
  intro p e s m below meth c T0 G hkn hs0 K0
  refine own_aloadN K0 d_prog_7_m1_0 rfl rfl rfl ?_
  refine own_aload K0 d_prog_7_m1_1 rfl rfl rfl ?_
  refine own_callIK K0 hkn (a := x) (wd51 hw) (wd52 hw) (rm_IOExceptionN hw hs K0.O hl r2 E N0 F_cause F_stackTrace F_suppressedExceptions F_detailMessage F_backtrace gx) (wd55 hw) (wd54 hw) (by decide) rfl (argsL := [.null]) (rest := []) rfl pd_28Ljava2flang2fString3b29V rfl rfl (W := 0) rfl (by decide) (by decide) (by decide) (by decide) d_prog_7_m1_3 rfl ?_
  intro T48 h48 L48 v48 K48 q48
  obtain ⟨rfl, P1, M1⟩ := q48
  show G (T48.setTop (mkF m 6 #[.val (.ref x), .val (.long ln), .second, .val (.ref ky), .val .null] []))
  have E1 := E.kp P1
  have FL1 := FL.kp P1 (Or.inr (own_sixNe (slot_ne (Or.inl (wd70 hw)) (Or.inr (wd106 hw)) (by decide) (t := (.object "java/lang/Throwable")) (t' := .long) (by decide) (by decide)) (slot_ne (Or.inl (wd73 hw)) (Or.inr (wd106 hw)) (by decide) (t := (.array (.object "java/lang/StackTraceElement"))) (t' := .long) (by decide) (by decide)) (slot_ne (Or.inl (wd76 hw)) (Or.inr (wd106 hw)) (by decide) (t := (.object "java/util/List")) (t' := .long) (by decide) (by decide)) (slot_ne (Or.inl (wd101 hw)) (Or.inr (wd106 hw)) (by decide) (t := (.object "java/lang/Object")) (t' := .long) (by decide) (by decide)) (slot_ne (Or.inl (wd102 hw)) (Or.inr (wd106 hw)) (by decide) (t := .int) (t' := .long) (by decide) (by decide)) (slot_ne (Or.inl (wd100 hw)) (Or.inr (wd106 hw)) (by decide) (t := (.object "java/lang/String")) (t' := .long) (by decide) (by decide))))
  have FK1 := FK.kp P1 (Or.inr (own_sixNe (slot_ne (Or.inl (wd70 hw)) (Or.inr (wd108 hw)) (by decide) (t := (.object "java/lang/Throwable")) (t' := (.object "java/lang/String")) (by decide) (by decide)) (slot_ne (Or.inl (wd73 hw)) (Or.inr (wd108 hw)) (by decide) (t := (.array (.object "java/lang/StackTraceElement"))) (t' := (.object "java/lang/String")) (by decide) (by decide)) (slot_ne (Or.inl (wd76 hw)) (Or.inr (wd108 hw)) (by decide) (t := (.object "java/util/List")) (t' := (.object "java/lang/String")) (by decide) (by decide)) (slot_ne (Or.inl (wd101 hw)) (Or.inr (wd108 hw)) (by decide) (t := (.object "java/lang/Object")) (t' := (.object "java/lang/String")) (by decide) (by decide)) (slot_ne (Or.inl (wd102 hw)) (Or.inr (wd108 hw)) (by decide) (t := .int) (t' := (.object "java/lang/String")) (by decide) (by decide)) (slot_ne (Or.inl (wd100 hw)) (Or.inr (wd108 hw)) (by decide) (t := (.object "java/lang/String")) (t' := (.object "java/lang/String")) (by decide) (by decide))))
  refine own_aloadN K48 d_prog_7_m1_6 rfl rfl rfl ?_
  refine own_lloadN K48 d_prog_7_m1_7 rfl rfl ?_
  refine own_putF K48 (host := "") (Or.inl (wd105 hw)) Via.refl FL1 E1 (Or.inr ⟨(wd106 hw), rfl, rfl⟩) (wd46 hw) (ty := .long) (by decide) rfl rfl gx d_prog_7_m1_8 rfl ?_
  intro T49 h49 K49 W49
  refine own_aloadN K49 d_prog_7_m1_11 rfl rfl rfl ?_
  refine own_aloadN K49 d_prog_7_m1_12 rfl rfl rfl ?_
  refine own_putF K49 (host := "") (Or.inl (wd107 hw)) Via.refl (FK1.other W49 (Or.inr (slot_ne (Or.inr (wd108 hw)) (Or.inr (wd106 hw)) (by decide) (t := (.object "java/lang/String")) (t' := .long) (by decide) (by decide)))) (E1.wr W49) (Or.inr ⟨(wd108 hw), rfl, rfl⟩) (wd46 hw) (ty := (.object "java/lang/String")) (by decide) rfl rfl gx d_prog_7_m1_13 rfl ?_
  intro T50 h50 K50 W50
  exact own_ret0 K50 d_prog_7_m1_16 rfl (by decide) (by decide) ⟨rfl, ((keep_of_kp P1).wr W49 (Or.inl (List.mem_singleton.mpr rfl))).wr W50 (Or.inl (List.mem_singleton.mpr rfl)), (E1.wr W49).wr W50, (FL1.same W49).other W50 (Or.inr (slot_ne (Or.inr (wd106 hw)) (Or.inr (wd108 hw)) (by decide) (t := .long) (t' := (.object "java/lang/String")) (by decide) (by decide))), (FK1.other W49 (Or.inr (slot_ne (Or.inr (wd108 hw)) (Or.inr (wd106 hw)) (by decide) (t := (.object "java/lang/String")) (t' := .long) (by decide) (by decide)))).same W50, (M1.other W49 (Or.inr (slot_ne (Or.inl (wd100 hw)) (Or.inr (wd106 hw)) (by decide) (t := (.object "java/lang/String")) (t' := .long) (by decide) (by decide)))).other W50 (Or.inr (slot_ne (Or.inl (wd100 hw)) (Or.inr (wd108 hw)) (by decide) (t := (.object "java/lang/String")) (t' := (.object "java/lang/String")) (by decide) (by decide)))⟩
set_option maxRecDepth 65536 in
set_option maxHeartbeats 40000000 in
theorem rm_ffeRR {l : Launch} {Z : State} {a0 : Array Value} (hw : ∀ d ∈ tables_1, d.before a0 Z = true) (hs : ∀ d ∈ jdkStatics_1, d.before a0 Z = true) {x : Addr} {ln : Int64} {ky : Addr} {mg : Addr} {h0 : Heap} (O0 : Ext Z.heap h0) (hl : l.stackTraces = true) (r2 : ∀ d ∈ twoRefs, d.before a0 Z = true) (E : Exa Z h0 x "com/example/tallymark/tallymark/FileFormatException") (N0 : Unt h0 x) (F_cause : Fld Z h0 x "java/lang/Throwable" "cause" "Ljava/lang/Throwable;" .null) (F_stackTrace : Fld Z h0 x "java/lang/Throwable" "stackTrace" "[Ljava/lang/StackTraceElement;" .null) (F_suppressedExceptions : Fld Z h0 x "java/lang/Throwable" "suppressedExceptions" "Ljava/util/List;" .null) (F_detailMessage : Fld Z h0 x "java/lang/Throwable" "detailMessage" "Ljava/lang/String;" .null) (F_backtrace : Fld Z h0 x "java/lang/Throwable" "backtrace" "Ljava/lang/Object;" .null) (gx : Z.heap.size ≤ x) (FL : Fld Z h0 x "com/example/tallymark/tallymark/FileFormatException" "line" "J" (.long 0)) (FK : Fld Z h0 x "com/example/tallymark/tallymark/FileFormatException" "key" "Ljava/lang/String;" .null) :
    own_CtK l Z (⟨"com/example/tallymark/tallymark/FileFormatException", "<init>", "(JLjava/lang/String;Ljava/lang/String;)V"⟩ : MethodName) prog_7_method_1_code 5 none [] ({ frames := 6, locals := 81, cells := 1, slots := 2752 } : Room) #[(.ref x), (.long ln), (.ref ky), (.ref mg)] h0 (fun v h => v = none ∧ Keep h0 h [x] ∧ Exa Z h x "com/example/tallymark/tallymark/FileFormatException" ∧ Fld Z h x "com/example/tallymark/tallymark/FileFormatException" "line" "J" (.long ln) ∧ Fld Z h x "com/example/tallymark/tallymark/FileFormatException" "key" "Ljava/lang/String;" (.ref ky) ∧ Fld Z h x "java/lang/Throwable" "detailMessage" "Ljava/lang/String;" (.ref mg)) := by
  refine own_bodyK (Ls := #[.val (.ref x), .val (.long ln), .second, .val (.ref ky), .val (.ref mg)]) (plainFor_of_name pn_com_example_tallymark_tallymark_FileFormatException) (fun m => by first | (simp [entryFrame, mkF, argsToLocals, Value.category]; done) | rfl) O0 ?_
  intro p e s m below meth c T0 G hkn hs0 K0
  refine own_aloadN K0 d_prog_7_m1_0 rfl rfl rfl ?_
  refine own_aload K0 d_prog_7_m1_1 rfl rfl rfl ?_
  refine own_callIK K0 hkn (a := x) (wd51 hw) (wd52 hw) (rm_IOExceptionR hw hs K0.O hl r2 E N0 F_cause F_stackTrace F_suppressedExceptions F_detailMessage F_backtrace gx) (wd55 hw) (wd54 hw) (by decide) rfl (argsL := [(.ref mg)]) (rest := []) rfl pd_28Ljava2flang2fString3b29V rfl rfl (W := 0) rfl (by decide) (by decide) (by decide) (by decide) d_prog_7_m1_3 rfl ?_
  intro T51 h51 L51 v51 K51 q51
  obtain ⟨rfl, P1, M1⟩ := q51
  show G (T51.setTop (mkF m 6 #[.val (.ref x), .val (.long ln), .second, .val (.ref ky), .val (.ref mg)] []))
  have E1 := E.kp P1
  have FL1 := FL.kp P1 (Or.inr (own_sixNe (slot_ne (Or.inl (wd70 hw)) (Or.inr (wd106 hw)) (by decide) (t := (.object "java/lang/Throwable")) (t' := .long) (by decide) (by decide)) (slot_ne (Or.inl (wd73 hw)) (Or.inr (wd106 hw)) (by decide) (t := (.array (.object "java/lang/StackTraceElement"))) (t' := .long) (by decide) (by decide)) (slot_ne (Or.inl (wd76 hw)) (Or.inr (wd106 hw)) (by decide) (t := (.object "java/util/List")) (t' := .long) (by decide) (by decide)) (slot_ne (Or.inl (wd101 hw)) (Or.inr (wd106 hw)) (by decide) (t := (.object "java/lang/Object")) (t' := .long) (by decide) (by decide)) (slot_ne (Or.inl (wd102 hw)) (Or.inr (wd106 hw)) (by decide) (t := .int) (t' := .long) (by decide) (by decide)) (slot_ne (Or.inl (wd100 hw)) (Or.inr (wd106 hw)) (by decide) (t := (.object "java/lang/String")) (t' := .long) (by decide) (by decide))))
  have FK1 := FK.kp P1 (Or.inr (own_sixNe (slot_ne (Or.inl (wd70 hw)) (Or.inr (wd108 hw)) (by decide) (t := (.object "java/lang/Throwable")) (t' := (.object "java/lang/String")) (by decide) (by decide)) (slot_ne (Or.inl (wd73 hw)) (Or.inr (wd108 hw)) (by decide) (t := (.array (.object "java/lang/StackTraceElement"))) (t' := (.object "java/lang/String")) (by decide) (by decide)) (slot_ne (Or.inl (wd76 hw)) (Or.inr (wd108 hw)) (by decide) (t := (.object "java/util/List")) (t' := (.object "java/lang/String")) (by decide) (by decide)) (slot_ne (Or.inl (wd101 hw)) (Or.inr (wd108 hw)) (by decide) (t := (.object "java/lang/Object")) (t' := (.object "java/lang/String")) (by decide) (by decide)) (slot_ne (Or.inl (wd102 hw)) (Or.inr (wd108 hw)) (by decide) (t := .int) (t' := (.object "java/lang/String")) (by decide) (by decide)) (slot_ne (Or.inl (wd100 hw)) (Or.inr (wd108 hw)) (by decide) (t := (.object "java/lang/String")) (t' := (.object "java/lang/String")) (by decide) (by decide))))
  refine own_aloadN K51 d_prog_7_m1_6 rfl rfl rfl ?_
  refine own_lloadN K51 d_prog_7_m1_7 rfl rfl ?_
  refine own_putF K51 (host := "") (Or.inl (wd105 hw)) Via.refl FL1 E1 (Or.inr ⟨(wd106 hw), rfl, rfl⟩) (wd46 hw) (ty := .long) (by decide) rfl rfl gx d_prog_7_m1_8 rfl ?_
  intro T52 h52 K52 W52
  refine own_aloadN K52 d_prog_7_m1_11 rfl rfl rfl ?_
  refine own_aloadN K52 d_prog_7_m1_12 rfl rfl rfl ?_
  refine own_putF K52 (host := "") (Or.inl (wd107 hw)) Via.refl (FK1.other W52 (Or.inr (slot_ne (Or.inr (wd108 hw)) (Or.inr (wd106 hw)) (by decide) (t := (.object "java/lang/String")) (t' := .long) (by decide) (by decide)))) (E1.wr W52) (Or.inr ⟨(wd108 hw), rfl, rfl⟩) (wd46 hw) (ty := (.object "java/lang/String")) (by decide) rfl rfl gx d_prog_7_m1_13 rfl ?_
  intro T53 h53 K53 W53
  exact own_ret0 K53 d_prog_7_m1_16 rfl (by decide) (by decide) ⟨rfl, ((keep_of_kp P1).wr W52 (Or.inl (List.mem_singleton.mpr rfl))).wr W53 (Or.inl (List.mem_singleton.mpr rfl)), (E1.wr W52).wr W53, (FL1.same W52).other W53 (Or.inr (slot_ne (Or.inr (wd106 hw)) (Or.inr (wd108 hw)) (by decide) (t := .long) (t' := (.object "java/lang/String")) (by decide) (by decide))), (FK1.other W52 (Or.inr (slot_ne (Or.inr (wd108 hw)) (Or.inr (wd106 hw)) (by decide) (t := (.object "java/lang/String")) (t' := .long) (by decide) (by decide)))).same W53, (M1.other W52 (Or.inr (slot_ne (Or.inl (wd100 hw)) (Or.inr (wd106 hw)) (by decide) (t := (.object "java/lang/String")) (t' := .long) (by decide) (by decide)))).other W53 (Or.inr (slot_ne (Or.inl (wd100 hw)) (Or.inr (wd108 hw)) (by decide) (t := (.object "java/lang/String")) (t' := (.object "java/lang/String")) (by decide) (by decide)))⟩
theorem d_jdk_78_m6_0 : decode jdk_78_method_6_code 0 = .ok (.aload_n 0, 1) := by decide +kernel
theorem d_jdk_78_m6_1 : decode jdk_78_method_6_code 1 = .ok (.getfield 31, 3) := by decide +kernel
theorem d_jdk_78_m6_4 : decode jdk_78_method_6_code 4 = .ok (.areturn, 1) := by decide +kernel
set_option maxRecDepth 65536 in
set_option maxHeartbeats 40000000 in
theorem rm_getMessageN {l : Launch} {Z : State} {a0 : Array Value} (hw : ∀ d ∈ tables_1, d.before a0 Z = true) (hs : ∀ d ∈ jdkStatics_1, d.before a0 Z = true) {x : Addr} {h0 : Heap} (O0 : Ext Z.heap h0) (F : Fld Z h0 x "java/lang/Throwable" "detailMessage" "Ljava/lang/String;" .null) :
    own_Ct l Z (⟨"java/lang/Throwable", "getMessage", "()Ljava/lang/String;"⟩ : MethodName) jdk_78_method_6_code 1 (some (.object "java/lang/String")) [] ({ frames := 0, locals := 0, cells := 0, slots := 0 } : Room) #[(.ref x)] h0 (fun v h => v = some .null ∧ h = h0) := by
  refine own_body (Ls := #[.val (.ref x)]) (plainFor_of_name pn_java_lang_Throwable) (fun m => by first | (simp [entryFrame, mkF, argsToLocals, Value.category]; done) | rfl) O0 ?_
  intro p e s m below meth c T0 G K0
  refine own_aloadN K0 d_jdk_78_m6_0 rfl rfl rfl ?_
  refine own_getF K0 (host := "") (Or.inl (wd104 hw)) Via.refl F d_jdk_78_m6_1 rfl ?_
  intro T54 K54
  exact own_retA K54 d_jdk_78_m6_4 rfl rfl rfl rfl (by decide) (by decide) ⟨rfl, rfl⟩
set_option maxRecDepth 65536 in
set_option maxHeartbeats 40000000 in
theorem rm_getMessageR {l : Launch} {Z : State} {a0 : Array Value} (hw : ∀ d ∈ tables_1, d.before a0 Z = true) (hs : ∀ d ∈ jdkStatics_1, d.before a0 Z = true) {x : Addr} {mg : Addr} {h0 : Heap} (O0 : Ext Z.heap h0) (F : Fld Z h0 x "java/lang/Throwable" "detailMessage" "Ljava/lang/String;" (.ref mg)) :
    own_Ct l Z (⟨"java/lang/Throwable", "getMessage", "()Ljava/lang/String;"⟩ : MethodName) jdk_78_method_6_code 1 (some (.object "java/lang/String")) [] ({ frames := 0, locals := 0, cells := 0, slots := 0 } : Room) #[(.ref x)] h0 (fun v h => v = some (.ref mg) ∧ h = h0) := by
  refine own_body (Ls := #[.val (.ref x)]) (plainFor_of_name pn_java_lang_Throwable) (fun m => by first | (simp [entryFrame, mkF, argsToLocals, Value.category]; done) | rfl) O0 ?_
  intro p e s m below meth c T0 G K0
  refine own_aloadN K0 d_jdk_78_m6_0 rfl rfl rfl ?_
  refine own_getF K0 (host := "") (Or.inl (wd104 hw)) Via.refl F d_jdk_78_m6_1 rfl ?_
  intro T55 K55
  exact own_retA K55 d_jdk_78_m6_4 rfl rfl rfl rfl (by decide) (by decide) ⟨rfl, rfl⟩
theorem d_jdk_30_m1_0 : decode jdk_30_method_1_code 0 = .ok (.aload_n 0, 1) := by decide +kernel
theorem d_jdk_30_m1_1 : decode jdk_30_method_1_code 1 = .ok (.invokespecial 1, 3) := by decide +kernel
theorem wd131 {a0 : Array Value} {Z : State} (hw : ∀ d ∈ tables_1, d.before a0 Z = true) : (Jvm.Cond.methodLink "java/lang/Record" (1 : Nat) ({ cls := "java/lang/Object", name := "<init>", desc := "()V" } : Jvm.MethodName)).before a0 Z = true := hw _ (List.mem_of_getElem? (i := 131) rfl)
theorem d_jdk_30_m1_4 : decode jdk_30_method_1_code 4 = .ok (.return_, 1) := by decide +kernel
theorem pn_java_lang_Record : plainName "java/lang/Record" = true := by first | (simp [plainName, overriddenIn]; done) | decide +kernel
set_option maxRecDepth 65536 in
set_option maxHeartbeats 40000000 in
theorem rm_record {l : Launch} {Z : State} {a0 : Array Value} (hw : ∀ d ∈ tables_1, d.before a0 Z = true) (hs : ∀ d ∈ jdkStatics_1, d.before a0 Z = true) {x : Addr} {h0 : Heap} (O0 : Ext Z.heap h0)  :
    own_Ct l Z (⟨"java/lang/Record", "<init>", "()V"⟩ : MethodName) jdk_30_method_1_code 1 none [] ({ frames := 1, locals := 12, cells := 0, slots := 0 } : Room) #[(.ref x)] h0 (fun v h => v = none ∧ h = h0) := by
  refine own_body (Ls := #[.val (.ref x)]) (plainFor_of_name pn_java_lang_Record) (fun m => by first | (simp [entryFrame, mkF, argsToLocals, Value.category]; done) | rfl) O0 ?_
  intro p e s m below meth c T0 G K0
  refine own_aloadN K0 d_jdk_30_m1_0 rfl rfl rfl ?_
  refine own_initO K0 (W := 0) (wd131 hw) (wd13 hw) (wd14 hw) rfl rfl (by decide) (by decide) d_jdk_30_m1_1 rfl ?_
  intro T56 K56
  exact own_ret0 K56 d_jdk_30_m1_4 rfl (by decide) (by decide) ⟨rfl, rfl⟩
theorem own_lc0 (x : Int64) (h : ¬ x < 0) : ¬ lcmpW x 0 < 0 := fun q => h ((lw_lt x 0).mp q)
theorem own_lcz : lcmpW (0 : Int64) 0 = 0 := (lw_eq 0 0).mpr rfl
theorem own_lcn (x : Int64) (h : ¬ x = 0) : ¬ lcmpW x 0 = 0 := fun q => h ((lw_eq x 0).mp q)
theorem own_lce (x : Int64) : lcmpW x x = 0 := (lw_eq x x).mpr rfl
theorem d_prog_5_m1_0 : decode prog_5_method_1_code 0 = .ok (.aload_n 0, 1) := by decide +kernel
theorem d_prog_5_m1_1 : decode prog_5_method_1_code 1 = .ok (.invokespecial 1, 3) := by decide +kernel
theorem wd130 {a0 : Array Value} {Z : State} (hw : ∀ d ∈ tables_1, d.before a0 Z = true) : (Jvm.Cond.code ({ cls := "java/lang/Record", name := "<init>", desc := "()V" } : Jvm.MethodName) jdk_30_method_1_code (1 : Nat) (Option.none : Option Jvm.ClassFile.FieldType)).before a0 Z = true := hw _ (List.mem_of_getElem? (i := 130) rfl)
theorem wd129 {a0 : Array Value} {Z : State} (hw : ∀ d ∈ tables_1, d.before a0 Z = true) : (Jvm.Cond.initialized "java/lang/Record").before a0 Z = true := hw _ (List.mem_of_getElem? (i := 129) rfl)
theorem pd_2829V : parseMethodDescriptor "()V" = some ⟨[], none⟩ := by decide +kernel
theorem wd126 {a0 : Array Value} {Z : State} (hw : ∀ d ∈ tables_1, d.before a0 Z = true) : (Jvm.Cond.methodLink "com/example/tallymark/tallymark/Fault" (1 : Nat) ({ cls := "java/lang/Record", name := "<init>", desc := "()V" } : Jvm.MethodName)).before a0 Z = true := hw _ (List.mem_of_getElem? (i := 126) rfl)
theorem wd127 {a0 : Array Value} {Z : State} (hw : ∀ d ∈ tables_1, d.before a0 Z = true) : (Jvm.Cond.instanceMethod ({ cls := "java/lang/Record", name := "<init>", desc := "()V" } : Jvm.MethodName)).before a0 Z = true := hw _ (List.mem_of_getElem? (i := 127) rfl)
theorem d_prog_5_m1_4 : decode prog_5_method_1_code 4 = .ok (.lload_n 2, 1) := by decide +kernel
theorem d_prog_5_m1_5 : decode prog_5_method_1_code 5 = .ok (.lconst 0, 1) := by decide +kernel
theorem d_prog_5_m1_6 : decode prog_5_method_1_code 6 = .ok (.lcmp, 1) := by decide +kernel
theorem d_prog_5_m1_7 : decode prog_5_method_1_code 7 = .ok (.ifCond .lt 40, 3) := by decide +kernel
theorem d_prog_5_m1_10 : decode prog_5_method_1_code 10 = .ok (.lload_n 2, 1) := by decide +kernel
theorem d_prog_5_m1_11 : decode prog_5_method_1_code 11 = .ok (.lconst 0, 1) := by decide +kernel
theorem d_prog_5_m1_12 : decode prog_5_method_1_code 12 = .ok (.lcmp, 1) := by decide +kernel
theorem d_prog_5_m1_13 : decode prog_5_method_1_code 13 = .ok (.ifCond .ne 7, 3) := by decide +kernel
theorem d_prog_5_m1_16 : decode prog_5_method_1_code 16 = .ok (.iconst 1, 1) := by decide +kernel
theorem d_prog_5_m1_17 : decode prog_5_method_1_code 17 = .ok (.goto 4, 3) := by decide +kernel
theorem d_prog_5_m1_21 : decode prog_5_method_1_code 21 = .ok (.aload 4, 2) := by decide +kernel
theorem d_prog_5_m1_23 : decode prog_5_method_1_code 23 = .ok (.ifnonnull 7, 3) := by decide +kernel
theorem d_prog_5_m1_26 : decode prog_5_method_1_code 26 = .ok (.iconst 1, 1) := by decide +kernel
theorem d_prog_5_m1_27 : decode prog_5_method_1_code 27 = .ok (.goto 4, 3) := by decide +kernel
theorem d_prog_5_m1_31 : decode prog_5_method_1_code 31 = .ok (.if_icmp .ne 16, 3) := by decide +kernel
theorem d_prog_5_m1_34 : decode prog_5_method_1_code 34 = .ok (.aload 4, 2) := by decide +kernel
theorem d_prog_5_m1_36 : decode prog_5_method_1_code 36 = .ok (.ifnull 42, 3) := by decide +kernel
theorem d_prog_5_m1_78 : decode prog_5_method_1_code 78 = .ok (.aload_n 0, 1) := by decide +kernel
theorem d_prog_5_m1_79 : decode prog_5_method_1_code 79 = .ok (.aload_n 1, 1) := by decide +kernel
theorem wd137 {a0 : Array Value} {Z : State} (hw : ∀ d ∈ tables_1, d.before a0 Z = true) : (Jvm.Cond.fieldLink "com/example/tallymark/tallymark/Fault" (27 : Nat) "com/example/tallymark/tallymark/Fault" "file" "Ljava/lang/String;").before a0 Z = true := hw _ (List.mem_of_getElem? (i := 137) rfl)
theorem wd138 {a0 : Array Value} {Z : State} (hw : ∀ d ∈ tables_1, d.before a0 Z = true) : (Jvm.Cond.laysFinal "com/example/tallymark/tallymark/Fault" "com/example/tallymark/tallymark/Fault" "file" "Ljava/lang/String;").before a0 Z = true := hw _ (List.mem_of_getElem? (i := 138) rfl)
theorem d_prog_5_m1_80 : decode prog_5_method_1_code 80 = .ok (.putfield 27, 3) := by decide +kernel
theorem wd115 {a0 : Array Value} {Z : State} (hw : ∀ d ∈ tables_1, d.before a0 Z = true) : (Jvm.Cond.instantiable "com/example/tallymark/tallymark/Fault" (4 : Nat)).before a0 Z = true := hw _ (List.mem_of_getElem? (i := 115) rfl)
theorem wd140 {a0 : Array Value} {Z : State} (hw : ∀ d ∈ tables_1, d.before a0 Z = true) : (Jvm.Cond.laysFinal "com/example/tallymark/tallymark/Fault" "com/example/tallymark/tallymark/Fault" "line" "J").before a0 Z = true := hw _ (List.mem_of_getElem? (i := 140) rfl)
theorem wd142 {a0 : Array Value} {Z : State} (hw : ∀ d ∈ tables_1, d.before a0 Z = true) : (Jvm.Cond.laysFinal "com/example/tallymark/tallymark/Fault" "com/example/tallymark/tallymark/Fault" "key" "Ljava/lang/String;").before a0 Z = true := hw _ (List.mem_of_getElem? (i := 142) rfl)
theorem wd144 {a0 : Array Value} {Z : State} (hw : ∀ d ∈ tables_1, d.before a0 Z = true) : (Jvm.Cond.laysFinal "com/example/tallymark/tallymark/Fault" "com/example/tallymark/tallymark/Fault" "message" "Ljava/lang/String;").before a0 Z = true := hw _ (List.mem_of_getElem? (i := 144) rfl)
theorem d_prog_5_m1_83 : decode prog_5_method_1_code 83 = .ok (.aload_n 0, 1) := by decide +kernel
theorem d_prog_5_m1_84 : decode prog_5_method_1_code 84 = .ok (.lload_n 2, 1) := by decide +kernel
theorem wd139 {a0 : Array Value} {Z : State} (hw : ∀ d ∈ tables_1, d.before a0 Z = true) : (Jvm.Cond.fieldLink "com/example/tallymark/tallymark/Fault" (33 : Nat) "com/example/tallymark/tallymark/Fault" "line" "J").before a0 Z = true := hw _ (List.mem_of_getElem? (i := 139) rfl)
theorem d_prog_5_m1_85 : decode prog_5_method_1_code 85 = .ok (.putfield 33, 3) := by decide +kernel
theorem d_prog_5_m1_88 : decode prog_5_method_1_code 88 = .ok (.aload_n 0, 1) := by decide +kernel
theorem d_prog_5_m1_89 : decode prog_5_method_1_code 89 = .ok (.aload 4, 2) := by decide +kernel
theorem wd141 {a0 : Array Value} {Z : State} (hw : ∀ d ∈ tables_1, d.before a0 Z = true) : (Jvm.Cond.fieldLink "com/example/tallymark/tallymark/Fault" (37 : Nat) "com/example/tallymark/tallymark/Fault" "key" "Ljava/lang/String;").before a0 Z = true := hw _ (List.mem_of_getElem? (i := 141) rfl)
theorem d_prog_5_m1_91 : decode prog_5_method_1_code 91 = .ok (.putfield 37, 3) := by decide +kernel
theorem d_prog_5_m1_94 : decode prog_5_method_1_code 94 = .ok (.aload_n 0, 1) := by decide +kernel
theorem d_prog_5_m1_95 : decode prog_5_method_1_code 95 = .ok (.aload 5, 2) := by decide +kernel
theorem wd143 {a0 : Array Value} {Z : State} (hw : ∀ d ∈ tables_1, d.before a0 Z = true) : (Jvm.Cond.fieldLink "com/example/tallymark/tallymark/Fault" (40 : Nat) "com/example/tallymark/tallymark/Fault" "message" "Ljava/lang/String;").before a0 Z = true := hw _ (List.mem_of_getElem? (i := 143) rfl)
theorem d_prog_5_m1_97 : decode prog_5_method_1_code 97 = .ok (.putfield 40, 3) := by decide +kernel
theorem d_prog_5_m1_100 : decode prog_5_method_1_code 100 = .ok (.return_, 1) := by decide +kernel
theorem pn_com_example_tallymark_tallymark_Fault : plainName "com/example/tallymark/tallymark/Fault" = true := by first | (simp [plainName, overriddenIn]; done) | decide +kernel
set_option maxRecDepth 65536 in
set_option maxHeartbeats 40000000 in
theorem rm_finNN {l : Launch} {Z : State} {a0 : Array Value} (hw : ∀ d ∈ tables_1, d.before a0 Z = true) (hs : ∀ d ∈ jdkStatics_1, d.before a0 Z = true) {x : Addr} {fl : Addr} {ln : Int64} {h0 : Heap} (O0 : Ext Z.heap h0) (E : Exa Z h0 x "com/example/tallymark/tallymark/Fault") (F_file : Fld Z h0 x "com/example/tallymark/tallymark/Fault" "file" "Ljava/lang/String;" .null) (F_line : Fld Z h0 x "com/example/tallymark/tallymark/Fault" "line" "J" (.long 0)) (F_key : Fld Z h0 x "com/example/tallymark/tallymark/Fault" "key" "Ljava/lang/String;" .null) (F_message : Fld Z h0 x "com/example/tallymark/tallymark/Fault" "message" "Ljava/lang/String;" .null) (gx : Z.heap.size ≤ x) (hln : ln = 0) :
    own_Ct l Z (⟨"com/example/tallymark/tallymark/Fault", "<init>", "(Ljava/lang/String;JLjava/lang/String;Ljava/lang/String;)V"⟩ : MethodName) prog_5_method_1_code 6 none [] ({ frames := 2, locals := 24, cells := 0, slots := 0 } : Room) #[(.ref x), (.ref fl), (.long ln), .null, .null] h0 (fun v h => v = none ∧ Keep h0 h [x] ∧ Exa Z h x "com/example/tallymark/tallymark/Fault" ∧ Fld Z h x "com/example/tallymark/tallymark/Fault" "file" "Ljava/lang/String;" (.ref fl) ∧ Fld Z h x "com/example/tallymark/tallymark/Fault" "line" "J" (.long ln) ∧ Fld Z h x "com/example/tallymark/tallymark/Fault" "key" "Ljava/lang/String;" .null ∧ Fld Z h x "com/example/tallymark/tallymark/Fault" "message" "Ljava/lang/String;" .null) := by
  refine own_body (Ls := #[.val (.ref x), .val (.ref fl), .val (.long ln), .second, .val .null, .val .null]) (plainFor_of_name pn_com_example_tallymark_tallymark_Fault) (fun m => by first | (simp [entryFrame, mkF, argsToLocals, Value.category]; done) | rfl) O0 ?_
  intro p e s m below meth c T0 G K0
  subst hln
  refine own_aloadN K0 d_prog_5_m1_0 rfl rfl rfl ?_
  refine own_callI K0 (a := x) (wd126 hw) (wd127 hw) (rm_record hw hs (x := x) K0.O) (wd130 hw) (wd129 hw) (by decide) rfl (argsL := []) (rest := []) rfl pd_2829V rfl rfl (W := 0) rfl (by decide) (by decide) (by decide) (by decide) d_prog_5_m1_1 rfl ?_
  intro T57 h57 L57 v57 K57 q57
  obtain ⟨rfl, e57⟩ := q57
  have f57 := e57.symm
  subst f57
  show G (T57.setTop (mkF m 4 #[.val (.ref x), .val (.ref fl), .val (.long (0 : Int64)), .second, .val .null, .val .null] []))
  refine own_lloadN K57 d_prog_5_m1_4 rfl rfl ?_
  refine own_lconst K57 (v := (0 : Int64)) d_prog_5_m1_5 rfl rfl ?_
  refine own_lcmp K57 d_prog_5_m1_6 rfl ?_
  refine own_ifNo K57 d_prog_5_m1_7 rfl ((if0 _ _).trans (flt (own_lc0 0 (by decide))).1) ?_
  refine own_lloadN K57 d_prog_5_m1_10 rfl rfl ?_
  refine own_lconst K57 (v := (0 : Int64)) d_prog_5_m1_11 rfl rfl ?_
  refine own_lcmp K57 d_prog_5_m1_12 rfl ?_
  refine own_ifNo K57 d_prog_5_m1_13 rfl ((if0 _ _).trans (teq own_lcz).2) ?_
  refine own_iconst K57 (v := (1 : Int32)) d_prog_5_m1_16 rfl rfl ?_
  refine own_goto K57 d_prog_5_m1_17 (pc' := 21) (by decide) (by decide) ?_
  refine own_aload K57 d_prog_5_m1_21 rfl rfl rfl ?_
  refine own_ifnonnullNo K57 d_prog_5_m1_23 rfl ?_
  refine own_iconst K57 (v := (1 : Int32)) d_prog_5_m1_26 rfl rfl ?_
  refine own_goto K57 d_prog_5_m1_27 (pc' := 31) (by decide) (by decide) ?_
  refine own_icmpNo K57 d_prog_5_m1_31 rfl (teq rfl).2 ?_
  refine own_aload K57 d_prog_5_m1_34 rfl rfl rfl ?_
  refine own_ifnullYes K57 d_prog_5_m1_36 (pc' := 78) (by decide) (by decide) ?_
  refine own_aloadN K57 d_prog_5_m1_78 rfl rfl rfl ?_
  refine own_aloadN K57 d_prog_5_m1_79 rfl rfl rfl ?_
  refine own_putF K57 (host := "") (Or.inl (wd137 hw)) Via.refl F_file E (Or.inr ⟨(wd138 hw), rfl, rfl⟩) (wd115 hw) (ty := (.object "java/lang/String")) (by decide) rfl rfl gx d_prog_5_m1_80 rfl ?_
  intro T58 h58 K58 W58
  have G_file_W58 := (F_file.same W58)
  have G_line_W58 := (F_line.other W58 (Or.inr (slot_ne (Or.inr (wd140 hw)) (Or.inr (wd138 hw)) (by decide) (t := .long) (t' := (.object "java/lang/String")) (by decide) (by decide))))
  have G_key_W58 := (F_key.other W58 (Or.inr (slot_ne (Or.inr (wd142 hw)) (Or.inr (wd138 hw)) (by decide) (t := (.object "java/lang/String")) (t' := (.object "java/lang/String")) (by decide) (by decide))))
  have G_message_W58 := (F_message.other W58 (Or.inr (slot_ne (Or.inr (wd144 hw)) (Or.inr (wd138 hw)) (by decide) (t := (.object "java/lang/String")) (t' := (.object "java/lang/String")) (by decide) (by decide))))
  refine own_aloadN K58 d_prog_5_m1_83 rfl rfl rfl ?_
  refine own_lloadN K58 d_prog_5_m1_84 rfl rfl ?_
  refine own_putF K58 (host := "") (Or.inl (wd139 hw)) Via.refl G_line_W58 (E.wr W58) (Or.inr ⟨(wd140 hw), rfl, rfl⟩) (wd115 hw) (ty := .long) (by decide) rfl rfl gx d_prog_5_m1_85 rfl ?_
  intro T59 h59 K59 W59
  have G_file_W59 := (G_file_W58.other W59 (Or.inr (slot_ne (Or.inr (wd138 hw)) (Or.inr (wd140 hw)) (by decide) (t := (.object "java/lang/String")) (t' := .long) (by decide) (by decide))))
  have G_line_W59 := (G_line_W58.same W59)
  have G_key_W59 := (G_key_W58.other W59 (Or.inr (slot_ne (Or.inr (wd142 hw)) (Or.inr (wd140 hw)) (by decide) (t := (.object "java/lang/String")) (t' := .long) (by decide) (by decide))))
  have G_message_W59 := (G_message_W58.other W59 (Or.inr (slot_ne (Or.inr (wd144 hw)) (Or.inr (wd140 hw)) (by decide) (t := (.object "java/lang/String")) (t' := .long) (by decide) (by decide))))
  refine own_aloadN K59 d_prog_5_m1_88 rfl rfl rfl ?_
  refine own_aload K59 d_prog_5_m1_89 rfl rfl rfl ?_
  refine own_putF K59 (host := "") (Or.inl (wd141 hw)) Via.refl G_key_W59 ((E.wr W58).wr W59) (Or.inr ⟨(wd142 hw), rfl, rfl⟩) (wd115 hw) (ty := (.object "java/lang/String")) (by decide) rfl rfl gx d_prog_5_m1_91 rfl ?_
  intro T60 h60 K60 W60
  have G_file_W60 := (G_file_W59.other W60 (Or.inr (slot_ne (Or.inr (wd138 hw)) (Or.inr (wd142 hw)) (by decide) (t := (.object "java/lang/String")) (t' := (.object "java/lang/String")) (by decide) (by decide))))
  have G_line_W60 := (G_line_W59.other W60 (Or.inr (slot_ne (Or.inr (wd140 hw)) (Or.inr (wd142 hw)) (by decide) (t := .long) (t' := (.object "java/lang/String")) (by decide) (by decide))))
  have G_key_W60 := (G_key_W59.same W60)
  have G_message_W60 := (G_message_W59.other W60 (Or.inr (slot_ne (Or.inr (wd144 hw)) (Or.inr (wd142 hw)) (by decide) (t := (.object "java/lang/String")) (t' := (.object "java/lang/String")) (by decide) (by decide))))
  refine own_aloadN K60 d_prog_5_m1_94 rfl rfl rfl ?_
  refine own_aload K60 d_prog_5_m1_95 rfl rfl rfl ?_
  refine own_putF K60 (host := "") (Or.inl (wd143 hw)) Via.refl G_message_W60 (((E.wr W58).wr W59).wr W60) (Or.inr ⟨(wd144 hw), rfl, rfl⟩) (wd115 hw) (ty := (.object "java/lang/String")) (by decide) rfl rfl gx d_prog_5_m1_97 rfl ?_
  intro T61 h61 K61 W61
  have G_file_W61 := (G_file_W60.other W61 (Or.inr (slot_ne (Or.inr (wd138 hw)) (Or.inr (wd144 hw)) (by decide) (t := (.object "java/lang/String")) (t' := (.object "java/lang/String")) (by decide) (by decide))))
  have G_line_W61 := (G_line_W60.other W61 (Or.inr (slot_ne (Or.inr (wd140 hw)) (Or.inr (wd144 hw)) (by decide) (t := .long) (t' := (.object "java/lang/String")) (by decide) (by decide))))
  have G_key_W61 := (G_key_W60.other W61 (Or.inr (slot_ne (Or.inr (wd142 hw)) (Or.inr (wd144 hw)) (by decide) (t := (.object "java/lang/String")) (t' := (.object "java/lang/String")) (by decide) (by decide))))
  have G_message_W61 := (G_message_W60.same W61)
  exact own_ret0 K61 d_prog_5_m1_100 rfl (by decide) (by decide) ⟨rfl, (((((Keep.refl h0 [x]).wr W58 (Or.inl (List.mem_singleton.mpr rfl))).wr W59 (Or.inl (List.mem_singleton.mpr rfl))).wr W60 (Or.inl (List.mem_singleton.mpr rfl))).wr W61 (Or.inl (List.mem_singleton.mpr rfl))), ((((E.wr W58).wr W59).wr W60).wr W61), G_file_W61, G_line_W61, G_key_W61, G_message_W61⟩
theorem d_prog_7_m3_0 : decode prog_7_method_3_code 0 = .ok (.new 20, 3) := by decide +kernel
theorem wd114 {a0 : Array Value} {Z : State} (hw : ∀ d ∈ tables_1, d.before a0 Z = true) : (Jvm.Cond.classLink "com/example/tallymark/tallymark/FileFormatException" (20 : Nat) "com/example/tallymark/tallymark/Fault").before a0 Z = true := hw _ (List.mem_of_getElem? (i := 114) rfl)
theorem wd116 {a0 : Array Value} {Z : State} (hw : ∀ d ∈ tables_1, d.before a0 Z = true) : (Jvm.Cond.initialized "com/example/tallymark/tallymark/Fault").before a0 Z = true := hw _ (List.mem_of_getElem? (i := 116) rfl)
theorem d_prog_7_m3_3 : decode prog_7_method_3_code 3 = .ok (.dup, 1) := by decide +kernel
theorem d_prog_7_m3_4 : decode prog_7_method_3_code 4 = .ok (.aload_n 1, 1) := by decide +kernel
theorem d_prog_7_m3_5 : decode prog_7_method_3_code 5 = .ok (.aload_n 0, 1) := by decide +kernel
theorem d_prog_7_m3_6 : decode prog_7_method_3_code 6 = .ok (.getfield 7, 3) := by decide +kernel
theorem d_prog_7_m3_9 : decode prog_7_method_3_code 9 = .ok (.aload_n 0, 1) := by decide +kernel
theorem d_prog_7_m3_10 : decode prog_7_method_3_code 10 = .ok (.getfield 13, 3) := by decide +kernel
theorem d_prog_7_m3_13 : decode prog_7_method_3_code 13 = .ok (.aload_n 0, 1) := by decide +kernel
theorem d_prog_7_m3_14 : decode prog_7_method_3_code 14 = .ok (.invokevirtual 22, 3) := by decide +kernel
theorem wd122 {a0 : Array Value} {Z : State} (hw : ∀ d ∈ tables_1, d.before a0 Z = true) : (Jvm.Cond.code ({ cls := "java/lang/Throwable", name := "getMessage", desc := "()Ljava/lang/String;" } : Jvm.MethodName) jdk_78_method_6_code (1 : Nat) (Option.some (Jvm.ClassFile.FieldType.object "java/lang/String"))).before a0 Z = true := hw _ (List.mem_of_getElem? (i := 122) rfl)
theorem pd_2829Ljava2flang2fString3b : parseMethodDescriptor "()Ljava/lang/String;" = some ⟨[], some (.object "java/lang/String")⟩ := by decide +kernel
theorem wd117 {a0 : Array Value} {Z : State} (hw : ∀ d ∈ tables_1, d.before a0 Z = true) : (Jvm.Cond.methodLink "com/example/tallymark/tallymark/FileFormatException" (22 : Nat) ({ cls := "com/example/tallymark/tallymark/FileFormatException", name := "getMessage", desc := "()Ljava/lang/String;" } : Jvm.MethodName)).before a0 Z = true := hw _ (List.mem_of_getElem? (i := 117) rfl)
theorem wd118 {a0 : Array Value} {Z : State} (hw : ∀ d ∈ tables_1, d.before a0 Z = true) : (Jvm.Cond.sameMethod "com/example/tallymark/tallymark/FileFormatException" "java/lang/Throwable" "getMessage" "()Ljava/lang/String;").before a0 Z = true := hw _ (List.mem_of_getElem? (i := 118) rfl)
theorem wd119 {a0 : Array Value} {Z : State} (hw : ∀ d ∈ tables_1, d.before a0 Z = true) : (Jvm.Cond.declares ({ cls := "java/lang/Throwable", name := "getMessage", desc := "()Ljava/lang/String;" } : Jvm.MethodName)).before a0 Z = true := hw _ (List.mem_of_getElem? (i := 119) rfl)
theorem wd121 {a0 : Array Value} {Z : State} (hw : ∀ d ∈ tables_1, d.before a0 Z = true) : (Jvm.Cond.selects "com/example/tallymark/tallymark/FileFormatException" ({ cls := "com/example/tallymark/tallymark/FileFormatException", name := "getMessage", desc := "()Ljava/lang/String;" } : Jvm.MethodName) ({ cls := "java/lang/Throwable", name := "getMessage", desc := "()Ljava/lang/String;" } : Jvm.MethodName)).before a0 Z = true := hw _ (List.mem_of_getElem? (i := 121) rfl)
theorem wd120 {a0 : Array Value} {Z : State} (hw : ∀ d ∈ tables_1, d.before a0 Z = true) : (Jvm.Cond.instanceMethod ({ cls := "java/lang/Throwable", name := "getMessage", desc := "()Ljava/lang/String;" } : Jvm.MethodName)).before a0 Z = true := hw _ (List.mem_of_getElem? (i := 120) rfl)
theorem d_prog_7_m3_17 : decode prog_7_method_3_code 17 = .ok (.invokespecial 26, 3) := by decide +kernel
theorem wd125 {a0 : Array Value} {Z : State} (hw : ∀ d ∈ tables_1, d.before a0 Z = true) : (Jvm.Cond.code ({ cls := "com/example/tallymark/tallymark/Fault", name := "<init>", desc := "(Ljava/lang/String;JLjava/lang/String;Ljava/lang/String;)V" } : Jvm.MethodName) prog_5_method_1_code (6 : Nat) (Option.none : Option Jvm.ClassFile.FieldType)).before a0 Z = true := hw _ (List.mem_of_getElem? (i := 125) rfl)
theorem pd_28Ljava2flang2fString3bJLjava2flang2fString3bLjava2flang2fString3b29V : parseMethodDescriptor "(Ljava/lang/String;JLjava/lang/String;Ljava/lang/String;)V" = some ⟨[(.object "java/lang/String"), .long, (.object "java/lang/String"), (.object "java/lang/String")], none⟩ := by decide +kernel
theorem wd123 {a0 : Array Value} {Z : State} (hw : ∀ d ∈ tables_1, d.before a0 Z = true) : (Jvm.Cond.methodLink "com/example/tallymark/tallymark/FileFormatException" (26 : Nat) ({ cls := "com/example/tallymark/tallymark/Fault", name := "<init>", desc := "(Ljava/lang/String;JLjava/lang/String;Ljava/lang/String;)V" } : Jvm.MethodName)).before a0 Z = true := hw _ (List.mem_of_getElem? (i := 123) rfl)
theorem wd124 {a0 : Array Value} {Z : State} (hw : ∀ d ∈ tables_1, d.before a0 Z = true) : (Jvm.Cond.instanceMethod ({ cls := "com/example/tallymark/tallymark/Fault", name := "<init>", desc := "(Ljava/lang/String;JLjava/lang/String;Ljava/lang/String;)V" } : Jvm.MethodName)).before a0 Z = true := hw _ (List.mem_of_getElem? (i := 124) rfl)
theorem d_prog_7_m3_20 : decode prog_7_method_3_code 20 = .ok (.areturn, 1) := by decide +kernel
set_option maxRecDepth 65536 in
set_option maxHeartbeats 40000000 in
theorem rm_faultNN {l : Launch} {Z : State} {a0 : Array Value} (hw : ∀ d ∈ tables_1, d.before a0 Z = true) (hs : ∀ d ∈ jdkStatics_1, d.before a0 Z = true) {x : Addr} {fl : Addr} {ln : Int64} {h0 : Heap} (O0 : Ext Z.heap h0) (E : Exa Z h0 x "com/example/tallymark/tallymark/FileFormatException") (FL : Fld Z h0 x "com/example/tallymark/tallymark/FileFormatException" "line" "J" (.long ln)) (FK : Fld Z h0 x "com/example/tallymark/tallymark/FileFormatException" "key" "Ljava/lang/String;" .null) (FM : Fld Z h0 x "java/lang/Throwable" "detailMessage" "Ljava/lang/String;" .null) (hln : ln = 0) :
    own_Ct l Z (⟨"com/example/tallymark/tallymark/FileFormatException", "fault", "(Ljava/lang/String;)Lcom/example/tallymark/tallymark/Fault;"⟩ : MethodName) prog_7_method_3_code 2 (some (.object "com/example/tallymark/tallymark/Fault")) [] ({ frames := 3, locals := 42, cells := 1, slots := 4 } : Room) #[(.ref x), (.ref fl)] h0 (fun v h => ∃ a : Addr, v = some (.ref a) ∧ Ext h0 h ∧ Exa Z h a "com/example/tallymark/tallymark/Fault" ∧ Fld Z h a "com/example/tallymark/tallymark/Fault" "file" "Ljava/lang/String;" (.ref fl) ∧ Fld Z h a "com/example/tallymark/tallymark/Fault" "line" "J" (.long ln) ∧ Fld Z h a "com/example/tallymark/tallymark/Fault" "key" "Ljava/lang/String;" .null ∧ Fld Z h a "com/example/tallymark/tallymark/Fault" "message" "Ljava/lang/String;" .null) := by
  refine own_body (Ls := #[.val (.ref x), .val (.ref fl)]) (plainFor_of_name pn_com_example_tallymark_tallymark_FileFormatException) (fun m => by first | (simp [entryFrame, mkF, argsToLocals, Value.category]; done) | rfl) O0 ?_
  intro p e s m below meth c T0 G K0
  refine own_newO K0 (wd114 hw) (wd115 hw) (wd116 hw) d_prog_7_m3_0 (by decide) (by decide) rfl ?_
  intro T62 h62 a62 K62 g62 E62 A62 D62 U62
  have F_file_62 : Fld Z h62 a62 "com/example/tallymark/tallymark/Fault" "file" "Ljava/lang/String;" .null := D62 (Or.inr (wd138 hw)) (ty := (.object "java/lang/String")) (by decide)
  have F_line_62 : Fld Z h62 a62 "com/example/tallymark/tallymark/Fault" "line" "J" (.long (0 : Int64)) := D62 (Or.inr (wd140 hw)) (ty := .long) (by decide)
  have F_key_62 : Fld Z h62 a62 "com/example/tallymark/tallymark/Fault" "key" "Ljava/lang/String;" .null := D62 (Or.inr (wd142 hw)) (ty := (.object "java/lang/String")) (by decide)
  have F_message_62 : Fld Z h62 a62 "com/example/tallymark/tallymark/Fault" "message" "Ljava/lang/String;" .null := D62 (Or.inr (wd144 hw)) (ty := (.object "java/lang/String")) (by decide)
  refine own_dup K62 d_prog_7_m3_3 rfl rfl ?_
  refine own_aloadN K62 d_prog_7_m3_4 rfl rfl rfl ?_
  refine own_aloadN K62 d_prog_7_m3_5 rfl rfl rfl ?_
  refine own_getF K62 (host := "") (Or.inl (wd105 hw)) Via.refl (FL.ext E62) d_prog_7_m3_6 rfl ?_
  intro T63 K63
  refine own_aloadN K63 d_prog_7_m3_9 rfl rfl rfl ?_
  refine own_getF K63 (host := "") (Or.inl (wd107 hw)) Via.refl (FK.ext E62) d_prog_7_m3_10 rfl ?_
  intro T64 K64
  refine own_aloadN K64 d_prog_7_m3_13 rfl rfl rfl ?_
  refine own_callVU K64 (a := x) (owner := "java/lang/Throwable") (x0 := (⟨"com/example/tallymark/tallymark/FileFormatException", "getMessage", "()Ljava/lang/String;"⟩ : MethodName)) (wd117 hw) (wd118 hw) (wd119 hw) (wd121 hw) (wd120 hw) (rm_getMessageN hw hs K64.O (FM.ext E62)) (wd122 hw) (wd66 hw) (by decide) (E.ext E62) (argsL := []) (rest := [.null, (.long ln), (.ref fl), (.ref a62), (.ref a62)]) rfl pd_2829Ljava2flang2fString3b rfl rfl (W := 6) rfl (by decide) (by decide) (by decide) (by decide) d_prog_7_m3_14 rfl ?_
  intro T65 h65 L65 v65 K65 q65
  obtain ⟨rfl, e65⟩ := q65
  have f65 := e65.symm
  subst f65
  show G (T65.setTop (mkF m 17 #[.val (.ref x), .val (.ref fl)] [.null, .null, (.long ln), (.ref fl), (.ref a62), (.ref a62)]))
  have gx62 : Z.heap.size ≤ a62 := by rw [g62]; exact K0.O.1
  refine own_callI K65 (a := a62) (wd123 hw) (wd124 hw) (rm_finNN hw hs K65.O A62 F_file_62 F_line_62 F_key_62 F_message_62 gx62 hln) (wd125 hw) (wd116 hw) (by decide) rfl (argsL := [(.ref fl), (.long ln), .null, .null]) (rest := [(.ref a62)]) rfl pd_28Ljava2flang2fString3bJLjava2flang2fString3bLjava2flang2fString3b29V rfl rfl (W := 1) rfl (by decide) (by decide) (by decide) (by decide) d_prog_7_m3_17 rfl ?_
  intro T66 h66 L66 v66 K66 q66
  obtain ⟨rfl, Kp66, A66, file66, line66, key66, message66⟩ := q66
  show G (T66.setTop (mkF m 20 #[.val (.ref x), .val (.ref fl)] [(.ref a62)]))
  exact own_retA K66 d_prog_7_m3_20 rfl rfl rfl rfl (by decide) (by decide) ⟨a62, rfl, own_ext_keep E62 Kp66 (fun y q => by cases List.mem_singleton.mp q; exact Nat.le_of_eq g62.symm), A66, file66, line66, key66, message66⟩
set_option maxRecDepth 65536 in
set_option maxHeartbeats 40000000 in
theorem rm_finNR {l : Launch} {Z : State} {a0 : Array Value} (hw : ∀ d ∈ tables_1, d.before a0 Z = true) (hs : ∀ d ∈ jdkStatics_1, d.before a0 Z = true) {x : Addr} {fl : Addr} {ln : Int64} {mg : Addr} {h0 : Heap} (O0 : Ext Z.heap h0) (E : Exa Z h0 x "com/example/tallymark/tallymark/Fault") (F_file : Fld Z h0 x "com/example/tallymark/tallymark/Fault" "file" "Ljava/lang/String;" .null) (F_line : Fld Z h0 x "com/example/tallymark/tallymark/Fault" "line" "J" (.long 0)) (F_key : Fld Z h0 x "com/example/tallymark/tallymark/Fault" "key" "Ljava/lang/String;" .null) (F_message : Fld Z h0 x "com/example/tallymark/tallymark/Fault" "message" "Ljava/lang/String;" .null) (gx : Z.heap.size ≤ x) (hln : ln = 0) :
    own_Ct l Z (⟨"com/example/tallymark/tallymark/Fault", "<init>", "(Ljava/lang/String;JLjava/lang/String;Ljava/lang/String;)V"⟩ : MethodName) prog_5_method_1_code 6 none [] ({ frames := 2, locals := 24, cells := 0, slots := 0 } : Room) #[(.ref x), (.ref fl), (.long ln), .null, (.ref mg)] h0 (fun v h => v = none ∧ Keep h0 h [x] ∧ Exa Z h x "com/example/tallymark/tallymark/Fault" ∧ Fld Z h x "com/example/tallymark/tallymark/Fault" "file" "Ljava/lang/String;" (.ref fl) ∧ Fld Z h x "com/example/tallymark/tallymark/Fault" "line" "J" (.long ln) ∧ Fld Z h x "com/example/tallymark/tallymark/Fault" "key" "Ljava/lang/String;" .null ∧ Fld Z h x "com/example/tallymark/tallymark/Fault" "message" "Ljava/lang/String;" (.ref mg)) := by
  refine own_body (Ls := #[.val (.ref x), .val (.ref fl), .val (.long ln), .second, .val .null, .val (.ref mg)]) (plainFor_of_name pn_com_example_tallymark_tallymark_Fault) (fun m => by first | (simp [entryFrame, mkF, argsToLocals, Value.category]; done) | rfl) O0 ?_
  intro p e s m below meth c T0 G K0
  subst hln
  refine own_aloadN K0 d_prog_5_m1_0 rfl rfl rfl ?_
  refine own_callI K0 (a := x) (wd126 hw) (wd127 hw) (rm_record hw hs (x := x) K0.O) (wd130 hw) (wd129 hw) (by decide) rfl (argsL := []) (rest := []) rfl pd_2829V rfl rfl (W := 0) rfl (by decide) (by decide) (by decide) (by decide) d_prog_5_m1_1 rfl ?_
  intro T67 h67 L67 v67 K67 q67
  obtain ⟨rfl, e67⟩ := q67
  have f67 := e67.symm
  subst f67
  show G (T67.setTop (mkF m 4 #[.val (.ref x), .val (.ref fl), .val (.long (0 : Int64)), .second, .val .null, .val (.ref mg)] []))
  refine own_lloadN K67 d_prog_5_m1_4 rfl rfl ?_
  refine own_lconst K67 (v := (0 : Int64)) d_prog_5_m1_5 rfl rfl ?_
  refine own_lcmp K67 d_prog_5_m1_6 rfl ?_
  refine own_ifNo K67 d_prog_5_m1_7 rfl ((if0 _ _).trans (flt (own_lc0 0 (by decide))).1) ?_
  refine own_lloadN K67 d_prog_5_m1_10 rfl rfl ?_
  refine own_lconst K67 (v := (0 : Int64)) d_prog_5_m1_11 rfl rfl ?_
  refine own_lcmp K67 d_prog_5_m1_12 rfl ?_
  refine own_ifNo K67 d_prog_5_m1_13 rfl ((if0 _ _).trans (teq own_lcz).2) ?_
  refine own_iconst K67 (v := (1 : Int32)) d_prog_5_m1_16 rfl rfl ?_
  refine own_goto K67 d_prog_5_m1_17 (pc' := 21) (by decide) (by decide) ?_
  refine own_aload K67 d_prog_5_m1_21 rfl rfl rfl ?_
  refine own_ifnonnullNo K67 d_prog_5_m1_23 rfl ?_
  refine own_iconst K67 (v := (1 : Int32)) d_prog_5_m1_26 rfl rfl ?_
  refine own_goto K67 d_prog_5_m1_27 (pc' := 31) (by decide) (by decide) ?_
  refine own_icmpNo K67 d_prog_5_m1_31 rfl (teq rfl).2 ?_
  refine own_aload K67 d_prog_5_m1_34 rfl rfl rfl ?_
  refine own_ifnullYes K67 d_prog_5_m1_36 (pc' := 78) (by decide) (by decide) ?_
  refine own_aloadN K67 d_prog_5_m1_78 rfl rfl rfl ?_
  refine own_aloadN K67 d_prog_5_m1_79 rfl rfl rfl ?_
  refine own_putF K67 (host := "") (Or.inl (wd137 hw)) Via.refl F_file E (Or.inr ⟨(wd138 hw), rfl, rfl⟩) (wd115 hw) (ty := (.object "java/lang/String")) (by decide) rfl rfl gx d_prog_5_m1_80 rfl ?_
  intro T68 h68 K68 W68
  have G_file_W68 := (F_file.same W68)
  have G_line_W68 := (F_line.other W68 (Or.inr (slot_ne (Or.inr (wd140 hw)) (Or.inr (wd138 hw)) (by decide) (t := .long) (t' := (.object "java/lang/String")) (by decide) (by decide))))
  have G_key_W68 := (F_key.other W68 (Or.inr (slot_ne (Or.inr (wd142 hw)) (Or.inr (wd138 hw)) (by decide) (t := (.object "java/lang/String")) (t' := (.object "java/lang/String")) (by decide) (by decide))))
  have G_message_W68 := (F_message.other W68 (Or.inr (slot_ne (Or.inr (wd144 hw)) (Or.inr (wd138 hw)) (by decide) (t := (.object "java/lang/String")) (t' := (.object "java/lang/String")) (by decide) (by decide))))
  refine own_aloadN K68 d_prog_5_m1_83 rfl rfl rfl ?_
  refine own_lloadN K68 d_prog_5_m1_84 rfl rfl ?_
  refine own_putF K68 (host := "") (Or.inl (wd139 hw)) Via.refl G_line_W68 (E.wr W68) (Or.inr ⟨(wd140 hw), rfl, rfl⟩) (wd115 hw) (ty := .long) (by decide) rfl rfl gx d_prog_5_m1_85 rfl ?_
  intro T69 h69 K69 W69
  have G_file_W69 := (G_file_W68.other W69 (Or.inr (slot_ne (Or.inr (wd138 hw)) (Or.inr (wd140 hw)) (by decide) (t := (.object "java/lang/String")) (t' := .long) (by decide) (by decide))))
  have G_line_W69 := (G_line_W68.same W69)
  have G_key_W69 := (G_key_W68.other W69 (Or.inr (slot_ne (Or.inr (wd142 hw)) (Or.inr (wd140 hw)) (by decide) (t := (.object "java/lang/String")) (t' := .long) (by decide) (by decide))))
  have G_message_W69 := (G_message_W68.other W69 (Or.inr (slot_ne (Or.inr (wd144 hw)) (Or.inr (wd140 hw)) (by decide) (t := (.object "java/lang/String")) (t' := .long) (by decide) (by decide))))
  refine own_aloadN K69 d_prog_5_m1_88 rfl rfl rfl ?_
  refine own_aload K69 d_prog_5_m1_89 rfl rfl rfl ?_
  refine own_putF K69 (host := "") (Or.inl (wd141 hw)) Via.refl G_key_W69 ((E.wr W68).wr W69) (Or.inr ⟨(wd142 hw), rfl, rfl⟩) (wd115 hw) (ty := (.object "java/lang/String")) (by decide) rfl rfl gx d_prog_5_m1_91 rfl ?_
  intro T70 h70 K70 W70
  have G_file_W70 := (G_file_W69.other W70 (Or.inr (slot_ne (Or.inr (wd138 hw)) (Or.inr (wd142 hw)) (by decide) (t := (.object "java/lang/String")) (t' := (.object "java/lang/String")) (by decide) (by decide))))
  have G_line_W70 := (G_line_W69.other W70 (Or.inr (slot_ne (Or.inr (wd140 hw)) (Or.inr (wd142 hw)) (by decide) (t := .long) (t' := (.object "java/lang/String")) (by decide) (by decide))))
  have G_key_W70 := (G_key_W69.same W70)
  have G_message_W70 := (G_message_W69.other W70 (Or.inr (slot_ne (Or.inr (wd144 hw)) (Or.inr (wd142 hw)) (by decide) (t := (.object "java/lang/String")) (t' := (.object "java/lang/String")) (by decide) (by decide))))
  refine own_aloadN K70 d_prog_5_m1_94 rfl rfl rfl ?_
  refine own_aload K70 d_prog_5_m1_95 rfl rfl rfl ?_
  refine own_putF K70 (host := "") (Or.inl (wd143 hw)) Via.refl G_message_W70 (((E.wr W68).wr W69).wr W70) (Or.inr ⟨(wd144 hw), rfl, rfl⟩) (wd115 hw) (ty := (.object "java/lang/String")) (by decide) rfl rfl gx d_prog_5_m1_97 rfl ?_
  intro T71 h71 K71 W71
  have G_file_W71 := (G_file_W70.other W71 (Or.inr (slot_ne (Or.inr (wd138 hw)) (Or.inr (wd144 hw)) (by decide) (t := (.object "java/lang/String")) (t' := (.object "java/lang/String")) (by decide) (by decide))))
  have G_line_W71 := (G_line_W70.other W71 (Or.inr (slot_ne (Or.inr (wd140 hw)) (Or.inr (wd144 hw)) (by decide) (t := .long) (t' := (.object "java/lang/String")) (by decide) (by decide))))
  have G_key_W71 := (G_key_W70.other W71 (Or.inr (slot_ne (Or.inr (wd142 hw)) (Or.inr (wd144 hw)) (by decide) (t := (.object "java/lang/String")) (t' := (.object "java/lang/String")) (by decide) (by decide))))
  have G_message_W71 := (G_message_W70.same W71)
  exact own_ret0 K71 d_prog_5_m1_100 rfl (by decide) (by decide) ⟨rfl, (((((Keep.refl h0 [x]).wr W68 (Or.inl (List.mem_singleton.mpr rfl))).wr W69 (Or.inl (List.mem_singleton.mpr rfl))).wr W70 (Or.inl (List.mem_singleton.mpr rfl))).wr W71 (Or.inl (List.mem_singleton.mpr rfl))), ((((E.wr W68).wr W69).wr W70).wr W71), G_file_W71, G_line_W71, G_key_W71, G_message_W71⟩
set_option maxRecDepth 65536 in
set_option maxHeartbeats 40000000 in
theorem rm_faultNR {l : Launch} {Z : State} {a0 : Array Value} (hw : ∀ d ∈ tables_1, d.before a0 Z = true) (hs : ∀ d ∈ jdkStatics_1, d.before a0 Z = true) {x : Addr} {fl : Addr} {ln : Int64} {mg : Addr} {h0 : Heap} (O0 : Ext Z.heap h0) (E : Exa Z h0 x "com/example/tallymark/tallymark/FileFormatException") (FL : Fld Z h0 x "com/example/tallymark/tallymark/FileFormatException" "line" "J" (.long ln)) (FK : Fld Z h0 x "com/example/tallymark/tallymark/FileFormatException" "key" "Ljava/lang/String;" .null) (FM : Fld Z h0 x "java/lang/Throwable" "detailMessage" "Ljava/lang/String;" (.ref mg)) (hln : ln = 0) :
    own_Ct l Z (⟨"com/example/tallymark/tallymark/FileFormatException", "fault", "(Ljava/lang/String;)Lcom/example/tallymark/tallymark/Fault;"⟩ : MethodName) prog_7_method_3_code 2 (some (.object "com/example/tallymark/tallymark/Fault")) [] ({ frames := 3, locals := 42, cells := 1, slots := 4 } : Room) #[(.ref x), (.ref fl)] h0 (fun v h => ∃ a : Addr, v = some (.ref a) ∧ Ext h0 h ∧ Exa Z h a "com/example/tallymark/tallymark/Fault" ∧ Fld Z h a "com/example/tallymark/tallymark/Fault" "file" "Ljava/lang/String;" (.ref fl) ∧ Fld Z h a "com/example/tallymark/tallymark/Fault" "line" "J" (.long ln) ∧ Fld Z h a "com/example/tallymark/tallymark/Fault" "key" "Ljava/lang/String;" .null ∧ Fld Z h a "com/example/tallymark/tallymark/Fault" "message" "Ljava/lang/String;" (.ref mg)) := by
  refine own_body (Ls := #[.val (.ref x), .val (.ref fl)]) (plainFor_of_name pn_com_example_tallymark_tallymark_FileFormatException) (fun m => by first | (simp [entryFrame, mkF, argsToLocals, Value.category]; done) | rfl) O0 ?_
  intro p e s m below meth c T0 G K0
  refine own_newO K0 (wd114 hw) (wd115 hw) (wd116 hw) d_prog_7_m3_0 (by decide) (by decide) rfl ?_
  intro T72 h72 a72 K72 g72 E72 A72 D72 U72
  have F_file_72 : Fld Z h72 a72 "com/example/tallymark/tallymark/Fault" "file" "Ljava/lang/String;" .null := D72 (Or.inr (wd138 hw)) (ty := (.object "java/lang/String")) (by decide)
  have F_line_72 : Fld Z h72 a72 "com/example/tallymark/tallymark/Fault" "line" "J" (.long (0 : Int64)) := D72 (Or.inr (wd140 hw)) (ty := .long) (by decide)
  have F_key_72 : Fld Z h72 a72 "com/example/tallymark/tallymark/Fault" "key" "Ljava/lang/String;" .null := D72 (Or.inr (wd142 hw)) (ty := (.object "java/lang/String")) (by decide)
  have F_message_72 : Fld Z h72 a72 "com/example/tallymark/tallymark/Fault" "message" "Ljava/lang/String;" .null := D72 (Or.inr (wd144 hw)) (ty := (.object "java/lang/String")) (by decide)
  refine own_dup K72 d_prog_7_m3_3 rfl rfl ?_
  refine own_aloadN K72 d_prog_7_m3_4 rfl rfl rfl ?_
  refine own_aloadN K72 d_prog_7_m3_5 rfl rfl rfl ?_
  refine own_getF K72 (host := "") (Or.inl (wd105 hw)) Via.refl (FL.ext E72) d_prog_7_m3_6 rfl ?_
  intro T73 K73
  refine own_aloadN K73 d_prog_7_m3_9 rfl rfl rfl ?_
  refine own_getF K73 (host := "") (Or.inl (wd107 hw)) Via.refl (FK.ext E72) d_prog_7_m3_10 rfl ?_
  intro T74 K74
  refine own_aloadN K74 d_prog_7_m3_13 rfl rfl rfl ?_
  refine own_callVU K74 (a := x) (owner := "java/lang/Throwable") (x0 := (⟨"com/example/tallymark/tallymark/FileFormatException", "getMessage", "()Ljava/lang/String;"⟩ : MethodName)) (wd117 hw) (wd118 hw) (wd119 hw) (wd121 hw) (wd120 hw) (rm_getMessageR hw hs K74.O (FM.ext E72)) (wd122 hw) (wd66 hw) (by decide) (E.ext E72) (argsL := []) (rest := [.null, (.long ln), (.ref fl), (.ref a72), (.ref a72)]) rfl pd_2829Ljava2flang2fString3b rfl rfl (W := 6) rfl (by decide) (by decide) (by decide) (by decide) d_prog_7_m3_14 rfl ?_
  intro T75 h75 L75 v75 K75 q75
  obtain ⟨rfl, e75⟩ := q75
  have f75 := e75.symm
  subst f75
  show G (T75.setTop (mkF m 17 #[.val (.ref x), .val (.ref fl)] [(.ref mg), .null, (.long ln), (.ref fl), (.ref a72), (.ref a72)]))
  have gx72 : Z.heap.size ≤ a72 := by rw [g72]; exact K0.O.1
  refine own_callI K75 (a := a72) (wd123 hw) (wd124 hw) (rm_finNR hw hs K75.O A72 F_file_72 F_line_72 F_key_72 F_message_72 gx72 hln) (wd125 hw) (wd116 hw) (by decide) rfl (argsL := [(.ref fl), (.long ln), .null, (.ref mg)]) (rest := [(.ref a72)]) rfl pd_28Ljava2flang2fString3bJLjava2flang2fString3bLjava2flang2fString3b29V rfl rfl (W := 1) rfl (by decide) (by decide) (by decide) (by decide) d_prog_7_m3_17 rfl ?_
  intro T76 h76 L76 v76 K76 q76
  obtain ⟨rfl, Kp76, A76, file76, line76, key76, message76⟩ := q76
  show G (T76.setTop (mkF m 20 #[.val (.ref x), .val (.ref fl)] [(.ref a72)]))
  exact own_retA K76 d_prog_7_m3_20 rfl rfl rfl rfl (by decide) (by decide) ⟨a72, rfl, own_ext_keep E72 Kp76 (fun y q => by cases List.mem_singleton.mp q; exact Nat.le_of_eq g72.symm), A76, file76, line76, key76, message76⟩
theorem d_prog_5_m1_20 : decode prog_5_method_1_code 20 = .ok (.iconst 0, 1) := by decide +kernel
theorem d_prog_5_m1_30 : decode prog_5_method_1_code 30 = .ok (.iconst 0, 1) := by decide +kernel
theorem d_prog_5_m1_39 : decode prog_5_method_1_code 39 = .ok (.aload 4, 2) := by decide +kernel
theorem d_prog_5_m1_41 : decode prog_5_method_1_code 41 = .ok (.invokevirtual 7, 3) := by decide +kernel
theorem wd136 {a0 : Array Value} {Z : State} (hw : ∀ d ∈ tables_1, d.before a0 Z = true) : (Jvm.Cond.code ({ cls := "java/lang/String", name := "isEmpty", desc := "()Z" } : Jvm.MethodName) jdk_42_method_55_code (1 : Nat) (Option.some Jvm.ClassFile.FieldType.boolean)).before a0 Z = true := hw _ (List.mem_of_getElem? (i := 136) rfl)
theorem pd_2829Z : parseMethodDescriptor "()Z" = some ⟨[], some .boolean⟩ := by decide +kernel
theorem wd135 {a0 : Array Value} {Z : State} (hw : ∀ d ∈ tables_1, d.before a0 Z = true) : (Jvm.Cond.selects "java/lang/String" ({ cls := "java/lang/String", name := "isEmpty", desc := "()Z" } : Jvm.MethodName) ({ cls := "java/lang/String", name := "isEmpty", desc := "()Z" } : Jvm.MethodName)).before a0 Z = true := hw _ (List.mem_of_getElem? (i := 135) rfl)
theorem wd132 {a0 : Array Value} {Z : State} (hw : ∀ d ∈ tables_1, d.before a0 Z = true) : (Jvm.Cond.methodLink "com/example/tallymark/tallymark/Fault" (7 : Nat) ({ cls := "java/lang/String", name := "isEmpty", desc := "()Z" } : Jvm.MethodName)).before a0 Z = true := hw _ (List.mem_of_getElem? (i := 132) rfl)
theorem wd133 {a0 : Array Value} {Z : State} (hw : ∀ d ∈ tables_1, d.before a0 Z = true) : (Jvm.Cond.declares ({ cls := "java/lang/String", name := "isEmpty", desc := "()Z" } : Jvm.MethodName)).before a0 Z = true := hw _ (List.mem_of_getElem? (i := 133) rfl)
theorem wd134 {a0 : Array Value} {Z : State} (hw : ∀ d ∈ tables_1, d.before a0 Z = true) : (Jvm.Cond.instanceMethod ({ cls := "java/lang/String", name := "isEmpty", desc := "()Z" } : Jvm.MethodName)).before a0 Z = true := hw _ (List.mem_of_getElem? (i := 134) rfl)
theorem d_prog_5_m1_44 : decode prog_5_method_1_code 44 = .ok (.ifCond .eq 34, 3) := by decide +kernel
set_option maxRecDepth 65536 in
set_option maxHeartbeats 40000000 in
theorem rm_finRN {l : Launch} {Z : State} {a0 : Array Value} (hw : ∀ d ∈ tables_1, d.before a0 Z = true) (hs : ∀ d ∈ jdkStatics_1, d.before a0 Z = true) {x : Addr} {fl : Addr} {ln : Int64} {ky : Addr} {cs : List Int32} {h0 : Heap} (O0 : Ext Z.heap h0) (E : Exa Z h0 x "com/example/tallymark/tallymark/Fault") (F_file : Fld Z h0 x "com/example/tallymark/tallymark/Fault" "file" "Ljava/lang/String;" .null) (F_line : Fld Z h0 x "com/example/tallymark/tallymark/Fault" "line" "J" (.long 0)) (F_key : Fld Z h0 x "com/example/tallymark/tallymark/Fault" "key" "Ljava/lang/String;" .null) (F_message : Fld Z h0 x "com/example/tallymark/tallymark/Fault" "message" "Ljava/lang/String;" .null) (gx : Z.heap.size ≤ x) (hln : ¬ ln < 0 ∧ ¬ ln = 0) (S : own_Str Z h0 ky cs) (hpos : 0 < cs.length) (hlen : cs.length ≤ 4000) :
    own_Ct l Z (⟨"com/example/tallymark/tallymark/Fault", "<init>", "(Ljava/lang/String;JLjava/lang/String;Ljava/lang/String;)V"⟩ : MethodName) prog_5_method_1_code 6 none [] ({ frames := 2, locals := 24, cells := 0, slots := 0 } : Room) #[(.ref x), (.ref fl), (.long ln), (.ref ky), .null] h0 (fun v h => v = none ∧ Keep h0 h [x] ∧ Exa Z h x "com/example/tallymark/tallymark/Fault" ∧ Fld Z h x "com/example/tallymark/tallymark/Fault" "file" "Ljava/lang/String;" (.ref fl) ∧ Fld Z h x "com/example/tallymark/tallymark/Fault" "line" "J" (.long ln) ∧ Fld Z h x "com/example/tallymark/tallymark/Fault" "key" "Ljava/lang/String;" (.ref ky) ∧ Fld Z h x "com/example/tallymark/tallymark/Fault" "message" "Ljava/lang/String;" .null) := by
  refine own_body (Ls := #[.val (.ref x), .val (.ref fl), .val (.long ln), .second, .val (.ref ky), .val .null]) (plainFor_of_name pn_com_example_tallymark_tallymark_Fault) (fun m => by first | (simp [entryFrame, mkF, argsToLocals, Value.category]; done) | rfl) O0 ?_
  intro p e s m below meth c T0 G K0
  refine own_aloadN K0 d_prog_5_m1_0 rfl rfl rfl ?_
  refine own_callI K0 (a := x) (wd126 hw) (wd127 hw) (rm_record hw hs (x := x) K0.O) (wd130 hw) (wd129 hw) (by decide) rfl (argsL := []) (rest := []) rfl pd_2829V rfl rfl (W := 0) rfl (by decide) (by decide) (by decide) (by decide) d_prog_5_m1_1 rfl ?_
  intro T77 h77 L77 v77 K77 q77
  obtain ⟨rfl, e77⟩ := q77
  have f77 := e77.symm
  subst f77
  show G (T77.setTop (mkF m 4 #[.val (.ref x), .val (.ref fl), .val (.long ln), .second, .val (.ref ky), .val .null] []))
  refine own_lloadN K77 d_prog_5_m1_4 rfl rfl ?_
  refine own_lconst K77 (v := (0 : Int64)) d_prog_5_m1_5 rfl rfl ?_
  refine own_lcmp K77 d_prog_5_m1_6 rfl ?_
  refine own_ifNo K77 d_prog_5_m1_7 rfl ((if0 _ _).trans (flt (own_lc0 ln hln.1)).1) ?_
  refine own_lloadN K77 d_prog_5_m1_10 rfl rfl ?_
  refine own_lconst K77 (v := (0 : Int64)) d_prog_5_m1_11 rfl rfl ?_
  refine own_lcmp K77 d_prog_5_m1_12 rfl ?_
  refine own_ifYes K77 d_prog_5_m1_13 (pc' := 20) (by decide) (by decide) ((if0 _ _).trans (feq (own_lcn ln hln.2)).2) ?_
  refine own_iconst K77 (v := (0 : Int32)) d_prog_5_m1_20 rfl rfl ?_
  refine own_aload K77 d_prog_5_m1_21 rfl rfl rfl ?_
  refine own_ifnonnullYes K77 d_prog_5_m1_23 (pc' := 30) (by decide) (by decide) ?_
  refine own_iconst K77 (v := (0 : Int32)) d_prog_5_m1_30 rfl rfl ?_
  refine own_icmpNo K77 d_prog_5_m1_31 rfl (teq rfl).2 ?_
  refine own_aload K77 d_prog_5_m1_34 rfl rfl rfl ?_
  refine own_ifnullNo K77 d_prog_5_m1_36 rfl ?_
  refine own_aload K77 d_prog_5_m1_39 rfl rfl rfl ?_
  refine own_callV K77 (a := ky) (x0 := (⟨"java/lang/String", "isEmpty", "()Z"⟩ : MethodName)) (wd132 hw) (wd133 hw) (fun q => notFace_of_selects (args := #[]) (mvT q (wd135 hw))) (wd135 hw) (wd134 hw) (rm_isEmptyNo hw hs K77.O S hpos hlen) (wd136 hw) (wd3 hw) (by decide) S.exa (argsL := []) (rest := []) rfl pd_2829Z rfl rfl (W := 0) rfl (by decide) (by decide) (by decide) (by decide) d_prog_5_m1_41 rfl ?_
  intro T78 h78 L78 v78 K78 q78
  obtain ⟨rfl, e78⟩ := q78
  have f78 := e78.symm
  subst f78
  show G (T78.setTop (mkF m 44 #[.val (.ref x), .val (.ref fl), .val (.long ln), .second, .val (.ref ky), .val .null] [(.int (0 : Int32))]))
  refine own_ifYes K78 d_prog_5_m1_44 (pc' := 78) (by decide) (by decide) ((if0 _ _).trans (teq rfl).1) ?_
  refine own_aloadN K78 d_prog_5_m1_78 rfl rfl rfl ?_
  refine own_aloadN K78 d_prog_5_m1_79 rfl rfl rfl ?_
  refine own_putF K78 (host := "") (Or.inl (wd137 hw)) Via.refl F_file E (Or.inr ⟨(wd138 hw), rfl, rfl⟩) (wd115 hw) (ty := (.object "java/lang/String")) (by decide) rfl rfl gx d_prog_5_m1_80 rfl ?_
  intro T79 h79 K79 W79
  have G_file_W79 := (F_file.same W79)
  have G_line_W79 := (F_line.other W79 (Or.inr (slot_ne (Or.inr (wd140 hw)) (Or.inr (wd138 hw)) (by decide) (t := .long) (t' := (.object "java/lang/String")) (by decide) (by decide))))
  have G_key_W79 := (F_key.other W79 (Or.inr (slot_ne (Or.inr (wd142 hw)) (Or.inr (wd138 hw)) (by decide) (t := (.object "java/lang/String")) (t' := (.object "java/lang/String")) (by decide) (by decide))))
  have G_message_W79 := (F_message.other W79 (Or.inr (slot_ne (Or.inr (wd144 hw)) (Or.inr (wd138 hw)) (by decide) (t := (.object "java/lang/String")) (t' := (.object "java/lang/String")) (by decide) (by decide))))
  refine own_aloadN K79 d_prog_5_m1_83 rfl rfl rfl ?_
  refine own_lloadN K79 d_prog_5_m1_84 rfl rfl ?_
  refine own_putF K79 (host := "") (Or.inl (wd139 hw)) Via.refl G_line_W79 (E.wr W79) (Or.inr ⟨(wd140 hw), rfl, rfl⟩) (wd115 hw) (ty := .long) (by decide) rfl rfl gx d_prog_5_m1_85 rfl ?_
  intro T80 h80 K80 W80
  have G_file_W80 := (G_file_W79.other W80 (Or.inr (slot_ne (Or.inr (wd138 hw)) (Or.inr (wd140 hw)) (by decide) (t := (.object "java/lang/String")) (t' := .long) (by decide) (by decide))))
  have G_line_W80 := (G_line_W79.same W80)
  have G_key_W80 := (G_key_W79.other W80 (Or.inr (slot_ne (Or.inr (wd142 hw)) (Or.inr (wd140 hw)) (by decide) (t := (.object "java/lang/String")) (t' := .long) (by decide) (by decide))))
  have G_message_W80 := (G_message_W79.other W80 (Or.inr (slot_ne (Or.inr (wd144 hw)) (Or.inr (wd140 hw)) (by decide) (t := (.object "java/lang/String")) (t' := .long) (by decide) (by decide))))
  refine own_aloadN K80 d_prog_5_m1_88 rfl rfl rfl ?_
  refine own_aload K80 d_prog_5_m1_89 rfl rfl rfl ?_
  refine own_putF K80 (host := "") (Or.inl (wd141 hw)) Via.refl G_key_W80 ((E.wr W79).wr W80) (Or.inr ⟨(wd142 hw), rfl, rfl⟩) (wd115 hw) (ty := (.object "java/lang/String")) (by decide) rfl rfl gx d_prog_5_m1_91 rfl ?_
  intro T81 h81 K81 W81
  have G_file_W81 := (G_file_W80.other W81 (Or.inr (slot_ne (Or.inr (wd138 hw)) (Or.inr (wd142 hw)) (by decide) (t := (.object "java/lang/String")) (t' := (.object "java/lang/String")) (by decide) (by decide))))
  have G_line_W81 := (G_line_W80.other W81 (Or.inr (slot_ne (Or.inr (wd140 hw)) (Or.inr (wd142 hw)) (by decide) (t := .long) (t' := (.object "java/lang/String")) (by decide) (by decide))))
  have G_key_W81 := (G_key_W80.same W81)
  have G_message_W81 := (G_message_W80.other W81 (Or.inr (slot_ne (Or.inr (wd144 hw)) (Or.inr (wd142 hw)) (by decide) (t := (.object "java/lang/String")) (t' := (.object "java/lang/String")) (by decide) (by decide))))
  refine own_aloadN K81 d_prog_5_m1_94 rfl rfl rfl ?_
  refine own_aload K81 d_prog_5_m1_95 rfl rfl rfl ?_
  refine own_putF K81 (host := "") (Or.inl (wd143 hw)) Via.refl G_message_W81 (((E.wr W79).wr W80).wr W81) (Or.inr ⟨(wd144 hw), rfl, rfl⟩) (wd115 hw) (ty := (.object "java/lang/String")) (by decide) rfl rfl gx d_prog_5_m1_97 rfl ?_
  intro T82 h82 K82 W82
  have G_file_W82 := (G_file_W81.other W82 (Or.inr (slot_ne (Or.inr (wd138 hw)) (Or.inr (wd144 hw)) (by decide) (t := (.object "java/lang/String")) (t' := (.object "java/lang/String")) (by decide) (by decide))))
  have G_line_W82 := (G_line_W81.other W82 (Or.inr (slot_ne (Or.inr (wd140 hw)) (Or.inr (wd144 hw)) (by decide) (t := .long) (t' := (.object "java/lang/String")) (by decide) (by decide))))
  have G_key_W82 := (G_key_W81.other W82 (Or.inr (slot_ne (Or.inr (wd142 hw)) (Or.inr (wd144 hw)) (by decide) (t := (.object "java/lang/String")) (t' := (.object "java/lang/String")) (by decide) (by decide))))
  have G_message_W82 := (G_message_W81.same W82)
  exact own_ret0 K82 d_prog_5_m1_100 rfl (by decide) (by decide) ⟨rfl, (((((Keep.refl h0 [x]).wr W79 (Or.inl (List.mem_singleton.mpr rfl))).wr W80 (Or.inl (List.mem_singleton.mpr rfl))).wr W81 (Or.inl (List.mem_singleton.mpr rfl))).wr W82 (Or.inl (List.mem_singleton.mpr rfl))), ((((E.wr W79).wr W80).wr W81).wr W82), G_file_W82, G_line_W82, G_key_W82, G_message_W82⟩
set_option maxRecDepth 65536 in
set_option maxHeartbeats 40000000 in
theorem rm_faultRN {l : Launch} {Z : State} {a0 : Array Value} (hw : ∀ d ∈ tables_1, d.before a0 Z = true) (hs : ∀ d ∈ jdkStatics_1, d.before a0 Z = true) {x : Addr} {fl : Addr} {ln : Int64} {ky : Addr} {cs : List Int32} {h0 : Heap} (O0 : Ext Z.heap h0) (E : Exa Z h0 x "com/example/tallymark/tallymark/FileFormatException") (FL : Fld Z h0 x "com/example/tallymark/tallymark/FileFormatException" "line" "J" (.long ln)) (FK : Fld Z h0 x "com/example/tallymark/tallymark/FileFormatException" "key" "Ljava/lang/String;" (.ref ky)) (FM : Fld Z h0 x "java/lang/Throwable" "detailMessage" "Ljava/lang/String;" .null) (hln : ¬ ln < 0 ∧ ¬ ln = 0) (S : own_Str Z h0 ky cs) (hpos : 0 < cs.length) (hlen : cs.length ≤ 4000) :
    own_Ct l Z (⟨"com/example/tallymark/tallymark/FileFormatException", "fault", "(Ljava/lang/String;)Lcom/example/tallymark/tallymark/Fault;"⟩ : MethodName) prog_7_method_3_code 2 (some (.object "com/example/tallymark/tallymark/Fault")) [] ({ frames := 3, locals := 42, cells := 1, slots := 4 } : Room) #[(.ref x), (.ref fl)] h0 (fun v h => ∃ a : Addr, v = some (.ref a) ∧ Ext h0 h ∧ Exa Z h a "com/example/tallymark/tallymark/Fault" ∧ Fld Z h a "com/example/tallymark/tallymark/Fault" "file" "Ljava/lang/String;" (.ref fl) ∧ Fld Z h a "com/example/tallymark/tallymark/Fault" "line" "J" (.long ln) ∧ Fld Z h a "com/example/tallymark/tallymark/Fault" "key" "Ljava/lang/String;" (.ref ky) ∧ Fld Z h a "com/example/tallymark/tallymark/Fault" "message" "Ljava/lang/String;" .null) := by
  refine own_body (Ls := #[.val (.ref x), .val (.ref fl)]) (plainFor_of_name pn_com_example_tallymark_tallymark_FileFormatException) (fun m => by first | (simp [entryFrame, mkF, argsToLocals, Value.category]; done) | rfl) O0 ?_
  intro p e s m below meth c T0 G K0
  refine own_newO K0 (wd114 hw) (wd115 hw) (wd116 hw) d_prog_7_m3_0 (by decide) (by decide) rfl ?_
  intro T83 h83 a83 K83 g83 E83 A83 D83 U83
  have F_file_83 : Fld Z h83 a83 "com/example/tallymark/tallymark/Fault" "file" "Ljava/lang/String;" .null := D83 (Or.inr (wd138 hw)) (ty := (.object "java/lang/String")) (by decide)
  have F_line_83 : Fld Z h83 a83 "com/example/tallymark/tallymark/Fault" "line" "J" (.long (0 : Int64)) := D83 (Or.inr (wd140 hw)) (ty := .long) (by decide)
  have F_key_83 : Fld Z h83 a83 "com/example/tallymark/tallymark/Fault" "key" "Ljava/lang/String;" .null := D83 (Or.inr (wd142 hw)) (ty := (.object "java/lang/String")) (by decide)
  have F_message_83 : Fld Z h83 a83 "com/example/tallymark/tallymark/Fault" "message" "Ljava/lang/String;" .null := D83 (Or.inr (wd144 hw)) (ty := (.object "java/lang/String")) (by decide)
  refine own_dup K83 d_prog_7_m3_3 rfl rfl ?_
  refine own_aloadN K83 d_prog_7_m3_4 rfl rfl rfl ?_
  refine own_aloadN K83 d_prog_7_m3_5 rfl rfl rfl ?_
  refine own_getF K83 (host := "") (Or.inl (wd105 hw)) Via.refl (FL.ext E83) d_prog_7_m3_6 rfl ?_
  intro T84 K84
  refine own_aloadN K84 d_prog_7_m3_9 rfl rfl rfl ?_
  refine own_getF K84 (host := "") (Or.inl (wd107 hw)) Via.refl (FK.ext E83) d_prog_7_m3_10 rfl ?_
  intro T85 K85
  refine own_aloadN K85 d_prog_7_m3_13 rfl rfl rfl ?_
  refine own_callVU K85 (a := x) (owner := "java/lang/Throwable") (x0 := (⟨"com/example/tallymark/tallymark/FileFormatException", "getMessage", "()Ljava/lang/String;"⟩ : MethodName)) (wd117 hw) (wd118 hw) (wd119 hw) (wd121 hw) (wd120 hw) (rm_getMessageN hw hs K85.O (FM.ext E83)) (wd122 hw) (wd66 hw) (by decide) (E.ext E83) (argsL := []) (rest := [(.ref ky), (.long ln), (.ref fl), (.ref a83), (.ref a83)]) rfl pd_2829Ljava2flang2fString3b rfl rfl (W := 6) rfl (by decide) (by decide) (by decide) (by decide) d_prog_7_m3_14 rfl ?_
  intro T86 h86 L86 v86 K86 q86
  obtain ⟨rfl, e86⟩ := q86
  have f86 := e86.symm
  subst f86
  show G (T86.setTop (mkF m 17 #[.val (.ref x), .val (.ref fl)] [.null, (.ref ky), (.long ln), (.ref fl), (.ref a83), (.ref a83)]))
  have gx83 : Z.heap.size ≤ a83 := by rw [g83]; exact K0.O.1
  refine own_callI K86 (a := a83) (wd123 hw) (wd124 hw) (rm_finRN hw hs K86.O A83 F_file_83 F_line_83 F_key_83 F_message_83 gx83 hln (S.ext E83) hpos hlen) (wd125 hw) (wd116 hw) (by decide) rfl (argsL := [(.ref fl), (.long ln), (.ref ky), .null]) (rest := [(.ref a83)]) rfl pd_28Ljava2flang2fString3bJLjava2flang2fString3bLjava2flang2fString3b29V rfl rfl (W := 1) rfl (by decide) (by decide) (by decide) (by decide) d_prog_7_m3_17 rfl ?_
  intro T87 h87 L87 v87 K87 q87
  obtain ⟨rfl, Kp87, A87, file87, line87, key87, message87⟩ := q87
  show G (T87.setTop (mkF m 20 #[.val (.ref x), .val (.ref fl)] [(.ref a83)]))
  exact own_retA K87 d_prog_7_m3_20 rfl rfl rfl rfl (by decide) (by decide) ⟨a83, rfl, own_ext_keep E83 Kp87 (fun y q => by cases List.mem_singleton.mp q; exact Nat.le_of_eq g83.symm), A87, file87, line87, key87, message87⟩
set_option maxRecDepth 65536 in
set_option maxHeartbeats 40000000 in
theorem rm_finRR {l : Launch} {Z : State} {a0 : Array Value} (hw : ∀ d ∈ tables_1, d.before a0 Z = true) (hs : ∀ d ∈ jdkStatics_1, d.before a0 Z = true) {x : Addr} {fl : Addr} {ln : Int64} {ky : Addr} {cs : List Int32} {mg : Addr} {h0 : Heap} (O0 : Ext Z.heap h0) (E : Exa Z h0 x "com/example/tallymark/tallymark/Fault") (F_file : Fld Z h0 x "com/example/tallymark/tallymark/Fault" "file" "Ljava/lang/String;" .null) (F_line : Fld Z h0 x "com/example/tallymark/tallymark/Fault" "line" "J" (.long 0)) (F_key : Fld Z h0 x "com/example/tallymark/tallymark/Fault" "key" "Ljava/lang/String;" .null) (F_message : Fld Z h0 x "com/example/tallymark/tallymark/Fault" "message" "Ljava/lang/String;" .null) (gx : Z.heap.size ≤ x) (hln : ¬ ln < 0 ∧ ¬ ln = 0) (S : own_Str Z h0 ky cs) (hpos : 0 < cs.length) (hlen : cs.length ≤ 4000) :
    own_Ct l Z (⟨"com/example/tallymark/tallymark/Fault", "<init>", "(Ljava/lang/String;JLjava/lang/String;Ljava/lang/String;)V"⟩ : MethodName) prog_5_method_1_code 6 none [] ({ frames := 2, locals := 24, cells := 0, slots := 0 } : Room) #[(.ref x), (.ref fl), (.long ln), (.ref ky), (.ref mg)] h0 (fun v h => v = none ∧ Keep h0 h [x] ∧ Exa Z h x "com/example/tallymark/tallymark/Fault" ∧ Fld Z h x "com/example/tallymark/tallymark/Fault" "file" "Ljava/lang/String;" (.ref fl) ∧ Fld Z h x "com/example/tallymark/tallymark/Fault" "line" "J" (.long ln) ∧ Fld Z h x "com/example/tallymark/tallymark/Fault" "key" "Ljava/lang/String;" (.ref ky) ∧ Fld Z h x "com/example/tallymark/tallymark/Fault" "message" "Ljava/lang/String;" (.ref mg)) := by
  refine own_body (Ls := #[.val (.ref x), .val (.ref fl), .val (.long ln), .second, .val (.ref ky), .val (.ref mg)]) (plainFor_of_name pn_com_example_tallymark_tallymark_Fault) (fun m => by first | (simp [entryFrame, mkF, argsToLocals, Value.category]; done) | rfl) O0 ?_
  intro p e s m below meth c T0 G K0
  refine own_aloadN K0 d_prog_5_m1_0 rfl rfl rfl ?_
  refine own_callI K0 (a := x) (wd126 hw) (wd127 hw) (rm_record hw hs (x := x) K0.O) (wd130 hw) (wd129 hw) (by decide) rfl (argsL := []) (rest := []) rfl pd_2829V rfl rfl (W := 0) rfl (by decide) (by decide) (by decide) (by decide) d_prog_5_m1_1 rfl ?_
  intro T88 h88 L88 v88 K88 q88
  obtain ⟨rfl, e88⟩ := q88
  have f88 := e88.symm
  subst f88
  show G (T88.setTop (mkF m 4 #[.val (.ref x), .val (.ref fl), .val (.long ln), .second, .val (.ref ky), .val (.ref mg)] []))
  refine own_lloadN K88 d_prog_5_m1_4 rfl rfl ?_
  refine own_lconst K88 (v := (0 : Int64)) d_prog_5_m1_5 rfl rfl ?_
  refine own_lcmp K88 d_prog_5_m1_6 rfl ?_
  refine own_ifNo K88 d_prog_5_m1_7 rfl ((if0 _ _).trans (flt (own_lc0 ln hln.1)).1) ?_
  refine own_lloadN K88 d_prog_5_m1_10 rfl rfl ?_
  refine own_lconst K88 (v := (0 : Int64)) d_prog_5_m1_11 rfl rfl ?_
  refine own_lcmp K88 d_prog_5_m1_12 rfl ?_
  refine own_ifYes K88 d_prog_5_m1_13 (pc' := 20) (by decide) (by decide) ((if0 _ _).trans (feq (own_lcn ln hln.2)).2) ?_
  refine own_iconst K88 (v := (0 : Int32)) d_prog_5_m1_20 rfl rfl ?_
  refine own_aload K88 d_prog_5_m1_21 rfl rfl rfl ?_
  refine own_ifnonnullYes K88 d_prog_5_m1_23 (pc' := 30) (by decide) (by decide) ?_
  refine own_iconst K88 (v := (0 : Int32)) d_prog_5_m1_30 rfl rfl ?_
  refine own_icmpNo K88 d_prog_5_m1_31 rfl (teq rfl).2 ?_
  refine own_aload K88 d_prog_5_m1_34 rfl rfl rfl ?_
  refine own_ifnullNo K88 d_prog_5_m1_36 rfl ?_
  refine own_aload K88 d_prog_5_m1_39 rfl rfl rfl ?_
  refine own_callV K88 (a := ky) (x0 := (⟨"java/lang/String", "isEmpty", "()Z"⟩ : MethodName)) (wd132 hw) (wd133 hw) (fun q => notFace_of_selects (args := #[]) (mvT q (wd135 hw))) (wd135 hw) (wd134 hw) (rm_isEmptyNo hw hs K88.O S hpos hlen) (wd136 hw) (wd3 hw) (by decide) S.exa (argsL := []) (rest := []) rfl pd_2829Z rfl rfl (W := 0) rfl (by decide) (by decide) (by decide) (by decide) d_prog_5_m1_41 rfl ?_
  intro T89 h89 L89 v89 K89 q89
  obtain ⟨rfl, e89⟩ := q89
  have f89 := e89.symm
  subst f89
  show G (T89.setTop (mkF m 44 #[.val (.ref x), .val (.ref fl), .val (.long ln), .second, .val (.ref ky), .val (.ref mg)] [(.int (0 : Int32))]))
  refine own_ifYes K89 d_prog_5_m1_44 (pc' := 78) (by decide) (by decide) ((if0 _ _).trans (teq rfl).1) ?_
  refine own_aloadN K89 d_prog_5_m1_78 rfl rfl rfl ?_
  refine own_aloadN K89 d_prog_5_m1_79 rfl rfl rfl ?_
  refine own_putF K89 (host := "") (Or.inl (wd137 hw)) Via.refl F_file E (Or.inr ⟨(wd138 hw), rfl, rfl⟩) (wd115 hw) (ty := (.object "java/lang/String")) (by decide) rfl rfl gx d_prog_5_m1_80 rfl ?_
  intro T90 h90 K90 W90
  have G_file_W90 := (F_file.same W90)
  have G_line_W90 := (F_line.other W90 (Or.inr (slot_ne (Or.inr (wd140 hw)) (Or.inr (wd138 hw)) (by decide) (t := .long) (t' := (.object "java/lang/String")) (by decide) (by decide))))
  have G_key_W90 := (F_key.other W90 (Or.inr (slot_ne (Or.inr (wd142 hw)) (Or.inr (wd138 hw)) (by decide) (t := (.object "java/lang/String")) (t' := (.object "java/lang/String")) (by decide) (by decide))))
  have G_message_W90 := (F_message.other W90 (Or.inr (slot_ne (Or.inr (wd144 hw)) (Or.inr (wd138 hw)) (by decide) (t := (.object "java/lang/String")) (t' := (.object "java/lang/String")) (by decide) (by decide))))
  refine own_aloadN K90 d_prog_5_m1_83 rfl rfl rfl ?_
  refine own_lloadN K90 d_prog_5_m1_84 rfl rfl ?_
  refine own_putF K90 (host := "") (Or.inl (wd139 hw)) Via.refl G_line_W90 (E.wr W90) (Or.inr ⟨(wd140 hw), rfl, rfl⟩) (wd115 hw) (ty := .long) (by decide) rfl rfl gx d_prog_5_m1_85 rfl ?_
  intro T91 h91 K91 W91
  have G_file_W91 := (G_file_W90.other W91 (Or.inr (slot_ne (Or.inr (wd138 hw)) (Or.inr (wd140 hw)) (by decide) (t := (.object "java/lang/String")) (t' := .long) (by decide) (by decide))))
  have G_line_W91 := (G_line_W90.same W91)
  have G_key_W91 := (G_key_W90.other W91 (Or.inr (slot_ne (Or.inr (wd142 hw)) (Or.inr (wd140 hw)) (by decide) (t := (.object "java/lang/String")) (t' := .long) (by decide) (by decide))))
  have G_message_W91 := (G_message_W90.other W91 (Or.inr (slot_ne (Or.inr (wd144 hw)) (Or.inr (wd140 hw)) (by decide) (t := (.object "java/lang/String")) (t' := .long) (by decide) (by decide))))
  refine own_aloadN K91 d_prog_5_m1_88 rfl rfl rfl ?_
  refine own_aload K91 d_prog_5_m1_89 rfl rfl rfl ?_
  refine own_putF K91 (host := "") (Or.inl (wd141 hw)) Via.refl G_key_W91 ((E.wr W90).wr W91) (Or.inr ⟨(wd142 hw), rfl, rfl⟩) (wd115 hw) (ty := (.object "java/lang/String")) (by decide) rfl rfl gx d_prog_5_m1_91 rfl ?_
  intro T92 h92 K92 W92
  have G_file_W92 := (G_file_W91.other W92 (Or.inr (slot_ne (Or.inr (wd138 hw)) (Or.inr (wd142 hw)) (by decide) (t := (.object "java/lang/String")) (t' := (.object "java/lang/String")) (by decide) (by decide))))
  have G_line_W92 := (G_line_W91.other W92 (Or.inr (slot_ne (Or.inr (wd140 hw)) (Or.inr (wd142 hw)) (by decide) (t := .long) (t' := (.object "java/lang/String")) (by decide) (by decide))))
  have G_key_W92 := (G_key_W91.same W92)
  have G_message_W92 := (G_message_W91.other W92 (Or.inr (slot_ne (Or.inr (wd144 hw)) (Or.inr (wd142 hw)) (by decide) (t := (.object "java/lang/String")) (t' := (.object "java/lang/String")) (by decide) (by decide))))
  refine own_aloadN K92 d_prog_5_m1_94 rfl rfl rfl ?_
  refine own_aload K92 d_prog_5_m1_95 rfl rfl rfl ?_
  refine own_putF K92 (host := "") (Or.inl (wd143 hw)) Via.refl G_message_W92 (((E.wr W90).wr W91).wr W92) (Or.inr ⟨(wd144 hw), rfl, rfl⟩) (wd115 hw) (ty := (.object "java/lang/String")) (by decide) rfl rfl gx d_prog_5_m1_97 rfl ?_
  intro T93 h93 K93 W93
  have G_file_W93 := (G_file_W92.other W93 (Or.inr (slot_ne (Or.inr (wd138 hw)) (Or.inr (wd144 hw)) (by decide) (t := (.object "java/lang/String")) (t' := (.object "java/lang/String")) (by decide) (by decide))))
  have G_line_W93 := (G_line_W92.other W93 (Or.inr (slot_ne (Or.inr (wd140 hw)) (Or.inr (wd144 hw)) (by decide) (t := .long) (t' := (.object "java/lang/String")) (by decide) (by decide))))
  have G_key_W93 := (G_key_W92.other W93 (Or.inr (slot_ne (Or.inr (wd142 hw)) (Or.inr (wd144 hw)) (by decide) (t := (.object "java/lang/String")) (t' := (.object "java/lang/String")) (by decide) (by decide))))
  have G_message_W93 := (G_message_W92.same W93)
  exact own_ret0 K93 d_prog_5_m1_100 rfl (by decide) (by decide) ⟨rfl, (((((Keep.refl h0 [x]).wr W90 (Or.inl (List.mem_singleton.mpr rfl))).wr W91 (Or.inl (List.mem_singleton.mpr rfl))).wr W92 (Or.inl (List.mem_singleton.mpr rfl))).wr W93 (Or.inl (List.mem_singleton.mpr rfl))), ((((E.wr W90).wr W91).wr W92).wr W93), G_file_W93, G_line_W93, G_key_W93, G_message_W93⟩
set_option maxRecDepth 65536 in
set_option maxHeartbeats 40000000 in
theorem rm_faultRR {l : Launch} {Z : State} {a0 : Array Value} (hw : ∀ d ∈ tables_1, d.before a0 Z = true) (hs : ∀ d ∈ jdkStatics_1, d.before a0 Z = true) {x : Addr} {fl : Addr} {ln : Int64} {ky : Addr} {cs : List Int32} {mg : Addr} {h0 : Heap} (O0 : Ext Z.heap h0) (E : Exa Z h0 x "com/example/tallymark/tallymark/FileFormatException") (FL : Fld Z h0 x "com/example/tallymark/tallymark/FileFormatException" "line" "J" (.long ln)) (FK : Fld Z h0 x "com/example/tallymark/tallymark/FileFormatException" "key" "Ljava/lang/String;" (.ref ky)) (FM : Fld Z h0 x "java/lang/Throwable" "detailMessage" "Ljava/lang/String;" (.ref mg)) (hln : ¬ ln < 0 ∧ ¬ ln = 0) (S : own_Str Z h0 ky cs) (hpos : 0 < cs.length) (hlen : cs.length ≤ 4000) :
    own_Ct l Z (⟨"com/example/tallymark/tallymark/FileFormatException", "fault", "(Ljava/lang/String;)Lcom/example/tallymark/tallymark/Fault;"⟩ : MethodName) prog_7_method_3_code 2 (some (.object "com/example/tallymark/tallymark/Fault")) [] ({ frames := 3, locals := 42, cells := 1, slots := 4 } : Room) #[(.ref x), (.ref fl)] h0 (fun v h => ∃ a : Addr, v = some (.ref a) ∧ Ext h0 h ∧ Exa Z h a "com/example/tallymark/tallymark/Fault" ∧ Fld Z h a "com/example/tallymark/tallymark/Fault" "file" "Ljava/lang/String;" (.ref fl) ∧ Fld Z h a "com/example/tallymark/tallymark/Fault" "line" "J" (.long ln) ∧ Fld Z h a "com/example/tallymark/tallymark/Fault" "key" "Ljava/lang/String;" (.ref ky) ∧ Fld Z h a "com/example/tallymark/tallymark/Fault" "message" "Ljava/lang/String;" (.ref mg)) := by
  refine own_body (Ls := #[.val (.ref x), .val (.ref fl)]) (plainFor_of_name pn_com_example_tallymark_tallymark_FileFormatException) (fun m => by first | (simp [entryFrame, mkF, argsToLocals, Value.category]; done) | rfl) O0 ?_
  intro p e s m below meth c T0 G K0
  refine own_newO K0 (wd114 hw) (wd115 hw) (wd116 hw) d_prog_7_m3_0 (by decide) (by decide) rfl ?_
  intro T94 h94 a94 K94 g94 E94 A94 D94 U94
  have F_file_94 : Fld Z h94 a94 "com/example/tallymark/tallymark/Fault" "file" "Ljava/lang/String;" .null := D94 (Or.inr (wd138 hw)) (ty := (.object "java/lang/String")) (by decide)
  have F_line_94 : Fld Z h94 a94 "com/example/tallymark/tallymark/Fault" "line" "J" (.long (0 : Int64)) := D94 (Or.inr (wd140 hw)) (ty := .long) (by decide)
  have F_key_94 : Fld Z h94 a94 "com/example/tallymark/tallymark/Fault" "key" "Ljava/lang/String;" .null := D94 (Or.inr (wd142 hw)) (ty := (.object "java/lang/String")) (by decide)
  have F_message_94 : Fld Z h94 a94 "com/example/tallymark/tallymark/Fault" "message" "Ljava/lang/String;" .null := D94 (Or.inr (wd144 hw)) (ty := (.object "java/lang/String")) (by decide)
  refine own_dup K94 d_prog_7_m3_3 rfl rfl ?_
  refine own_aloadN K94 d_prog_7_m3_4 rfl rfl rfl ?_
  refine own_aloadN K94 d_prog_7_m3_5 rfl rfl rfl ?_
  refine own_getF K94 (host := "") (Or.inl (wd105 hw)) Via.refl (FL.ext E94) d_prog_7_m3_6 rfl ?_
  intro T95 K95
  refine own_aloadN K95 d_prog_7_m3_9 rfl rfl rfl ?_
  refine own_getF K95 (host := "") (Or.inl (wd107 hw)) Via.refl (FK.ext E94) d_prog_7_m3_10 rfl ?_
  intro T96 K96
  refine own_aloadN K96 d_prog_7_m3_13 rfl rfl rfl ?_
  refine own_callVU K96 (a := x) (owner := "java/lang/Throwable") (x0 := (⟨"com/example/tallymark/tallymark/FileFormatException", "getMessage", "()Ljava/lang/String;"⟩ : MethodName)) (wd117 hw) (wd118 hw) (wd119 hw) (wd121 hw) (wd120 hw) (rm_getMessageR hw hs K96.O (FM.ext E94)) (wd122 hw) (wd66 hw) (by decide) (E.ext E94) (argsL := []) (rest := [(.ref ky), (.long ln), (.ref fl), (.ref a94), (.ref a94)]) rfl pd_2829Ljava2flang2fString3b rfl rfl (W := 6) rfl (by decide) (by decide) (by decide) (by decide) d_prog_7_m3_14 rfl ?_
  intro T97 h97 L97 v97 K97 q97
  obtain ⟨rfl, e97⟩ := q97
  have f97 := e97.symm
  subst f97
  show G (T97.setTop (mkF m 17 #[.val (.ref x), .val (.ref fl)] [(.ref mg), (.ref ky), (.long ln), (.ref fl), (.ref a94), (.ref a94)]))
  have gx94 : Z.heap.size ≤ a94 := by rw [g94]; exact K0.O.1
  refine own_callI K97 (a := a94) (wd123 hw) (wd124 hw) (rm_finRR hw hs K97.O A94 F_file_94 F_line_94 F_key_94 F_message_94 gx94 hln (S.ext E94) hpos hlen) (wd125 hw) (wd116 hw) (by decide) rfl (argsL := [(.ref fl), (.long ln), (.ref ky), (.ref mg)]) (rest := [(.ref a94)]) rfl pd_28Ljava2flang2fString3bJLjava2flang2fString3bLjava2flang2fString3b29V rfl rfl (W := 1) rfl (by decide) (by decide) (by decide) (by decide) d_prog_7_m3_17 rfl ?_
  intro T98 h98 L98 v98 K98 q98
  obtain ⟨rfl, Kp98, A98, file98, line98, key98, message98⟩ := q98
  show G (T98.setTop (mkF m 20 #[.val (.ref x), .val (.ref fl)] [(.ref a94)]))
  exact own_retA K98 d_prog_7_m3_20 rfl rfl rfl rfl (by decide) (by decide) ⟨a94, rfl, own_ext_keep E94 Kp98 (fun y q => by cases List.mem_singleton.mp q; exact Nat.le_of_eq g94.symm), A98, file98, line98, key98, message98⟩
theorem d_prog_5_m6_0 : decode prog_5_method_6_code 0 = .ok (.aload_n 0, 1) := by decide +kernel
theorem d_prog_5_m6_1 : decode prog_5_method_6_code 1 = .ok (.getfield 27, 3) := by decide +kernel
theorem d_prog_5_m6_4 : decode prog_5_method_6_code 4 = .ok (.areturn, 1) := by decide +kernel
set_option maxRecDepth 65536 in
set_option maxHeartbeats 40000000 in
theorem rm_fileR {l : Launch} {Z : State} {a0 : Array Value} (hw : ∀ d ∈ tables_1, d.before a0 Z = true) (hs : ∀ d ∈ jdkStatics_1, d.before a0 Z = true) {x : Addr} {u : Addr} {h0 : Heap} (O0 : Ext Z.heap h0) (F : Fld Z h0 x "com/example/tallymark/tallymark/Fault" "file" "Ljava/lang/String;" (.ref u)) :
    own_Ct l Z (⟨"com/example/tallymark/tallymark/Fault", "file", "()Ljava/lang/String;"⟩ : MethodName) prog_5_method_6_code 1 (some (.object "java/lang/String")) [] ({ frames := 0, locals := 0, cells := 0, slots := 0 } : Room) #[(.ref x)] h0 (fun v h => v = some (.ref u) ∧ h = h0) := by
  refine own_body (Ls := #[.val (.ref x)]) (plainFor_of_name pn_com_example_tallymark_tallymark_Fault) (fun m => by first | (simp [entryFrame, mkF, argsToLocals, Value.category]; done) | rfl) O0 ?_
  intro p e s m below meth c T0 G K0
  refine own_aloadN K0 d_prog_5_m6_0 rfl rfl rfl ?_
  refine own_getF K0 (host := "") (Or.inl (wd137 hw)) Via.refl F d_prog_5_m6_1 rfl ?_
  intro T99 K99
  exact own_retA K99 d_prog_5_m6_4 rfl rfl rfl rfl (by decide) (by decide) ⟨rfl, rfl⟩
theorem d_prog_5_m7_0 : decode prog_5_method_7_code 0 = .ok (.aload_n 0, 1) := by decide +kernel
theorem d_prog_5_m7_1 : decode prog_5_method_7_code 1 = .ok (.getfield 33, 3) := by decide +kernel
theorem d_prog_5_m7_4 : decode prog_5_method_7_code 4 = .ok (.lreturn, 1) := by decide +kernel
set_option maxRecDepth 65536 in
set_option maxHeartbeats 40000000 in
theorem rm_lineJ {l : Launch} {Z : State} {a0 : Array Value} (hw : ∀ d ∈ tables_1, d.before a0 Z = true) (hs : ∀ d ∈ jdkStatics_1, d.before a0 Z = true) {x : Addr} {u : Int64} {h0 : Heap} (O0 : Ext Z.heap h0) (F : Fld Z h0 x "com/example/tallymark/tallymark/Fault" "line" "J" (.long u)) :
    own_Ct l Z (⟨"com/example/tallymark/tallymark/Fault", "line", "()J"⟩ : MethodName) prog_5_method_7_code 1 (some .long) [] ({ frames := 0, locals := 0, cells := 0, slots := 0 } : Room) #[(.ref x)] h0 (fun v h => v = some (.long u) ∧ h = h0) := by
  refine own_body (Ls := #[.val (.ref x)]) (plainFor_of_name pn_com_example_tallymark_tallymark_Fault) (fun m => by first | (simp [entryFrame, mkF, argsToLocals, Value.category]; done) | rfl) O0 ?_
  intro p e s m below meth c T0 G K0
  refine own_aloadN K0 d_prog_5_m7_0 rfl rfl rfl ?_
  refine own_getF K0 (host := "") (Or.inl (wd139 hw)) Via.refl F d_prog_5_m7_1 rfl ?_
  intro T100 K100
  exact own_retJ K100 d_prog_5_m7_4 rfl (by decide) (by decide) ⟨rfl, rfl⟩
theorem d_prog_5_m8_0 : decode prog_5_method_8_code 0 = .ok (.aload_n 0, 1) := by decide +kernel
theorem d_prog_5_m8_1 : decode prog_5_method_8_code 1 = .ok (.getfield 37, 3) := by decide +kernel
theorem d_prog_5_m8_4 : decode prog_5_method_8_code 4 = .ok (.areturn, 1) := by decide +kernel
set_option maxRecDepth 65536 in
set_option maxHeartbeats 40000000 in
theorem rm_keyR {l : Launch} {Z : State} {a0 : Array Value} (hw : ∀ d ∈ tables_1, d.before a0 Z = true) (hs : ∀ d ∈ jdkStatics_1, d.before a0 Z = true) {x : Addr} {u : Addr} {h0 : Heap} (O0 : Ext Z.heap h0) (F : Fld Z h0 x "com/example/tallymark/tallymark/Fault" "key" "Ljava/lang/String;" (.ref u)) :
    own_Ct l Z (⟨"com/example/tallymark/tallymark/Fault", "key", "()Ljava/lang/String;"⟩ : MethodName) prog_5_method_8_code 1 (some (.object "java/lang/String")) [] ({ frames := 0, locals := 0, cells := 0, slots := 0 } : Room) #[(.ref x)] h0 (fun v h => v = some (.ref u) ∧ h = h0) := by
  refine own_body (Ls := #[.val (.ref x)]) (plainFor_of_name pn_com_example_tallymark_tallymark_Fault) (fun m => by first | (simp [entryFrame, mkF, argsToLocals, Value.category]; done) | rfl) O0 ?_
  intro p e s m below meth c T0 G K0
  refine own_aloadN K0 d_prog_5_m8_0 rfl rfl rfl ?_
  refine own_getF K0 (host := "") (Or.inl (wd141 hw)) Via.refl F d_prog_5_m8_1 rfl ?_
  intro T101 K101
  exact own_retA K101 d_prog_5_m8_4 rfl rfl rfl rfl (by decide) (by decide) ⟨rfl, rfl⟩
set_option maxRecDepth 65536 in
set_option maxHeartbeats 40000000 in
theorem rm_keyN {l : Launch} {Z : State} {a0 : Array Value} (hw : ∀ d ∈ tables_1, d.before a0 Z = true) (hs : ∀ d ∈ jdkStatics_1, d.before a0 Z = true) {x : Addr} {h0 : Heap} (O0 : Ext Z.heap h0) (F : Fld Z h0 x "com/example/tallymark/tallymark/Fault" "key" "Ljava/lang/String;" .null) :
    own_Ct l Z (⟨"com/example/tallymark/tallymark/Fault", "key", "()Ljava/lang/String;"⟩ : MethodName) prog_5_method_8_code 1 (some (.object "java/lang/String")) [] ({ frames := 0, locals := 0, cells := 0, slots := 0 } : Room) #[(.ref x)] h0 (fun v h => v = some .null ∧ h = h0) := by
  refine own_body (Ls := #[.val (.ref x)]) (plainFor_of_name pn_com_example_tallymark_tallymark_Fault) (fun m => by first | (simp [entryFrame, mkF, argsToLocals, Value.category]; done) | rfl) O0 ?_
  intro p e s m below meth c T0 G K0
  refine own_aloadN K0 d_prog_5_m8_0 rfl rfl rfl ?_
  refine own_getF K0 (host := "") (Or.inl (wd141 hw)) Via.refl F d_prog_5_m8_1 rfl ?_
  intro T102 K102
  exact own_retA K102 d_prog_5_m8_4 rfl rfl rfl rfl (by decide) (by decide) ⟨rfl, rfl⟩
theorem d_prog_5_m9_0 : decode prog_5_method_9_code 0 = .ok (.aload_n 0, 1) := by decide +kernel
theorem d_prog_5_m9_1 : decode prog_5_method_9_code 1 = .ok (.getfield 40, 3) := by decide +kernel
theorem d_prog_5_m9_4 : decode prog_5_method_9_code 4 = .ok (.areturn, 1) := by decide +kernel
set_option maxRecDepth 65536 in
set_option maxHeartbeats 40000000 in
theorem rm_messageR {l : Launch} {Z : State} {a0 : Array Value} (hw : ∀ d ∈ tables_1, d.before a0 Z = true) (hs : ∀ d ∈ jdkStatics_1, d.before a0 Z = true) {x : Addr} {u : Addr} {h0 : Heap} (O0 : Ext Z.heap h0) (F : Fld Z h0 x "com/example/tallymark/tallymark/Fault" "message" "Ljava/lang/String;" (.ref u)) :
    own_Ct l Z (⟨"com/example/tallymark/tallymark/Fault", "message", "()Ljava/lang/String;"⟩ : MethodName) prog_5_method_9_code 1 (some (.object "java/lang/String")) [] ({ frames := 0, locals := 0, cells := 0, slots := 0 } : Room) #[(.ref x)] h0 (fun v h => v = some (.ref u) ∧ h = h0) := by
  refine own_body (Ls := #[.val (.ref x)]) (plainFor_of_name pn_com_example_tallymark_tallymark_Fault) (fun m => by first | (simp [entryFrame, mkF, argsToLocals, Value.category]; done) | rfl) O0 ?_
  intro p e s m below meth c T0 G K0
  refine own_aloadN K0 d_prog_5_m9_0 rfl rfl rfl ?_
  refine own_getF K0 (host := "") (Or.inl (wd143 hw)) Via.refl F d_prog_5_m9_1 rfl ?_
  intro T103 K103
  exact own_retA K103 d_prog_5_m9_4 rfl rfl rfl rfl (by decide) (by decide) ⟨rfl, rfl⟩
set_option maxRecDepth 65536 in
set_option maxHeartbeats 40000000 in
theorem rm_messageN {l : Launch} {Z : State} {a0 : Array Value} (hw : ∀ d ∈ tables_1, d.before a0 Z = true) (hs : ∀ d ∈ jdkStatics_1, d.before a0 Z = true) {x : Addr} {h0 : Heap} (O0 : Ext Z.heap h0) (F : Fld Z h0 x "com/example/tallymark/tallymark/Fault" "message" "Ljava/lang/String;" .null) :
    own_Ct l Z (⟨"com/example/tallymark/tallymark/Fault", "message", "()Ljava/lang/String;"⟩ : MethodName) prog_5_method_9_code 1 (some (.object "java/lang/String")) [] ({ frames := 0, locals := 0, cells := 0, slots := 0 } : Room) #[(.ref x)] h0 (fun v h => v = some .null ∧ h = h0) := by
  refine own_body (Ls := #[.val (.ref x)]) (plainFor_of_name pn_com_example_tallymark_tallymark_Fault) (fun m => by first | (simp [entryFrame, mkF, argsToLocals, Value.category]; done) | rfl) O0 ?_
  intro p e s m below meth c T0 G K0
  refine own_aloadN K0 d_prog_5_m9_0 rfl rfl rfl ?_
  refine own_getF K0 (host := "") (Or.inl (wd143 hw)) Via.refl F d_prog_5_m9_1 rfl ?_
  intro T104 K104
  exact own_retA K104 d_prog_5_m9_4 rfl rfl rfl rfl (by decide) (by decide) ⟨rfl, rfl⟩
theorem d_m3_0 : decode method_3_code 0 = .ok (.aload_n 0, 1) := by decide +kernel
theorem d_m3_1 : decode method_3_code 1 = .ok (.ifnonnull 13, 3) := by decide +kernel
theorem d_m3_4 : decode method_3_code 4 = .ok (.aload_n 1, 1) := by decide +kernel
theorem d_m3_5 : decode method_3_code 5 = .ok (.ifnonnull 7, 3) := by decide +kernel
theorem d_m3_8 : decode method_3_code 8 = .ok (.iconst 1, 1) := by decide +kernel
theorem d_m3_9 : decode method_3_code 9 = .ok (.goto 4, 3) := by decide +kernel
theorem d_m3_13 : decode method_3_code 13 = .ok (.ireturn, 1) := by decide +kernel
theorem pn_com_example_tallymark_tallymark_FileFormatExceptionFaultPinLaw : plainName "com/example/tallymark/tallymark/FileFormatExceptionFaultPinLaw" = true := by first | (simp [plainName, overriddenIn]; done) | decide +kernel
set_option maxRecDepth 65536 in
set_option maxHeartbeats 40000000 in
theorem rm_eqN {l : Launch} {Z : State} {a0 : Array Value} (hw : ∀ d ∈ tables_1, d.before a0 Z = true) (hs : ∀ d ∈ jdkStatics_1, d.before a0 Z = true)  {h0 : Heap} (O0 : Ext Z.heap h0)  :
    own_Ct l Z (⟨"com/example/tallymark/tallymark/FileFormatExceptionFaultPinLaw", "eq", "(Ljava/lang/String;Ljava/lang/String;)Z"⟩ : MethodName) method_3_code 2 (some .boolean) [] ({ frames := 0, locals := 0, cells := 0, slots := 0 } : Room) #[.null, .null] h0 (fun v h => v = some (.int 1) ∧ h = h0) := by
  refine own_body (Ls := #[.val .null, .val .null]) (plainFor_of_name pn_com_example_tallymark_tallymark_FileFormatExceptionFaultPinLaw) (fun m => by first | (simp [entryFrame, mkF, argsToLocals, Value.category]; done) | rfl) O0 ?_
  intro p e s m below meth c T0 G K0
  refine own_aloadN K0 d_m3_0 rfl rfl rfl ?_
  refine own_ifnonnullNo K0 d_m3_1 rfl ?_
  refine own_aloadN K0 d_m3_4 rfl rfl rfl ?_
  refine own_ifnonnullNo K0 d_m3_5 rfl ?_
  refine own_iconst K0 (v := (1 : Int32)) d_m3_8 rfl rfl ?_
  refine own_goto K0 d_m3_9 (pc' := 13) (by decide) (by decide) ?_
  exact own_retN K0 (z' := (1 : Int32)) d_m3_13 rfl (by simp) (by decide) (by decide) (by decide) ⟨rfl, rfl⟩
theorem d_m3_14 : decode method_3_code 14 = .ok (.aload_n 1, 1) := by decide +kernel
theorem d_m3_15 : decode method_3_code 15 = .ok (.ifnull 15, 3) := by decide +kernel
theorem d_m3_18 : decode method_3_code 18 = .ok (.aload_n 0, 1) := by decide +kernel
theorem d_m3_19 : decode method_3_code 19 = .ok (.aload_n 1, 1) := by decide +kernel
theorem d_m3_20 : decode method_3_code 20 = .ok (.invokevirtual 51, 3) := by decide +kernel
theorem wd158 {a0 : Array Value} {Z : State} (hw : ∀ d ∈ tables_1, d.before a0 Z = true) : (Jvm.Cond.code ({ cls := "java/lang/String", name := "equals", desc := "(Ljava/lang/Object;)Z" } : Jvm.MethodName) jdk_42_method_66_code (3 : Nat) (Option.some Jvm.ClassFile.FieldType.boolean)).before a0 Z = true := hw _ (List.mem_of_getElem? (i := 158) rfl)
theorem pd_28Ljava2flang2fObject3b29Z : parseMethodDescriptor "(Ljava/lang/Object;)Z" = some ⟨[(.object "java/lang/Object")], some .boolean⟩ := by decide +kernel
theorem wd157 {a0 : Array Value} {Z : State} (hw : ∀ d ∈ tables_1, d.before a0 Z = true) : (Jvm.Cond.selects "java/lang/String" ({ cls := "java/lang/String", name := "equals", desc := "(Ljava/lang/Object;)Z" } : Jvm.MethodName) ({ cls := "java/lang/String", name := "equals", desc := "(Ljava/lang/Object;)Z" } : Jvm.MethodName)).before a0 Z = true := hw _ (List.mem_of_getElem? (i := 157) rfl)
theorem wd154 {a0 : Array Value} {Z : State} (hw : ∀ d ∈ tables_1, d.before a0 Z = true) : (Jvm.Cond.methodLink "com/example/tallymark/tallymark/FileFormatExceptionFaultPinLaw" (51 : Nat) ({ cls := "java/lang/String", name := "equals", desc := "(Ljava/lang/Object;)Z" } : Jvm.MethodName)).before a0 Z = true := hw _ (List.mem_of_getElem? (i := 154) rfl)
theorem wd155 {a0 : Array Value} {Z : State} (hw : ∀ d ∈ tables_1, d.before a0 Z = true) : (Jvm.Cond.declares ({ cls := "java/lang/String", name := "equals", desc := "(Ljava/lang/Object;)Z" } : Jvm.MethodName)).before a0 Z = true := hw _ (List.mem_of_getElem? (i := 155) rfl)
theorem wd156 {a0 : Array Value} {Z : State} (hw : ∀ d ∈ tables_1, d.before a0 Z = true) : (Jvm.Cond.instanceMethod ({ cls := "java/lang/String", name := "equals", desc := "(Ljava/lang/Object;)Z" } : Jvm.MethodName)).before a0 Z = true := hw _ (List.mem_of_getElem? (i := 156) rfl)
theorem d_m3_23 : decode method_3_code 23 = .ok (.ifCond .eq 7, 3) := by decide +kernel
theorem d_m3_26 : decode method_3_code 26 = .ok (.iconst 1, 1) := by decide +kernel
theorem d_m3_27 : decode method_3_code 27 = .ok (.goto 4, 3) := by decide +kernel
theorem d_m3_31 : decode method_3_code 31 = .ok (.ireturn, 1) := by decide +kernel
set_option maxRecDepth 65536 in
set_option maxHeartbeats 40000000 in
theorem rm_eqR {l : Launch} {Z : State} {a0 : Array Value} (hw : ∀ d ∈ tables_1, d.before a0 Z = true) (hs : ∀ d ∈ jdkStatics_1, d.before a0 Z = true) {x : Addr} {h0 : Heap} (O0 : Ext Z.heap h0) (E : Exa Z h0 x "java/lang/String") :
    own_Ct l Z (⟨"com/example/tallymark/tallymark/FileFormatExceptionFaultPinLaw", "eq", "(Ljava/lang/String;Ljava/lang/String;)Z"⟩ : MethodName) method_3_code 2 (some .boolean) [] ({ frames := 1, locals := 14, cells := 0, slots := 0 } : Room) #[(.ref x), (.ref x)] h0 (fun v h => v = some (.int 1) ∧ h = h0) := by
  refine own_body (Ls := #[.val (.ref x), .val (.ref x)]) (plainFor_of_name pn_com_example_tallymark_tallymark_FileFormatExceptionFaultPinLaw) (fun m => by first | (simp [entryFrame, mkF, argsToLocals, Value.category]; done) | rfl) O0 ?_
  intro p e s m below meth c T0 G K0
  refine own_aloadN K0 d_m3_0 rfl rfl rfl ?_
  refine own_ifnonnullYes K0 d_m3_1 (pc' := 14) (by decide) (by decide) ?_
  refine own_aloadN K0 d_m3_14 rfl rfl rfl ?_
  refine own_ifnullNo K0 d_m3_15 rfl ?_
  refine own_aloadN K0 d_m3_18 rfl rfl rfl ?_
  refine own_aloadN K0 d_m3_19 rfl rfl rfl ?_
  refine own_callV K0 (a := x) (x0 := (⟨"java/lang/String", "equals", "(Ljava/lang/Object;)Z"⟩ : MethodName)) (wd154 hw) (wd155 hw) (fun q => notFace_of_selects (args := #[]) (mvT q (wd157 hw))) (wd157 hw) (wd156 hw) (rm_eqSame hw hs (x := x) K0.O) (wd158 hw) (wd3 hw) (by decide) E (argsL := [(.ref x)]) (rest := []) rfl pd_28Ljava2flang2fObject3b29Z rfl rfl (W := 0) rfl (by decide) (by decide) (by decide) (by decide) d_m3_20 rfl ?_
  intro T105 h105 L105 v105 K105 q105
  obtain ⟨rfl, e105⟩ := q105
  have f105 := e105.symm
  subst f105
  show G (T105.setTop (mkF m 23 #[.val (.ref x), .val (.ref x)] [(.int (1 : Int32))]))
  refine own_ifNo K105 d_m3_23 rfl ((if0 _ _).trans (feq (by decide)).1) ?_
  refine own_iconst K105 (v := (1 : Int32)) d_m3_26 rfl rfl ?_
  refine own_goto K105 d_m3_27 (pc' := 31) (by decide) (by decide) ?_
  exact own_retN K105 (z' := (1 : Int32)) d_m3_31 rfl (by simp) (by decide) (by decide) (by decide) ⟨rfl, rfl⟩
theorem own_all2 {α : Type} {P : α → Prop} {a b : α} (ha : P a) (hb : P b) : ∀ c ∈ [a, b], P c := fun c q => by
  rcases List.mem_cons.mp q with rfl | q
  · exact ha
  · cases List.mem_singleton.mp q; exact hb
theorem wd45 {a0 : Array Value} {Z : State} (hw : ∀ d ∈ tables_1, d.before a0 Z = true) : (Jvm.Cond.classLink "com/example/tallymark/tallymark/FileFormatExceptionFaultPinLaw" (20 : Nat) "com/example/tallymark/tallymark/FileFormatException").before a0 Z = true := hw _ (List.mem_of_getElem? (i := 45) rfl)
theorem wd47 {a0 : Array Value} {Z : State} (hw : ∀ d ∈ tables_1, d.before a0 Z = true) : (Jvm.Cond.initialized "com/example/tallymark/tallymark/FileFormatException").before a0 Z = true := hw _ (List.mem_of_getElem? (i := 47) rfl)
theorem wd50 {a0 : Array Value} {Z : State} (hw : ∀ d ∈ tables_1, d.before a0 Z = true) : (Jvm.Cond.code ({ cls := "com/example/tallymark/tallymark/FileFormatException", name := "<init>", desc := "(JLjava/lang/String;Ljava/lang/String;)V" } : Jvm.MethodName) prog_7_method_1_code (5 : Nat) (Option.none : Option Jvm.ClassFile.FieldType)).before a0 Z = true := hw _ (List.mem_of_getElem? (i := 50) rfl)
theorem pd_28JLjava2flang2fString3bLjava2flang2fString3b29V : parseMethodDescriptor "(JLjava/lang/String;Ljava/lang/String;)V" = some ⟨[.long, (.object "java/lang/String"), (.object "java/lang/String")], none⟩ := by decide +kernel
theorem wd48 {a0 : Array Value} {Z : State} (hw : ∀ d ∈ tables_1, d.before a0 Z = true) : (Jvm.Cond.methodLink "com/example/tallymark/tallymark/FileFormatExceptionFaultPinLaw" (22 : Nat) ({ cls := "com/example/tallymark/tallymark/FileFormatException", name := "<init>", desc := "(JLjava/lang/String;Ljava/lang/String;)V" } : Jvm.MethodName)).before a0 Z = true := hw _ (List.mem_of_getElem? (i := 48) rfl)
theorem wd49 {a0 : Array Value} {Z : State} (hw : ∀ d ∈ tables_1, d.before a0 Z = true) : (Jvm.Cond.instanceMethod ({ cls := "com/example/tallymark/tallymark/FileFormatException", name := "<init>", desc := "(JLjava/lang/String;Ljava/lang/String;)V" } : Jvm.MethodName)).before a0 Z = true := hw _ (List.mem_of_getElem? (i := 49) rfl)
theorem wd113 {a0 : Array Value} {Z : State} (hw : ∀ d ∈ tables_1, d.before a0 Z = true) : (Jvm.Cond.code ({ cls := "com/example/tallymark/tallymark/FileFormatException", name := "fault", desc := "(Ljava/lang/String;)Lcom/example/tallymark/tallymark/Fault;" } : Jvm.MethodName) prog_7_method_3_code (2 : Nat) (Option.some (Jvm.ClassFile.FieldType.object "com/example/tallymark/tallymark/Fault"))).before a0 Z = true := hw _ (List.mem_of_getElem? (i := 113) rfl)
theorem pd_28Ljava2flang2fString3b29Lcom2fexample2ftallymark2ftallymark2fFault3b : parseMethodDescriptor "(Ljava/lang/String;)Lcom/example/tallymark/tallymark/Fault;" = some ⟨[(.object "java/lang/String")], some (.object "com/example/tallymark/tallymark/Fault")⟩ := by decide +kernel
theorem wd112 {a0 : Array Value} {Z : State} (hw : ∀ d ∈ tables_1, d.before a0 Z = true) : (Jvm.Cond.selects "com/example/tallymark/tallymark/FileFormatException" ({ cls := "com/example/tallymark/tallymark/FileFormatException", name := "fault", desc := "(Ljava/lang/String;)Lcom/example/tallymark/tallymark/Fault;" } : Jvm.MethodName) ({ cls := "com/example/tallymark/tallymark/FileFormatException", name := "fault", desc := "(Ljava/lang/String;)Lcom/example/tallymark/tallymark/Fault;" } : Jvm.MethodName)).before a0 Z = true := hw _ (List.mem_of_getElem? (i := 112) rfl)
theorem wd109 {a0 : Array Value} {Z : State} (hw : ∀ d ∈ tables_1, d.before a0 Z = true) : (Jvm.Cond.methodLink "com/example/tallymark/tallymark/FileFormatExceptionFaultPinLaw" (25 : Nat) ({ cls := "com/example/tallymark/tallymark/FileFormatException", name := "fault", desc := "(Ljava/lang/String;)Lcom/example/tallymark/tallymark/Fault;" } : Jvm.MethodName)).before a0 Z = true := hw _ (List.mem_of_getElem? (i := 109) rfl)
theorem wd110 {a0 : Array Value} {Z : State} (hw : ∀ d ∈ tables_1, d.before a0 Z = true) : (Jvm.Cond.declares ({ cls := "com/example/tallymark/tallymark/FileFormatException", name := "fault", desc := "(Ljava/lang/String;)Lcom/example/tallymark/tallymark/Fault;" } : Jvm.MethodName)).before a0 Z = true := hw _ (List.mem_of_getElem? (i := 110) rfl)
theorem wd111 {a0 : Array Value} {Z : State} (hw : ∀ d ∈ tables_1, d.before a0 Z = true) : (Jvm.Cond.instanceMethod ({ cls := "com/example/tallymark/tallymark/FileFormatException", name := "fault", desc := "(Ljava/lang/String;)Lcom/example/tallymark/tallymark/Fault;" } : Jvm.MethodName)).before a0 Z = true := hw _ (List.mem_of_getElem? (i := 111) rfl)
theorem wd149 {a0 : Array Value} {Z : State} (hw : ∀ d ∈ tables_1, d.before a0 Z = true) : (Jvm.Cond.code ({ cls := "com/example/tallymark/tallymark/Fault", name := "file", desc := "()Ljava/lang/String;" } : Jvm.MethodName) prog_5_method_6_code (1 : Nat) (Option.some (Jvm.ClassFile.FieldType.object "java/lang/String"))).before a0 Z = true := hw _ (List.mem_of_getElem? (i := 149) rfl)
theorem wd148 {a0 : Array Value} {Z : State} (hw : ∀ d ∈ tables_1, d.before a0 Z = true) : (Jvm.Cond.selects "com/example/tallymark/tallymark/Fault" ({ cls := "com/example/tallymark/tallymark/Fault", name := "file", desc := "()Ljava/lang/String;" } : Jvm.MethodName) ({ cls := "com/example/tallymark/tallymark/Fault", name := "file", desc := "()Ljava/lang/String;" } : Jvm.MethodName)).before a0 Z = true := hw _ (List.mem_of_getElem? (i := 148) rfl)
theorem wd145 {a0 : Array Value} {Z : State} (hw : ∀ d ∈ tables_1, d.before a0 Z = true) : (Jvm.Cond.methodLink "com/example/tallymark/tallymark/FileFormatExceptionFaultPinLaw" (29 : Nat) ({ cls := "com/example/tallymark/tallymark/Fault", name := "file", desc := "()Ljava/lang/String;" } : Jvm.MethodName)).before a0 Z = true := hw _ (List.mem_of_getElem? (i := 145) rfl)
theorem wd146 {a0 : Array Value} {Z : State} (hw : ∀ d ∈ tables_1, d.before a0 Z = true) : (Jvm.Cond.declares ({ cls := "com/example/tallymark/tallymark/Fault", name := "file", desc := "()Ljava/lang/String;" } : Jvm.MethodName)).before a0 Z = true := hw _ (List.mem_of_getElem? (i := 146) rfl)
theorem wd147 {a0 : Array Value} {Z : State} (hw : ∀ d ∈ tables_1, d.before a0 Z = true) : (Jvm.Cond.instanceMethod ({ cls := "com/example/tallymark/tallymark/Fault", name := "file", desc := "()Ljava/lang/String;" } : Jvm.MethodName)).before a0 Z = true := hw _ (List.mem_of_getElem? (i := 147) rfl)
theorem wd153 {a0 : Array Value} {Z : State} (hw : ∀ d ∈ tables_1, d.before a0 Z = true) : (Jvm.Cond.code ({ cls := "com/example/tallymark/tallymark/FileFormatExceptionFaultPinLaw", name := "eq", desc := "(Ljava/lang/String;Ljava/lang/String;)Z" } : Jvm.MethodName) method_3_code (2 : Nat) (Option.some Jvm.ClassFile.FieldType.boolean)).before a0 Z = true := hw _ (List.mem_of_getElem? (i := 153) rfl)
theorem wd152 {a0 : Array Value} {Z : State} (hw : ∀ d ∈ tables_1, d.before a0 Z = true) : (Jvm.Cond.initialized "com/example/tallymark/tallymark/FileFormatExceptionFaultPinLaw").before a0 Z = true := hw _ (List.mem_of_getElem? (i := 152) rfl)
theorem pd_28Ljava2flang2fString3bLjava2flang2fString3b29Z : parseMethodDescriptor "(Ljava/lang/String;Ljava/lang/String;)Z" = some ⟨[(.object "java/lang/String"), (.object "java/lang/String")], some .boolean⟩ := by decide +kernel
theorem wd150 {a0 : Array Value} {Z : State} (hw : ∀ d ∈ tables_1, d.before a0 Z = true) : (Jvm.Cond.methodLink "com/example/tallymark/tallymark/FileFormatExceptionFaultPinLaw" (35 : Nat) ({ cls := "com/example/tallymark/tallymark/FileFormatExceptionFaultPinLaw", name := "eq", desc := "(Ljava/lang/String;Ljava/lang/String;)Z" } : Jvm.MethodName)).before a0 Z = true := hw _ (List.mem_of_getElem? (i := 150) rfl)
theorem wd151 {a0 : Array Value} {Z : State} (hw : ∀ d ∈ tables_1, d.before a0 Z = true) : (Jvm.Cond.static ({ cls := "com/example/tallymark/tallymark/FileFormatExceptionFaultPinLaw", name := "eq", desc := "(Ljava/lang/String;Ljava/lang/String;)Z" } : Jvm.MethodName)).before a0 Z = true := hw _ (List.mem_of_getElem? (i := 151) rfl)
theorem wd163 {a0 : Array Value} {Z : State} (hw : ∀ d ∈ tables_1, d.before a0 Z = true) : (Jvm.Cond.code ({ cls := "com/example/tallymark/tallymark/Fault", name := "line", desc := "()J" } : Jvm.MethodName) prog_5_method_7_code (1 : Nat) (Option.some Jvm.ClassFile.FieldType.long)).before a0 Z = true := hw _ (List.mem_of_getElem? (i := 163) rfl)
theorem pd_2829J : parseMethodDescriptor "()J" = some ⟨[], some .long⟩ := by decide +kernel
theorem wd162 {a0 : Array Value} {Z : State} (hw : ∀ d ∈ tables_1, d.before a0 Z = true) : (Jvm.Cond.selects "com/example/tallymark/tallymark/Fault" ({ cls := "com/example/tallymark/tallymark/Fault", name := "line", desc := "()J" } : Jvm.MethodName) ({ cls := "com/example/tallymark/tallymark/Fault", name := "line", desc := "()J" } : Jvm.MethodName)).before a0 Z = true := hw _ (List.mem_of_getElem? (i := 162) rfl)
theorem wd159 {a0 : Array Value} {Z : State} (hw : ∀ d ∈ tables_1, d.before a0 Z = true) : (Jvm.Cond.methodLink "com/example/tallymark/tallymark/FileFormatExceptionFaultPinLaw" (41 : Nat) ({ cls := "com/example/tallymark/tallymark/Fault", name := "line", desc := "()J" } : Jvm.MethodName)).before a0 Z = true := hw _ (List.mem_of_getElem? (i := 159) rfl)
theorem wd160 {a0 : Array Value} {Z : State} (hw : ∀ d ∈ tables_1, d.before a0 Z = true) : (Jvm.Cond.declares ({ cls := "com/example/tallymark/tallymark/Fault", name := "line", desc := "()J" } : Jvm.MethodName)).before a0 Z = true := hw _ (List.mem_of_getElem? (i := 160) rfl)
theorem wd161 {a0 : Array Value} {Z : State} (hw : ∀ d ∈ tables_1, d.before a0 Z = true) : (Jvm.Cond.instanceMethod ({ cls := "com/example/tallymark/tallymark/Fault", name := "line", desc := "()J" } : Jvm.MethodName)).before a0 Z = true := hw _ (List.mem_of_getElem? (i := 161) rfl)
theorem wd168 {a0 : Array Value} {Z : State} (hw : ∀ d ∈ tables_1, d.before a0 Z = true) : (Jvm.Cond.code ({ cls := "com/example/tallymark/tallymark/Fault", name := "key", desc := "()Ljava/lang/String;" } : Jvm.MethodName) prog_5_method_8_code (1 : Nat) (Option.some (Jvm.ClassFile.FieldType.object "java/lang/String"))).before a0 Z = true := hw _ (List.mem_of_getElem? (i := 168) rfl)
theorem wd167 {a0 : Array Value} {Z : State} (hw : ∀ d ∈ tables_1, d.before a0 Z = true) : (Jvm.Cond.selects "com/example/tallymark/tallymark/Fault" ({ cls := "com/example/tallymark/tallymark/Fault", name := "key", desc := "()Ljava/lang/String;" } : Jvm.MethodName) ({ cls := "com/example/tallymark/tallymark/Fault", name := "key", desc := "()Ljava/lang/String;" } : Jvm.MethodName)).before a0 Z = true := hw _ (List.mem_of_getElem? (i := 167) rfl)
theorem wd164 {a0 : Array Value} {Z : State} (hw : ∀ d ∈ tables_1, d.before a0 Z = true) : (Jvm.Cond.methodLink "com/example/tallymark/tallymark/FileFormatExceptionFaultPinLaw" (45 : Nat) ({ cls := "com/example/tallymark/tallymark/Fault", name := "key", desc := "()Ljava/lang/String;" } : Jvm.MethodName)).before a0 Z = true := hw _ (List.mem_of_getElem? (i := 164) rfl)
theorem wd165 {a0 : Array Value} {Z : State} (hw : ∀ d ∈ tables_1, d.before a0 Z = true) : (Jvm.Cond.declares ({ cls := "com/example/tallymark/tallymark/Fault", name := "key", desc := "()Ljava/lang/String;" } : Jvm.MethodName)).before a0 Z = true := hw _ (List.mem_of_getElem? (i := 165) rfl)
theorem wd166 {a0 : Array Value} {Z : State} (hw : ∀ d ∈ tables_1, d.before a0 Z = true) : (Jvm.Cond.instanceMethod ({ cls := "com/example/tallymark/tallymark/Fault", name := "key", desc := "()Ljava/lang/String;" } : Jvm.MethodName)).before a0 Z = true := hw _ (List.mem_of_getElem? (i := 166) rfl)
theorem wd173 {a0 : Array Value} {Z : State} (hw : ∀ d ∈ tables_1, d.before a0 Z = true) : (Jvm.Cond.code ({ cls := "com/example/tallymark/tallymark/Fault", name := "message", desc := "()Ljava/lang/String;" } : Jvm.MethodName) prog_5_method_9_code (1 : Nat) (Option.some (Jvm.ClassFile.FieldType.object "java/lang/String"))).before a0 Z = true := hw _ (List.mem_of_getElem? (i := 173) rfl)
theorem wd172 {a0 : Array Value} {Z : State} (hw : ∀ d ∈ tables_1, d.before a0 Z = true) : (Jvm.Cond.selects "com/example/tallymark/tallymark/Fault" ({ cls := "com/example/tallymark/tallymark/Fault", name := "message", desc := "()Ljava/lang/String;" } : Jvm.MethodName) ({ cls := "com/example/tallymark/tallymark/Fault", name := "message", desc := "()Ljava/lang/String;" } : Jvm.MethodName)).before a0 Z = true := hw _ (List.mem_of_getElem? (i := 172) rfl)
theorem wd169 {a0 : Array Value} {Z : State} (hw : ∀ d ∈ tables_1, d.before a0 Z = true) : (Jvm.Cond.methodLink "com/example/tallymark/tallymark/FileFormatExceptionFaultPinLaw" (48 : Nat) ({ cls := "com/example/tallymark/tallymark/Fault", name := "message", desc := "()Ljava/lang/String;" } : Jvm.MethodName)).before a0 Z = true := hw _ (List.mem_of_getElem? (i := 169) rfl)
theorem wd170 {a0 : Array Value} {Z : State} (hw : ∀ d ∈ tables_1, d.before a0 Z = true) : (Jvm.Cond.declares ({ cls := "com/example/tallymark/tallymark/Fault", name := "message", desc := "()Ljava/lang/String;" } : Jvm.MethodName)).before a0 Z = true := hw _ (List.mem_of_getElem? (i := 170) rfl)
theorem wd171 {a0 : Array Value} {Z : State} (hw : ∀ d ∈ tables_1, d.before a0 Z = true) : (Jvm.Cond.instanceMethod ({ cls := "com/example/tallymark/tallymark/Fault", name := "message", desc := "()Ljava/lang/String;" } : Jvm.MethodName)).before a0 Z = true := hw _ (List.mem_of_getElem? (i := 171) rfl)
section Law
variable {p : Program} {l : Launch} {e : Env} {s : State} {m : MethodId} {args : Array Value} {below : List Frame} {meth : Method} {c : Code} {Q : Option Value → Heap → Prop} {G : State → Prop} {Z T : State} {L : List Loc} {k n : Nat} {h h0 : Heap} {a0 : Array Value}
set_option maxRecDepth 65536 in
set_option maxHeartbeats 40000000 in
theorem law_J3NN (hw : ∀ d ∈ tables_1, d.before a0 Z = true) (hs : ∀ d ∈ jdkStatics_1, d.before a0 Z = true) (hl : l.stackTraces = true) (r2 : ∀ d ∈ twoRefs, d.before a0 Z = true) (hkn : s.vm.MethodsKnown ∧ s.vm.FramesKnown below) (hq : ∀ h, Q (some (.int 1)) h) {q0 : Int64} {k2 m3 f4 g5 w6 : Int32} {ln : Int64} {fl : Addr} (K : own_K p l e room_1 s m args below meth c code "com/example/tallymark/tallymark/FileFormatExceptionFaultPinLaw" "law" 14 (some .boolean) Q G Z T L 9 24 h) (hln : ln = 0) (SF : Exa Z h fl "java/lang/String") : G (T.setTop (mkF m 201 #[.val (.long q0), .second, .val (.int k2), .val (.int m3), .val (.int f4), .val (.int g5), .val (.int w6), .val (.long ln), .second, .val .null, .val .null, .val (.ref fl), .unset, .unset] [])) := by
  refine own_newO K (wd45 hw) (wd46 hw) (wd47 hw) at_201 (by decide) (by decide) rfl ?_
  intro T106 h106 a106 K106 g106 E106 A106 D106 U106
  have F_cause_106 : Fld Z h106 a106 "java/lang/Throwable" "cause" "Ljava/lang/Throwable;" .null := D106 (Or.inl (wd70 hw)) (ty := (.object "java/lang/Throwable")) (by decide)
  have F_stackTrace_106 : Fld Z h106 a106 "java/lang/Throwable" "stackTrace" "[Ljava/lang/StackTraceElement;" .null := D106 (Or.inl (wd73 hw)) (ty := (.array (.object "java/lang/StackTraceElement"))) (by decide)
  have F_suppressedExceptions_106 : Fld Z h106 a106 "java/lang/Throwable" "suppressedExceptions" "Ljava/util/List;" .null := D106 (Or.inl (wd76 hw)) (ty := (.object "java/util/List")) (by decide)
  have F_detailMessage_106 : Fld Z h106 a106 "java/lang/Throwable" "detailMessage" "Ljava/lang/String;" .null := D106 (Or.inl (wd100 hw)) (ty := (.object "java/lang/String")) (by decide)
  have F_backtrace_106 : Fld Z h106 a106 "java/lang/Throwable" "backtrace" "Ljava/lang/Object;" .null := D106 (Or.inl (wd101 hw)) (ty := (.object "java/lang/Object")) (by decide)
  have F_depth_106 : Fld Z h106 a106 "java/lang/Throwable" "depth" "I" (.int (0 : Int32)) := D106 (Or.inl (wd102 hw)) (ty := .int) (by decide)
  have F_line_106 : Fld Z h106 a106 "com/example/tallymark/tallymark/FileFormatException" "line" "J" (.long (0 : Int64)) := D106 (Or.inr (wd106 hw)) (ty := .long) (by decide)
  have F_key_106 : Fld Z h106 a106 "com/example/tallymark/tallymark/FileFormatException" "key" "Ljava/lang/String;" .null := D106 (Or.inr (wd108 hw)) (ty := (.object "java/lang/String")) (by decide)
  refine own_dup K106 at_204 rfl rfl ?_
  refine own_lload K106 at_205 rfl rfl ?_
  refine own_aload K106 at_207 rfl rfl rfl ?_
  refine own_aload K106 at_209 rfl rfl rfl ?_
  have gx106 : Z.heap.size ≤ a106 := by rw [g106]; exact K.O.1
  refine own_callIK K106 hkn (a := a106) (wd48 hw) (wd49 hw) (rm_ffeNN hw hs K106.O hl r2 A106 U106 F_cause_106 F_stackTrace_106 F_suppressedExceptions_106 F_detailMessage_106 F_backtrace_106 gx106 F_line_106 F_key_106) (wd50 hw) (wd47 hw) (by decide) rfl (argsL := [(.long ln), .null, .null]) (rest := [(.ref a106)]) rfl pd_28JLjava2flang2fString3bLjava2flang2fString3b29V rfl rfl (W := 1) rfl (by decide) (by decide) (by decide) (by decide) at_211 rfl ?_
  intro T107 h107 L107 v107 K107 q107
  obtain ⟨rfl, Kp107, A107, FL107, FK107, FM107⟩ := q107
  show G (T107.setTop (mkF m 214 #[.val (.long q0), .second, .val (.int k2), .val (.int m3), .val (.int f4), .val (.int g5), .val (.int w6), .val (.long ln), .second, .val .null, .val .null, .val (.ref fl), .unset, .unset] [(.ref a106)]))
  have X107 : Ext h h107 := own_ext_keep E106 Kp107 (fun y q => by cases List.mem_singleton.mp q; exact Nat.le_of_eq g106.symm)
  refine own_astore K107 (Ls' := #[.val (.long q0), .second, .val (.int k2), .val (.int m3), .val (.int f4), .val (.int g5), .val (.int w6), .val (.long ln), .second, .val .null, .val .null, .val (.ref fl), .val (.ref a106), .unset]) at_214 rfl rfl rfl ?_
  refine own_aload K107 at_216 rfl rfl rfl ?_
  refine own_aload K107 at_218 rfl rfl rfl ?_
  refine own_callV K107 (a := a106) (x0 := (⟨"com/example/tallymark/tallymark/FileFormatException", "fault", "(Ljava/lang/String;)Lcom/example/tallymark/tallymark/Fault;"⟩ : MethodName)) (wd109 hw) (wd110 hw) (fun q => notFace_of_selects (args := #[]) (mvT q (wd112 hw))) (wd112 hw) (wd111 hw) (rm_faultNN hw hs K107.O A107 FL107 FK107 FM107 hln) (wd113 hw) (wd47 hw) (by decide) A107 (argsL := [(.ref fl)]) (rest := []) rfl pd_28Ljava2flang2fString3b29Lcom2fexample2ftallymark2ftallymark2fFault3b rfl rfl (W := 0) rfl (by decide) (by decide) (by decide) (by decide) at_220 rfl ?_
  intro T108 h108 L108 v108 K108 q108
  obtain ⟨ft108, rfl, X108, A108, Ffile108, Fline108, Fkey108, Fmessage108⟩ := q108
  show G (T108.setTop (mkF m 223 #[.val (.long q0), .second, .val (.int k2), .val (.int m3), .val (.int f4), .val (.int g5), .val (.int w6), .val (.long ln), .second, .val .null, .val .null, .val (.ref fl), .val (.ref a106), .unset] [(.ref ft108)]))
  refine own_astore K108 (Ls' := #[.val (.long q0), .second, .val (.int k2), .val (.int m3), .val (.int f4), .val (.int g5), .val (.int w6), .val (.long ln), .second, .val .null, .val .null, .val (.ref fl), .val (.ref a106), .val (.ref ft108)]) at_223 rfl rfl rfl ?_
  refine own_aload K108 at_225 rfl rfl rfl ?_
  refine own_callV K108 (a := ft108) (x0 := (⟨"com/example/tallymark/tallymark/Fault", "file", "()Ljava/lang/String;"⟩ : MethodName)) (wd145 hw) (wd146 hw) (fun q => notFace_of_selects (args := #[]) (mvT q (wd148 hw))) (wd148 hw) (wd147 hw) (rm_fileR hw hs K108.O Ffile108) (wd149 hw) (wd116 hw) (by decide) A108 (argsL := []) (rest := []) rfl pd_2829Ljava2flang2fString3b rfl rfl (W := 0) rfl (by decide) (by decide) (by decide) (by decide) at_227 rfl ?_
  intro T109 h109 L109 v109 K109 q109
  obtain ⟨rfl, e109⟩ := q109
  have f109 := e109.symm
  subst f109
  show G (T109.setTop (mkF m 230 #[.val (.long q0), .second, .val (.int k2), .val (.int m3), .val (.int f4), .val (.int g5), .val (.int w6), .val (.long ln), .second, .val .null, .val .null, .val (.ref fl), .val (.ref a106), .val (.ref ft108)] [(.ref fl)]))
  refine own_aload K109 at_230 rfl rfl rfl ?_
  refine own_callS K109 (wd150 hw) (wd151 hw) (rm_eqR hw hs K109.O ((SF.ext X107).ext X108)) (wd153 hw) (wd152 hw) (by decide) (argsL := [(.ref fl), (.ref fl)]) (rest := []) rfl pd_28Ljava2flang2fString3bLjava2flang2fString3b29Z rfl rfl (W := 0) rfl (by decide) (by decide) (by decide) (by decide) at_232 rfl ?_
  intro T110 h110 L110 v110 K110 q110
  obtain ⟨rfl, e110⟩ := q110
  have f110 := e110.symm
  subst f110
  show G (T110.setTop (mkF m 235 #[.val (.long q0), .second, .val (.int k2), .val (.int m3), .val (.int f4), .val (.int g5), .val (.int w6), .val (.long ln), .second, .val .null, .val .null, .val (.ref fl), .val (.ref a106), .val (.ref ft108)] [(.int (1 : Int32))]))
  refine own_ifNo K110 at_235 rfl ((if0 _ _).trans (feq (by decide)).1) ?_
  refine own_aload K110 at_238 rfl rfl rfl ?_
  refine own_callV K110 (a := ft108) (x0 := (⟨"com/example/tallymark/tallymark/Fault", "line", "()J"⟩ : MethodName)) (wd159 hw) (wd160 hw) (fun q => notFace_of_selects (args := #[]) (mvT q (wd162 hw))) (wd162 hw) (wd161 hw) (rm_lineJ hw hs K110.O Fline108) (wd163 hw) (wd116 hw) (by decide) A108 (argsL := []) (rest := []) rfl pd_2829J rfl rfl (W := 0) rfl (by decide) (by decide) (by decide) (by decide) at_240 rfl ?_
  intro T111 h111 L111 v111 K111 q111
  obtain ⟨rfl, e111⟩ := q111
  have f111 := e111.symm
  subst f111
  show G (T111.setTop (mkF m 243 #[.val (.long q0), .second, .val (.int k2), .val (.int m3), .val (.int f4), .val (.int g5), .val (.int w6), .val (.long ln), .second, .val .null, .val .null, .val (.ref fl), .val (.ref a106), .val (.ref ft108)] [(.long ln)]))
  refine own_lload K111 at_243 rfl rfl ?_
  refine own_lcmp K111 at_245 rfl ?_
  refine own_ifNo K111 at_246 rfl ((if0 _ _).trans (teq (own_lce ln)).2) ?_
  refine own_aload K111 at_249 rfl rfl rfl ?_
  refine own_callV K111 (a := ft108) (x0 := (⟨"com/example/tallymark/tallymark/Fault", "key", "()Ljava/lang/String;"⟩ : MethodName)) (wd164 hw) (wd165 hw) (fun q => notFace_of_selects (args := #[]) (mvT q (wd167 hw))) (wd167 hw) (wd166 hw) (rm_keyN hw hs K111.O Fkey108) (wd168 hw) (wd116 hw) (by decide) A108 (argsL := []) (rest := []) rfl pd_2829Ljava2flang2fString3b rfl rfl (W := 0) rfl (by decide) (by decide) (by decide) (by decide) at_251 rfl ?_
  intro T112 h112 L112 v112 K112 q112
  obtain ⟨rfl, e112⟩ := q112
  have f112 := e112.symm
  subst f112
  show G (T112.setTop (mkF m 254 #[.val (.long q0), .second, .val (.int k2), .val (.int m3), .val (.int f4), .val (.int g5), .val (.int w6), .val (.long ln), .second, .val .null, .val .null, .val (.ref fl), .val (.ref a106), .val (.ref ft108)] [.null]))
  refine own_aload K112 at_254 rfl rfl rfl ?_
  refine own_callS K112 (wd150 hw) (wd151 hw) (rm_eqN hw hs K112.O) (wd153 hw) (wd152 hw) (by decide) (argsL := [.null, .null]) (rest := []) rfl pd_28Ljava2flang2fString3bLjava2flang2fString3b29Z rfl rfl (W := 0) rfl (by decide) (by decide) (by decide) (by decide) at_256 rfl ?_
  intro T113 h113 L113 v113 K113 q113
  obtain ⟨rfl, e113⟩ := q113
  have f113 := e113.symm
  subst f113
  show G (T113.setTop (mkF m 259 #[.val (.long q0), .second, .val (.int k2), .val (.int m3), .val (.int f4), .val (.int g5), .val (.int w6), .val (.long ln), .second, .val .null, .val .null, .val (.ref fl), .val (.ref a106), .val (.ref ft108)] [(.int (1 : Int32))]))
  refine own_ifNo K113 at_259 rfl ((if0 _ _).trans (feq (by decide)).1) ?_
  refine own_aload K113 at_262 rfl rfl rfl ?_
  refine own_callV K113 (a := ft108) (x0 := (⟨"com/example/tallymark/tallymark/Fault", "message", "()Ljava/lang/String;"⟩ : MethodName)) (wd169 hw) (wd170 hw) (fun q => notFace_of_selects (args := #[]) (mvT q (wd172 hw))) (wd172 hw) (wd171 hw) (rm_messageN hw hs K113.O Fmessage108) (wd173 hw) (wd116 hw) (by decide) A108 (argsL := []) (rest := []) rfl pd_2829Ljava2flang2fString3b rfl rfl (W := 0) rfl (by decide) (by decide) (by decide) (by decide) at_264 rfl ?_
  intro T114 h114 L114 v114 K114 q114
  obtain ⟨rfl, e114⟩ := q114
  have f114 := e114.symm
  subst f114
  show G (T114.setTop (mkF m 267 #[.val (.long q0), .second, .val (.int k2), .val (.int m3), .val (.int f4), .val (.int g5), .val (.int w6), .val (.long ln), .second, .val .null, .val .null, .val (.ref fl), .val (.ref a106), .val (.ref ft108)] [.null]))
  refine own_aload K114 at_267 rfl rfl rfl ?_
  refine own_callS K114 (wd150 hw) (wd151 hw) (rm_eqN hw hs K114.O) (wd153 hw) (wd152 hw) (by decide) (argsL := [.null, .null]) (rest := []) rfl pd_28Ljava2flang2fString3bLjava2flang2fString3b29Z rfl rfl (W := 0) rfl (by decide) (by decide) (by decide) (by decide) at_269 rfl ?_
  intro T115 h115 L115 v115 K115 q115
  obtain ⟨rfl, e115⟩ := q115
  have f115 := e115.symm
  subst f115
  show G (T115.setTop (mkF m 272 #[.val (.long q0), .second, .val (.int k2), .val (.int m3), .val (.int f4), .val (.int g5), .val (.int w6), .val (.long ln), .second, .val .null, .val .null, .val (.ref fl), .val (.ref a106), .val (.ref ft108)] [(.int (1 : Int32))]))
  refine own_ifNo K115 at_272 rfl ((if0 _ _).trans (feq (by decide)).1) ?_
  refine own_iconst K115 (v := (1 : Int32)) at_275 rfl rfl ?_
  refine own_goto K115 at_276 (pc' := 280) (by decide) (by decide) ?_
  exact own_retN K115 (z' := (1 : Int32)) at_280 rfl (by simp) (by decide) (by decide) (by decide) (hq _)
end Law
section Law
variable {p : Program} {l : Launch} {e : Env} {s : State} {m : MethodId} {args : Array Value} {below : List Frame} {meth : Method} {c : Code} {Q : Option Value → Heap → Prop} {G : State → Prop} {Z T : State} {L : List Loc} {k n : Nat} {h h0 : Heap} {a0 : Array Value}
set_option maxRecDepth 65536 in
set_option maxHeartbeats 40000000 in
theorem law_J3NR (hw : ∀ d ∈ tables_1, d.before a0 Z = true) (hs : ∀ d ∈ jdkStatics_1, d.before a0 Z = true) (hl : l.stackTraces = true) (r2 : ∀ d ∈ twoRefs, d.before a0 Z = true) (hkn : s.vm.MethodsKnown ∧ s.vm.FramesKnown below) (hq : ∀ h, Q (some (.int 1)) h) {q0 : Int64} {k2 m3 f4 g5 w6 : Int32} {ln : Int64} {fl mg : Addr} (K : own_K p l e room_1 s m args below meth c code "com/example/tallymark/tallymark/FileFormatExceptionFaultPinLaw" "law" 14 (some .boolean) Q G Z T L 9 24 h) (hln : ln = 0) (SF : Exa Z h fl "java/lang/String") (SM : Exa Z h mg "java/lang/String") : G (T.setTop (mkF m 201 #[.val (.long q0), .second, .val (.int k2), .val (.int m3), .val (.int f4), .val (.int g5), .val (.int w6), .val (.long ln), .second, .val .null, .val (.ref mg), .val (.ref fl), .unset, .unset] [])) := by
  refine own_newO K (wd45 hw) (wd46 hw) (wd47 hw) at_201 (by decide) (by decide) rfl ?_
  intro T116 h116 a116 K116 g116 E116 A116 D116 U116
  have F_cause_116 : Fld Z h116 a116 "java/lang/Throwable" "cause" "Ljava/lang/Throwable;" .null := D116 (Or.inl (wd70 hw)) (ty := (.object "java/lang/Throwable")) (by decide)
  have F_stackTrace_116 : Fld Z h116 a116 "java/lang/Throwable" "stackTrace" "[Ljava/lang/StackTraceElement;" .null := D116 (Or.inl (wd73 hw)) (ty := (.array (.object "java/lang/StackTraceElement"))) (by decide)
  have F_suppressedExceptions_116 : Fld Z h116 a116 "java/lang/Throwable" "suppressedExceptions" "Ljava/util/List;" .null := D116 (Or.inl (wd76 hw)) (ty := (.object "java/util/List")) (by decide)
  have F_detailMessage_116 : Fld Z h116 a116 "java/lang/Throwable" "detailMessage" "Ljava/lang/String;" .null := D116 (Or.inl (wd100 hw)) (ty := (.object "java/lang/String")) (by decide)
  have F_backtrace_116 : Fld Z h116 a116 "java/lang/Throwable" "backtrace" "Ljava/lang/Object;" .null := D116 (Or.inl (wd101 hw)) (ty := (.object "java/lang/Object")) (by decide)
  have F_depth_116 : Fld Z h116 a116 "java/lang/Throwable" "depth" "I" (.int (0 : Int32)) := D116 (Or.inl (wd102 hw)) (ty := .int) (by decide)
  have F_line_116 : Fld Z h116 a116 "com/example/tallymark/tallymark/FileFormatException" "line" "J" (.long (0 : Int64)) := D116 (Or.inr (wd106 hw)) (ty := .long) (by decide)
  have F_key_116 : Fld Z h116 a116 "com/example/tallymark/tallymark/FileFormatException" "key" "Ljava/lang/String;" .null := D116 (Or.inr (wd108 hw)) (ty := (.object "java/lang/String")) (by decide)
  refine own_dup K116 at_204 rfl rfl ?_
  refine own_lload K116 at_205 rfl rfl ?_
  refine own_aload K116 at_207 rfl rfl rfl ?_
  refine own_aload K116 at_209 rfl rfl rfl ?_
  have gx116 : Z.heap.size ≤ a116 := by rw [g116]; exact K.O.1
  refine own_callIK K116 hkn (a := a116) (wd48 hw) (wd49 hw) (rm_ffeNR hw hs K116.O hl r2 A116 U116 F_cause_116 F_stackTrace_116 F_suppressedExceptions_116 F_detailMessage_116 F_backtrace_116 gx116 F_line_116 F_key_116) (wd50 hw) (wd47 hw) (by decide) rfl (argsL := [(.long ln), .null, (.ref mg)]) (rest := [(.ref a116)]) rfl pd_28JLjava2flang2fString3bLjava2flang2fString3b29V rfl rfl (W := 1) rfl (by decide) (by decide) (by decide) (by decide) at_211 rfl ?_
  intro T117 h117 L117 v117 K117 q117
  obtain ⟨rfl, Kp117, A117, FL117, FK117, FM117⟩ := q117
  show G (T117.setTop (mkF m 214 #[.val (.long q0), .second, .val (.int k2), .val (.int m3), .val (.int f4), .val (.int g5), .val (.int w6), .val (.long ln), .second, .val .null, .val (.ref mg), .val (.ref fl), .unset, .unset] [(.ref a116)]))
  have X117 : Ext h h117 := own_ext_keep E116 Kp117 (fun y q => by cases List.mem_singleton.mp q; exact Nat.le_of_eq g116.symm)
  refine own_astore K117 (Ls' := #[.val (.long q0), .second, .val (.int k2), .val (.int m3), .val (.int f4), .val (.int g5), .val (.int w6), .val (.long ln), .second, .val .null, .val (.ref mg), .val (.ref fl), .val (.ref a116), .unset]) at_214 rfl rfl rfl ?_
  refine own_aload K117 at_216 rfl rfl rfl ?_
  refine own_aload K117 at_218 rfl rfl rfl ?_
  refine own_callV K117 (a := a116) (x0 := (⟨"com/example/tallymark/tallymark/FileFormatException", "fault", "(Ljava/lang/String;)Lcom/example/tallymark/tallymark/Fault;"⟩ : MethodName)) (wd109 hw) (wd110 hw) (fun q => notFace_of_selects (args := #[]) (mvT q (wd112 hw))) (wd112 hw) (wd111 hw) (rm_faultNR hw hs K117.O A117 FL117 FK117 FM117 hln) (wd113 hw) (wd47 hw) (by decide) A117 (argsL := [(.ref fl)]) (rest := []) rfl pd_28Ljava2flang2fString3b29Lcom2fexample2ftallymark2ftallymark2fFault3b rfl rfl (W := 0) rfl (by decide) (by decide) (by decide) (by decide) at_220 rfl ?_
  intro T118 h118 L118 v118 K118 q118
  obtain ⟨ft118, rfl, X118, A118, Ffile118, Fline118, Fkey118, Fmessage118⟩ := q118
  show G (T118.setTop (mkF m 223 #[.val (.long q0), .second, .val (.int k2), .val (.int m3), .val (.int f4), .val (.int g5), .val (.int w6), .val (.long ln), .second, .val .null, .val (.ref mg), .val (.ref fl), .val (.ref a116), .unset] [(.ref ft118)]))
  refine own_astore K118 (Ls' := #[.val (.long q0), .second, .val (.int k2), .val (.int m3), .val (.int f4), .val (.int g5), .val (.int w6), .val (.long ln), .second, .val .null, .val (.ref mg), .val (.ref fl), .val (.ref a116), .val (.ref ft118)]) at_223 rfl rfl rfl ?_
  refine own_aload K118 at_225 rfl rfl rfl ?_
  refine own_callV K118 (a := ft118) (x0 := (⟨"com/example/tallymark/tallymark/Fault", "file", "()Ljava/lang/String;"⟩ : MethodName)) (wd145 hw) (wd146 hw) (fun q => notFace_of_selects (args := #[]) (mvT q (wd148 hw))) (wd148 hw) (wd147 hw) (rm_fileR hw hs K118.O Ffile118) (wd149 hw) (wd116 hw) (by decide) A118 (argsL := []) (rest := []) rfl pd_2829Ljava2flang2fString3b rfl rfl (W := 0) rfl (by decide) (by decide) (by decide) (by decide) at_227 rfl ?_
  intro T119 h119 L119 v119 K119 q119
  obtain ⟨rfl, e119⟩ := q119
  have f119 := e119.symm
  subst f119
  show G (T119.setTop (mkF m 230 #[.val (.long q0), .second, .val (.int k2), .val (.int m3), .val (.int f4), .val (.int g5), .val (.int w6), .val (.long ln), .second, .val .null, .val (.ref mg), .val (.ref fl), .val (.ref a116), .val (.ref ft118)] [(.ref fl)]))
  refine own_aload K119 at_230 rfl rfl rfl ?_
  refine own_callS K119 (wd150 hw) (wd151 hw) (rm_eqR hw hs K119.O ((SF.ext X117).ext X118)) (wd153 hw) (wd152 hw) (by decide) (argsL := [(.ref fl), (.ref fl)]) (rest := []) rfl pd_28Ljava2flang2fString3bLjava2flang2fString3b29Z rfl rfl (W := 0) rfl (by decide) (by decide) (by decide) (by decide) at_232 rfl ?_
  intro T120 h120 L120 v120 K120 q120
  obtain ⟨rfl, e120⟩ := q120
  have f120 := e120.symm
  subst f120
  show G (T120.setTop (mkF m 235 #[.val (.long q0), .second, .val (.int k2), .val (.int m3), .val (.int f4), .val (.int g5), .val (.int w6), .val (.long ln), .second, .val .null, .val (.ref mg), .val (.ref fl), .val (.ref a116), .val (.ref ft118)] [(.int (1 : Int32))]))
  refine own_ifNo K120 at_235 rfl ((if0 _ _).trans (feq (by decide)).1) ?_
  refine own_aload K120 at_238 rfl rfl rfl ?_
  refine own_callV K120 (a := ft118) (x0 := (⟨"com/example/tallymark/tallymark/Fault", "line", "()J"⟩ : MethodName)) (wd159 hw) (wd160 hw) (fun q => notFace_of_selects (args := #[]) (mvT q (wd162 hw))) (wd162 hw) (wd161 hw) (rm_lineJ hw hs K120.O Fline118) (wd163 hw) (wd116 hw) (by decide) A118 (argsL := []) (rest := []) rfl pd_2829J rfl rfl (W := 0) rfl (by decide) (by decide) (by decide) (by decide) at_240 rfl ?_
  intro T121 h121 L121 v121 K121 q121
  obtain ⟨rfl, e121⟩ := q121
  have f121 := e121.symm
  subst f121
  show G (T121.setTop (mkF m 243 #[.val (.long q0), .second, .val (.int k2), .val (.int m3), .val (.int f4), .val (.int g5), .val (.int w6), .val (.long ln), .second, .val .null, .val (.ref mg), .val (.ref fl), .val (.ref a116), .val (.ref ft118)] [(.long ln)]))
  refine own_lload K121 at_243 rfl rfl ?_
  refine own_lcmp K121 at_245 rfl ?_
  refine own_ifNo K121 at_246 rfl ((if0 _ _).trans (teq (own_lce ln)).2) ?_
  refine own_aload K121 at_249 rfl rfl rfl ?_
  refine own_callV K121 (a := ft118) (x0 := (⟨"com/example/tallymark/tallymark/Fault", "key", "()Ljava/lang/String;"⟩ : MethodName)) (wd164 hw) (wd165 hw) (fun q => notFace_of_selects (args := #[]) (mvT q (wd167 hw))) (wd167 hw) (wd166 hw) (rm_keyN hw hs K121.O Fkey118) (wd168 hw) (wd116 hw) (by decide) A118 (argsL := []) (rest := []) rfl pd_2829Ljava2flang2fString3b rfl rfl (W := 0) rfl (by decide) (by decide) (by decide) (by decide) at_251 rfl ?_
  intro T122 h122 L122 v122 K122 q122
  obtain ⟨rfl, e122⟩ := q122
  have f122 := e122.symm
  subst f122
  show G (T122.setTop (mkF m 254 #[.val (.long q0), .second, .val (.int k2), .val (.int m3), .val (.int f4), .val (.int g5), .val (.int w6), .val (.long ln), .second, .val .null, .val (.ref mg), .val (.ref fl), .val (.ref a116), .val (.ref ft118)] [.null]))
  refine own_aload K122 at_254 rfl rfl rfl ?_
  refine own_callS K122 (wd150 hw) (wd151 hw) (rm_eqN hw hs K122.O) (wd153 hw) (wd152 hw) (by decide) (argsL := [.null, .null]) (rest := []) rfl pd_28Ljava2flang2fString3bLjava2flang2fString3b29Z rfl rfl (W := 0) rfl (by decide) (by decide) (by decide) (by decide) at_256 rfl ?_
  intro T123 h123 L123 v123 K123 q123
  obtain ⟨rfl, e123⟩ := q123
  have f123 := e123.symm
  subst f123
  show G (T123.setTop (mkF m 259 #[.val (.long q0), .second, .val (.int k2), .val (.int m3), .val (.int f4), .val (.int g5), .val (.int w6), .val (.long ln), .second, .val .null, .val (.ref mg), .val (.ref fl), .val (.ref a116), .val (.ref ft118)] [(.int (1 : Int32))]))
  refine own_ifNo K123 at_259 rfl ((if0 _ _).trans (feq (by decide)).1) ?_
  refine own_aload K123 at_262 rfl rfl rfl ?_
  refine own_callV K123 (a := ft118) (x0 := (⟨"com/example/tallymark/tallymark/Fault", "message", "()Ljava/lang/String;"⟩ : MethodName)) (wd169 hw) (wd170 hw) (fun q => notFace_of_selects (args := #[]) (mvT q (wd172 hw))) (wd172 hw) (wd171 hw) (rm_messageR hw hs K123.O Fmessage118) (wd173 hw) (wd116 hw) (by decide) A118 (argsL := []) (rest := []) rfl pd_2829Ljava2flang2fString3b rfl rfl (W := 0) rfl (by decide) (by decide) (by decide) (by decide) at_264 rfl ?_
  intro T124 h124 L124 v124 K124 q124
  obtain ⟨rfl, e124⟩ := q124
  have f124 := e124.symm
  subst f124
  show G (T124.setTop (mkF m 267 #[.val (.long q0), .second, .val (.int k2), .val (.int m3), .val (.int f4), .val (.int g5), .val (.int w6), .val (.long ln), .second, .val .null, .val (.ref mg), .val (.ref fl), .val (.ref a116), .val (.ref ft118)] [(.ref mg)]))
  refine own_aload K124 at_267 rfl rfl rfl ?_
  refine own_callS K124 (wd150 hw) (wd151 hw) (rm_eqR hw hs K124.O ((SM.ext X117).ext X118)) (wd153 hw) (wd152 hw) (by decide) (argsL := [(.ref mg), (.ref mg)]) (rest := []) rfl pd_28Ljava2flang2fString3bLjava2flang2fString3b29Z rfl rfl (W := 0) rfl (by decide) (by decide) (by decide) (by decide) at_269 rfl ?_
  intro T125 h125 L125 v125 K125 q125
  obtain ⟨rfl, e125⟩ := q125
  have f125 := e125.symm
  subst f125
  show G (T125.setTop (mkF m 272 #[.val (.long q0), .second, .val (.int k2), .val (.int m3), .val (.int f4), .val (.int g5), .val (.int w6), .val (.long ln), .second, .val .null, .val (.ref mg), .val (.ref fl), .val (.ref a116), .val (.ref ft118)] [(.int (1 : Int32))]))
  refine own_ifNo K125 at_272 rfl ((if0 _ _).trans (feq (by decide)).1) ?_
  refine own_iconst K125 (v := (1 : Int32)) at_275 rfl rfl ?_
  refine own_goto K125 at_276 (pc' := 280) (by decide) (by decide) ?_
  exact own_retN K125 (z' := (1 : Int32)) at_280 rfl (by simp) (by decide) (by decide) (by decide) (hq _)
end Law
section Law
variable {p : Program} {l : Launch} {e : Env} {s : State} {m : MethodId} {args : Array Value} {below : List Frame} {meth : Method} {c : Code} {Q : Option Value → Heap → Prop} {G : State → Prop} {Z T : State} {L : List Loc} {k n : Nat} {h h0 : Heap} {a0 : Array Value}
set_option maxRecDepth 65536 in
set_option maxHeartbeats 40000000 in
theorem law_J3RN (hw : ∀ d ∈ tables_1, d.before a0 Z = true) (hs : ∀ d ∈ jdkStatics_1, d.before a0 Z = true) (hl : l.stackTraces = true) (r2 : ∀ d ∈ twoRefs, d.before a0 Z = true) (hkn : s.vm.MethodsKnown ∧ s.vm.FramesKnown below) (hq : ∀ h, Q (some (.int 1)) h) {q0 : Int64} {k2 m3 f4 g5 w6 : Int32} {ln : Int64} {fl : Addr} (K : own_K p l e room_1 s m args below meth c code "com/example/tallymark/tallymark/FileFormatExceptionFaultPinLaw" "law" 14 (some .boolean) Q G Z T L 9 24 h) {ky : Addr} {cs : List Int32} (hln : ¬ ln < 0 ∧ ¬ ln = 0) (S : own_Str Z h ky cs) (hpos : 0 < cs.length) (hlen : cs.length ≤ 4000) (SF : Exa Z h fl "java/lang/String") : G (T.setTop (mkF m 201 #[.val (.long q0), .second, .val (.int k2), .val (.int m3), .val (.int f4), .val (.int g5), .val (.int w6), .val (.long ln), .second, .val (.ref ky), .val .null, .val (.ref fl), .unset, .unset] [])) := by
  refine own_newO K (wd45 hw) (wd46 hw) (wd47 hw) at_201 (by decide) (by decide) rfl ?_
  intro T126 h126 a126 K126 g126 E126 A126 D126 U126
  have F_cause_126 : Fld Z h126 a126 "java/lang/Throwable" "cause" "Ljava/lang/Throwable;" .null := D126 (Or.inl (wd70 hw)) (ty := (.object "java/lang/Throwable")) (by decide)
  have F_stackTrace_126 : Fld Z h126 a126 "java/lang/Throwable" "stackTrace" "[Ljava/lang/StackTraceElement;" .null := D126 (Or.inl (wd73 hw)) (ty := (.array (.object "java/lang/StackTraceElement"))) (by decide)
  have F_suppressedExceptions_126 : Fld Z h126 a126 "java/lang/Throwable" "suppressedExceptions" "Ljava/util/List;" .null := D126 (Or.inl (wd76 hw)) (ty := (.object "java/util/List")) (by decide)
  have F_detailMessage_126 : Fld Z h126 a126 "java/lang/Throwable" "detailMessage" "Ljava/lang/String;" .null := D126 (Or.inl (wd100 hw)) (ty := (.object "java/lang/String")) (by decide)
  have F_backtrace_126 : Fld Z h126 a126 "java/lang/Throwable" "backtrace" "Ljava/lang/Object;" .null := D126 (Or.inl (wd101 hw)) (ty := (.object "java/lang/Object")) (by decide)
  have F_depth_126 : Fld Z h126 a126 "java/lang/Throwable" "depth" "I" (.int (0 : Int32)) := D126 (Or.inl (wd102 hw)) (ty := .int) (by decide)
  have F_line_126 : Fld Z h126 a126 "com/example/tallymark/tallymark/FileFormatException" "line" "J" (.long (0 : Int64)) := D126 (Or.inr (wd106 hw)) (ty := .long) (by decide)
  have F_key_126 : Fld Z h126 a126 "com/example/tallymark/tallymark/FileFormatException" "key" "Ljava/lang/String;" .null := D126 (Or.inr (wd108 hw)) (ty := (.object "java/lang/String")) (by decide)
  refine own_dup K126 at_204 rfl rfl ?_
  refine own_lload K126 at_205 rfl rfl ?_
  refine own_aload K126 at_207 rfl rfl rfl ?_
  refine own_aload K126 at_209 rfl rfl rfl ?_
  have gx126 : Z.heap.size ≤ a126 := by rw [g126]; exact K.O.1
  refine own_callIK K126 hkn (a := a126) (wd48 hw) (wd49 hw) (rm_ffeRN hw hs K126.O hl r2 A126 U126 F_cause_126 F_stackTrace_126 F_suppressedExceptions_126 F_detailMessage_126 F_backtrace_126 gx126 F_line_126 F_key_126) (wd50 hw) (wd47 hw) (by decide) rfl (argsL := [(.long ln), (.ref ky), .null]) (rest := [(.ref a126)]) rfl pd_28JLjava2flang2fString3bLjava2flang2fString3b29V rfl rfl (W := 1) rfl (by decide) (by decide) (by decide) (by decide) at_211 rfl ?_
  intro T127 h127 L127 v127 K127 q127
  obtain ⟨rfl, Kp127, A127, FL127, FK127, FM127⟩ := q127
  show G (T127.setTop (mkF m 214 #[.val (.long q0), .second, .val (.int k2), .val (.int m3), .val (.int f4), .val (.int g5), .val (.int w6), .val (.long ln), .second, .val (.ref ky), .val .null, .val (.ref fl), .unset, .unset] [(.ref a126)]))
  have X127 : Ext h h127 := own_ext_keep E126 Kp127 (fun y q => by cases List.mem_singleton.mp q; exact Nat.le_of_eq g126.symm)
  refine own_astore K127 (Ls' := #[.val (.long q0), .second, .val (.int k2), .val (.int m3), .val (.int f4), .val (.int g5), .val (.int w6), .val (.long ln), .second, .val (.ref ky), .val .null, .val (.ref fl), .val (.ref a126), .unset]) at_214 rfl rfl rfl ?_
  refine own_aload K127 at_216 rfl rfl rfl ?_
  refine own_aload K127 at_218 rfl rfl rfl ?_
  refine own_callV K127 (a := a126) (x0 := (⟨"com/example/tallymark/tallymark/FileFormatException", "fault", "(Ljava/lang/String;)Lcom/example/tallymark/tallymark/Fault;"⟩ : MethodName)) (wd109 hw) (wd110 hw) (fun q => notFace_of_selects (args := #[]) (mvT q (wd112 hw))) (wd112 hw) (wd111 hw) (rm_faultRN hw hs K127.O A127 FL127 FK127 FM127 hln (S.ext X127) hpos hlen) (wd113 hw) (wd47 hw) (by decide) A127 (argsL := [(.ref fl)]) (rest := []) rfl pd_28Ljava2flang2fString3b29Lcom2fexample2ftallymark2ftallymark2fFault3b rfl rfl (W := 0) rfl (by decide) (by decide) (by decide) (by decide) at_220 rfl ?_
  intro T128 h128 L128 v128 K128 q128
  obtain ⟨ft128, rfl, X128, A128, Ffile128, Fline128, Fkey128, Fmessage128⟩ := q128
  show G (T128.setTop (mkF m 223 #[.val (.long q0), .second, .val (.int k2), .val (.int m3), .val (.int f4), .val (.int g5), .val (.int w6), .val (.long ln), .second, .val (.ref ky), .val .null, .val (.ref fl), .val (.ref a126), .unset] [(.ref ft128)]))
  refine own_astore K128 (Ls' := #[.val (.long q0), .second, .val (.int k2), .val (.int m3), .val (.int f4), .val (.int g5), .val (.int w6), .val (.long ln), .second, .val (.ref ky), .val .null, .val (.ref fl), .val (.ref a126), .val (.ref ft128)]) at_223 rfl rfl rfl ?_
  refine own_aload K128 at_225 rfl rfl rfl ?_
  refine own_callV K128 (a := ft128) (x0 := (⟨"com/example/tallymark/tallymark/Fault", "file", "()Ljava/lang/String;"⟩ : MethodName)) (wd145 hw) (wd146 hw) (fun q => notFace_of_selects (args := #[]) (mvT q (wd148 hw))) (wd148 hw) (wd147 hw) (rm_fileR hw hs K128.O Ffile128) (wd149 hw) (wd116 hw) (by decide) A128 (argsL := []) (rest := []) rfl pd_2829Ljava2flang2fString3b rfl rfl (W := 0) rfl (by decide) (by decide) (by decide) (by decide) at_227 rfl ?_
  intro T129 h129 L129 v129 K129 q129
  obtain ⟨rfl, e129⟩ := q129
  have f129 := e129.symm
  subst f129
  show G (T129.setTop (mkF m 230 #[.val (.long q0), .second, .val (.int k2), .val (.int m3), .val (.int f4), .val (.int g5), .val (.int w6), .val (.long ln), .second, .val (.ref ky), .val .null, .val (.ref fl), .val (.ref a126), .val (.ref ft128)] [(.ref fl)]))
  refine own_aload K129 at_230 rfl rfl rfl ?_
  refine own_callS K129 (wd150 hw) (wd151 hw) (rm_eqR hw hs K129.O ((SF.ext X127).ext X128)) (wd153 hw) (wd152 hw) (by decide) (argsL := [(.ref fl), (.ref fl)]) (rest := []) rfl pd_28Ljava2flang2fString3bLjava2flang2fString3b29Z rfl rfl (W := 0) rfl (by decide) (by decide) (by decide) (by decide) at_232 rfl ?_
  intro T130 h130 L130 v130 K130 q130
  obtain ⟨rfl, e130⟩ := q130
  have f130 := e130.symm
  subst f130
  show G (T130.setTop (mkF m 235 #[.val (.long q0), .second, .val (.int k2), .val (.int m3), .val (.int f4), .val (.int g5), .val (.int w6), .val (.long ln), .second, .val (.ref ky), .val .null, .val (.ref fl), .val (.ref a126), .val (.ref ft128)] [(.int (1 : Int32))]))
  refine own_ifNo K130 at_235 rfl ((if0 _ _).trans (feq (by decide)).1) ?_
  refine own_aload K130 at_238 rfl rfl rfl ?_
  refine own_callV K130 (a := ft128) (x0 := (⟨"com/example/tallymark/tallymark/Fault", "line", "()J"⟩ : MethodName)) (wd159 hw) (wd160 hw) (fun q => notFace_of_selects (args := #[]) (mvT q (wd162 hw))) (wd162 hw) (wd161 hw) (rm_lineJ hw hs K130.O Fline128) (wd163 hw) (wd116 hw) (by decide) A128 (argsL := []) (rest := []) rfl pd_2829J rfl rfl (W := 0) rfl (by decide) (by decide) (by decide) (by decide) at_240 rfl ?_
  intro T131 h131 L131 v131 K131 q131
  obtain ⟨rfl, e131⟩ := q131
  have f131 := e131.symm
  subst f131
  show G (T131.setTop (mkF m 243 #[.val (.long q0), .second, .val (.int k2), .val (.int m3), .val (.int f4), .val (.int g5), .val (.int w6), .val (.long ln), .second, .val (.ref ky), .val .null, .val (.ref fl), .val (.ref a126), .val (.ref ft128)] [(.long ln)]))
  refine own_lload K131 at_243 rfl rfl ?_
  refine own_lcmp K131 at_245 rfl ?_
  refine own_ifNo K131 at_246 rfl ((if0 _ _).trans (teq (own_lce ln)).2) ?_
  refine own_aload K131 at_249 rfl rfl rfl ?_
  refine own_callV K131 (a := ft128) (x0 := (⟨"com/example/tallymark/tallymark/Fault", "key", "()Ljava/lang/String;"⟩ : MethodName)) (wd164 hw) (wd165 hw) (fun q => notFace_of_selects (args := #[]) (mvT q (wd167 hw))) (wd167 hw) (wd166 hw) (rm_keyR hw hs K131.O Fkey128) (wd168 hw) (wd116 hw) (by decide) A128 (argsL := []) (rest := []) rfl pd_2829Ljava2flang2fString3b rfl rfl (W := 0) rfl (by decide) (by decide) (by decide) (by decide) at_251 rfl ?_
  intro T132 h132 L132 v132 K132 q132
  obtain ⟨rfl, e132⟩ := q132
  have f132 := e132.symm
  subst f132
  show G (T132.setTop (mkF m 254 #[.val (.long q0), .second, .val (.int k2), .val (.int m3), .val (.int f4), .val (.int g5), .val (.int w6), .val (.long ln), .second, .val (.ref ky), .val .null, .val (.ref fl), .val (.ref a126), .val (.ref ft128)] [(.ref ky)]))
  refine own_aload K132 at_254 rfl rfl rfl ?_
  refine own_callS K132 (wd150 hw) (wd151 hw) (rm_eqR hw hs K132.O ((S.exa.ext X127).ext X128)) (wd153 hw) (wd152 hw) (by decide) (argsL := [(.ref ky), (.ref ky)]) (rest := []) rfl pd_28Ljava2flang2fString3bLjava2flang2fString3b29Z rfl rfl (W := 0) rfl (by decide) (by decide) (by decide) (by decide) at_256 rfl ?_
  intro T133 h133 L133 v133 K133 q133
  obtain ⟨rfl, e133⟩ := q133
  have f133 := e133.symm
  subst f133
  show G (T133.setTop (mkF m 259 #[.val (.long q0), .second, .val (.int k2), .val (.int m3), .val (.int f4), .val (.int g5), .val (.int w6), .val (.long ln), .second, .val (.ref ky), .val .null, .val (.ref fl), .val (.ref a126), .val (.ref ft128)] [(.int (1 : Int32))]))
  refine own_ifNo K133 at_259 rfl ((if0 _ _).trans (feq (by decide)).1) ?_
  refine own_aload K133 at_262 rfl rfl rfl ?_
  refine own_callV K133 (a := ft128) (x0 := (⟨"com/example/tallymark/tallymark/Fault", "message", "()Ljava/lang/String;"⟩ : MethodName)) (wd169 hw) (wd170 hw) (fun q => notFace_of_selects (args := #[]) (mvT q (wd172 hw))) (wd172 hw) (wd171 hw) (rm_messageN hw hs K133.O Fmessage128) (wd173 hw) (wd116 hw) (by decide) A128 (argsL := []) (rest := []) rfl pd_2829Ljava2flang2fString3b rfl rfl (W := 0) rfl (by decide) (by decide) (by decide) (by decide) at_264 rfl ?_
  intro T134 h134 L134 v134 K134 q134
  obtain ⟨rfl, e134⟩ := q134
  have f134 := e134.symm
  subst f134
  show G (T134.setTop (mkF m 267 #[.val (.long q0), .second, .val (.int k2), .val (.int m3), .val (.int f4), .val (.int g5), .val (.int w6), .val (.long ln), .second, .val (.ref ky), .val .null, .val (.ref fl), .val (.ref a126), .val (.ref ft128)] [.null]))
  refine own_aload K134 at_267 rfl rfl rfl ?_
  refine own_callS K134 (wd150 hw) (wd151 hw) (rm_eqN hw hs K134.O) (wd153 hw) (wd152 hw) (by decide) (argsL := [.null, .null]) (rest := []) rfl pd_28Ljava2flang2fString3bLjava2flang2fString3b29Z rfl rfl (W := 0) rfl (by decide) (by decide) (by decide) (by decide) at_269 rfl ?_
  intro T135 h135 L135 v135 K135 q135
  obtain ⟨rfl, e135⟩ := q135
  have f135 := e135.symm
  subst f135
  show G (T135.setTop (mkF m 272 #[.val (.long q0), .second, .val (.int k2), .val (.int m3), .val (.int f4), .val (.int g5), .val (.int w6), .val (.long ln), .second, .val (.ref ky), .val .null, .val (.ref fl), .val (.ref a126), .val (.ref ft128)] [(.int (1 : Int32))]))
  refine own_ifNo K135 at_272 rfl ((if0 _ _).trans (feq (by decide)).1) ?_
  refine own_iconst K135 (v := (1 : Int32)) at_275 rfl rfl ?_
  refine own_goto K135 at_276 (pc' := 280) (by decide) (by decide) ?_
  exact own_retN K135 (z' := (1 : Int32)) at_280 rfl (by simp) (by decide) (by decide) (by decide) (hq _)
end Law
section Law
variable {p : Program} {l : Launch} {e : Env} {s : State} {m : MethodId} {args : Array Value} {below : List Frame} {meth : Method} {c : Code} {Q : Option Value → Heap → Prop} {G : State → Prop} {Z T : State} {L : List Loc} {k n : Nat} {h h0 : Heap} {a0 : Array Value}
set_option maxRecDepth 65536 in
set_option maxHeartbeats 40000000 in
theorem law_J3RR (hw : ∀ d ∈ tables_1, d.before a0 Z = true) (hs : ∀ d ∈ jdkStatics_1, d.before a0 Z = true) (hl : l.stackTraces = true) (r2 : ∀ d ∈ twoRefs, d.before a0 Z = true) (hkn : s.vm.MethodsKnown ∧ s.vm.FramesKnown below) (hq : ∀ h, Q (some (.int 1)) h) {q0 : Int64} {k2 m3 f4 g5 w6 : Int32} {ln : Int64} {fl mg : Addr} (K : own_K p l e room_1 s m args below meth c code "com/example/tallymark/tallymark/FileFormatExceptionFaultPinLaw" "law" 14 (some .boolean) Q G Z T L 9 24 h) {ky : Addr} {cs : List Int32} (hln : ¬ ln < 0 ∧ ¬ ln = 0) (S : own_Str Z h ky cs) (hpos : 0 < cs.length) (hlen : cs.length ≤ 4000) (SF : Exa Z h fl "java/lang/String") (SM : Exa Z h mg "java/lang/String") : G (T.setTop (mkF m 201 #[.val (.long q0), .second, .val (.int k2), .val (.int m3), .val (.int f4), .val (.int g5), .val (.int w6), .val (.long ln), .second, .val (.ref ky), .val (.ref mg), .val (.ref fl), .unset, .unset] [])) := by
  refine own_newO K (wd45 hw) (wd46 hw) (wd47 hw) at_201 (by decide) (by decide) rfl ?_
  intro T136 h136 a136 K136 g136 E136 A136 D136 U136
  have F_cause_136 : Fld Z h136 a136 "java/lang/Throwable" "cause" "Ljava/lang/Throwable;" .null := D136 (Or.inl (wd70 hw)) (ty := (.object "java/lang/Throwable")) (by decide)
  have F_stackTrace_136 : Fld Z h136 a136 "java/lang/Throwable" "stackTrace" "[Ljava/lang/StackTraceElement;" .null := D136 (Or.inl (wd73 hw)) (ty := (.array (.object "java/lang/StackTraceElement"))) (by decide)
  have F_suppressedExceptions_136 : Fld Z h136 a136 "java/lang/Throwable" "suppressedExceptions" "Ljava/util/List;" .null := D136 (Or.inl (wd76 hw)) (ty := (.object "java/util/List")) (by decide)
  have F_detailMessage_136 : Fld Z h136 a136 "java/lang/Throwable" "detailMessage" "Ljava/lang/String;" .null := D136 (Or.inl (wd100 hw)) (ty := (.object "java/lang/String")) (by decide)
  have F_backtrace_136 : Fld Z h136 a136 "java/lang/Throwable" "backtrace" "Ljava/lang/Object;" .null := D136 (Or.inl (wd101 hw)) (ty := (.object "java/lang/Object")) (by decide)
  have F_depth_136 : Fld Z h136 a136 "java/lang/Throwable" "depth" "I" (.int (0 : Int32)) := D136 (Or.inl (wd102 hw)) (ty := .int) (by decide)
  have F_line_136 : Fld Z h136 a136 "com/example/tallymark/tallymark/FileFormatException" "line" "J" (.long (0 : Int64)) := D136 (Or.inr (wd106 hw)) (ty := .long) (by decide)
  have F_key_136 : Fld Z h136 a136 "com/example/tallymark/tallymark/FileFormatException" "key" "Ljava/lang/String;" .null := D136 (Or.inr (wd108 hw)) (ty := (.object "java/lang/String")) (by decide)
  refine own_dup K136 at_204 rfl rfl ?_
  refine own_lload K136 at_205 rfl rfl ?_
  refine own_aload K136 at_207 rfl rfl rfl ?_
  refine own_aload K136 at_209 rfl rfl rfl ?_
  have gx136 : Z.heap.size ≤ a136 := by rw [g136]; exact K.O.1
  refine own_callIK K136 hkn (a := a136) (wd48 hw) (wd49 hw) (rm_ffeRR hw hs K136.O hl r2 A136 U136 F_cause_136 F_stackTrace_136 F_suppressedExceptions_136 F_detailMessage_136 F_backtrace_136 gx136 F_line_136 F_key_136) (wd50 hw) (wd47 hw) (by decide) rfl (argsL := [(.long ln), (.ref ky), (.ref mg)]) (rest := [(.ref a136)]) rfl pd_28JLjava2flang2fString3bLjava2flang2fString3b29V rfl rfl (W := 1) rfl (by decide) (by decide) (by decide) (by decide) at_211 rfl ?_
  intro T137 h137 L137 v137 K137 q137
  obtain ⟨rfl, Kp137, A137, FL137, FK137, FM137⟩ := q137
  show G (T137.setTop (mkF m 214 #[.val (.long q0), .second, .val (.int k2), .val (.int m3), .val (.int f4), .val (.int g5), .val (.int w6), .val (.long ln), .second, .val (.ref ky), .val (.ref mg), .val (.ref fl), .unset, .unset] [(.ref a136)]))
  have X137 : Ext h h137 := own_ext_keep E136 Kp137 (fun y q => by cases List.mem_singleton.mp q; exact Nat.le_of_eq g136.symm)
  refine own_astore K137 (Ls' := #[.val (.long q0), .second, .val (.int k2), .val (.int m3), .val (.int f4), .val (.int g5), .val (.int w6), .val (.long ln), .second, .val (.ref ky), .val (.ref mg), .val (.ref fl), .val (.ref a136), .unset]) at_214 rfl rfl rfl ?_
  refine own_aload K137 at_216 rfl rfl rfl ?_
  refine own_aload K137 at_218 rfl rfl rfl ?_
  refine own_callV K137 (a := a136) (x0 := (⟨"com/example/tallymark/tallymark/FileFormatException", "fault", "(Ljava/lang/String;)Lcom/example/tallymark/tallymark/Fault;"⟩ : MethodName)) (wd109 hw) (wd110 hw) (fun q => notFace_of_selects (args := #[]) (mvT q (wd112 hw))) (wd112 hw) (wd111 hw) (rm_faultRR hw hs K137.O A137 FL137 FK137 FM137 hln (S.ext X137) hpos hlen) (wd113 hw) (wd47 hw) (by decide) A137 (argsL := [(.ref fl)]) (rest := []) rfl pd_28Ljava2flang2fString3b29Lcom2fexample2ftallymark2ftallymark2fFault3b rfl rfl (W := 0) rfl (by decide) (by decide) (by decide) (by decide) at_220 rfl ?_
  intro T138 h138 L138 v138 K138 q138
  obtain ⟨ft138, rfl, X138, A138, Ffile138, Fline138, Fkey138, Fmessage138⟩ := q138
  show G (T138.setTop (mkF m 223 #[.val (.long q0), .second, .val (.int k2), .val (.int m3), .val (.int f4), .val (.int g5), .val (.int w6), .val (.long ln), .second, .val (.ref ky), .val (.ref mg), .val (.ref fl), .val (.ref a136), .unset] [(.ref ft138)]))
  refine own_astore K138 (Ls' := #[.val (.long q0), .second, .val (.int k2), .val (.int m3), .val (.int f4), .val (.int g5), .val (.int w6), .val (.long ln), .second, .val (.ref ky), .val (.ref mg), .val (.ref fl), .val (.ref a136), .val (.ref ft138)]) at_223 rfl rfl rfl ?_
  refine own_aload K138 at_225 rfl rfl rfl ?_
  refine own_callV K138 (a := ft138) (x0 := (⟨"com/example/tallymark/tallymark/Fault", "file", "()Ljava/lang/String;"⟩ : MethodName)) (wd145 hw) (wd146 hw) (fun q => notFace_of_selects (args := #[]) (mvT q (wd148 hw))) (wd148 hw) (wd147 hw) (rm_fileR hw hs K138.O Ffile138) (wd149 hw) (wd116 hw) (by decide) A138 (argsL := []) (rest := []) rfl pd_2829Ljava2flang2fString3b rfl rfl (W := 0) rfl (by decide) (by decide) (by decide) (by decide) at_227 rfl ?_
  intro T139 h139 L139 v139 K139 q139
  obtain ⟨rfl, e139⟩ := q139
  have f139 := e139.symm
  subst f139
  show G (T139.setTop (mkF m 230 #[.val (.long q0), .second, .val (.int k2), .val (.int m3), .val (.int f4), .val (.int g5), .val (.int w6), .val (.long ln), .second, .val (.ref ky), .val (.ref mg), .val (.ref fl), .val (.ref a136), .val (.ref ft138)] [(.ref fl)]))
  refine own_aload K139 at_230 rfl rfl rfl ?_
  refine own_callS K139 (wd150 hw) (wd151 hw) (rm_eqR hw hs K139.O ((SF.ext X137).ext X138)) (wd153 hw) (wd152 hw) (by decide) (argsL := [(.ref fl), (.ref fl)]) (rest := []) rfl pd_28Ljava2flang2fString3bLjava2flang2fString3b29Z rfl rfl (W := 0) rfl (by decide) (by decide) (by decide) (by decide) at_232 rfl ?_
  intro T140 h140 L140 v140 K140 q140
  obtain ⟨rfl, e140⟩ := q140
  have f140 := e140.symm
  subst f140
  show G (T140.setTop (mkF m 235 #[.val (.long q0), .second, .val (.int k2), .val (.int m3), .val (.int f4), .val (.int g5), .val (.int w6), .val (.long ln), .second, .val (.ref ky), .val (.ref mg), .val (.ref fl), .val (.ref a136), .val (.ref ft138)] [(.int (1 : Int32))]))
  refine own_ifNo K140 at_235 rfl ((if0 _ _).trans (feq (by decide)).1) ?_
  refine own_aload K140 at_238 rfl rfl rfl ?_
  refine own_callV K140 (a := ft138) (x0 := (⟨"com/example/tallymark/tallymark/Fault", "line", "()J"⟩ : MethodName)) (wd159 hw) (wd160 hw) (fun q => notFace_of_selects (args := #[]) (mvT q (wd162 hw))) (wd162 hw) (wd161 hw) (rm_lineJ hw hs K140.O Fline138) (wd163 hw) (wd116 hw) (by decide) A138 (argsL := []) (rest := []) rfl pd_2829J rfl rfl (W := 0) rfl (by decide) (by decide) (by decide) (by decide) at_240 rfl ?_
  intro T141 h141 L141 v141 K141 q141
  obtain ⟨rfl, e141⟩ := q141
  have f141 := e141.symm
  subst f141
  show G (T141.setTop (mkF m 243 #[.val (.long q0), .second, .val (.int k2), .val (.int m3), .val (.int f4), .val (.int g5), .val (.int w6), .val (.long ln), .second, .val (.ref ky), .val (.ref mg), .val (.ref fl), .val (.ref a136), .val (.ref ft138)] [(.long ln)]))
  refine own_lload K141 at_243 rfl rfl ?_
  refine own_lcmp K141 at_245 rfl ?_
  refine own_ifNo K141 at_246 rfl ((if0 _ _).trans (teq (own_lce ln)).2) ?_
  refine own_aload K141 at_249 rfl rfl rfl ?_
  refine own_callV K141 (a := ft138) (x0 := (⟨"com/example/tallymark/tallymark/Fault", "key", "()Ljava/lang/String;"⟩ : MethodName)) (wd164 hw) (wd165 hw) (fun q => notFace_of_selects (args := #[]) (mvT q (wd167 hw))) (wd167 hw) (wd166 hw) (rm_keyR hw hs K141.O Fkey138) (wd168 hw) (wd116 hw) (by decide) A138 (argsL := []) (rest := []) rfl pd_2829Ljava2flang2fString3b rfl rfl (W := 0) rfl (by decide) (by decide) (by decide) (by decide) at_251 rfl ?_
  intro T142 h142 L142 v142 K142 q142
  obtain ⟨rfl, e142⟩ := q142
  have f142 := e142.symm
  subst f142
  show G (T142.setTop (mkF m 254 #[.val (.long q0), .second, .val (.int k2), .val (.int m3), .val (.int f4), .val (.int g5), .val (.int w6), .val (.long ln), .second, .val (.ref ky), .val (.ref mg), .val (.ref fl), .val (.ref a136), .val (.ref ft138)] [(.ref ky)]))
  refine own_aload K142 at_254 rfl rfl rfl ?_
  refine own_callS K142 (wd150 hw) (wd151 hw) (rm_eqR hw hs K142.O ((S.exa.ext X137).ext X138)) (wd153 hw) (wd152 hw) (by decide) (argsL := [(.ref ky), (.ref ky)]) (rest := []) rfl pd_28Ljava2flang2fString3bLjava2flang2fString3b29Z rfl rfl (W := 0) rfl (by decide) (by decide) (by decide) (by decide) at_256 rfl ?_
  intro T143 h143 L143 v143 K143 q143
  obtain ⟨rfl, e143⟩ := q143
  have f143 := e143.symm
  subst f143
  show G (T143.setTop (mkF m 259 #[.val (.long q0), .second, .val (.int k2), .val (.int m3), .val (.int f4), .val (.int g5), .val (.int w6), .val (.long ln), .second, .val (.ref ky), .val (.ref mg), .val (.ref fl), .val (.ref a136), .val (.ref ft138)] [(.int (1 : Int32))]))
  refine own_ifNo K143 at_259 rfl ((if0 _ _).trans (feq (by decide)).1) ?_
  refine own_aload K143 at_262 rfl rfl rfl ?_
  refine own_callV K143 (a := ft138) (x0 := (⟨"com/example/tallymark/tallymark/Fault", "message", "()Ljava/lang/String;"⟩ : MethodName)) (wd169 hw) (wd170 hw) (fun q => notFace_of_selects (args := #[]) (mvT q (wd172 hw))) (wd172 hw) (wd171 hw) (rm_messageR hw hs K143.O Fmessage138) (wd173 hw) (wd116 hw) (by decide) A138 (argsL := []) (rest := []) rfl pd_2829Ljava2flang2fString3b rfl rfl (W := 0) rfl (by decide) (by decide) (by decide) (by decide) at_264 rfl ?_
  intro T144 h144 L144 v144 K144 q144
  obtain ⟨rfl, e144⟩ := q144
  have f144 := e144.symm
  subst f144
  show G (T144.setTop (mkF m 267 #[.val (.long q0), .second, .val (.int k2), .val (.int m3), .val (.int f4), .val (.int g5), .val (.int w6), .val (.long ln), .second, .val (.ref ky), .val (.ref mg), .val (.ref fl), .val (.ref a136), .val (.ref ft138)] [(.ref mg)]))
  refine own_aload K144 at_267 rfl rfl rfl ?_
  refine own_callS K144 (wd150 hw) (wd151 hw) (rm_eqR hw hs K144.O ((SM.ext X137).ext X138)) (wd153 hw) (wd152 hw) (by decide) (argsL := [(.ref mg), (.ref mg)]) (rest := []) rfl pd_28Ljava2flang2fString3bLjava2flang2fString3b29Z rfl rfl (W := 0) rfl (by decide) (by decide) (by decide) (by decide) at_269 rfl ?_
  intro T145 h145 L145 v145 K145 q145
  obtain ⟨rfl, e145⟩ := q145
  have f145 := e145.symm
  subst f145
  show G (T145.setTop (mkF m 272 #[.val (.long q0), .second, .val (.int k2), .val (.int m3), .val (.int f4), .val (.int g5), .val (.int w6), .val (.long ln), .second, .val (.ref ky), .val (.ref mg), .val (.ref fl), .val (.ref a136), .val (.ref ft138)] [(.int (1 : Int32))]))
  refine own_ifNo K145 at_272 rfl ((if0 _ _).trans (feq (by decide)).1) ?_
  refine own_iconst K145 (v := (1 : Int32)) at_275 rfl rfl ?_
  refine own_goto K145 at_276 (pc' := 280) (by decide) (by decide) ?_
  exact own_retN K145 (z' := (1 : Int32)) at_280 rfl (by simp) (by decide) (by decide) (by decide) (hq _)
end Law
theorem wd1 {a0 : Array Value} {Z : State} (hw : ∀ d ∈ tables_1, d.before a0 Z = true) : (Jvm.Cond.classLink "com/example/tallymark/tallymark/FileFormatExceptionFaultPinLaw" (12 : Nat) "java/lang/String").before a0 Z = true := hw _ (List.mem_of_getElem? (i := 1) rfl)
theorem wd4 {a0 : Array Value} {Z : State} (hw : ∀ d ∈ tables_1, d.before a0 Z = true) : (Jvm.Cond.arrayClass Jvm.ClassFile.FieldType.char).before a0 Z = true := hw _ (List.mem_of_getElem? (i := 4) rfl)
theorem wd7 {a0 : Array Value} {Z : State} (hw : ∀ d ∈ tables_1, d.before a0 Z = true) : (Jvm.Cond.code ({ cls := "java/lang/String", name := "<init>", desc := "([C)V" } : Jvm.MethodName) jdk_42_method_3_code (2 : Nat) (Option.none : Option Jvm.ClassFile.FieldType)).before a0 Z = true := hw _ (List.mem_of_getElem? (i := 7) rfl)
theorem pd_285bC29V : parseMethodDescriptor "([C)V" = some ⟨[(.array .char)], none⟩ := by decide +kernel
theorem wd5 {a0 : Array Value} {Z : State} (hw : ∀ d ∈ tables_1, d.before a0 Z = true) : (Jvm.Cond.methodLink "com/example/tallymark/tallymark/FileFormatExceptionFaultPinLaw" (17 : Nat) ({ cls := "java/lang/String", name := "<init>", desc := "([C)V" } : Jvm.MethodName)).before a0 Z = true := hw _ (List.mem_of_getElem? (i := 5) rfl)
theorem wd6 {a0 : Array Value} {Z : State} (hw : ∀ d ∈ tables_1, d.before a0 Z = true) : (Jvm.Cond.instanceMethod ({ cls := "java/lang/String", name := "<init>", desc := "([C)V" } : Jvm.MethodName)).before a0 Z = true := hw _ (List.mem_of_getElem? (i := 6) rfl)
theorem wd33 {a0 : Array Value} {Z : State} (hw : ∀ d ∈ tables_1, d.before a0 Z = true) : (Jvm.Cond.code ({ cls := "java/lang/String", name := "valueOf", desc := "(C)Ljava/lang/String;" } : Jvm.MethodName) jdk_42_method_139_code (1 : Nat) (Option.some (Jvm.ClassFile.FieldType.object "java/lang/String"))).before a0 Z = true := hw _ (List.mem_of_getElem? (i := 33) rfl)
theorem pd_28C29Ljava2flang2fString3b : parseMethodDescriptor "(C)Ljava/lang/String;" = some ⟨[.char], some (.object "java/lang/String")⟩ := by decide +kernel
theorem wd31 {a0 : Array Value} {Z : State} (hw : ∀ d ∈ tables_1, d.before a0 Z = true) : (Jvm.Cond.methodLink "com/example/tallymark/tallymark/FileFormatExceptionFaultPinLaw" (11 : Nat) ({ cls := "java/lang/String", name := "valueOf", desc := "(C)Ljava/lang/String;" } : Jvm.MethodName)).before a0 Z = true := hw _ (List.mem_of_getElem? (i := 31) rfl)
theorem wd32 {a0 : Array Value} {Z : State} (hw : ∀ d ∈ tables_1, d.before a0 Z = true) : (Jvm.Cond.static ({ cls := "java/lang/String", name := "valueOf", desc := "(C)Ljava/lang/String;" } : Jvm.MethodName)).before a0 Z = true := hw _ (List.mem_of_getElem? (i := 32) rfl)
section Law
variable {p : Program} {l : Launch} {e : Env} {s : State} {m : MethodId} {args : Array Value} {below : List Frame} {meth : Method} {c : Code} {Q : Option Value → Heap → Prop} {G : State → Prop} {Z T : State} {L : List Loc} {k n : Nat} {h h0 : Heap} {a0 : Array Value}
set_option maxRecDepth 65536 in
set_option maxHeartbeats 40000000 in
theorem law_J2NN (hw : ∀ d ∈ tables_1, d.before a0 Z = true) (hs : ∀ d ∈ jdkStatics_1, d.before a0 Z = true) (hl : l.stackTraces = true) (r2 : ∀ d ∈ twoRefs, d.before a0 Z = true) (hkn : s.vm.MethodsKnown ∧ s.vm.FramesKnown below) (hq : ∀ h, Q (some (.int 1)) h) {q0 : Int64} {k2 m3 f4 g5 w6 : Int32} {ln : Int64} (K : own_K p l e room_1 s m args below meth c code "com/example/tallymark/tallymark/FileFormatExceptionFaultPinLaw" "law" 14 (some .boolean) Q G Z T L 6 16 h) (hln : ln = 0) : G (T.setTop (mkF m 144 #[.val (.long q0), .second, .val (.int k2), .val (.int m3), .val (.int f4), .val (.int g5), .val (.int w6), .val (.long ln), .second, .val .null, .val .null, .unset, .unset, .unset] [])) := by
  refine own_iload K at_144 rfl rfl ?_
  refine own_iconst K (v := (1 : Int32)) at_146 rfl rfl ?_
  refine own_iand K at_147 rfl ?_
  by_cases hb1 : (g5 &&& (1 : Int32)) = 0
  · skip
    refine own_ifYes K at_148 (pc' := 166) (by decide) (by decide) ((if0 _ _).trans (teq hb1).1) ?_
    refine own_newO K (wd1 hw) (wd2 hw) (wd3 hw) at_166 (by decide) (by decide) rfl ?_
    intro T146 h146 a146 K146 g146 E146 A146 D146 U146
    have F_coder_146 : Fld Z h146 a146 "java/lang/String" "coder" "B" (.int (0 : Int32)) := D146 (Or.inr (wd28 hw)) (ty := .byte) (by decide)
    have F_value_146 : Fld Z h146 a146 "java/lang/String" "value" "[B" .null := D146 (Or.inr (wd30 hw)) (ty := (.array .byte)) (by decide)
    refine own_dup K146 at_169 rfl rfl ?_
    refine own_iconst K146 (v := (2 : Int32)) at_170 rfl rfl ?_
    refine own_newP K146 (aty := .char) (wd4 hw) at_171 (by decide) (cap := 2) (by decide) (by decide) (by decide) (by decide) rfl ?_
    intro T147 h147 a147 c147 K147 g147 E147 V147
    refine own_dup K147 at_173 rfl rfl ?_
    refine own_iconst K147 (v := (0 : Int32)) at_174 rfl rfl ?_
    refine own_iload K147 at_175 rfl rfl ?_
    refine own_sipush K147 (v := (255 : Int32)) at_177 rfl rfl ?_
    refine own_iand K147 at_180 rfl ?_
    refine own_i2c K147 at_181 rfl ?_
    have gz147 : Z.heap.size ≤ a147 := by rw [g147]; exact Nat.le_trans K.O.1 E146.1
    have gy146 : Z.heap.size ≤ a146 := by rw [g146]; exact K.O.1
    refine own_castore K147 (V147.pad (pad_rep [] _ 2)) ⟨by decide, by decide⟩ 0 rfl (by simp) (x' := ((f4 &&& (255 : Int32)).toUInt32.toUInt16.toUInt32.toInt32)) (own_nar_char8 (own_i2c255 _)) gz147 at_182 rfl ?_
    intro T148 h148 K148 W148 V148
    refine own_dup K148 at_183 rfl rfl ?_
    refine own_iconst K148 (v := (1 : Int32)) at_184 rfl rfl ?_
    refine own_iload K148 at_185 rfl rfl ?_
    refine own_bipush K148 (v := (8 : Int32)) at_187 rfl rfl ?_
    refine own_iushr K148 at_189 rfl ?_
    refine own_sipush K148 (v := (255 : Int32)) at_190 rfl rfl ?_
    refine own_iand K148 at_193 rfl ?_
    refine own_i2c K148 at_194 rfl ?_
    refine own_castore K148 V148 ⟨by decide, by decide⟩ 1 rfl (by simp) (x' := ((((f4.toUInt32 >>> ((8 : Int32) &&& 31).toUInt32).toInt32) &&& (255 : Int32)).toUInt32.toUInt16.toUInt32.toInt32)) (own_nar_char8 (own_i2c255 _)) gz147 at_195 rfl ?_
    intro T149 h149 K149 W149 V149
    have X149 : Ext h146 h149 := own_ext_wr (own_ext_wr E147 W148 (Nat.le_of_eq g147.symm)) W149 (Nat.le_of_eq g147.symm)
    have A149 : Arv Z h149 a147 c147 .char (Int32.ofNat [((f4 &&& (255 : Int32)).toUInt32.toUInt16.toUInt32.toInt32), ((((f4.toUInt32 >>> ((8 : Int32) &&& 31).toUInt32).toInt32) &&& (255 : Int32)).toUInt32.toUInt16.toUInt32.toInt32)].length) ([((f4 &&& (255 : Int32)).toUInt32.toUInt16.toUInt32.toInt32), ((((f4.toUInt32 >>> ((8 : Int32) &&& 31).toUInt32).toInt32) &&& (255 : Int32)).toUInt32.toUInt16.toUInt32.toInt32)].map Value.int) (.int 0) := V149
    refine own_callI K149 (a := a146) (wd5 hw) (wd6 hw) (rm_initC hw hs (cap := 2) K149.O (A146.ext X149) (F_value_146.ext X149) (F_coder_146.ext X149) gy146 A149 (own_all2 (own_i2c255 _) (own_i2c255 _)) (by simp) (by simp) (by simp) (by simp)) (wd7 hw) (wd3 hw) (by decide) rfl (argsL := [(.ref a147)]) (rest := [(.ref a146)]) rfl pd_285bC29V rfl rfl (W := 1) rfl (by decide) (by decide) (by decide) (by decide) at_196 rfl ?_
    intro T150 h150 L150 v150 K150 q150
    obtain ⟨rfl, Kp150, S150⟩ := q150
    show G (T150.setTop (mkF m 199 #[.val (.long q0), .second, .val (.int k2), .val (.int m3), .val (.int f4), .val (.int g5), .val (.int w6), .val (.long ln), .second, .val .null, .val .null, .unset, .unset, .unset] [(.ref a146)]))
    have X150 : Ext h h150 := own_ext_keep (own_ext_trans E146 X149) Kp150 (fun y q => by cases List.mem_singleton.mp q; exact Nat.le_of_eq g146.symm)
    refine own_astore K150 (Ls' := #[.val (.long q0), .second, .val (.int k2), .val (.int m3), .val (.int f4), .val (.int g5), .val (.int w6), .val (.long ln), .second, .val .null, .val .null, .val (.ref a146), .unset, .unset]) at_199 rfl rfl rfl ?_
    exact law_J3NN hw hs hl r2 hkn hq (K150.more (by decide) (by decide)) hln S150.exa
  · skip
    refine own_ifNo K at_148 rfl ((if0 _ _).trans (feq hb1).1) ?_
    refine own_iload K at_151 rfl rfl ?_
    refine own_sipush K (v := (255 : Int32)) at_153 rfl rfl ?_
    refine own_iand K at_156 rfl ?_
    refine own_i2c K at_157 rfl ?_
    refine own_callS K (wd31 hw) (wd32 hw) (rm_valueOfC hw hs K.O (own_i2c255 _)) (wd33 hw) (wd3 hw) (by decide) (argsL := [(.int ((f4 &&& (255 : Int32)).toUInt32.toUInt16.toUInt32.toInt32))]) (rest := []) rfl pd_28C29Ljava2flang2fString3b rfl rfl (W := 0) rfl (by decide) (by decide) (by decide) (by decide) at_158 rfl ?_
    intro T151 h151 L151 v151 K151 q151
    obtain ⟨va151, rfl, gv151, X151, S151⟩ := q151
    show G (T151.setTop (mkF m 161 #[.val (.long q0), .second, .val (.int k2), .val (.int m3), .val (.int f4), .val (.int g5), .val (.int w6), .val (.long ln), .second, .val .null, .val .null, .unset, .unset, .unset] [(.ref va151)]))
    refine own_astore K151 (Ls' := #[.val (.long q0), .second, .val (.int k2), .val (.int m3), .val (.int f4), .val (.int g5), .val (.int w6), .val (.long ln), .second, .val .null, .val .null, .val (.ref va151), .unset, .unset]) at_161 rfl rfl rfl ?_
    refine own_goto K151 at_163 (pc' := 201) (by decide) (by decide) ?_
    exact law_J3NN hw hs hl r2 hkn hq (K151.more (by decide) (by decide)) hln S151.exa
end Law
section Law
variable {p : Program} {l : Launch} {e : Env} {s : State} {m : MethodId} {args : Array Value} {below : List Frame} {meth : Method} {c : Code} {Q : Option Value → Heap → Prop} {G : State → Prop} {Z T : State} {L : List Loc} {k n : Nat} {h h0 : Heap} {a0 : Array Value}
set_option maxRecDepth 65536 in
set_option maxHeartbeats 40000000 in
theorem law_J2NR (hw : ∀ d ∈ tables_1, d.before a0 Z = true) (hs : ∀ d ∈ jdkStatics_1, d.before a0 Z = true) (hl : l.stackTraces = true) (r2 : ∀ d ∈ twoRefs, d.before a0 Z = true) (hkn : s.vm.MethodsKnown ∧ s.vm.FramesKnown below) (hq : ∀ h, Q (some (.int 1)) h) {q0 : Int64} {k2 m3 f4 g5 w6 : Int32} {ln : Int64} {mg : Addr} (K : own_K p l e room_1 s m args below meth c code "com/example/tallymark/tallymark/FileFormatExceptionFaultPinLaw" "law" 14 (some .boolean) Q G Z T L 6 16 h) (hln : ln = 0) (SM : Exa Z h mg "java/lang/String") : G (T.setTop (mkF m 144 #[.val (.long q0), .second, .val (.int k2), .val (.int m3), .val (.int f4), .val (.int g5), .val (.int w6), .val (.long ln), .second, .val .null, .val (.ref mg), .unset, .unset, .unset] [])) := by
  refine own_iload K at_144 rfl rfl ?_
  refine own_iconst K (v := (1 : Int32)) at_146 rfl rfl ?_
  refine own_iand K at_147 rfl ?_
  by_cases hb1 : (g5 &&& (1 : Int32)) = 0
  · skip
    refine own_ifYes K at_148 (pc' := 166) (by decide) (by decide) ((if0 _ _).trans (teq hb1).1) ?_
    refine own_newO K (wd1 hw) (wd2 hw) (wd3 hw) at_166 (by decide) (by decide) rfl ?_
    intro T152 h152 a152 K152 g152 E152 A152 D152 U152
    have F_coder_152 : Fld Z h152 a152 "java/lang/String" "coder" "B" (.int (0 : Int32)) := D152 (Or.inr (wd28 hw)) (ty := .byte) (by decide)
    have F_value_152 : Fld Z h152 a152 "java/lang/String" "value" "[B" .null := D152 (Or.inr (wd30 hw)) (ty := (.array .byte)) (by decide)
    refine own_dup K152 at_169 rfl rfl ?_
    refine own_iconst K152 (v := (2 : Int32)) at_170 rfl rfl ?_
    refine own_newP K152 (aty := .char) (wd4 hw) at_171 (by decide) (cap := 2) (by decide) (by decide) (by decide) (by decide) rfl ?_
    intro T153 h153 a153 c153 K153 g153 E153 V153
    refine own_dup K153 at_173 rfl rfl ?_
    refine own_iconst K153 (v := (0 : Int32)) at_174 rfl rfl ?_
    refine own_iload K153 at_175 rfl rfl ?_
    refine own_sipush K153 (v := (255 : Int32)) at_177 rfl rfl ?_
    refine own_iand K153 at_180 rfl ?_
    refine own_i2c K153 at_181 rfl ?_
    have gz153 : Z.heap.size ≤ a153 := by rw [g153]; exact Nat.le_trans K.O.1 E152.1
    have gy152 : Z.heap.size ≤ a152 := by rw [g152]; exact K.O.1
    refine own_castore K153 (V153.pad (pad_rep [] _ 2)) ⟨by decide, by decide⟩ 0 rfl (by simp) (x' := ((f4 &&& (255 : Int32)).toUInt32.toUInt16.toUInt32.toInt32)) (own_nar_char8 (own_i2c255 _)) gz153 at_182 rfl ?_
    intro T154 h154 K154 W154 V154
    refine own_dup K154 at_183 rfl rfl ?_
    refine own_iconst K154 (v := (1 : Int32)) at_184 rfl rfl ?_
    refine own_iload K154 at_185 rfl rfl ?_
    refine own_bipush K154 (v := (8 : Int32)) at_187 rfl rfl ?_
    refine own_iushr K154 at_189 rfl ?_
    refine own_sipush K154 (v := (255 : Int32)) at_190 rfl rfl ?_
    refine own_iand K154 at_193 rfl ?_
    refine own_i2c K154 at_194 rfl ?_
    refine own_castore K154 V154 ⟨by decide, by decide⟩ 1 rfl (by simp) (x' := ((((f4.toUInt32 >>> ((8 : Int32) &&& 31).toUInt32).toInt32) &&& (255 : Int32)).toUInt32.toUInt16.toUInt32.toInt32)) (own_nar_char8 (own_i2c255 _)) gz153 at_195 rfl ?_
    intro T155 h155 K155 W155 V155
    have X155 : Ext h152 h155 := own_ext_wr (own_ext_wr E153 W154 (Nat.le_of_eq g153.symm)) W155 (Nat.le_of_eq g153.symm)
    have A155 : Arv Z h155 a153 c153 .char (Int32.ofNat [((f4 &&& (255 : Int32)).toUInt32.toUInt16.toUInt32.toInt32), ((((f4.toUInt32 >>> ((8 : Int32) &&& 31).toUInt32).toInt32) &&& (255 : Int32)).toUInt32.toUInt16.toUInt32.toInt32)].length) ([((f4 &&& (255 : Int32)).toUInt32.toUInt16.toUInt32.toInt32), ((((f4.toUInt32 >>> ((8 : Int32) &&& 31).toUInt32).toInt32) &&& (255 : Int32)).toUInt32.toUInt16.toUInt32.toInt32)].map Value.int) (.int 0) := V155
    refine own_callI K155 (a := a152) (wd5 hw) (wd6 hw) (rm_initC hw hs (cap := 2) K155.O (A152.ext X155) (F_value_152.ext X155) (F_coder_152.ext X155) gy152 A155 (own_all2 (own_i2c255 _) (own_i2c255 _)) (by simp) (by simp) (by simp) (by simp)) (wd7 hw) (wd3 hw) (by decide) rfl (argsL := [(.ref a153)]) (rest := [(.ref a152)]) rfl pd_285bC29V rfl rfl (W := 1) rfl (by decide) (by decide) (by decide) (by decide) at_196 rfl ?_
    intro T156 h156 L156 v156 K156 q156
    obtain ⟨rfl, Kp156, S156⟩ := q156
    show G (T156.setTop (mkF m 199 #[.val (.long q0), .second, .val (.int k2), .val (.int m3), .val (.int f4), .val (.int g5), .val (.int w6), .val (.long ln), .second, .val .null, .val (.ref mg), .unset, .unset, .unset] [(.ref a152)]))
    have X156 : Ext h h156 := own_ext_keep (own_ext_trans E152 X155) Kp156 (fun y q => by cases List.mem_singleton.mp q; exact Nat.le_of_eq g152.symm)
    refine own_astore K156 (Ls' := #[.val (.long q0), .second, .val (.int k2), .val (.int m3), .val (.int f4), .val (.int g5), .val (.int w6), .val (.long ln), .second, .val .null, .val (.ref mg), .val (.ref a152), .unset, .unset]) at_199 rfl rfl rfl ?_
    exact law_J3NR hw hs hl r2 hkn hq (K156.more (by decide) (by decide)) hln S156.exa (SM.ext X156)
  · skip
    refine own_ifNo K at_148 rfl ((if0 _ _).trans (feq hb1).1) ?_
    refine own_iload K at_151 rfl rfl ?_
    refine own_sipush K (v := (255 : Int32)) at_153 rfl rfl ?_
    refine own_iand K at_156 rfl ?_
    refine own_i2c K at_157 rfl ?_
    refine own_callS K (wd31 hw) (wd32 hw) (rm_valueOfC hw hs K.O (own_i2c255 _)) (wd33 hw) (wd3 hw) (by decide) (argsL := [(.int ((f4 &&& (255 : Int32)).toUInt32.toUInt16.toUInt32.toInt32))]) (rest := []) rfl pd_28C29Ljava2flang2fString3b rfl rfl (W := 0) rfl (by decide) (by decide) (by decide) (by decide) at_158 rfl ?_
    intro T157 h157 L157 v157 K157 q157
    obtain ⟨va157, rfl, gv157, X157, S157⟩ := q157
    show G (T157.setTop (mkF m 161 #[.val (.long q0), .second, .val (.int k2), .val (.int m3), .val (.int f4), .val (.int g5), .val (.int w6), .val (.long ln), .second, .val .null, .val (.ref mg), .unset, .unset, .unset] [(.ref va157)]))
    refine own_astore K157 (Ls' := #[.val (.long q0), .second, .val (.int k2), .val (.int m3), .val (.int f4), .val (.int g5), .val (.int w6), .val (.long ln), .second, .val .null, .val (.ref mg), .val (.ref va157), .unset, .unset]) at_161 rfl rfl rfl ?_
    refine own_goto K157 at_163 (pc' := 201) (by decide) (by decide) ?_
    exact law_J3NR hw hs hl r2 hkn hq (K157.more (by decide) (by decide)) hln S157.exa (SM.ext X157)
end Law
section Law
variable {p : Program} {l : Launch} {e : Env} {s : State} {m : MethodId} {args : Array Value} {below : List Frame} {meth : Method} {c : Code} {Q : Option Value → Heap → Prop} {G : State → Prop} {Z T : State} {L : List Loc} {k n : Nat} {h h0 : Heap} {a0 : Array Value}
set_option maxRecDepth 65536 in
set_option maxHeartbeats 40000000 in
theorem law_J2RN (hw : ∀ d ∈ tables_1, d.before a0 Z = true) (hs : ∀ d ∈ jdkStatics_1, d.before a0 Z = true) (hl : l.stackTraces = true) (r2 : ∀ d ∈ twoRefs, d.before a0 Z = true) (hkn : s.vm.MethodsKnown ∧ s.vm.FramesKnown below) (hq : ∀ h, Q (some (.int 1)) h) {q0 : Int64} {k2 m3 f4 g5 w6 : Int32} {ln : Int64} (K : own_K p l e room_1 s m args below meth c code "com/example/tallymark/tallymark/FileFormatExceptionFaultPinLaw" "law" 14 (some .boolean) Q G Z T L 6 16 h) {ky : Addr} {cs : List Int32} (hln : ¬ ln < 0 ∧ ¬ ln = 0) (S : own_Str Z h ky cs) (hpos : 0 < cs.length) (hlen : cs.length ≤ 4000) : G (T.setTop (mkF m 144 #[.val (.long q0), .second, .val (.int k2), .val (.int m3), .val (.int f4), .val (.int g5), .val (.int w6), .val (.long ln), .second, .val (.ref ky), .val .null, .unset, .unset, .unset] [])) := by
  refine own_iload K at_144 rfl rfl ?_
  refine own_iconst K (v := (1 : Int32)) at_146 rfl rfl ?_
  refine own_iand K at_147 rfl ?_
  by_cases hb1 : (g5 &&& (1 : Int32)) = 0
  · skip
    refine own_ifYes K at_148 (pc' := 166) (by decide) (by decide) ((if0 _ _).trans (teq hb1).1) ?_
    refine own_newO K (wd1 hw) (wd2 hw) (wd3 hw) at_166 (by decide) (by decide) rfl ?_
    intro T158 h158 a158 K158 g158 E158 A158 D158 U158
    have F_coder_158 : Fld Z h158 a158 "java/lang/String" "coder" "B" (.int (0 : Int32)) := D158 (Or.inr (wd28 hw)) (ty := .byte) (by decide)
    have F_value_158 : Fld Z h158 a158 "java/lang/String" "value" "[B" .null := D158 (Or.inr (wd30 hw)) (ty := (.array .byte)) (by decide)
    refine own_dup K158 at_169 rfl rfl ?_
    refine own_iconst K158 (v := (2 : Int32)) at_170 rfl rfl ?_
    refine own_newP K158 (aty := .char) (wd4 hw) at_171 (by decide) (cap := 2) (by decide) (by decide) (by decide) (by decide) rfl ?_
    intro T159 h159 a159 c159 K159 g159 E159 V159
    refine own_dup K159 at_173 rfl rfl ?_
    refine own_iconst K159 (v := (0 : Int32)) at_174 rfl rfl ?_
    refine own_iload K159 at_175 rfl rfl ?_
    refine own_sipush K159 (v := (255 : Int32)) at_177 rfl rfl ?_
    refine own_iand K159 at_180 rfl ?_
    refine own_i2c K159 at_181 rfl ?_
    have gz159 : Z.heap.size ≤ a159 := by rw [g159]; exact Nat.le_trans K.O.1 E158.1
    have gy158 : Z.heap.size ≤ a158 := by rw [g158]; exact K.O.1
    refine own_castore K159 (V159.pad (pad_rep [] _ 2)) ⟨by decide, by decide⟩ 0 rfl (by simp) (x' := ((f4 &&& (255 : Int32)).toUInt32.toUInt16.toUInt32.toInt32)) (own_nar_char8 (own_i2c255 _)) gz159 at_182 rfl ?_
    intro T160 h160 K160 W160 V160
    refine own_dup K160 at_183 rfl rfl ?_
    refine own_iconst K160 (v := (1 : Int32)) at_184 rfl rfl ?_
    refine own_iload K160 at_185 rfl rfl ?_
    refine own_bipush K160 (v := (8 : Int32)) at_187 rfl rfl ?_
    refine own_iushr K160 at_189 rfl ?_
    refine own_sipush K160 (v := (255 : Int32)) at_190 rfl rfl ?_
    refine own_iand K160 at_193 rfl ?_
    refine own_i2c K160 at_194 rfl ?_
    refine own_castore K160 V160 ⟨by decide, by decide⟩ 1 rfl (by simp) (x' := ((((f4.toUInt32 >>> ((8 : Int32) &&& 31).toUInt32).toInt32) &&& (255 : Int32)).toUInt32.toUInt16.toUInt32.toInt32)) (own_nar_char8 (own_i2c255 _)) gz159 at_195 rfl ?_
    intro T161 h161 K161 W161 V161
    have X161 : Ext h158 h161 := own_ext_wr (own_ext_wr E159 W160 (Nat.le_of_eq g159.symm)) W161 (Nat.le_of_eq g159.symm)
    have A161 : Arv Z h161 a159 c159 .char (Int32.ofNat [((f4 &&& (255 : Int32)).toUInt32.toUInt16.toUInt32.toInt32), ((((f4.toUInt32 >>> ((8 : Int32) &&& 31).toUInt32).toInt32) &&& (255 : Int32)).toUInt32.toUInt16.toUInt32.toInt32)].length) ([((f4 &&& (255 : Int32)).toUInt32.toUInt16.toUInt32.toInt32), ((((f4.toUInt32 >>> ((8 : Int32) &&& 31).toUInt32).toInt32) &&& (255 : Int32)).toUInt32.toUInt16.toUInt32.toInt32)].map Value.int) (.int 0) := V161
    refine own_callI K161 (a := a158) (wd5 hw) (wd6 hw) (rm_initC hw hs (cap := 2) K161.O (A158.ext X161) (F_value_158.ext X161) (F_coder_158.ext X161) gy158 A161 (own_all2 (own_i2c255 _) (own_i2c255 _)) (by simp) (by simp) (by simp) (by simp)) (wd7 hw) (wd3 hw) (by decide) rfl (argsL := [(.ref a159)]) (rest := [(.ref a158)]) rfl pd_285bC29V rfl rfl (W := 1) rfl (by decide) (by decide) (by decide) (by decide) at_196 rfl ?_
    intro T162 h162 L162 v162 K162 q162
    obtain ⟨rfl, Kp162, S162⟩ := q162
    show G (T162.setTop (mkF m 199 #[.val (.long q0), .second, .val (.int k2), .val (.int m3), .val (.int f4), .val (.int g5), .val (.int w6), .val (.long ln), .second, .val (.ref ky), .val .null, .unset, .unset, .unset] [(.ref a158)]))
    have X162 : Ext h h162 := own_ext_keep (own_ext_trans E158 X161) Kp162 (fun y q => by cases List.mem_singleton.mp q; exact Nat.le_of_eq g158.symm)
    refine own_astore K162 (Ls' := #[.val (.long q0), .second, .val (.int k2), .val (.int m3), .val (.int f4), .val (.int g5), .val (.int w6), .val (.long ln), .second, .val (.ref ky), .val .null, .val (.ref a158), .unset, .unset]) at_199 rfl rfl rfl ?_
    exact law_J3RN hw hs hl r2 hkn hq (K162.more (by decide) (by decide)) hln (S.ext X162) hpos hlen S162.exa
  · skip
    refine own_ifNo K at_148 rfl ((if0 _ _).trans (feq hb1).1) ?_
    refine own_iload K at_151 rfl rfl ?_
    refine own_sipush K (v := (255 : Int32)) at_153 rfl rfl ?_
    refine own_iand K at_156 rfl ?_
    refine own_i2c K at_157 rfl ?_
    refine own_callS K (wd31 hw) (wd32 hw) (rm_valueOfC hw hs K.O (own_i2c255 _)) (wd33 hw) (wd3 hw) (by decide) (argsL := [(.int ((f4 &&& (255 : Int32)).toUInt32.toUInt16.toUInt32.toInt32))]) (rest := []) rfl pd_28C29Ljava2flang2fString3b rfl rfl (W := 0) rfl (by decide) (by decide) (by decide) (by decide) at_158 rfl ?_
    intro T163 h163 L163 v163 K163 q163
    obtain ⟨va163, rfl, gv163, X163, S163⟩ := q163
    show G (T163.setTop (mkF m 161 #[.val (.long q0), .second, .val (.int k2), .val (.int m3), .val (.int f4), .val (.int g5), .val (.int w6), .val (.long ln), .second, .val (.ref ky), .val .null, .unset, .unset, .unset] [(.ref va163)]))
    refine own_astore K163 (Ls' := #[.val (.long q0), .second, .val (.int k2), .val (.int m3), .val (.int f4), .val (.int g5), .val (.int w6), .val (.long ln), .second, .val (.ref ky), .val .null, .val (.ref va163), .unset, .unset]) at_161 rfl rfl rfl ?_
    refine own_goto K163 at_163 (pc' := 201) (by decide) (by decide) ?_
    exact law_J3RN hw hs hl r2 hkn hq (K163.more (by decide) (by decide)) hln (S.ext X163) hpos hlen S163.exa
end Law
section Law
variable {p : Program} {l : Launch} {e : Env} {s : State} {m : MethodId} {args : Array Value} {below : List Frame} {meth : Method} {c : Code} {Q : Option Value → Heap → Prop} {G : State → Prop} {Z T : State} {L : List Loc} {k n : Nat} {h h0 : Heap} {a0 : Array Value}
set_option maxRecDepth 65536 in
set_option maxHeartbeats 40000000 in
theorem law_J2RR (hw : ∀ d ∈ tables_1, d.before a0 Z = true) (hs : ∀ d ∈ jdkStatics_1, d.before a0 Z = true) (hl : l.stackTraces = true) (r2 : ∀ d ∈ twoRefs, d.before a0 Z = true) (hkn : s.vm.MethodsKnown ∧ s.vm.FramesKnown below) (hq : ∀ h, Q (some (.int 1)) h) {q0 : Int64} {k2 m3 f4 g5 w6 : Int32} {ln : Int64} {mg : Addr} (K : own_K p l e room_1 s m args below meth c code "com/example/tallymark/tallymark/FileFormatExceptionFaultPinLaw" "law" 14 (some .boolean) Q G Z T L 6 16 h) {ky : Addr} {cs : List Int32} (hln : ¬ ln < 0 ∧ ¬ ln = 0) (S : own_Str Z h ky cs) (hpos : 0 < cs.length) (hlen : cs.length ≤ 4000) (SM : Exa Z h mg "java/lang/String") : G (T.setTop (mkF m 144 #[.val (.long q0), .second, .val (.int k2), .val (.int m3), .val (.int f4), .val (.int g5), .val (.int w6), .val (.long ln), .second, .val (.ref ky), .val (.ref mg), .unset, .unset, .unset] [])) := by
  refine own_iload K at_144 rfl rfl ?_
  refine own_iconst K (v := (1 : Int32)) at_146 rfl rfl ?_
  refine own_iand K at_147 rfl ?_
  by_cases hb1 : (g5 &&& (1 : Int32)) = 0
  · skip
    refine own_ifYes K at_148 (pc' := 166) (by decide) (by decide) ((if0 _ _).trans (teq hb1).1) ?_
    refine own_newO K (wd1 hw) (wd2 hw) (wd3 hw) at_166 (by decide) (by decide) rfl ?_
    intro T164 h164 a164 K164 g164 E164 A164 D164 U164
    have F_coder_164 : Fld Z h164 a164 "java/lang/String" "coder" "B" (.int (0 : Int32)) := D164 (Or.inr (wd28 hw)) (ty := .byte) (by decide)
    have F_value_164 : Fld Z h164 a164 "java/lang/String" "value" "[B" .null := D164 (Or.inr (wd30 hw)) (ty := (.array .byte)) (by decide)
    refine own_dup K164 at_169 rfl rfl ?_
    refine own_iconst K164 (v := (2 : Int32)) at_170 rfl rfl ?_
    refine own_newP K164 (aty := .char) (wd4 hw) at_171 (by decide) (cap := 2) (by decide) (by decide) (by decide) (by decide) rfl ?_
    intro T165 h165 a165 c165 K165 g165 E165 V165
    refine own_dup K165 at_173 rfl rfl ?_
    refine own_iconst K165 (v := (0 : Int32)) at_174 rfl rfl ?_
    refine own_iload K165 at_175 rfl rfl ?_
    refine own_sipush K165 (v := (255 : Int32)) at_177 rfl rfl ?_
    refine own_iand K165 at_180 rfl ?_
    refine own_i2c K165 at_181 rfl ?_
    have gz165 : Z.heap.size ≤ a165 := by rw [g165]; exact Nat.le_trans K.O.1 E164.1
    have gy164 : Z.heap.size ≤ a164 := by rw [g164]; exact K.O.1
    refine own_castore K165 (V165.pad (pad_rep [] _ 2)) ⟨by decide, by decide⟩ 0 rfl (by simp) (x' := ((f4 &&& (255 : Int32)).toUInt32.toUInt16.toUInt32.toInt32)) (own_nar_char8 (own_i2c255 _)) gz165 at_182 rfl ?_
    intro T166 h166 K166 W166 V166
    refine own_dup K166 at_183 rfl rfl ?_
    refine own_iconst K166 (v := (1 : Int32)) at_184 rfl rfl ?_
    refine own_iload K166 at_185 rfl rfl ?_
    refine own_bipush K166 (v := (8 : Int32)) at_187 rfl rfl ?_
    refine own_iushr K166 at_189 rfl ?_
    refine own_sipush K166 (v := (255 : Int32)) at_190 rfl rfl ?_
    refine own_iand K166 at_193 rfl ?_
    refine own_i2c K166 at_194 rfl ?_
    refine own_castore K166 V166 ⟨by decide, by decide⟩ 1 rfl (by simp) (x' := ((((f4.toUInt32 >>> ((8 : Int32) &&& 31).toUInt32).toInt32) &&& (255 : Int32)).toUInt32.toUInt16.toUInt32.toInt32)) (own_nar_char8 (own_i2c255 _)) gz165 at_195 rfl ?_
    intro T167 h167 K167 W167 V167
    have X167 : Ext h164 h167 := own_ext_wr (own_ext_wr E165 W166 (Nat.le_of_eq g165.symm)) W167 (Nat.le_of_eq g165.symm)
    have A167 : Arv Z h167 a165 c165 .char (Int32.ofNat [((f4 &&& (255 : Int32)).toUInt32.toUInt16.toUInt32.toInt32), ((((f4.toUInt32 >>> ((8 : Int32) &&& 31).toUInt32).toInt32) &&& (255 : Int32)).toUInt32.toUInt16.toUInt32.toInt32)].length) ([((f4 &&& (255 : Int32)).toUInt32.toUInt16.toUInt32.toInt32), ((((f4.toUInt32 >>> ((8 : Int32) &&& 31).toUInt32).toInt32) &&& (255 : Int32)).toUInt32.toUInt16.toUInt32.toInt32)].map Value.int) (.int 0) := V167
    refine own_callI K167 (a := a164) (wd5 hw) (wd6 hw) (rm_initC hw hs (cap := 2) K167.O (A164.ext X167) (F_value_164.ext X167) (F_coder_164.ext X167) gy164 A167 (own_all2 (own_i2c255 _) (own_i2c255 _)) (by simp) (by simp) (by simp) (by simp)) (wd7 hw) (wd3 hw) (by decide) rfl (argsL := [(.ref a165)]) (rest := [(.ref a164)]) rfl pd_285bC29V rfl rfl (W := 1) rfl (by decide) (by decide) (by decide) (by decide) at_196 rfl ?_
    intro T168 h168 L168 v168 K168 q168
    obtain ⟨rfl, Kp168, S168⟩ := q168
    show G (T168.setTop (mkF m 199 #[.val (.long q0), .second, .val (.int k2), .val (.int m3), .val (.int f4), .val (.int g5), .val (.int w6), .val (.long ln), .second, .val (.ref ky), .val (.ref mg), .unset, .unset, .unset] [(.ref a164)]))
    have X168 : Ext h h168 := own_ext_keep (own_ext_trans E164 X167) Kp168 (fun y q => by cases List.mem_singleton.mp q; exact Nat.le_of_eq g164.symm)
    refine own_astore K168 (Ls' := #[.val (.long q0), .second, .val (.int k2), .val (.int m3), .val (.int f4), .val (.int g5), .val (.int w6), .val (.long ln), .second, .val (.ref ky), .val (.ref mg), .val (.ref a164), .unset, .unset]) at_199 rfl rfl rfl ?_
    exact law_J3RR hw hs hl r2 hkn hq (K168.more (by decide) (by decide)) hln (S.ext X168) hpos hlen S168.exa (SM.ext X168)
  · skip
    refine own_ifNo K at_148 rfl ((if0 _ _).trans (feq hb1).1) ?_
    refine own_iload K at_151 rfl rfl ?_
    refine own_sipush K (v := (255 : Int32)) at_153 rfl rfl ?_
    refine own_iand K at_156 rfl ?_
    refine own_i2c K at_157 rfl ?_
    refine own_callS K (wd31 hw) (wd32 hw) (rm_valueOfC hw hs K.O (own_i2c255 _)) (wd33 hw) (wd3 hw) (by decide) (argsL := [(.int ((f4 &&& (255 : Int32)).toUInt32.toUInt16.toUInt32.toInt32))]) (rest := []) rfl pd_28C29Ljava2flang2fString3b rfl rfl (W := 0) rfl (by decide) (by decide) (by decide) (by decide) at_158 rfl ?_
    intro T169 h169 L169 v169 K169 q169
    obtain ⟨va169, rfl, gv169, X169, S169⟩ := q169
    show G (T169.setTop (mkF m 161 #[.val (.long q0), .second, .val (.int k2), .val (.int m3), .val (.int f4), .val (.int g5), .val (.int w6), .val (.long ln), .second, .val (.ref ky), .val (.ref mg), .unset, .unset, .unset] [(.ref va169)]))
    refine own_astore K169 (Ls' := #[.val (.long q0), .second, .val (.int k2), .val (.int m3), .val (.int f4), .val (.int g5), .val (.int w6), .val (.long ln), .second, .val (.ref ky), .val (.ref mg), .val (.ref va169), .unset, .unset]) at_161 rfl rfl rfl ?_
    refine own_goto K169 at_163 (pc' := 201) (by decide) (by decide) ?_
    exact law_J3RR hw hs hl r2 hkn hq (K169.more (by decide) (by decide)) hln (S.ext X169) hpos hlen S169.exa (SM.ext X169)
end Law
section Law
variable {p : Program} {l : Launch} {e : Env} {s : State} {m : MethodId} {args : Array Value} {below : List Frame} {meth : Method} {c : Code} {Q : Option Value → Heap → Prop} {G : State → Prop} {Z T : State} {L : List Loc} {k n : Nat} {h h0 : Heap} {a0 : Array Value}
set_option maxRecDepth 65536 in
set_option maxHeartbeats 40000000 in
theorem law_J1N (hw : ∀ d ∈ tables_1, d.before a0 Z = true) (hs : ∀ d ∈ jdkStatics_1, d.before a0 Z = true) (hl : l.stackTraces = true) (r2 : ∀ d ∈ twoRefs, d.before a0 Z = true) (hkn : s.vm.MethodsKnown ∧ s.vm.FramesKnown below) (hq : ∀ h, Q (some (.int 1)) h) {q0 : Int64} {k2 m3 f4 g5 w6 : Int32} {ln : Int64} (K : own_K p l e room_1 s m args below meth c code "com/example/tallymark/tallymark/FileFormatExceptionFaultPinLaw" "law" 14 (some .boolean) Q G Z T L 3 8 h) (hln : ln = 0) : G (T.setTop (mkF m 98 #[.val (.long q0), .second, .val (.int k2), .val (.int m3), .val (.int f4), .val (.int g5), .val (.int w6), .val (.long ln), .second, .val .null, .unset, .unset, .unset, .unset] [])) := by
  refine own_iload K at_98 rfl rfl ?_
  refine own_iconst K (v := (2 : Int32)) at_100 rfl rfl ?_
  refine own_iand K at_101 rfl ?_
  by_cases hb1 : (g5 &&& (2 : Int32)) = 0
  · skip
    refine own_ifYes K at_102 (pc' := 111) (by decide) (by decide) ((if0 _ _).trans (teq hb1).1) ?_
    refine own_newO K (wd1 hw) (wd2 hw) (wd3 hw) at_111 (by decide) (by decide) rfl ?_
    intro T170 h170 a170 K170 g170 E170 A170 D170 U170
    have F_coder_170 : Fld Z h170 a170 "java/lang/String" "coder" "B" (.int (0 : Int32)) := D170 (Or.inr (wd28 hw)) (ty := .byte) (by decide)
    have F_value_170 : Fld Z h170 a170 "java/lang/String" "value" "[B" .null := D170 (Or.inr (wd30 hw)) (ty := (.array .byte)) (by decide)
    refine own_dup K170 at_114 rfl rfl ?_
    refine own_iconst K170 (v := (2 : Int32)) at_115 rfl rfl ?_
    refine own_newP K170 (aty := .char) (wd4 hw) at_116 (by decide) (cap := 2) (by decide) (by decide) (by decide) (by decide) rfl ?_
    intro T171 h171 a171 c171 K171 g171 E171 V171
    refine own_dup K171 at_118 rfl rfl ?_
    refine own_iconst K171 (v := (0 : Int32)) at_119 rfl rfl ?_
    refine own_iloadN K171 at_120 rfl rfl ?_
    refine own_sipush K171 (v := (255 : Int32)) at_121 rfl rfl ?_
    refine own_iand K171 at_124 rfl ?_
    refine own_i2c K171 at_125 rfl ?_
    have gz171 : Z.heap.size ≤ a171 := by rw [g171]; exact Nat.le_trans K.O.1 E170.1
    have gy170 : Z.heap.size ≤ a170 := by rw [g170]; exact K.O.1
    refine own_castore K171 (V171.pad (pad_rep [] _ 2)) ⟨by decide, by decide⟩ 0 rfl (by simp) (x' := ((m3 &&& (255 : Int32)).toUInt32.toUInt16.toUInt32.toInt32)) (own_nar_char8 (own_i2c255 _)) gz171 at_126 rfl ?_
    intro T172 h172 K172 W172 V172
    refine own_dup K172 at_127 rfl rfl ?_
    refine own_iconst K172 (v := (1 : Int32)) at_128 rfl rfl ?_
    refine own_iloadN K172 at_129 rfl rfl ?_
    refine own_bipush K172 (v := (8 : Int32)) at_130 rfl rfl ?_
    refine own_iushr K172 at_132 rfl ?_
    refine own_sipush K172 (v := (255 : Int32)) at_133 rfl rfl ?_
    refine own_iand K172 at_136 rfl ?_
    refine own_i2c K172 at_137 rfl ?_
    refine own_castore K172 V172 ⟨by decide, by decide⟩ 1 rfl (by simp) (x' := ((((m3.toUInt32 >>> ((8 : Int32) &&& 31).toUInt32).toInt32) &&& (255 : Int32)).toUInt32.toUInt16.toUInt32.toInt32)) (own_nar_char8 (own_i2c255 _)) gz171 at_138 rfl ?_
    intro T173 h173 K173 W173 V173
    have X173 : Ext h170 h173 := own_ext_wr (own_ext_wr E171 W172 (Nat.le_of_eq g171.symm)) W173 (Nat.le_of_eq g171.symm)
    have A173 : Arv Z h173 a171 c171 .char (Int32.ofNat [((m3 &&& (255 : Int32)).toUInt32.toUInt16.toUInt32.toInt32), ((((m3.toUInt32 >>> ((8 : Int32) &&& 31).toUInt32).toInt32) &&& (255 : Int32)).toUInt32.toUInt16.toUInt32.toInt32)].length) ([((m3 &&& (255 : Int32)).toUInt32.toUInt16.toUInt32.toInt32), ((((m3.toUInt32 >>> ((8 : Int32) &&& 31).toUInt32).toInt32) &&& (255 : Int32)).toUInt32.toUInt16.toUInt32.toInt32)].map Value.int) (.int 0) := V173
    refine own_callI K173 (a := a170) (wd5 hw) (wd6 hw) (rm_initC hw hs (cap := 2) K173.O (A170.ext X173) (F_value_170.ext X173) (F_coder_170.ext X173) gy170 A173 (own_all2 (own_i2c255 _) (own_i2c255 _)) (by simp) (by simp) (by simp) (by simp)) (wd7 hw) (wd3 hw) (by decide) rfl (argsL := [(.ref a171)]) (rest := [(.ref a170)]) rfl pd_285bC29V rfl rfl (W := 1) rfl (by decide) (by decide) (by decide) (by decide) at_139 rfl ?_
    intro T174 h174 L174 v174 K174 q174
    obtain ⟨rfl, Kp174, S174⟩ := q174
    show G (T174.setTop (mkF m 142 #[.val (.long q0), .second, .val (.int k2), .val (.int m3), .val (.int f4), .val (.int g5), .val (.int w6), .val (.long ln), .second, .val .null, .unset, .unset, .unset, .unset] [(.ref a170)]))
    have X174 : Ext h h174 := own_ext_keep (own_ext_trans E170 X173) Kp174 (fun y q => by cases List.mem_singleton.mp q; exact Nat.le_of_eq g170.symm)
    refine own_astore K174 (Ls' := #[.val (.long q0), .second, .val (.int k2), .val (.int m3), .val (.int f4), .val (.int g5), .val (.int w6), .val (.long ln), .second, .val .null, .val (.ref a170), .unset, .unset, .unset]) at_142 rfl rfl rfl ?_
    exact law_J2NR hw hs hl r2 hkn hq (K174.more (by decide) (by decide)) hln S174.exa
  · skip
    refine own_ifNo K at_102 rfl ((if0 _ _).trans (feq hb1).1) ?_
    refine own_aconstNull K at_105 rfl ?_
    refine own_astore K (Ls' := #[.val (.long q0), .second, .val (.int k2), .val (.int m3), .val (.int f4), .val (.int g5), .val (.int w6), .val (.long ln), .second, .val .null, .val .null, .unset, .unset, .unset]) at_106 rfl rfl rfl ?_
    refine own_goto K at_108 (pc' := 144) (by decide) (by decide) ?_
    exact law_J2NN hw hs hl r2 hkn hq (K.more (by decide) (by decide)) hln
end Law
section Law
variable {p : Program} {l : Launch} {e : Env} {s : State} {m : MethodId} {args : Array Value} {below : List Frame} {meth : Method} {c : Code} {Q : Option Value → Heap → Prop} {G : State → Prop} {Z T : State} {L : List Loc} {k n : Nat} {h h0 : Heap} {a0 : Array Value}
set_option maxRecDepth 65536 in
set_option maxHeartbeats 40000000 in
theorem law_J1R (hw : ∀ d ∈ tables_1, d.before a0 Z = true) (hs : ∀ d ∈ jdkStatics_1, d.before a0 Z = true) (hl : l.stackTraces = true) (r2 : ∀ d ∈ twoRefs, d.before a0 Z = true) (hkn : s.vm.MethodsKnown ∧ s.vm.FramesKnown below) (hq : ∀ h, Q (some (.int 1)) h) {q0 : Int64} {k2 m3 f4 g5 w6 : Int32} {ln : Int64} (K : own_K p l e room_1 s m args below meth c code "com/example/tallymark/tallymark/FileFormatExceptionFaultPinLaw" "law" 14 (some .boolean) Q G Z T L 3 8 h) {ky : Addr} {cs : List Int32} (hln : ¬ ln < 0 ∧ ¬ ln = 0) (S : own_Str Z h ky cs) (hpos : 0 < cs.length) (hlen : cs.length ≤ 4000) : G (T.setTop (mkF m 98 #[.val (.long q0), .second, .val (.int k2), .val (.int m3), .val (.int f4), .val (.int g5), .val (.int w6), .val (.long ln), .second, .val (.ref ky), .unset, .unset, .unset, .unset] [])) := by
  refine own_iload K at_98 rfl rfl ?_
  refine own_iconst K (v := (2 : Int32)) at_100 rfl rfl ?_
  refine own_iand K at_101 rfl ?_
  by_cases hb1 : (g5 &&& (2 : Int32)) = 0
  · skip
    refine own_ifYes K at_102 (pc' := 111) (by decide) (by decide) ((if0 _ _).trans (teq hb1).1) ?_
    refine own_newO K (wd1 hw) (wd2 hw) (wd3 hw) at_111 (by decide) (by decide) rfl ?_
    intro T175 h175 a175 K175 g175 E175 A175 D175 U175
    have F_coder_175 : Fld Z h175 a175 "java/lang/String" "coder" "B" (.int (0 : Int32)) := D175 (Or.inr (wd28 hw)) (ty := .byte) (by decide)
    have F_value_175 : Fld Z h175 a175 "java/lang/String" "value" "[B" .null := D175 (Or.inr (wd30 hw)) (ty := (.array .byte)) (by decide)
    refine own_dup K175 at_114 rfl rfl ?_
    refine own_iconst K175 (v := (2 : Int32)) at_115 rfl rfl ?_
    refine own_newP K175 (aty := .char) (wd4 hw) at_116 (by decide) (cap := 2) (by decide) (by decide) (by decide) (by decide) rfl ?_
    intro T176 h176 a176 c176 K176 g176 E176 V176
    refine own_dup K176 at_118 rfl rfl ?_
    refine own_iconst K176 (v := (0 : Int32)) at_119 rfl rfl ?_
    refine own_iloadN K176 at_120 rfl rfl ?_
    refine own_sipush K176 (v := (255 : Int32)) at_121 rfl rfl ?_
    refine own_iand K176 at_124 rfl ?_
    refine own_i2c K176 at_125 rfl ?_
    have gz176 : Z.heap.size ≤ a176 := by rw [g176]; exact Nat.le_trans K.O.1 E175.1
    have gy175 : Z.heap.size ≤ a175 := by rw [g175]; exact K.O.1
    refine own_castore K176 (V176.pad (pad_rep [] _ 2)) ⟨by decide, by decide⟩ 0 rfl (by simp) (x' := ((m3 &&& (255 : Int32)).toUInt32.toUInt16.toUInt32.toInt32)) (own_nar_char8 (own_i2c255 _)) gz176 at_126 rfl ?_
    intro T177 h177 K177 W177 V177
    refine own_dup K177 at_127 rfl rfl ?_
    refine own_iconst K177 (v := (1 : Int32)) at_128 rfl rfl ?_
    refine own_iloadN K177 at_129 rfl rfl ?_
    refine own_bipush K177 (v := (8 : Int32)) at_130 rfl rfl ?_
    refine own_iushr K177 at_132 rfl ?_
    refine own_sipush K177 (v := (255 : Int32)) at_133 rfl rfl ?_
    refine own_iand K177 at_136 rfl ?_
    refine own_i2c K177 at_137 rfl ?_
    refine own_castore K177 V177 ⟨by decide, by decide⟩ 1 rfl (by simp) (x' := ((((m3.toUInt32 >>> ((8 : Int32) &&& 31).toUInt32).toInt32) &&& (255 : Int32)).toUInt32.toUInt16.toUInt32.toInt32)) (own_nar_char8 (own_i2c255 _)) gz176 at_138 rfl ?_
    intro T178 h178 K178 W178 V178
    have X178 : Ext h175 h178 := own_ext_wr (own_ext_wr E176 W177 (Nat.le_of_eq g176.symm)) W178 (Nat.le_of_eq g176.symm)
    have A178 : Arv Z h178 a176 c176 .char (Int32.ofNat [((m3 &&& (255 : Int32)).toUInt32.toUInt16.toUInt32.toInt32), ((((m3.toUInt32 >>> ((8 : Int32) &&& 31).toUInt32).toInt32) &&& (255 : Int32)).toUInt32.toUInt16.toUInt32.toInt32)].length) ([((m3 &&& (255 : Int32)).toUInt32.toUInt16.toUInt32.toInt32), ((((m3.toUInt32 >>> ((8 : Int32) &&& 31).toUInt32).toInt32) &&& (255 : Int32)).toUInt32.toUInt16.toUInt32.toInt32)].map Value.int) (.int 0) := V178
    refine own_callI K178 (a := a175) (wd5 hw) (wd6 hw) (rm_initC hw hs (cap := 2) K178.O (A175.ext X178) (F_value_175.ext X178) (F_coder_175.ext X178) gy175 A178 (own_all2 (own_i2c255 _) (own_i2c255 _)) (by simp) (by simp) (by simp) (by simp)) (wd7 hw) (wd3 hw) (by decide) rfl (argsL := [(.ref a176)]) (rest := [(.ref a175)]) rfl pd_285bC29V rfl rfl (W := 1) rfl (by decide) (by decide) (by decide) (by decide) at_139 rfl ?_
    intro T179 h179 L179 v179 K179 q179
    obtain ⟨rfl, Kp179, S179⟩ := q179
    show G (T179.setTop (mkF m 142 #[.val (.long q0), .second, .val (.int k2), .val (.int m3), .val (.int f4), .val (.int g5), .val (.int w6), .val (.long ln), .second, .val (.ref ky), .unset, .unset, .unset, .unset] [(.ref a175)]))
    have X179 : Ext h h179 := own_ext_keep (own_ext_trans E175 X178) Kp179 (fun y q => by cases List.mem_singleton.mp q; exact Nat.le_of_eq g175.symm)
    refine own_astore K179 (Ls' := #[.val (.long q0), .second, .val (.int k2), .val (.int m3), .val (.int f4), .val (.int g5), .val (.int w6), .val (.long ln), .second, .val (.ref ky), .val (.ref a175), .unset, .unset, .unset]) at_142 rfl rfl rfl ?_
    exact law_J2RR hw hs hl r2 hkn hq (K179.more (by decide) (by decide)) hln (S.ext X179) hpos hlen S179.exa
  · skip
    refine own_ifNo K at_102 rfl ((if0 _ _).trans (feq hb1).1) ?_
    refine own_aconstNull K at_105 rfl ?_
    refine own_astore K (Ls' := #[.val (.long q0), .second, .val (.int k2), .val (.int m3), .val (.int f4), .val (.int g5), .val (.int w6), .val (.long ln), .second, .val (.ref ky), .val .null, .unset, .unset, .unset]) at_106 rfl rfl rfl ?_
    refine own_goto K at_108 (pc' := 144) (by decide) (by decide) ?_
    exact law_J2RN hw hs hl r2 hkn hq (K.more (by decide) (by decide)) hln S hpos hlen
end Law
section Law
variable {p : Program} {l : Launch} {e : Env} {s : State} {m : MethodId} {args : Array Value} {below : List Frame} {meth : Method} {c : Code} {Q : Option Value → Heap → Prop} {G : State → Prop} {Z T : State} {L : List Loc} {k n : Nat} {h h0 : Heap} {a0 : Array Value}
set_option maxRecDepth 65536 in
set_option maxHeartbeats 40000000 in
theorem law_J0 (hw : ∀ d ∈ tables_1, d.before a0 Z = true) (hs : ∀ d ∈ jdkStatics_1, d.before a0 Z = true) (hl : l.stackTraces = true) (r2 : ∀ d ∈ twoRefs, d.before a0 Z = true) (hkn : s.vm.MethodsKnown ∧ s.vm.FramesKnown below) (hq : ∀ h, Q (some (.int 1)) h) {q0 : Int64} {k2 m3 f4 g5 w6 : Int32} {ln : Int64} (K : own_K p l e room_1 s m args below meth c code "com/example/tallymark/tallymark/FileFormatExceptionFaultPinLaw" "law" 14 (some .boolean) Q G Z T L 0 0 h) (hge : ¬ ln < 0) : G (T.setTop (mkF m 30 #[.val (.long q0), .second, .val (.int k2), .val (.int m3), .val (.int f4), .val (.int g5), .val (.int w6), .val (.long ln), .second, .unset, .unset, .unset, .unset, .unset] [])) := by
  refine own_lload K at_30 rfl rfl ?_
  refine own_lconst K (v := (0 : Int64)) at_32 rfl rfl ?_
  refine own_lcmp K at_33 rfl ?_
  by_cases hb0 : ln = 0
  · skip
    refine own_ifNo K at_34 rfl ((if0 _ _).trans (teq ((lw_eq ln 0).mpr hb0)).2) ?_
    refine own_aconstNull K at_37 rfl ?_
    refine own_astore K (Ls' := #[.val (.long q0), .second, .val (.int k2), .val (.int m3), .val (.int f4), .val (.int g5), .val (.int w6), .val (.long ln), .second, .val .null, .unset, .unset, .unset, .unset]) at_38 rfl rfl rfl ?_
    refine own_goto K at_40 (pc' := 98) (by decide) (by decide) ?_
    exact law_J1N hw hs hl r2 hkn hq (K.more (by decide) (by decide)) hb0
  · skip
    refine own_ifYes K at_34 (pc' := 43) (by decide) (by decide) ((if0 _ _).trans (feq (fun q => hb0 ((lw_eq ln 0).mp q))).2) ?_
    refine own_iload K at_43 rfl rfl ?_
    refine own_bipush K (v := (8 : Int32)) at_45 rfl rfl ?_
    refine own_iand K at_47 rfl ?_
    by_cases hb1 : (g5 &&& (8 : Int32)) = 0
    · skip
      refine own_ifYes K at_48 (pc' := 65) (by decide) (by decide) ((if0 _ _).trans (teq hb1).1) ?_
      refine own_newO K (wd1 hw) (wd2 hw) (wd3 hw) at_65 (by decide) (by decide) rfl ?_
      intro T180 h180 a180 K180 g180 E180 A180 D180 U180
      have F_coder_180 : Fld Z h180 a180 "java/lang/String" "coder" "B" (.int (0 : Int32)) := D180 (Or.inr (wd28 hw)) (ty := .byte) (by decide)
      have F_value_180 : Fld Z h180 a180 "java/lang/String" "value" "[B" .null := D180 (Or.inr (wd30 hw)) (ty := (.array .byte)) (by decide)
      refine own_dup K180 at_68 rfl rfl ?_
      refine own_iconst K180 (v := (2 : Int32)) at_69 rfl rfl ?_
      refine own_newP K180 (aty := .char) (wd4 hw) at_70 (by decide) (cap := 2) (by decide) (by decide) (by decide) (by decide) rfl ?_
      intro T181 h181 a181 c181 K181 g181 E181 V181
      refine own_dup K181 at_72 rfl rfl ?_
      refine own_iconst K181 (v := (0 : Int32)) at_73 rfl rfl ?_
      refine own_iloadN K181 at_74 rfl rfl ?_
      refine own_sipush K181 (v := (255 : Int32)) at_75 rfl rfl ?_
      refine own_iand K181 at_78 rfl ?_
      refine own_i2c K181 at_79 rfl ?_
      have gz181 : Z.heap.size ≤ a181 := by rw [g181]; exact Nat.le_trans K.O.1 E180.1
      have gy180 : Z.heap.size ≤ a180 := by rw [g180]; exact K.O.1
      refine own_castore K181 (V181.pad (pad_rep [] _ 2)) ⟨by decide, by decide⟩ 0 rfl (by simp) (x' := ((k2 &&& (255 : Int32)).toUInt32.toUInt16.toUInt32.toInt32)) (own_nar_char8 (own_i2c255 _)) gz181 at_80 rfl ?_
      intro T182 h182 K182 W182 V182
      refine own_dup K182 at_81 rfl rfl ?_
      refine own_iconst K182 (v := (1 : Int32)) at_82 rfl rfl ?_
      refine own_iloadN K182 at_83 rfl rfl ?_
      refine own_bipush K182 (v := (8 : Int32)) at_84 rfl rfl ?_
      refine own_iushr K182 at_86 rfl ?_
      refine own_sipush K182 (v := (255 : Int32)) at_87 rfl rfl ?_
      refine own_iand K182 at_90 rfl ?_
      refine own_i2c K182 at_91 rfl ?_
      refine own_castore K182 V182 ⟨by decide, by decide⟩ 1 rfl (by simp) (x' := ((((k2.toUInt32 >>> ((8 : Int32) &&& 31).toUInt32).toInt32) &&& (255 : Int32)).toUInt32.toUInt16.toUInt32.toInt32)) (own_nar_char8 (own_i2c255 _)) gz181 at_92 rfl ?_
      intro T183 h183 K183 W183 V183
      have X183 : Ext h180 h183 := own_ext_wr (own_ext_wr E181 W182 (Nat.le_of_eq g181.symm)) W183 (Nat.le_of_eq g181.symm)
      have A183 : Arv Z h183 a181 c181 .char (Int32.ofNat [((k2 &&& (255 : Int32)).toUInt32.toUInt16.toUInt32.toInt32), ((((k2.toUInt32 >>> ((8 : Int32) &&& 31).toUInt32).toInt32) &&& (255 : Int32)).toUInt32.toUInt16.toUInt32.toInt32)].length) ([((k2 &&& (255 : Int32)).toUInt32.toUInt16.toUInt32.toInt32), ((((k2.toUInt32 >>> ((8 : Int32) &&& 31).toUInt32).toInt32) &&& (255 : Int32)).toUInt32.toUInt16.toUInt32.toInt32)].map Value.int) (.int 0) := V183
      refine own_callI K183 (a := a180) (wd5 hw) (wd6 hw) (rm_initC hw hs (cap := 2) K183.O (A180.ext X183) (F_value_180.ext X183) (F_coder_180.ext X183) gy180 A183 (own_all2 (own_i2c255 _) (own_i2c255 _)) (by simp) (by simp) (by simp) (by simp)) (wd7 hw) (wd3 hw) (by decide) rfl (argsL := [(.ref a181)]) (rest := [(.ref a180)]) rfl pd_285bC29V rfl rfl (W := 1) rfl (by decide) (by decide) (by decide) (by decide) at_93 rfl ?_
      intro T184 h184 L184 v184 K184 q184
      obtain ⟨rfl, Kp184, S184⟩ := q184
      show G (T184.setTop (mkF m 96 #[.val (.long q0), .second, .val (.int k2), .val (.int m3), .val (.int f4), .val (.int g5), .val (.int w6), .val (.long ln), .second, .unset, .unset, .unset, .unset, .unset] [(.ref a180)]))
      have X184 : Ext h h184 := own_ext_keep (own_ext_trans E180 X183) Kp184 (fun y q => by cases List.mem_singleton.mp q; exact Nat.le_of_eq g180.symm)
      refine own_astore K184 (Ls' := #[.val (.long q0), .second, .val (.int k2), .val (.int m3), .val (.int f4), .val (.int g5), .val (.int w6), .val (.long ln), .second, .val (.ref a180), .unset, .unset, .unset, .unset]) at_96 rfl rfl rfl ?_
      exact law_J1R hw hs hl r2 hkn hq (K184.more (by decide) (by decide)) ⟨hge, hb0⟩ S184 (by simp) (by simp)
    · skip
      refine own_ifNo K at_48 rfl ((if0 _ _).trans (feq hb1).1) ?_
      refine own_iloadN K at_51 rfl rfl ?_
      refine own_sipush K (v := (255 : Int32)) at_52 rfl rfl ?_
      refine own_iand K at_55 rfl ?_
      refine own_i2c K at_56 rfl ?_
      refine own_callS K (wd31 hw) (wd32 hw) (rm_valueOfC hw hs K.O (own_i2c255 _)) (wd33 hw) (wd3 hw) (by decide) (argsL := [(.int ((k2 &&& (255 : Int32)).toUInt32.toUInt16.toUInt32.toInt32))]) (rest := []) rfl pd_28C29Ljava2flang2fString3b rfl rfl (W := 0) rfl (by decide) (by decide) (by decide) (by decide) at_57 rfl ?_
      intro T185 h185 L185 v185 K185 q185
      obtain ⟨va185, rfl, gv185, X185, S185⟩ := q185
      show G (T185.setTop (mkF m 60 #[.val (.long q0), .second, .val (.int k2), .val (.int m3), .val (.int f4), .val (.int g5), .val (.int w6), .val (.long ln), .second, .unset, .unset, .unset, .unset, .unset] [(.ref va185)]))
      refine own_astore K185 (Ls' := #[.val (.long q0), .second, .val (.int k2), .val (.int m3), .val (.int f4), .val (.int g5), .val (.int w6), .val (.long ln), .second, .val (.ref va185), .unset, .unset, .unset, .unset]) at_60 rfl rfl rfl ?_
      refine own_goto K185 at_62 (pc' := 98) (by decide) (by decide) ?_
      exact law_J1R hw hs hl r2 hkn hq (K185.more (by decide) (by decide)) ⟨hge, hb0⟩ S185 (by simp) (by simp)
end Law
theorem own_maskL (x : Int64) : ¬ (x &&& (9223372036854775807 : Int64)) < 0 := by
  have h := c_maskL x 9223372036854775807 63 (by decide) (by decide)
  rw [Int64.lt_iff_toInt_lt, h, show (0 : Int64).toInt = 0 from rfl]
  omega
theorem wd0 {a0 : Array Value} {Z : State} (hw : ∀ d ∈ tables_1, d.before a0 Z = true) : (Jvm.Cond.constantLong "com/example/tallymark/tallymark/FileFormatExceptionFaultPinLaw" (9 : Nat) (9223372036854775807 : Int64)).before a0 Z = true := hw _ (List.mem_of_getElem? (i := 0) rfl)
set_option maxRecDepth 65536 in
set_option maxHeartbeats 40000000 in
theorem rm_law {l : Launch} {Z : State} {a0 : Array Value} (hw : ∀ d ∈ tables_1, d.before a0 Z = true) (hs : ∀ d ∈ jdkStatics_1, d.before a0 Z = true) {q0 : Int64} {k2 : Int32} {m3 : Int32} {f4 : Int32} {g5 : Int32} {h0 : Heap} (O0 : Ext Z.heap h0) (hl : l.stackTraces = true) (r2 : ∀ d ∈ twoRefs, d.before a0 Z = true) :
    own_CtK l Z x code maxLocals ret tables_1 room_1 #[(.long q0), (.int k2), (.int m3), (.int f4), (.int g5)] h0 (fun v h => v = some (.int 1)) := by
  refine own_bodyK (Ls := #[.val (.long q0), .second, .val (.int k2), .val (.int m3), .val (.int f4), .val (.int g5), .unset, .unset, .unset, .unset, .unset, .unset, .unset, .unset]) (plainFor_of_name pn_com_example_tallymark_tallymark_FileFormatExceptionFaultPinLaw) (fun m => by first | (simp [entryFrame, mkF, argsToLocals, Value.category, maxLocals]; done) | rfl) O0 ?_
  intro p e s m below meth c T0 G hkn hs0 K0
  refine own_iload K0 at_0 rfl rfl ?_
  refine own_iconst K0 (v := (4 : Int32)) at_2 rfl rfl ?_
  refine own_iand K0 at_3 rfl ?_
  by_cases hb1 : (g5 &&& (4 : Int32)) = 0
  · skip
    refine own_ifYes K0 at_4 (pc' := 11) (by decide) (by decide) ((if0 _ _).trans (teq hb1).1) ?_
    refine own_iconst K0 (v := (0 : Int32)) at_11 rfl rfl ?_
    refine own_istore K0 (Ls' := #[.val (.long q0), .second, .val (.int k2), .val (.int m3), .val (.int f4), .val (.int g5), .val (.int (0 : Int32)), .unset, .unset, .unset, .unset, .unset, .unset, .unset]) at_12 rfl rfl ?_
    refine own_iload K0 at_14 rfl rfl ?_
    refine own_ifYes K0 at_16 (pc' := 23) (by decide) (by decide) ((if0 _ _).trans (teq rfl).1) ?_
    refine own_lloadN K0 at_23 rfl rfl ?_
    refine own_ldc2Long K0 (wd0 hw) at_24 rfl ?_
    refine own_land K0 at_27 rfl ?_
    refine own_lstore K0 (Ls' := #[.val (.long q0), .second, .val (.int k2), .val (.int m3), .val (.int f4), .val (.int g5), .val (.int (0 : Int32)), .val (.long (q0 &&& (9223372036854775807 : Int64))), .second, .unset, .unset, .unset, .unset, .unset]) at_28 rfl rfl ?_
    exact law_J0 hw hs hl r2 hkn (fun _ => rfl) K0 (own_maskL _)
  · skip
    refine own_ifNo K0 at_4 rfl ((if0 _ _).trans (feq hb1).1) ?_
    refine own_iconst K0 (v := (1 : Int32)) at_7 rfl rfl ?_
    refine own_goto K0 at_8 (pc' := 12) (by decide) (by decide) ?_
    refine own_istore K0 (Ls' := #[.val (.long q0), .second, .val (.int k2), .val (.int m3), .val (.int f4), .val (.int g5), .val (.int (1 : Int32)), .unset, .unset, .unset, .unset, .unset, .unset, .unset]) at_12 rfl rfl ?_
    refine own_iload K0 at_14 rfl rfl ?_
    refine own_ifNo K0 at_16 rfl ((if0 _ _).trans (feq (by decide)).1) ?_
    refine own_lconst K0 (v := (0 : Int64)) at_19 rfl rfl ?_
    refine own_goto K0 at_20 (pc' := 28) (by decide) (by decide) ?_
    refine own_lstore K0 (Ls' := #[.val (.long q0), .second, .val (.int k2), .val (.int m3), .val (.int f4), .val (.int g5), .val (.int (1 : Int32)), .val (.long (0 : Int64)), .second, .unset, .unset, .unset, .unset, .unset]) at_28 rfl rfl ?_
    exact law_J0 hw hs hl r2 hkn (fun _ => rfl) K0 (by decide)
theorem own_traces {l : Launch} (h : l.flags = flags0) : l.stackTraces = true := by
  rw [Launch.stackTraces, h]; decide +kernel
set_option maxRecDepth 65536 in
set_option maxHeartbeats 40000000 in
theorem comes_1 {Post : Tables → Env → Array Value → State → Outcome → State → Prop} (hpost : ∀ tb e args s v u, (limb_1_1.after args s (.returned v) u = true ∧ limb_1_2.after args s (.returned v) u = true ∧ True) → FrameEnd s (.returned v) u (Jvm.fieldLocs frame_1_writes args s ++ Jvm.arrayLocs frame_1_arrays args s ++ Jvm.staticLocs frame_1_statics s) 32 5696 → Post tb e args s (.returned v) u) :
    ArmFor flags0 classFile x code maxLocals ret World_1 tables_1 room_1 Calls_1 rest_1 Pre_1 Post := by
  intro l hfl _ _ p e ha hc hk s m args below hf hA hF happ hP
  obtain ⟨hcalls, hrest, hpre⟩ := hP
  obtain ⟨-, -, -, hnamed, -, -, -, hat⟩ := (Spec.applies_iff hf).mp happ
  obtain ⟨hg, hn⟩ := and_e (Cond.before_iff.mp (show (Jvm.Cond.and given_1 narrow_1).before args s = true from hpre))
  obtain ⟨gg1, gg2⟩ := and_e hg
  obtain ⟨gg3, gg4⟩ := and_e gg2
  obtain ⟨gg5, gg6⟩ := and_e gg4
  obtain ⟨gg7, gg8⟩ := and_e gg6
  obtain ⟨gg9, gg10⟩ := and_e gg8
  obtain ⟨w0, w1, w2, w3, w4, rfl⟩ : ∃ w0 w1 w2 w3 w4 : Value, args = #[w0, w1, w2, w3, w4] := by
    have hs : args.size = 5 := by simpa [Cond.value, given_1] using gg1
    obtain ⟨L⟩ := args
    match L, hs with
    | [w0, w1, w2, w3, w4], _ => exact ⟨w0, w1, w2, w3, w4, rfl⟩
  have hw := fun d (hd : d ∈ tables_1) => atoms_spec (ws := Jvm.Cond.code x code maxLocals ret :: tables_1) hat d (List.mem_cons_of_mem _ hd)
  have hfit : Fit s := fun {y c} hc i hi => by
    obtain ⟨ha, rfl⟩ := Array.getElem?_eq_some_iff.mp hc
    have q := List.all_eq_true.mp ((Array.all_eq_true_iff_forall_mem.mp hF) _ (Array.getElem_mem ha)) i (List.mem_range.mpr hi)
    simpa [Array.getElem?_eq_getElem hi] using q
  obtain ⟨hsets, hown0⟩ := atoms_of _ (rest_1_c_eq ▸ (show rest_1_c.before _ s = true from hrest))
  obtain ⟨i0, ei0⟩ := isL_v gg3
  obtain rfl : w0 = (.long i0) := Option.some.inj ei0
  obtain ⟨i1, ei1⟩ := is_v gg5
  obtain rfl : w1 = (.int i1) := Option.some.inj ei1
  obtain ⟨i2, ei2⟩ := is_v gg7
  obtain rfl : w2 = (.int i2) := Option.some.inj ei2
  obtain ⟨i3, ei3⟩ := is_v gg9
  obtain rfl : w3 = (.int i3) := Option.some.inj ei3
  obtain ⟨i4, ei4⟩ := is_v gg10
  obtain rfl : w4 = (.int i4) := Option.some.inj ei4
  obtain ⟨n, o, h1, h2, h3, _, L, rfl, ⟨N, O, rfl⟩, hq⟩ := rm_law hw hsets (own_ext_refl s.heap) (own_traces hfl) (two_refs hfit (wd97 hw) (wd98 hw)) p e ha hc hk s m _ below hf ((Spec.applies_iff_loose hf).mp happ).1 ⟨rfl, State.Warmed39.refl s, rfl⟩ ⟨MethodsKnown_of_tablesKnown hcalls.2.1, FramesKnown_of_framesKnown hcalls.1 hf⟩
  refine ⟨n, _, h1, h2, h3, hpost _ _ _ _ _ _ ⟨Cond.after_iff.mpr rfl, Cond.after_iff.mpr (eq_i res_at (Term.int_eval (1)) rfl), trivial⟩ ⟨hq.1, hq.2.1, (hq.2.2.sift fun y hy => Or.inr (N y hy)).mono (by decide) (by decide)⟩⟩
theorem main_1_1 : Claimed_1_1 := comes_1 fun _ _ _ _ _ _ h hF => ⟨h.1, hF⟩
theorem main_1_2 : Claimed_1_2 := comes_1 fun _ _ _ _ _ _ h hF => ⟨h.2.1, hF⟩
end Jvm.Pilot.@@N@@
namespace Jvm.Pilot.@@N@@
open Jvm Jvm.ClassFile Sem Op Lib Jvm.Free Jvm.Stand Jvm.Pilot.@@N@@.Jvm.D
/-! MADE BY PROGRAM (witnessworld.py) out of the Statement's table words and the real class files: 38 classes; the members and pool entries that the words name. The judged class is class 1, her method 1. -/
namespace start1
open Jvm.ClassFile
def u (s : String) : CpInfo := .utf8 (stringToUtf16 s)
/-- a pool by its gaps: so many unusable entries, then the entry; so many at the end -/
def gap : Nat → List CpInfo → List CpInfo
  | 0, r => r
  | n + 1, r => .unusable :: gap n r
def poolList (es : List (Nat × CpInfo)) (last : Nat) : List CpInfo := es.foldr (fun e r => gap e.1 (e.2 :: r)) (gap last [])
def pool (es : List (Nat × CpInfo)) (last : Nat) : Array CpInfo := ⟨poolList es last⟩
def fileOf (pool : Array CpInfo) (this : Nat) (attrs : Array Attribute := #[]) (ms : Array MethodInfo := #[]) (fl : Nat := 33) (sup : Nat := 0) (ifs : Array Nat := #[]) (fds : Array FieldInfo := #[]) : ClassFile where
  minorVersion := 0
  majorVersion := 65
  constantPool := pool
  accessFlags := fl
  thisClass := this
  superClass := sup
  interfaces := ifs
  fields := fds
  methods := ms
  attributes := attrs
def plain (name : String) (sup : Option ClassId) : Class where
  name := name
  kind := .ordinary
  loader := none
  accessFlags := 33
  super := sup
  interfaces := #[]
  cf := none
  fields := #[]
  methods := #[]
  instanceTypes := #[]
  staticTypes := #[]
  resolved := #[]
  callSites := []
  init := .initialized
  statics := none
  mirror := none

def pool0 : Array CpInfo := pool [(5, u "<init>"), (0, u "()V"), (1, .class_ 10), (1, u "java/lang/Object")] 113

def k0c0 : Code := { maxStack := 0, maxLocals := 1, code := object_method_1_code, exceptionTable := #[], attributes := #[] }
def k0m0 : Method := { name := "<init>", desc := "()V", sig := { parameters := [], returnType := none }, accessFlags := 1, code := some k0c0 }
/-- java/lang/Object -/
def k0 : Class := { plain "java/lang/Object" none with
  accessFlags := 33
  interfaces := #[]
  cf := some (fileOf pool0 8 #[] #[{ accessFlags := 1, nameIndex := 5, descriptorIndex := 6, attributes := #[] }] 33 0 #[] #[])
  fields := #[]
  methods := #[k0m0]
  instanceTypes := #[]
  staticTypes := #[]
  resolved := Array.replicate 124 none
  statics := none }

def pool1 : Array CpInfo := pool [(2, .class_ 4), (1, u "java/lang/Object"), (0, u "<init>"), (0, u "()V"), (2, .long 9223372036854775807), (1, .methodref 12 13), (0, .class_ 14), (0, .nameAndType 15 16), (0, u "java/lang/String"), (0, u "valueOf"), (0, u "(C)Ljava/lang/String;"), (0, .methodref 12 18), (0, .nameAndType 5 19), (0, u "([C)V"), (0, .class_ 21), (0, u "com/example/tallymark/tallymark/FileFormatException"), (0, .methodref 20 23), (0, .nameAndType 5 24), (0, u "(JLjava/lang/String;Ljava/lang/String;)V"), (0, .methodref 20 26), (0, .nameAndType 27 28), (0, u "fault"), (0, u "(Ljava/lang/String;)Lcom/example/tallymark/tallymark/Fault;"), (0, .methodref 30 31), (0, .class_ 32), (0, .nameAndType 33 34), (0, u "com/example/tallymark/tallymark/Fault"), (0, u "file"), (0, u "()Ljava/lang/String;"), (0, .methodref 36 37), (0, .class_ 38), (0, .nameAndType 39 40), (0, u "com/example/tallymark/tallymark/FileFormatExceptionFaultPinLaw"), (0, u "eq"), (0, u "(Ljava/lang/String;Ljava/lang/String;)Z"), (0, .methodref 30 42), (0, .nameAndType 43 44), (0, u "line"), (0, u "()J"), (0, .methodref 30 46), (0, .nameAndType 47 34), (0, u "key"), (0, .methodref 30 49), (0, .nameAndType 50 34), (0, u "message"), (0, .methodref 12 52), (0, .nameAndType 53 54), (0, u "equals"), (0, u "(Ljava/lang/Object;)Z"), (2, u "law"), (0, u "(JIIII)Z")] 3

def k1m0 : Method := { name := "<init>", desc := "()V", sig := { parameters := [], returnType := none }, accessFlags := 1, code := none }
def k1c1 : Code := { maxStack := 7, maxLocals := 14, code := code, exceptionTable := #[], attributes := #[] }
def k1m1 : Method := { name := "law", desc := "(JIIII)Z", sig := { parameters := [.long, .int, .int, .int, .int], returnType := some .boolean }, accessFlags := 9, code := some k1c1 }
def k1c2 : Code := { maxStack := 2, maxLocals := 2, code := method_3_code, exceptionTable := #[], attributes := #[] }
def k1m2 : Method := { name := "eq", desc := "(Ljava/lang/String;Ljava/lang/String;)Z", sig := { parameters := [(.object "java/lang/String"), (.object "java/lang/String")], returnType := some .boolean }, accessFlags := 10, code := some k1c2 }
/-- com/example/tallymark/tallymark/FileFormatExceptionFaultPinLaw -/
def k1 : Class := { plain "com/example/tallymark/tallymark/FileFormatExceptionFaultPinLaw" (some 0) with
  accessFlags := 49
  interfaces := #[]
  cf := some (fileOf pool1 36 #[] #[{ accessFlags := 1, nameIndex := 5, descriptorIndex := 6, attributes := #[] }, { accessFlags := 9, nameIndex := 57, descriptorIndex := 58, attributes := #[] }, { accessFlags := 10, nameIndex := 39, descriptorIndex := 40, attributes := #[] }] 49 2 #[] #[])
  fields := #[]
  methods := #[k1m0, k1m1, k1m2]
  instanceTypes := #[]
  staticTypes := #[]
  resolved := Array.replicate 62 none
  statics := none }

def pool2 : Array CpInfo := pool [(1, .class_ 2), (0, u "java/io/Serializable"), (0, .class_ 4), (0, u "java/lang/Object")] 2

/-- java/io/Serializable -/
def k2 : Class := { plain "java/io/Serializable" (some 0) with
  accessFlags := 1537
  interfaces := #[]
  cf := some (fileOf pool2 1 #[] #[] 1537 3 #[] #[])
  fields := #[]
  methods := #[]
  instanceTypes := #[]
  staticTypes := #[]
  resolved := Array.replicate 7 none
  statics := none }

def pool3 : Array CpInfo := pool [(1, .class_ 2), (0, u "java/lang/Comparable"), (0, .class_ 4), (0, u "java/lang/Object")] 7

/-- java/lang/Comparable -/
def k3 : Class := { plain "java/lang/Comparable" (some 0) with
  accessFlags := 1537
  interfaces := #[]
  cf := some (fileOf pool3 1 #[] #[] 1537 3 #[] #[])
  fields := #[]
  methods := #[]
  instanceTypes := #[]
  staticTypes := #[]
  resolved := Array.replicate 12 none
  statics := none }

def pool4 : Array CpInfo := pool [(2, .class_ 4), (1, u "java/lang/CharSequence"), (42, .class_ 48), (0, u "java/lang/CharSequence$1CodePointIterator"), (10, .class_ 60), (0, u "java/lang/CharSequence$1CharIterator"), (5, .class_ 67), (0, u "java/lang/Object")] 63

/-- java/lang/CharSequence -/
def k4 : Class := { plain "java/lang/CharSequence" (some 0) with
  accessFlags := 1537
  interfaces := #[]
  cf := some (fileOf pool4 2 #[.nestMembers #[47, 59]] #[] 1537 66 #[] #[])
  fields := #[]
  methods := #[]
  instanceTypes := #[]
  staticTypes := #[]
  resolved := Array.replicate 131 none
  statics := none }

def pool5 : Array CpInfo := pool [(1, .class_ 2), (0, u "java/lang/constant/Constable"), (0, .class_ 4), (0, u "java/lang/Object")] 6

/-- java/lang/constant/Constable -/
def k5 : Class := { plain "java/lang/constant/Constable" (some 0) with
  accessFlags := 1537
  interfaces := #[]
  cf := some (fileOf pool5 1 #[] #[] 1537 3 #[] #[])
  fields := #[]
  methods := #[]
  instanceTypes := #[]
  staticTypes := #[]
  resolved := Array.replicate 11 none
  statics := none }

def pool6 : Array CpInfo := pool [(1, .class_ 2), (0, u "java/lang/constant/ConstantDesc"), (0, .class_ 4), (0, u "java/lang/Object")] 32

/-- java/lang/constant/ConstantDesc -/
def k6 : Class := { plain "java/lang/constant/ConstantDesc" (some 0) with
  accessFlags := 1537
  interfaces := #[]
  cf := some (fileOf pool6 1 #[] #[] 1537 3 #[] #[])
  fields := #[]
  methods := #[]
  instanceTypes := #[]
  staticTypes := #[]
  resolved := Array.replicate 37 none
  statics := none }

def pool7 : Array CpInfo := pool [(1, .methodref 2 3), (0, .class_ 4), (0, .nameAndType 5 6), (0, u "java/lang/Object"), (0, u "<init>"), (0, u "()V"), (2, .fieldref 10 11), (0, .class_ 12), (0, .nameAndType 13 14), (0, u "java/lang/String"), (0, u "value"), (0, u "[B"), (0, .fieldref 10 16), (0, .nameAndType 17 18), (0, u "coder"), (0, u "B"), (2, u "hash"), (0, u "I"), (2, u "hashIsZero"), (0, u "Z"), (0, .methodref 10 28), (0, .nameAndType 5 29), (0, u "([CIILjava/lang/Void;)V"), (8, .fieldref 10 39), (0, .nameAndType 40 26), (0, u "COMPACT_STRINGS"), (1, .class_ 44), (1, u "java/lang/StringUTF16"), (0, u "compress"), (1, .methodref 42 48), (0, .nameAndType 49 50), (0, u "coderFromArrayLen"), (0, u "([BI)B"), (2, u "toBytes"), (53, .class_ 109), (1, u "java/lang/StringLatin1"), (32, u "()Z"), (34, .methodref 42 178), (0, .nameAndType 45 179), (0, u "([CII)[B"), (29, .methodref 10 210), (0, .nameAndType 5 211), (0, u "([BB)V"), (157, u "(C)Z"), (173, u "equals"), (29, u "(Ljava/lang/Object;)Z"), (1, .class_ 576), (0, u "java/lang/CharSequence"), (22, u "CASE_INSENSITIVE_ORDER"), (0, u "Ljava/util/Comparator;"), (91, u "isEmpty"), (89, u "valueOf"), (0, u "(C)Ljava/lang/String;"), (226, u "([C)V"), (4, .methodref 107 1016), (0, .nameAndType 1017 369), (0, u "canEncode"), (0, .methodref 107 1019), (0, .nameAndType 53 1020), (0, u "(C)[B"), (80, u "serialPersistentFields"), (0, u "[Ljava/io/ObjectStreamField;"), (0, .class_ 1104), (0, u "java/lang/String$CaseInsensitiveComparator"), (1, .class_ 1107), (0, u "java/io/Serializable"), (0, .class_ 1109), (0, u "java/lang/Comparable"), (0, .class_ 1111), (0, u "java/lang/constant/Constable"), (0, .class_ 1113), (0, u "java/lang/constant/ConstantDesc"), (2, u "serialVersionUID"), (0, u "J"), (3, u "REPL"), (0, u "C"), (2, u "LATIN1"), (1, u "UTF16")] 323

def k7m0 : Method := { name := "<init>", desc := "()V", sig := { parameters := [], returnType := none }, accessFlags := 1, code := none }
def k7c1 : Code := { maxStack := 5, maxLocals := 2, code := jdk_42_method_3_code, exceptionTable := #[], attributes := #[] }
def k7m1 : Method := { name := "<init>", desc := "([C)V", sig := { parameters := [(.array .char)], returnType := none }, accessFlags := 1, code := some k7c1 }
def k7c2 : Code := { maxStack := 1, maxLocals := 1, code := jdk_42_method_55_code, exceptionTable := #[], attributes := #[] }
def k7m2 : Method := { name := "isEmpty", desc := "()Z", sig := { parameters := [], returnType := some .boolean }, accessFlags := 1, code := some k7c2 }
def k7c3 : Code := { maxStack := 2, maxLocals := 3, code := jdk_42_method_66_code, exceptionTable := #[], attributes := #[] }
def k7m3 : Method := { name := "equals", desc := "(Ljava/lang/Object;)Z", sig := { parameters := [(.object "java/lang/Object")], returnType := some .boolean }, accessFlags := 1, code := some k7c3 }
def k7c4 : Code := { maxStack := 4, maxLocals := 1, code := jdk_42_method_139_code, exceptionTable := #[], attributes := #[] }
def k7m4 : Method := { name := "valueOf", desc := "(C)Ljava/lang/String;", sig := { parameters := [.char], returnType := some (.object "java/lang/String") }, accessFlags := 9, code := some k7c4 }
def k7c5 : Code := { maxStack := 4, maxLocals := 6, code := jdk_42_method_149_code, exceptionTable := #[], attributes := #[] }
def k7m5 : Method := { name := "<init>", desc := "([CIILjava/lang/Void;)V", sig := { parameters := [(.array .char), .int, .int, (.object "java/lang/Void")], returnType := none }, accessFlags := 2, code := some k7c5 }
def k7c6 : Code := { maxStack := 2, maxLocals := 3, code := jdk_42_method_151_code, exceptionTable := #[], attributes := #[] }
def k7m6 : Method := { name := "<init>", desc := "([BB)V", sig := { parameters := [(.array .byte), .byte], returnType := none }, accessFlags := 0, code := some k7c6 }
/-- java/lang/String -/
def k7 : Class := { plain "java/lang/String" (some 0) with
  accessFlags := 49
  interfaces := #[2, 3, 4, 5, 6]
  cf := some (fileOf pool7 10 #[.nestMembers #[1103]] #[{ accessFlags := 1, nameIndex := 5, descriptorIndex := 6, attributes := #[] }, { accessFlags := 1, nameIndex := 5, descriptorIndex := 1010, attributes := #[] }, { accessFlags := 1, nameIndex := 692, descriptorIndex := 142, attributes := #[] }, { accessFlags := 1, nameIndex := 543, descriptorIndex := 573, attributes := #[] }, { accessFlags := 9, nameIndex := 782, descriptorIndex := 783, attributes := #[] }, { accessFlags := 2, nameIndex := 5, descriptorIndex := 29, attributes := #[] }, { accessFlags := 0, nameIndex := 5, descriptorIndex := 211, attributes := #[] }] 49 2 #[1106, 1108, 575, 1110, 1112] #[{ accessFlags := 18, nameIndex := 13, descriptorIndex := 14, attributes := #[] }, { accessFlags := 18, nameIndex := 17, descriptorIndex := 18, attributes := #[] }, { accessFlags := 2, nameIndex := 21, descriptorIndex := 22, attributes := #[] }, { accessFlags := 2, nameIndex := 25, descriptorIndex := 26, attributes := #[] }, { accessFlags := 26, nameIndex := 1116, descriptorIndex := 1117, attributes := #[] }, { accessFlags := 24, nameIndex := 40, descriptorIndex := 26, attributes := #[] }, { accessFlags := 26, nameIndex := 1101, descriptorIndex := 1102, attributes := #[] }, { accessFlags := 26, nameIndex := 1121, descriptorIndex := 1122, attributes := #[] }, { accessFlags := 25, nameIndex := 599, descriptorIndex := 600, attributes := #[] }, { accessFlags := 24, nameIndex := 1125, descriptorIndex := 18, attributes := #[] }, { accessFlags := 24, nameIndex := 1127, descriptorIndex := 18, attributes := #[] }])
  fields := #[{ name := "value", type := (.array .byte), accessFlags := 18, slot := 0, constantValue := 0 }, { name := "coder", type := .byte, accessFlags := 18, slot := 1, constantValue := 0 }, { name := "hash", type := .int, accessFlags := 2, slot := 2, constantValue := 0 }, { name := "hashIsZero", type := .boolean, accessFlags := 2, slot := 3, constantValue := 0 }, { name := "serialVersionUID", type := .long, accessFlags := 26, slot := 0, constantValue := 0 }, { name := "COMPACT_STRINGS", type := .boolean, accessFlags := 24, slot := 1, constantValue := 0 }, { name := "serialPersistentFields", type := (.array (.object "java/io/ObjectStreamField")), accessFlags := 26, slot := 2, constantValue := 0 }, { name := "REPL", type := .char, accessFlags := 26, slot := 3, constantValue := 0 }, { name := "CASE_INSENSITIVE_ORDER", type := (.object "java/util/Comparator"), accessFlags := 25, slot := 4, constantValue := 0 }, { name := "LATIN1", type := .byte, accessFlags := 24, slot := 5, constantValue := 0 }, { name := "UTF16", type := .byte, accessFlags := 24, slot := 6, constantValue := 0 }]
  methods := #[k7m0, k7m1, k7m2, k7m3, k7m4, k7m5, k7m6]
  instanceTypes := #[(.array .byte), .byte, .int, .boolean]
  staticTypes := #[.long, .boolean, (.array (.object "java/io/ObjectStreamField")), .char, (.object "java/util/Comparator"), .byte, .byte]
  resolved := Array.replicate 1451 none
  statics := some 0 }

def pool8 : Array CpInfo := pool [(6, .class_ 8), (1, u "java/lang/Object"), (0, u "<init>"), (0, u "()V"), (1, .class_ 14), (1, u "java/lang/StringUTF16"), (31, u "$assertionsDisabled"), (0, u "Z"), (13, u "HI_BYTE_SHIFT"), (0, u "I"), (2, u "LO_BYTE_SHIFT"), (49, .methodref 12 116), (0, .nameAndType 117 118), (0, u "compress"), (0, u "([CI[BII)I"), (3, u "([CII)[B"), (138, u "coderFromArrayLen"), (0, u "([BI)B"), (106, .class_ 371), (1, u "java/lang/StringUTF16$LinesSpliterator"), (58, u "MAX_LENGTH"), (196, .class_ 628), (0, u "java/lang/StringUTF16$CodePointsSpliterator"), (0, .class_ 630), (0, u "java/lang/StringUTF16$CharsSpliterator")] 4

def k8m0 : Method := { name := "<init>", desc := "()V", sig := { parameters := [], returnType := none }, accessFlags := 0, code := none }
def k8c1 : Code := { maxStack := 2, maxLocals := 2, code := jdk_52_method_15_code, exceptionTable := #[], attributes := #[] }
def k8m1 : Method := { name := "coderFromArrayLen", desc := "([BI)B", sig := { parameters := [(.array .byte), .int], returnType := some .byte }, accessFlags := 8, code := some k8c1 }
def k8c2 : Code := { maxStack := 5, maxLocals := 6, code := jdk_52_method_16_code, exceptionTable := #[], attributes := #[] }
def k8m2 : Method := { name := "compress", desc := "([CII)[B", sig := { parameters := [(.array .char), .int, .int], returnType := some (.array .byte) }, accessFlags := 9, code := some k8c2 }
def k8c3 : Code := { maxStack := 3, maxLocals := 7, code := jdk_52_method_21_code, exceptionTable := #[], attributes := #[] }
def k8m3 : Method := { name := "compress", desc := "([CI[BII)I", sig := { parameters := [(.array .char), .int, (.array .byte), .int, .int], returnType := some .int }, accessFlags := 9, code := some k8c3 }
/-- java/lang/StringUTF16 -/
def k8 : Class := { plain "java/lang/StringUTF16" (some 0) with
  accessFlags := 48
  interfaces := #[]
  cf := some (fileOf pool8 12 #[.nestMembers #[627, 629, 369]] #[{ accessFlags := 0, nameIndex := 9, descriptorIndex := 10, attributes := #[] }, { accessFlags := 8, nameIndex := 261, descriptorIndex := 262, attributes := #[] }, { accessFlags := 9, nameIndex := 117, descriptorIndex := 122, attributes := #[] }, { accessFlags := 9, nameIndex := 117, descriptorIndex := 118, attributes := #[] }] 48 6 #[] #[{ accessFlags := 26, nameIndex := 61, descriptorIndex := 62, attributes := #[] }, { accessFlags := 26, nameIndex := 65, descriptorIndex := 62, attributes := #[] }, { accessFlags := 24, nameIndex := 430, descriptorIndex := 62, attributes := #[] }, { accessFlags := 4120, nameIndex := 46, descriptorIndex := 47, attributes := #[] }])
  fields := #[{ name := "HI_BYTE_SHIFT", type := .int, accessFlags := 26, slot := 0, constantValue := 0 }, { name := "LO_BYTE_SHIFT", type := .int, accessFlags := 26, slot := 1, constantValue := 0 }, { name := "MAX_LENGTH", type := .int, accessFlags := 24, slot := 2, constantValue := 0 }, { name := "$assertionsDisabled", type := .boolean, accessFlags := 4120, slot := 3, constantValue := 0 }]
  methods := #[k8m0, k8m1, k8m2, k8m3]
  instanceTypes := #[]
  staticTypes := #[.int, .int, .int, .boolean]
  resolved := Array.replicate 635 none
  statics := none }

def pool9 : Array CpInfo := pool [(4, .class_ 6), (1, u "java/lang/Object"), (0, u "<init>"), (0, u "()V"), (5, .class_ 16), (1, u "java/lang/StringLatin1"), (73, u "canEncode"), (14, u "(C)Z"), (15, u "$assertionsDisabled"), (0, u "Z"), (98, .class_ 223), (1, u "java/lang/StringLatin1$LinesSpliterator"), (156, u "toBytes"), (1, u "(C)[B"), (7, .class_ 391), (0, u "java/lang/StringLatin1$CharsSpliterator")] 3

def k9m0 : Method := { name := "<init>", desc := "()V", sig := { parameters := [], returnType := none }, accessFlags := 0, code := none }
def k9c1 : Code := { maxStack := 2, maxLocals := 1, code := jdk_43_method_3_code, exceptionTable := #[], attributes := #[] }
def k9m1 : Method := { name := "canEncode", desc := "(C)Z", sig := { parameters := [.char], returnType := some .boolean }, accessFlags := 9, code := some k9c1 }
def k9c2 : Code := { maxStack := 4, maxLocals := 1, code := jdk_43_method_46_code, exceptionTable := #[], attributes := #[] }
def k9m2 : Method := { name := "toBytes", desc := "(C)[B", sig := { parameters := [.char], returnType := some (.array .byte) }, accessFlags := 9, code := some k9c2 }
/-- java/lang/StringLatin1 -/
def k9 : Class := { plain "java/lang/StringLatin1" (some 0) with
  accessFlags := 48
  interfaces := #[]
  cf := some (fileOf pool9 14 #[.nestMembers #[390, 221]] #[{ accessFlags := 0, nameIndex := 7, descriptorIndex := 8, attributes := #[] }, { accessFlags := 9, nameIndex := 90, descriptorIndex := 105, attributes := #[] }, { accessFlags := 9, nameIndex := 380, descriptorIndex := 382, attributes := #[] }] 48 4 #[] #[{ accessFlags := 4120, nameIndex := 121, descriptorIndex := 122, attributes := #[] }])
  fields := #[{ name := "$assertionsDisabled", type := .boolean, accessFlags := 4120, slot := 0, constantValue := 0 }]
  methods := #[k9m0, k9m1, k9m2]
  instanceTypes := #[]
  staticTypes := #[.boolean]
  resolved := Array.replicate 395 none
  statics := none }

def pool10 : Array CpInfo := pool [(1, .methodref 2 3), (0, .class_ 4), (0, .nameAndType 5 6), (0, u "java/lang/Object"), (0, u "<init>"), (0, u "()V"), (0, .fieldref 8 9), (0, .class_ 10), (0, .nameAndType 11 12), (0, u "java/lang/Throwable"), (0, u "cause"), (0, u "Ljava/lang/Throwable;"), (0, .fieldref 8 14), (0, .nameAndType 15 16), (0, u "UNASSIGNED_STACK"), (0, u "[Ljava/lang/StackTraceElement;"), (0, .fieldref 8 18), (0, .nameAndType 19 16), (0, u "stackTrace"), (0, .fieldref 8 21), (0, .nameAndType 22 23), (0, u "SUPPRESSED_SENTINEL"), (0, u "Ljava/util/List;"), (0, .fieldref 8 25), (0, .nameAndType 26 23), (0, u "suppressedExceptions"), (0, .methodref 8 28), (0, .nameAndType 29 30), (0, u "fillInStackTrace"), (0, u "()Ljava/lang/Throwable;"), (0, .fieldref 8 32), (0, .nameAndType 33 34), (0, u "detailMessage"), (0, u "Ljava/lang/String;"), (3, u "()Ljava/lang/String;"), (2, u "getMessage"), (51, .class_ 94), (0, u "java/lang/Throwable$WrappedPrintStream"), (6, .class_ 103), (1, u "java/lang/Throwable$PrintStreamOrWriter"), (61, u "$assertionsDisabled"), (0, u "Z"), (26, .class_ 194), (0, u "java/lang/Throwable$WrappedPrintWriter"), (3, .fieldref 8 199), (0, .nameAndType 200 201), (0, u "backtrace"), (0, u "Ljava/lang/Object;"), (0, .methodref 8 203), (0, .nameAndType 29 204), (0, u "(I)Ljava/lang/Throwable;"), (6, u "depth"), (0, u "I"), (10, u "(Ljava/lang/String;)V"), (45, .class_ 271), (1, u "java/lang/Throwable$SentinelHolder"), (32, u "EMPTY_THROWABLE_ARRAY"), (0, u "[Ljava/lang/Throwable;"), (12, .class_ 319), (0, u "java/io/Serializable"), (0, u "serialVersionUID"), (0, u "J"), (5, u "NULL_CAUSE_MESSAGE"), (0, u "SELF_SUPPRESSION_MESSAGE"), (0, u "CAUSE_CAPTION"), (0, u "SUPPRESSED_CAPTION")] 73

def k10c0 : Code := { maxStack := 2, maxLocals := 1, code := jdk_78_method_1_code, exceptionTable := #[], attributes := #[] }
def k10m0 : Method := { name := "<init>", desc := "()V", sig := { parameters := [], returnType := none }, accessFlags := 1, code := some k10c0 }
def k10c1 : Code := { maxStack := 2, maxLocals := 2, code := jdk_78_method_2_code, exceptionTable := #[], attributes := #[] }
def k10m1 : Method := { name := "<init>", desc := "(Ljava/lang/String;)V", sig := { parameters := [(.object "java/lang/String")], returnType := none }, accessFlags := 1, code := some k10c1 }
def k10c2 : Code := { maxStack := 1, maxLocals := 1, code := jdk_78_method_6_code, exceptionTable := #[], attributes := #[] }
def k10m2 : Method := { name := "getMessage", desc := "()Ljava/lang/String;", sig := { parameters := [], returnType := some (.object "java/lang/String") }, accessFlags := 1, code := some k10c2 }
def k10c3 : Code := { maxStack := 2, maxLocals := 1, code := ⟨#[0x2a, 0xb4, 0x00, 0x11, 0xc7, 0x00, 0x0a, 0x2a, 0xb4, 0x00, 0xc6, 0xc6, 0x00, 0x10, 0x2a, 0x03, 0xb6, 0x00, 0xca, 0x57, 0x2a, 0xb2, 0x00, 0x0d, 0xb5, 0x00, 0x11, 0x2a, 0xb0]⟩, exceptionTable := #[], attributes := #[] }
def k10m3 : Method := { name := "fillInStackTrace", desc := "()Ljava/lang/Throwable;", sig := { parameters := [], returnType := some (.object "java/lang/Throwable") }, accessFlags := 33, code := some k10c3 }
def k10m4 : Method := { name := "fillInStackTrace", desc := "(I)Ljava/lang/Throwable;", sig := { parameters := [.int], returnType := some (.object "java/lang/Throwable") }, accessFlags := 258, code := none }
/-- java/lang/Throwable -/
def k10 : Class := { plain "java/lang/Throwable" (some 0) with
  accessFlags := 33
  interfaces := #[2]
  cf := some (fileOf pool10 8 #[.nestMembers #[193, 93, 101, 269]] #[{ accessFlags := 1, nameIndex := 5, descriptorIndex := 6, attributes := #[] }, { accessFlags := 1, nameIndex := 5, descriptorIndex := 223, attributes := #[] }, { accessFlags := 1, nameIndex := 41, descriptorIndex := 38, attributes := #[] }, { accessFlags := 33, nameIndex := 29, descriptorIndex := 30, attributes := #[] }, { accessFlags := 258, nameIndex := 29, descriptorIndex := 204, attributes := #[] }] 33 2 #[318] #[{ accessFlags := 26, nameIndex := 320, descriptorIndex := 321, attributes := #[] }, { accessFlags := 130, nameIndex := 200, descriptorIndex := 201, attributes := #[] }, { accessFlags := 2, nameIndex := 33, descriptorIndex := 34, attributes := #[] }, { accessFlags := 26, nameIndex := 15, descriptorIndex := 16, attributes := #[] }, { accessFlags := 2, nameIndex := 11, descriptorIndex := 12, attributes := #[] }, { accessFlags := 2, nameIndex := 19, descriptorIndex := 16, attributes := #[] }, { accessFlags := 130, nameIndex := 211, descriptorIndex := 212, attributes := #[] }, { accessFlags := 26, nameIndex := 22, descriptorIndex := 23, attributes := #[] }, { accessFlags := 2, nameIndex := 26, descriptorIndex := 23, attributes := #[] }, { accessFlags := 26, nameIndex := 327, descriptorIndex := 34, attributes := #[] }, { accessFlags := 26, nameIndex := 328, descriptorIndex := 34, attributes := #[] }, { accessFlags := 26, nameIndex := 329, descriptorIndex := 34, attributes := #[] }, { accessFlags := 26, nameIndex := 330, descriptorIndex := 34, attributes := #[] }, { accessFlags := 26, nameIndex := 304, descriptorIndex := 305, attributes := #[] }, { accessFlags := 4120, nameIndex := 165, descriptorIndex := 166, attributes := #[] }])
  fields := #[{ name := "serialVersionUID", type := .long, accessFlags := 26, slot := 0, constantValue := 0 }, { name := "backtrace", type := (.object "java/lang/Object"), accessFlags := 130, slot := 0, constantValue := 0 }, { name := "detailMessage", type := (.object "java/lang/String"), accessFlags := 2, slot := 1, constantValue := 0 }, { name := "UNASSIGNED_STACK", type := (.array (.object "java/lang/StackTraceElement")), accessFlags := 26, slot := 1, constantValue := 0 }, { name := "cause", type := (.object "java/lang/Throwable"), accessFlags := 2, slot := 2, constantValue := 0 }, { name := "stackTrace", type := (.array (.object "java/lang/StackTraceElement")), accessFlags := 2, slot := 3, constantValue := 0 }, { name := "depth", type := .int, accessFlags := 130, slot := 4, constantValue := 0 }, { name := "SUPPRESSED_SENTINEL", type := (.object "java/util/List"), accessFlags := 26, slot := 2, constantValue := 0 }, { name := "suppressedExceptions", type := (.object "java/util/List"), accessFlags := 2, slot := 5, constantValue := 0 }, { name := "NULL_CAUSE_MESSAGE", type := (.object "java/lang/String"), accessFlags := 26, slot := 3, constantValue := 0 }, { name := "SELF_SUPPRESSION_MESSAGE", type := (.object "java/lang/String"), accessFlags := 26, slot := 4, constantValue := 0 }, { name := "CAUSE_CAPTION", type := (.object "java/lang/String"), accessFlags := 26, slot := 5, constantValue := 0 }, { name := "SUPPRESSED_CAPTION", type := (.object "java/lang/String"), accessFlags := 26, slot := 6, constantValue := 0 }, { name := "EMPTY_THROWABLE_ARRAY", type := (.array (.object "java/lang/Throwable")), accessFlags := 26, slot := 7, constantValue := 0 }, { name := "$assertionsDisabled", type := .boolean, accessFlags := 4120, slot := 8, constantValue := 0 }]
  methods := #[k10m0, k10m1, k10m2, k10m3, k10m4]
  instanceTypes := #[(.object "java/lang/Object"), (.object "java/lang/String"), (.object "java/lang/Throwable"), (.array (.object "java/lang/StackTraceElement")), .int, (.object "java/util/List")]
  staticTypes := #[.long, (.array (.object "java/lang/StackTraceElement")), (.object "java/util/List"), (.object "java/lang/String"), (.object "java/lang/String"), (.object "java/lang/String"), (.object "java/lang/String"), (.array (.object "java/lang/Throwable")), .boolean]
  resolved := Array.replicate 404 none
  statics := some 1 }

def pool11 : Array CpInfo := pool [(2, .class_ 4), (1, u "java/lang/Throwable"), (0, u "<init>"), (0, u "()V"), (0, .methodref 2 8), (0, .nameAndType 5 9), (0, u "(Ljava/lang/String;)V"), (9, .class_ 20), (0, u "java/lang/Exception"), (0, u "serialVersionUID"), (0, u "J")] 17

def k11m0 : Method := { name := "<init>", desc := "()V", sig := { parameters := [], returnType := none }, accessFlags := 1, code := none }
def k11c1 : Code := { maxStack := 2, maxLocals := 2, code := jdk_59_method_2_code, exceptionTable := #[], attributes := #[] }
def k11m1 : Method := { name := "<init>", desc := "(Ljava/lang/String;)V", sig := { parameters := [(.object "java/lang/String")], returnType := none }, accessFlags := 1, code := some k11c1 }
/-- java/lang/Exception -/
def k11 : Class := { plain "java/lang/Exception" (some 10) with
  accessFlags := 33
  interfaces := #[]
  cf := some (fileOf pool11 19 #[] #[{ accessFlags := 1, nameIndex := 5, descriptorIndex := 6, attributes := #[] }, { accessFlags := 1, nameIndex := 5, descriptorIndex := 9, attributes := #[] }] 33 2 #[] #[{ accessFlags := 24, nameIndex := 21, descriptorIndex := 22, attributes := #[] }])
  fields := #[{ name := "serialVersionUID", type := .long, accessFlags := 24, slot := 0, constantValue := 0 }]
  methods := #[k11m0, k11m1]
  instanceTypes := #[(.object "java/lang/Object"), (.object "java/lang/String"), (.object "java/lang/Throwable"), (.array (.object "java/lang/StackTraceElement")), .int, (.object "java/util/List")]
  staticTypes := #[.long]
  resolved := Array.replicate 40 none
  statics := none }

def pool12 : Array CpInfo := pool [(2, .class_ 4), (1, u "java/lang/Exception"), (0, u "<init>"), (0, u "()V"), (0, .methodref 2 8), (0, .nameAndType 5 9), (0, u "(Ljava/lang/String;)V"), (6, .class_ 17), (0, u "java/io/IOException"), (0, u "serialVersionUID"), (0, u "J")] 14

def k12m0 : Method := { name := "<init>", desc := "()V", sig := { parameters := [], returnType := none }, accessFlags := 1, code := none }
def k12c1 : Code := { maxStack := 2, maxLocals := 2, code := jdk_131_method_2_code, exceptionTable := #[], attributes := #[] }
def k12m1 : Method := { name := "<init>", desc := "(Ljava/lang/String;)V", sig := { parameters := [(.object "java/lang/String")], returnType := none }, accessFlags := 1, code := some k12c1 }
/-- java/io/IOException -/
def k12 : Class := { plain "java/io/IOException" (some 11) with
  accessFlags := 33
  interfaces := #[]
  cf := some (fileOf pool12 16 #[] #[{ accessFlags := 1, nameIndex := 5, descriptorIndex := 6, attributes := #[] }, { accessFlags := 1, nameIndex := 5, descriptorIndex := 9, attributes := #[] }] 33 2 #[] #[{ accessFlags := 24, nameIndex := 18, descriptorIndex := 19, attributes := #[] }])
  fields := #[{ name := "serialVersionUID", type := .long, accessFlags := 24, slot := 0, constantValue := 0 }]
  methods := #[k12m0, k12m1]
  instanceTypes := #[(.object "java/lang/Object"), (.object "java/lang/String"), (.object "java/lang/Throwable"), (.array (.object "java/lang/StackTraceElement")), .int, (.object "java/util/List")]
  staticTypes := #[.long]
  resolved := Array.replicate 34 none
  statics := none }

def pool13 : Array CpInfo := pool [(1, .methodref 2 3), (0, .class_ 4), (0, .nameAndType 5 6), (0, u "java/io/IOException"), (0, u "<init>"), (0, u "(Ljava/lang/String;)V"), (0, .fieldref 8 9), (0, .class_ 10), (0, .nameAndType 11 12), (0, u "com/example/tallymark/tallymark/FileFormatException"), (0, u "line"), (0, u "J"), (0, .fieldref 8 14), (0, .nameAndType 15 16), (0, u "key"), (0, u "Ljava/lang/String;"), (2, u "(JLjava/lang/String;Ljava/lang/String;)V"), (0, .class_ 21), (0, u "com/example/tallymark/tallymark/Fault"), (0, .methodref 8 23), (0, .nameAndType 24 25), (0, u "getMessage"), (0, u "()Ljava/lang/String;"), (0, .methodref 20 27), (0, .nameAndType 5 28), (0, u "(Ljava/lang/String;JLjava/lang/String;Ljava/lang/String;)V"), (0, u "serialVersionUID"), (5, u "fault"), (0, u "(Ljava/lang/String;)Lcom/example/tallymark/tallymark/Fault;")] 2

def k13c0 : Code := { maxStack := 3, maxLocals := 5, code := prog_7_method_1_code, exceptionTable := #[], attributes := #[] }
def k13m0 : Method := { name := "<init>", desc := "(JLjava/lang/String;Ljava/lang/String;)V", sig := { parameters := [.long, (.object "java/lang/String"), (.object "java/lang/String")], returnType := none }, accessFlags := 0, code := some k13c0 }
def k13c1 : Code := { maxStack := 7, maxLocals := 2, code := prog_7_method_3_code, exceptionTable := #[], attributes := #[] }
def k13m1 : Method := { name := "fault", desc := "(Ljava/lang/String;)Lcom/example/tallymark/tallymark/Fault;", sig := { parameters := [(.object "java/lang/String")], returnType := some (.object "com/example/tallymark/tallymark/Fault") }, accessFlags := 0, code := some k13c1 }
/-- com/example/tallymark/tallymark/FileFormatException -/
def k13 : Class := { plain "com/example/tallymark/tallymark/FileFormatException" (some 12) with
  accessFlags := 48
  interfaces := #[]
  cf := some (fileOf pool13 8 #[] #[{ accessFlags := 0, nameIndex := 5, descriptorIndex := 19, attributes := #[] }, { accessFlags := 0, nameIndex := 35, descriptorIndex := 36, attributes := #[] }] 48 2 #[] #[{ accessFlags := 26, nameIndex := 29, descriptorIndex := 12, attributes := #[] }, { accessFlags := 18, nameIndex := 11, descriptorIndex := 12, attributes := #[] }, { accessFlags := 18, nameIndex := 15, descriptorIndex := 16, attributes := #[] }])
  fields := #[{ name := "serialVersionUID", type := .long, accessFlags := 26, slot := 0, constantValue := 0 }, { name := "line", type := .long, accessFlags := 18, slot := 6, constantValue := 0 }, { name := "key", type := (.object "java/lang/String"), accessFlags := 18, slot := 7, constantValue := 0 }]
  methods := #[k13m0, k13m1]
  instanceTypes := #[(.object "java/lang/Object"), (.object "java/lang/String"), (.object "java/lang/Throwable"), (.array (.object "java/lang/StackTraceElement")), .int, (.object "java/util/List"), .long, (.object "java/lang/String")]
  staticTypes := #[.long]
  resolved := Array.replicate 39 none
  statics := none }

def pool14 : Array CpInfo := pool [(1, .methodref 2 3), (0, .class_ 4), (0, .nameAndType 5 6), (0, u "java/lang/Object"), (0, u "<init>"), (0, u "()V"), (0, .class_ 8), (0, u "java/lang/Record")] 13

def k14c0 : Code := { maxStack := 1, maxLocals := 1, code := jdk_30_method_1_code, exceptionTable := #[], attributes := #[] }
def k14m0 : Method := { name := "<init>", desc := "()V", sig := { parameters := [], returnType := none }, accessFlags := 4, code := some k14c0 }
/-- java/lang/Record -/
def k14 : Class := { plain "java/lang/Record" (some 0) with
  accessFlags := 1057
  interfaces := #[]
  cf := some (fileOf pool14 7 #[] #[{ accessFlags := 4, nameIndex := 5, descriptorIndex := 6, attributes := #[] }] 1057 2 #[] #[])
  fields := #[]
  methods := #[k14m0]
  instanceTypes := #[]
  staticTypes := #[]
  resolved := Array.replicate 22 none
  statics := none }

def pool15 : Array CpInfo := pool [(1, .methodref 2 3), (0, .class_ 4), (0, .nameAndType 5 6), (0, u "java/lang/Record"), (0, u "<init>"), (0, u "()V"), (0, .methodref 8 9), (0, .class_ 10), (0, .nameAndType 11 12), (0, u "java/lang/String"), (0, u "isEmpty"), (0, u "()Z"), (14, .fieldref 28 29), (0, .class_ 30), (0, .nameAndType 31 32), (0, u "com/example/tallymark/tallymark/Fault"), (0, u "file"), (0, u "Ljava/lang/String;"), (0, .fieldref 28 34), (0, .nameAndType 35 36), (0, u "line"), (0, u "J"), (0, .fieldref 28 38), (0, .nameAndType 39 32), (0, u "key"), (0, .fieldref 28 41), (0, .nameAndType 42 32), (0, u "message"), (21, u "SYNTAX"), (3, u "ENCODING"), (2, u "LINE_FEED_SYMBOL"), (0, u "C"), (1, u "CARRIAGE_RETURN_SYMBOL"), (1, u "(Ljava/lang/String;JLjava/lang/String;Ljava/lang/String;)V"), (5, u "()Ljava/lang/String;"), (2, u "()J")] 37

def k15c0 : Code := { maxStack := 5, maxLocals := 6, code := prog_5_method_1_code, exceptionTable := #[], attributes := #[] }
def k15m0 : Method := { name := "<init>", desc := "(Ljava/lang/String;JLjava/lang/String;Ljava/lang/String;)V", sig := { parameters := [(.object "java/lang/String"), .long, (.object "java/lang/String"), (.object "java/lang/String")], returnType := none }, accessFlags := 0, code := some k15c0 }
def k15c1 : Code := { maxStack := 1, maxLocals := 1, code := prog_5_method_6_code, exceptionTable := #[], attributes := #[] }
def k15m1 : Method := { name := "file", desc := "()Ljava/lang/String;", sig := { parameters := [], returnType := some (.object "java/lang/String") }, accessFlags := 1, code := some k15c1 }
def k15c2 : Code := { maxStack := 2, maxLocals := 1, code := prog_5_method_7_code, exceptionTable := #[], attributes := #[] }
def k15m2 : Method := { name := "line", desc := "()J", sig := { parameters := [], returnType := some .long }, accessFlags := 1, code := some k15c2 }
def k15c3 : Code := { maxStack := 1, maxLocals := 1, code := prog_5_method_8_code, exceptionTable := #[], attributes := #[] }
def k15m3 : Method := { name := "key", desc := "()Ljava/lang/String;", sig := { parameters := [], returnType := some (.object "java/lang/String") }, accessFlags := 1, code := some k15c3 }
def k15c4 : Code := { maxStack := 1, maxLocals := 1, code := prog_5_method_9_code, exceptionTable := #[], attributes := #[] }
def k15m4 : Method := { name := "message", desc := "()Ljava/lang/String;", sig := { parameters := [], returnType := some (.object "java/lang/String") }, accessFlags := 1, code := some k15c4 }
/-- com/example/tallymark/tallymark/Fault -/
def k15 : Class := { plain "com/example/tallymark/tallymark/Fault" (some 14) with
  accessFlags := 48
  interfaces := #[]
  cf := some (fileOf pool15 28 #[] #[{ accessFlags := 0, nameIndex := 5, descriptorIndex := 76, attributes := #[] }, { accessFlags := 1, nameIndex := 31, descriptorIndex := 82, attributes := #[] }, { accessFlags := 1, nameIndex := 35, descriptorIndex := 85, attributes := #[] }, { accessFlags := 1, nameIndex := 39, descriptorIndex := 82, attributes := #[] }, { accessFlags := 1, nameIndex := 42, descriptorIndex := 82, attributes := #[] }] 48 2 #[] #[{ accessFlags := 18, nameIndex := 31, descriptorIndex := 32, attributes := #[] }, { accessFlags := 18, nameIndex := 35, descriptorIndex := 36, attributes := #[] }, { accessFlags := 18, nameIndex := 39, descriptorIndex := 32, attributes := #[] }, { accessFlags := 18, nameIndex := 42, descriptorIndex := 32, attributes := #[] }, { accessFlags := 24, nameIndex := 64, descriptorIndex := 32, attributes := #[] }, { accessFlags := 24, nameIndex := 68, descriptorIndex := 32, attributes := #[] }, { accessFlags := 26, nameIndex := 71, descriptorIndex := 72, attributes := #[] }, { accessFlags := 26, nameIndex := 74, descriptorIndex := 72, attributes := #[] }])
  fields := #[{ name := "file", type := (.object "java/lang/String"), accessFlags := 18, slot := 0, constantValue := 0 }, { name := "line", type := .long, accessFlags := 18, slot := 1, constantValue := 0 }, { name := "key", type := (.object "java/lang/String"), accessFlags := 18, slot := 2, constantValue := 0 }, { name := "message", type := (.object "java/lang/String"), accessFlags := 18, slot := 3, constantValue := 0 }, { name := "SYNTAX", type := (.object "java/lang/String"), accessFlags := 24, slot := 0, constantValue := 0 }, { name := "ENCODING", type := (.object "java/lang/String"), accessFlags := 24, slot := 1, constantValue := 0 }, { name := "LINE_FEED_SYMBOL", type := .char, accessFlags := 26, slot := 2, constantValue := 0 }, { name := "CARRIAGE_RETURN_SYMBOL", type := .char, accessFlags := 26, slot := 3, constantValue := 0 }]
  methods := #[k15m0, k15m1, k15m2, k15m3, k15m4]
  instanceTypes := #[(.object "java/lang/String"), .long, (.object "java/lang/String"), (.object "java/lang/String")]
  staticTypes := #[(.object "java/lang/String"), (.object "java/lang/String"), .char, .char]
  resolved := Array.replicate 123 none
  statics := none }

def pool16 : Array CpInfo := pool [(2, .class_ 4), (1, u "java/lang/Object"), (0, u "<init>"), (0, u "()V"), (17, .class_ 26), (1, u "jdk/internal/util/Preconditions"), (28, .class_ 56), (0, u "jdk/internal/util/Preconditions$4"), (57, .class_ 115), (0, u "jdk/internal/util/Preconditions$1"), (7, u "SIOOBE_FORMATTER"), (0, u "Ljava/util/function/BiFunction;"), (0, .class_ 126), (0, u "jdk/internal/util/Preconditions$2"), (3, u "AIOOBE_FORMATTER"), (0, .class_ 132), (0, u "jdk/internal/util/Preconditions$3"), (3, u "IOOBE_FORMATTER")] 57

def k16m0 : Method := { name := "<init>", desc := "()V", sig := { parameters := [], returnType := none }, accessFlags := 1, code := none }
/-- jdk/internal/util/Preconditions -/
def k16 : Class := { plain "jdk/internal/util/Preconditions" (some 0) with
  accessFlags := 33
  interfaces := #[]
  cf := some (fileOf pool16 24 #[.nestMembers #[55, 131, 125, 114]] #[{ accessFlags := 1, nameIndex := 5, descriptorIndex := 6, attributes := #[] }] 33 2 #[] #[{ accessFlags := 25, nameIndex := 123, descriptorIndex := 124, attributes := #[] }, { accessFlags := 25, nameIndex := 130, descriptorIndex := 124, attributes := #[] }, { accessFlags := 25, nameIndex := 136, descriptorIndex := 124, attributes := #[] }])
  fields := #[{ name := "SIOOBE_FORMATTER", type := (.object "java/util/function/BiFunction"), accessFlags := 25, slot := 0, constantValue := 0 }, { name := "AIOOBE_FORMATTER", type := (.object "java/util/function/BiFunction"), accessFlags := 25, slot := 1, constantValue := 0 }, { name := "IOOBE_FORMATTER", type := (.object "java/util/function/BiFunction"), accessFlags := 25, slot := 2, constantValue := 0 }]
  methods := #[k16m0]
  instanceTypes := #[]
  staticTypes := #[(.object "java/util/function/BiFunction"), (.object "java/util/function/BiFunction"), (.object "java/util/function/BiFunction")]
  resolved := Array.replicate 194 none
  statics := some 2 }

def pool17 : Array CpInfo := pool [(9, u "<init>"), (6, .class_ 18), (1, u "java/lang/Object"), (0, u "()V"), (1, .class_ 23), (1, u "jdk/internal/util/ArraysSupport"), (0, u "LOG2_ARRAY_LONG_INDEX_SCALE"), (0, u "I"), (2, u "U"), (0, u "Ljdk/internal/misc/Unsafe;"), (8, u "BIG_ENDIAN"), (0, u "Z"), (8, u "LOG2_BYTE_BIT_SIZE"), (4, u "LOG2_ARRAY_INT_INDEX_SCALE"), (54, u "JLA"), (0, u "Ljdk/internal/access/JavaLangAccess;"), (11, u "LOG2_ARRAY_BOOLEAN_INDEX_SCALE"), (9, u "LOG2_ARRAY_BYTE_INDEX_SCALE"), (5, u "LOG2_ARRAY_CHAR_INDEX_SCALE"), (5, u "LOG2_ARRAY_SHORT_INDEX_SCALE"), (18, u "LOG2_ARRAY_FLOAT_INDEX_SCALE"), (24, u "LOG2_ARRAY_DOUBLE_INDEX_SCALE"), (89, u "T_BOOLEAN"), (2, u "T_CHAR"), (1, u "T_FLOAT"), (1, u "T_DOUBLE"), (1, u "T_BYTE"), (1, u "T_SHORT"), (1, u "T_INT"), (1, u "T_LONG"), (1, u "SOFT_MAX_ARRAY_LENGTH")] 83

def k17m0 : Method := { name := "<init>", desc := "()V", sig := { parameters := [], returnType := none }, accessFlags := 2, code := none }
/-- jdk/internal/util/ArraysSupport -/
def k17 : Class := { plain "jdk/internal/util/ArraysSupport" (some 0) with
  accessFlags := 33
  interfaces := #[]
  cf := some (fileOf pool17 21 #[] #[{ accessFlags := 2, nameIndex := 9, descriptorIndex := 19, attributes := #[] }] 33 16 #[] #[{ accessFlags := 24, nameIndex := 28, descriptorIndex := 29, attributes := #[] }, { accessFlags := 26, nameIndex := 38, descriptorIndex := 39, attributes := #[] }, { accessFlags := 25, nameIndex := 121, descriptorIndex := 25, attributes := #[] }, { accessFlags := 25, nameIndex := 131, descriptorIndex := 25, attributes := #[] }, { accessFlags := 25, nameIndex := 137, descriptorIndex := 25, attributes := #[] }, { accessFlags := 25, nameIndex := 143, descriptorIndex := 25, attributes := #[] }, { accessFlags := 25, nameIndex := 53, descriptorIndex := 25, attributes := #[] }, { accessFlags := 25, nameIndex := 24, descriptorIndex := 25, attributes := #[] }, { accessFlags := 25, nameIndex := 162, descriptorIndex := 25, attributes := #[] }, { accessFlags := 25, nameIndex := 187, descriptorIndex := 25, attributes := #[] }, { accessFlags := 26, nameIndex := 48, descriptorIndex := 25, attributes := #[] }, { accessFlags := 25, nameIndex := 277, descriptorIndex := 25, attributes := #[] }, { accessFlags := 25, nameIndex := 280, descriptorIndex := 25, attributes := #[] }, { accessFlags := 25, nameIndex := 282, descriptorIndex := 25, attributes := #[] }, { accessFlags := 25, nameIndex := 284, descriptorIndex := 25, attributes := #[] }, { accessFlags := 25, nameIndex := 286, descriptorIndex := 25, attributes := #[] }, { accessFlags := 25, nameIndex := 288, descriptorIndex := 25, attributes := #[] }, { accessFlags := 25, nameIndex := 290, descriptorIndex := 25, attributes := #[] }, { accessFlags := 25, nameIndex := 292, descriptorIndex := 25, attributes := #[] }, { accessFlags := 26, nameIndex := 108, descriptorIndex := 109, attributes := #[] }, { accessFlags := 25, nameIndex := 294, descriptorIndex := 25, attributes := #[] }])
  fields := #[{ name := "U", type := (.object "jdk/internal/misc/Unsafe"), accessFlags := 24, slot := 0, constantValue := 0 }, { name := "BIG_ENDIAN", type := .boolean, accessFlags := 26, slot := 1, constantValue := 0 }, { name := "LOG2_ARRAY_BOOLEAN_INDEX_SCALE", type := .int, accessFlags := 25, slot := 2, constantValue := 0 }, { name := "LOG2_ARRAY_BYTE_INDEX_SCALE", type := .int, accessFlags := 25, slot := 3, constantValue := 0 }, { name := "LOG2_ARRAY_CHAR_INDEX_SCALE", type := .int, accessFlags := 25, slot := 4, constantValue := 0 }, { name := "LOG2_ARRAY_SHORT_INDEX_SCALE", type := .int, accessFlags := 25, slot := 5, constantValue := 0 }, { name := "LOG2_ARRAY_INT_INDEX_SCALE", type := .int, accessFlags := 25, slot := 6, constantValue := 0 }, { name := "LOG2_ARRAY_LONG_INDEX_SCALE", type := .int, accessFlags := 25, slot := 7, constantValue := 0 }, { name := "LOG2_ARRAY_FLOAT_INDEX_SCALE", type := .int, accessFlags := 25, slot := 8, constantValue := 0 }, { name := "LOG2_ARRAY_DOUBLE_INDEX_SCALE", type := .int, accessFlags := 25, slot := 9, constantValue := 0 }, { name := "LOG2_BYTE_BIT_SIZE", type := .int, accessFlags := 26, slot := 10, constantValue := 0 }, { name := "T_BOOLEAN", type := .int, accessFlags := 25, slot := 11, constantValue := 0 }, { name := "T_CHAR", type := .int, accessFlags := 25, slot := 12, constantValue := 0 }, { name := "T_FLOAT", type := .int, accessFlags := 25, slot := 13, constantValue := 0 }, { name := "T_DOUBLE", type := .int, accessFlags := 25, slot := 14, constantValue := 0 }, { name := "T_BYTE", type := .int, accessFlags := 25, slot := 15, constantValue := 0 }, { name := "T_SHORT", type := .int, accessFlags := 25, slot := 16, constantValue := 0 }, { name := "T_INT", type := .int, accessFlags := 25, slot := 17, constantValue := 0 }, { name := "T_LONG", type := .int, accessFlags := 25, slot := 18, constantValue := 0 }, { name := "JLA", type := (.object "jdk/internal/access/JavaLangAccess"), accessFlags := 26, slot := 19, constantValue := 0 }, { name := "SOFT_MAX_ARRAY_LENGTH", type := .int, accessFlags := 25, slot := 20, constantValue := 0 }]
  methods := #[k17m0]
  instanceTypes := #[]
  staticTypes := #[(.object "jdk/internal/misc/Unsafe"), .boolean, .int, .int, .int, .int, .int, .int, .int, .int, .int, .int, .int, .int, .int, .int, .int, .int, .int, (.object "jdk/internal/access/JavaLangAccess"), .int]
  resolved := Array.replicate 378 none
  statics := none }

def pool18 : Array CpInfo := pool [(2, .class_ 4), (1, u "java/lang/Object"), (0, u "<init>"), (0, u "()V"), (12, .class_ 20), (0, u "java/util/Collections"), (63, u "r"), (0, u "Ljava/util/Random;"), (80, .class_ 167), (0, u "java/util/Collections$UnmodifiableCollection"), (6, .class_ 175), (0, u "java/util/Collections$UnmodifiableSequencedCollection"), (6, .class_ 183), (0, u "java/util/Collections$UnmodifiableSet"), (6, .class_ 191), (0, u "java/util/Collections$UnmodifiableSequencedSet"), (6, .class_ 199), (0, u "java/util/Collections$UnmodifiableSortedSet"), (6, .class_ 207), (0, u "java/util/Collections$UnmodifiableNavigableSet"), (4, .class_ 213), (0, u "java/util/Collections$UnmodifiableList"), (1, .class_ 216), (0, u "java/util/Collections$UnmodifiableRandomAccessList"), (6, .class_ 224), (0, u "java/util/Collections$UnmodifiableMap"), (6, .class_ 232), (0, u "java/util/Collections$UnmodifiableSequencedMap"), (4, .class_ 238), (0, u "java/util/Collections$UnmodifiableSortedMap"), (6, .class_ 246), (0, u "java/util/Collections$UnmodifiableNavigableMap"), (3, .class_ 251), (0, u "java/util/Collections$SynchronizedCollection"), (4, .class_ 257), (0, u "java/util/Collections$SynchronizedSet"), (4, .class_ 263), (0, u "java/util/Collections$SynchronizedSortedSet"), (1, .class_ 266), (0, u "java/util/Collections$SynchronizedNavigableSet"), (1, .class_ 269), (0, u "java/util/Collections$SynchronizedRandomAccessList"), (1, .class_ 272), (0, u "java/util/Collections$SynchronizedList"), (5, .class_ 279), (0, u "java/util/Collections$SynchronizedMap"), (1, .class_ 282), (0, u "java/util/Collections$SynchronizedSortedMap"), (1, .class_ 285), (0, u "java/util/Collections$SynchronizedNavigableMap"), (1, .class_ 288), (0, u "java/util/Collections$CheckedCollection"), (11, .class_ 301), (0, u "java/util/Collections$CheckedQueue"), (3, .class_ 306), (0, u "java/util/Collections$CheckedSet"), (3, .class_ 311), (0, u "java/util/Collections$CheckedSortedSet"), (3, .class_ 316), (0, u "java/util/Collections$CheckedNavigableSet"), (3, .class_ 321), (0, u "java/util/Collections$CheckedRandomAccessList"), (3, .class_ 326), (0, u "java/util/Collections$CheckedList"), (1, .class_ 329), (0, u "java/util/Collections$CheckedMap"), (3, .class_ 334), (0, u "java/util/Collections$CheckedSortedMap"), (3, .class_ 339), (0, u "java/util/Collections$CheckedNavigableMap"), (4, .class_ 346), (1, u "java/util/Collections$EmptyIterator"), (3, .class_ 352), (1, u "java/util/Collections$EmptyListIterator"), (2, .class_ 357), (1, u "java/util/Collections$EmptyEnumeration"), (4, u "EMPTY_SET"), (0, u "Ljava/util/Set;"), (6, u "EMPTY_LIST"), (0, u "Ljava/util/List;"), (2, u "EMPTY_MAP"), (0, u "Ljava/util/Map;"), (4, .class_ 381), (0, u "java/util/Collections$SingletonSet"), (2, .class_ 385), (0, u "java/util/Collections$1"), (1, .class_ 388), (0, u "java/util/Collections$2"), (1, .class_ 391), (0, u "java/util/Collections$SingletonList"), (1, .class_ 394), (0, u "java/util/Collections$SingletonMap"), (22, .class_ 418), (0, u "java/util/Collections$CopiesList"), (4, .class_ 425), (1, u "java/util/Collections$ReverseComparator"), (8, .class_ 435), (0, u "java/util/Collections$ReverseComparator2"), (6, .class_ 443), (0, u "java/util/Collections$3"), (25, .class_ 470), (0, u "java/util/Collections$SetFromMap"), (2, .class_ 474), (0, u "java/util/Collections$SequencedSetFromMap"), (3, .class_ 479), (0, u "java/util/Collections$AsLIFOQueue"), (11, .class_ 492), (0, u "java/util/Collections$EmptySet"), (1, .class_ 495), (0, u "java/util/Collections$EmptyList"), (1, .class_ 498), (0, u "java/util/Collections$EmptyMap"), (1, u "BINARYSEARCH_THRESHOLD"), (0, u "I"), (2, u "REVERSE_THRESHOLD"), (1, u "SHUFFLE_THRESHOLD"), (1, u "FILL_THRESHOLD"), (1, u "ROTATE_THRESHOLD"), (1, u "COPY_THRESHOLD"), (1, u "REPLACEALL_THRESHOLD"), (1, u "INDEXOFSUBLIST_THRESHOLD"), (333, .class_ 851), (0, u "java/util/Collections$CheckedMap$CheckedEntrySet"), (0, .class_ 853), (0, u "java/util/Collections$CheckedMap$CheckedEntrySet$CheckedEntry"), (0, .class_ 855), (0, u "java/util/Collections$CheckedMap$CheckedEntrySet$1"), (0, .class_ 857), (0, u "java/util/Collections$CheckedList$1"), (0, .class_ 859), (0, u "java/util/Collections$CheckedCollection$1"), (0, .class_ 861), (0, u "java/util/Collections$UnmodifiableNavigableMap$EmptyNavigableMap"), (0, .class_ 863), (0, u "java/util/Collections$UnmodifiableMap$UnmodifiableEntrySet"), (0, .class_ 865), (0, u "java/util/Collections$UnmodifiableMap$UnmodifiableEntrySet$UnmodifiableEntry"), (0, .class_ 867), (0, u "java/util/Collections$UnmodifiableMap$UnmodifiableEntrySet$UnmodifiableEntrySetSpliterator"), (0, .class_ 869), (0, u "java/util/Collections$UnmodifiableMap$UnmodifiableEntrySet$1"), (0, .class_ 871), (0, u "java/util/Collections$UnmodifiableList$1"), (0, .class_ 873), (0, u "java/util/Collections$UnmodifiableNavigableSet$EmptyNavigableSet"), (0, .class_ 875), (0, u "java/util/Collections$UnmodifiableCollection$1")] 57

def k18m0 : Method := { name := "<init>", desc := "()V", sig := { parameters := [], returnType := none }, accessFlags := 2, code := none }
/-- java/util/Collections -/
def k18 : Class := { plain "java/util/Collections" (some 0) with
  accessFlags := 33
  interfaces := #[]
  cf := some (fileOf pool18 19 #[.nestMembers #[478, 473, 469, 434, 423, 417, 393, 390, 380, 497, 494, 491, 355, 350, 344, 338, 333, 328, 850, 852, 854, 320, 325, 856, 315, 310, 305, 300, 287, 858, 284, 281, 278, 268, 271, 265, 262, 256, 250, 245, 860, 237, 231, 223, 862, 864, 866, 868, 215, 212, 870, 206, 872, 198, 190, 182, 174, 166, 874, 442, 387, 384]] #[{ accessFlags := 2, nameIndex := 5, descriptorIndex := 6, attributes := #[] }] 33 2 #[] #[{ accessFlags := 26, nameIndex := 500, descriptorIndex := 501, attributes := #[] }, { accessFlags := 26, nameIndex := 504, descriptorIndex := 501, attributes := #[] }, { accessFlags := 26, nameIndex := 506, descriptorIndex := 501, attributes := #[] }, { accessFlags := 26, nameIndex := 508, descriptorIndex := 501, attributes := #[] }, { accessFlags := 26, nameIndex := 510, descriptorIndex := 501, attributes := #[] }, { accessFlags := 26, nameIndex := 512, descriptorIndex := 501, attributes := #[] }, { accessFlags := 26, nameIndex := 514, descriptorIndex := 501, attributes := #[] }, { accessFlags := 26, nameIndex := 516, descriptorIndex := 501, attributes := #[] }, { accessFlags := 10, nameIndex := 84, descriptorIndex := 85, attributes := #[] }, { accessFlags := 25, nameIndex := 362, descriptorIndex := 363, attributes := #[] }, { accessFlags := 25, nameIndex := 370, descriptorIndex := 371, attributes := #[] }, { accessFlags := 25, nameIndex := 374, descriptorIndex := 375, attributes := #[] }])
  fields := #[{ name := "BINARYSEARCH_THRESHOLD", type := .int, accessFlags := 26, slot := 0, constantValue := 0 }, { name := "REVERSE_THRESHOLD", type := .int, accessFlags := 26, slot := 1, constantValue := 0 }, { name := "SHUFFLE_THRESHOLD", type := .int, accessFlags := 26, slot := 2, constantValue := 0 }, { name := "FILL_THRESHOLD", type := .int, accessFlags := 26, slot := 3, constantValue := 0 }, { name := "ROTATE_THRESHOLD", type := .int, accessFlags := 26, slot := 4, constantValue := 0 }, { name := "COPY_THRESHOLD", type := .int, accessFlags := 26, slot := 5, constantValue := 0 }, { name := "REPLACEALL_THRESHOLD", type := .int, accessFlags := 26, slot := 6, constantValue := 0 }, { name := "INDEXOFSUBLIST_THRESHOLD", type := .int, accessFlags := 26, slot := 7, constantValue := 0 }, { name := "r", type := (.object "java/util/Random"), accessFlags := 10, slot := 8, constantValue := 0 }, { name := "EMPTY_SET", type := (.object "java/util/Set"), accessFlags := 25, slot := 9, constantValue := 0 }, { name := "EMPTY_LIST", type := (.object "java/util/List"), accessFlags := 25, slot := 10, constantValue := 0 }, { name := "EMPTY_MAP", type := (.object "java/util/Map"), accessFlags := 25, slot := 11, constantValue := 0 }]
  methods := #[k18m0]
  instanceTypes := #[]
  staticTypes := #[.int, .int, .int, .int, .int, .int, .int, .int, (.object "java/util/Random"), (.object "java/util/Set"), (.object "java/util/List"), (.object "java/util/Map")]
  resolved := Array.replicate 933 none
  statics := some 3 }

def pool19 : Array CpInfo := pool [(8, .class_ 10), (1, u "java/lang/Iterable"), (24, .class_ 36), (0, u "java/lang/Object")] 25

/-- java/lang/Iterable -/
def k19 : Class := { plain "java/lang/Iterable" (some 0) with
  accessFlags := 1537
  interfaces := #[]
  cf := some (fileOf pool19 8 #[] #[] 1537 35 #[] #[])
  fields := #[]
  methods := #[]
  instanceTypes := #[]
  staticTypes := #[]
  resolved := Array.replicate 62 none
  statics := none }

def pool20 : Array CpInfo := pool [(10, .class_ 12), (1, u "java/util/Collection"), (47, .class_ 61), (0, u "java/lang/Object"), (0, .class_ 63), (0, u "java/lang/Iterable")] 51

/-- java/util/Collection -/
def k20 : Class := { plain "java/util/Collection" (some 0) with
  accessFlags := 1537
  interfaces := #[19]
  cf := some (fileOf pool20 10 #[] #[] 1537 60 #[62] #[])
  fields := #[]
  methods := #[]
  instanceTypes := #[]
  staticTypes := #[]
  resolved := Array.replicate 115 none
  statics := none }

def pool21 : Array CpInfo := pool [(2, .class_ 4), (1, u "java/lang/Object"), (0, u "<init>"), (0, u "()V"), (1, .class_ 10), (1, u "java/util/AbstractCollection"), (66, .class_ 78), (0, u "java/util/Collection")] 81

def k21m0 : Method := { name := "<init>", desc := "()V", sig := { parameters := [], returnType := none }, accessFlags := 4, code := none }
/-- java/util/AbstractCollection -/
def k21 : Class := { plain "java/util/AbstractCollection" (some 0) with
  accessFlags := 1057
  interfaces := #[20]
  cf := some (fileOf pool21 8 #[] #[{ accessFlags := 4, nameIndex := 5, descriptorIndex := 6, attributes := #[] }] 1057 2 #[77] #[])
  fields := #[]
  methods := #[k21m0]
  instanceTypes := #[]
  staticTypes := #[]
  resolved := Array.replicate 160 none
  statics := none }

def pool22 : Array CpInfo := pool [(8, .class_ 10), (1, u "java/util/SequencedCollection"), (15, .class_ 27), (0, u "java/lang/Object"), (0, .class_ 29), (0, u "java/util/Collection")] 27

/-- java/util/SequencedCollection -/
def k22 : Class := { plain "java/util/SequencedCollection" (some 0) with
  accessFlags := 1537
  interfaces := #[20]
  cf := some (fileOf pool22 8 #[] #[] 1537 26 #[28] #[])
  fields := #[]
  methods := #[]
  instanceTypes := #[]
  staticTypes := #[]
  resolved := Array.replicate 57 none
  statics := none }

def pool23 : Array CpInfo := pool [(8, .class_ 10), (1, u "java/util/List"), (92, .class_ 104), (0, u "java/lang/Object"), (15, .class_ 121), (0, u "java/util/SequencedCollection")] 129

/-- java/util/List -/
def k23 : Class := { plain "java/util/List" (some 0) with
  accessFlags := 1537
  interfaces := #[22]
  cf := some (fileOf pool23 8 #[] #[] 1537 103 #[120] #[])
  fields := #[]
  methods := #[]
  instanceTypes := #[]
  staticTypes := #[]
  resolved := Array.replicate 251 none
  statics := none }

def pool24 : Array CpInfo := pool [(2, .class_ 4), (1, u "java/util/AbstractCollection"), (0, u "<init>"), (0, u "()V"), (1, .class_ 10), (1, u "java/util/AbstractList"), (0, u "modCount"), (0, u "I"), (64, .class_ 78), (0, u "java/util/AbstractList$Itr"), (3, .class_ 83), (0, u "java/util/AbstractList$ListItr"), (9, .class_ 94), (0, u "java/util/AbstractList$RandomAccessSubList"), (3, .class_ 99), (0, u "java/util/AbstractList$SubList"), (33, .class_ 134), (0, u "java/util/List"), (73, .class_ 209), (0, u "java/util/AbstractList$SubList$1"), (0, .class_ 211), (0, u "java/util/AbstractList$RandomAccessSpliterator")] 6

def k24m0 : Method := { name := "<init>", desc := "()V", sig := { parameters := [], returnType := none }, accessFlags := 4, code := none }
/-- java/util/AbstractList -/
def k24 : Class := { plain "java/util/AbstractList" (some 21) with
  accessFlags := 1057
  interfaces := #[23]
  cf := some (fileOf pool24 8 #[.nestMembers #[93, 98, 208, 210, 82, 77]] #[{ accessFlags := 4, nameIndex := 5, descriptorIndex := 6, attributes := #[] }] 1057 2 #[133] #[{ accessFlags := 132, nameIndex := 11, descriptorIndex := 12, attributes := #[] }])
  fields := #[{ name := "modCount", type := .int, accessFlags := 132, slot := 0, constantValue := 0 }]
  methods := #[k24m0]
  instanceTypes := #[.int]
  staticTypes := #[]
  resolved := Array.replicate 218 none
  statics := none }

def pool25 : Array CpInfo := pool [(1, .class_ 2), (0, u "java/util/RandomAccess"), (0, .class_ 4), (0, u "java/lang/Object")] 2

/-- java/util/RandomAccess -/
def k25 : Class := { plain "java/util/RandomAccess" (some 0) with
  accessFlags := 1537
  interfaces := #[]
  cf := some (fileOf pool25 1 #[] #[] 1537 3 #[] #[])
  fields := #[]
  methods := #[]
  instanceTypes := #[]
  staticTypes := #[]
  resolved := Array.replicate 7 none
  statics := none }

def pool26 : Array CpInfo := pool [(2, .class_ 4), (1, u "java/util/AbstractList"), (0, u "<init>"), (0, u "()V"), (1, .class_ 10), (1, u "java/util/Collections"), (54, .class_ 66), (0, u "java/util/Collections$EmptyList"), (0, .class_ 68), (0, u "java/util/RandomAccess"), (0, .class_ 70), (0, u "java/io/Serializable"), (0, u "serialVersionUID"), (0, u "J")] 77

def k26m0 : Method := { name := "<init>", desc := "()V", sig := { parameters := [], returnType := none }, accessFlags := 2, code := none }
/-- java/util/Collections$EmptyList -/
def k26 : Class := { plain "java/util/Collections$EmptyList" (some 24) with
  accessFlags := 32
  interfaces := #[25, 2]
  cf := some (fileOf pool26 65 #[.nestHost 8] #[{ accessFlags := 2, nameIndex := 5, descriptorIndex := 6, attributes := #[] }] 32 2 #[67, 69] #[{ accessFlags := 26, nameIndex := 71, descriptorIndex := 72, attributes := #[] }])
  fields := #[{ name := "serialVersionUID", type := .long, accessFlags := 26, slot := 0, constantValue := 0 }]
  methods := #[k26m0]
  instanceTypes := #[.int]
  staticTypes := #[.long]
  resolved := Array.replicate 150 none
  statics := none }

def pool27 : Array CpInfo := pool [(2, .class_ 4), (1, u "java/lang/StackTraceElement"), (0, u "<init>"), (2, .class_ 10), (1, u "java/lang/Object"), (0, u "()V"), (2, u "format"), (0, u "B"), (2, u "classLoaderName"), (0, u "Ljava/lang/String;"), (2, u "moduleName"), (2, u "moduleVersion"), (12, u "declaringClass"), (4, u "methodName"), (2, u "fileName"), (2, u "lineNumber"), (0, u "I"), (65, u "declaringClassObject"), (0, u "Ljava/lang/Class;"), (33, .class_ 153), (1, u "java/lang/StackTraceElement$HashedModules"), (17, .class_ 172), (0, u "java/io/Serializable"), (0, u "NATIVE_METHOD"), (1, u "UNKNOWN_SOURCE"), (2, u "BUILTIN_CLASS_LOADER"), (1, u "JDK_NON_UPGRADEABLE_MODULE"), (1, u "serialVersionUID"), (0, u "J")] 51

def k27m0 : Method := { name := "<init>", desc := "()V", sig := { parameters := [], returnType := none }, accessFlags := 2, code := none }
/-- java/lang/StackTraceElement -/
def k27 : Class := { plain "java/lang/StackTraceElement" (some 0) with
  accessFlags := 49
  interfaces := #[2]
  cf := some (fileOf pool27 2 #[.nestMembers #[151]] #[{ accessFlags := 2, nameIndex := 5, descriptorIndex := 11, attributes := #[] }] 49 8 #[171] #[{ accessFlags := 26, nameIndex := 173, descriptorIndex := 19, attributes := #[] }, { accessFlags := 26, nameIndex := 175, descriptorIndex := 19, attributes := #[] }, { accessFlags := 130, nameIndex := 116, descriptorIndex := 117, attributes := #[] }, { accessFlags := 2, nameIndex := 18, descriptorIndex := 19, attributes := #[] }, { accessFlags := 2, nameIndex := 22, descriptorIndex := 19, attributes := #[] }, { accessFlags := 2, nameIndex := 25, descriptorIndex := 19, attributes := #[] }, { accessFlags := 2, nameIndex := 38, descriptorIndex := 19, attributes := #[] }, { accessFlags := 2, nameIndex := 43, descriptorIndex := 19, attributes := #[] }, { accessFlags := 2, nameIndex := 46, descriptorIndex := 19, attributes := #[] }, { accessFlags := 2, nameIndex := 49, descriptorIndex := 50, attributes := #[] }, { accessFlags := 2, nameIndex := 14, descriptorIndex := 15, attributes := #[] }, { accessFlags := 26, nameIndex := 178, descriptorIndex := 15, attributes := #[] }, { accessFlags := 26, nameIndex := 180, descriptorIndex := 15, attributes := #[] }, { accessFlags := 26, nameIndex := 182, descriptorIndex := 183, attributes := #[] }])
  fields := #[{ name := "NATIVE_METHOD", type := (.object "java/lang/String"), accessFlags := 26, slot := 0, constantValue := 0 }, { name := "UNKNOWN_SOURCE", type := (.object "java/lang/String"), accessFlags := 26, slot := 1, constantValue := 0 }, { name := "declaringClassObject", type := (.object "java/lang/Class"), accessFlags := 130, slot := 0, constantValue := 0 }, { name := "classLoaderName", type := (.object "java/lang/String"), accessFlags := 2, slot := 1, constantValue := 0 }, { name := "moduleName", type := (.object "java/lang/String"), accessFlags := 2, slot := 2, constantValue := 0 }, { name := "moduleVersion", type := (.object "java/lang/String"), accessFlags := 2, slot := 3, constantValue := 0 }, { name := "declaringClass", type := (.object "java/lang/String"), accessFlags := 2, slot := 4, constantValue := 0 }, { name := "methodName", type := (.object "java/lang/String"), accessFlags := 2, slot := 5, constantValue := 0 }, { name := "fileName", type := (.object "java/lang/String"), accessFlags := 2, slot := 6, constantValue := 0 }, { name := "lineNumber", type := .int, accessFlags := 2, slot := 7, constantValue := 0 }, { name := "format", type := .byte, accessFlags := 2, slot := 8, constantValue := 0 }, { name := "BUILTIN_CLASS_LOADER", type := .byte, accessFlags := 26, slot := 2, constantValue := 0 }, { name := "JDK_NON_UPGRADEABLE_MODULE", type := .byte, accessFlags := 26, slot := 3, constantValue := 0 }, { name := "serialVersionUID", type := .long, accessFlags := 26, slot := 4, constantValue := 0 }]
  methods := #[k27m0]
  instanceTypes := #[(.object "java/lang/Class"), (.object "java/lang/String"), (.object "java/lang/String"), (.object "java/lang/String"), (.object "java/lang/String"), (.object "java/lang/String"), (.object "java/lang/String"), .int, .byte]
  staticTypes := #[(.object "java/lang/String"), (.object "java/lang/String"), .byte, .byte, .long]
  resolved := Array.replicate 235 none
  statics := none }

def pool28 : Array CpInfo := pool [(1, u "java/lang/Cloneable"), (0, .class_ 1), (0, u "java/lang/Object"), (0, .class_ 3)] 3

/-- java/lang/Cloneable -/
def k28 : Class := { plain "java/lang/Cloneable" (some 0) with
  accessFlags := 1537
  interfaces := #[]
  cf := some (fileOf pool28 2 #[] #[] 1537 4 #[] #[])
  fields := #[]
  methods := #[]
  instanceTypes := #[]
  staticTypes := #[]
  resolved := Array.replicate 8 none
  statics := none }

/-- the primitive byte -/
def k29 : Class := { plain "byte" none with kind := .primitive 'B', accessFlags := 0x411 }
/-- [B -/
def k30 : Class := { plain "[B" (some 0) with kind := .array 29 .byte, interfaces := #[28, 2], accessFlags := 1041 }

/-- the primitive char -/
def k31 : Class := { plain "char" none with kind := .primitive 'C', accessFlags := 0x411 }
/-- [C -/
def k32 : Class := { plain "[C" (some 0) with kind := .array 31 .char, interfaces := #[28, 2], accessFlags := 1041 }

/-- the primitive int -/
def k33 : Class := { plain "int" none with kind := .primitive 'I', accessFlags := 0x411 }
/-- [I -/
def k34 : Class := { plain "[I" (some 0) with kind := .array 33 .int, interfaces := #[28, 2], accessFlags := 1041 }

/-- [Ljava/lang/Object; -/
def k35 : Class := { plain "[Ljava/lang/Object;" (some 0) with kind := .array 0 (.object "java/lang/Object"), interfaces := #[28, 2], accessFlags := 1041 }

/-- [Ljava/lang/StackTraceElement; -/
def k36 : Class := { plain "[Ljava/lang/StackTraceElement;" (some 0) with kind := .array 27 (.object "java/lang/StackTraceElement"), interfaces := #[28, 2], accessFlags := 1041 }

/-- [Ljava/lang/Throwable; -/
def k37 : Class := { plain "[Ljava/lang/Throwable;" (some 0) with kind := .array 10 (.object "java/lang/Throwable"), interfaces := #[28, 2], accessFlags := 1041 }

def heap : Heap := #[{ cls := 7, slots := #[.long 0, .int 1, .null, .int 0, .null, .int 0, .int 0], vm := .statics 7 },
  { cls := 10, slots := #[.long 0, .ref 4, .ref 5, .null, .null, .null, .null, .ref 6, .int 1], vm := .statics 10 },
  { cls := 16, slots := #[.null, .null, .null], vm := .statics 16 },
  { cls := 18, slots := #[.int 0, .int 0, .int 0, .int 0, .int 0, .int 0, .int 0, .int 0, .null, .null, .ref 5, .null], vm := .statics 18 },
  { cls := 36, slots := #[], vm := .none },
  { cls := 26, slots := #[.int 0], vm := .none },
  { cls := 37, slots := #[], vm := .none }]
def classes : Array Class := #[k0, k1, k2, k3, k4, k5, k6, k7, k8, k9, k10, k11, k12, k13, k14, k15, k16, k17, k18, k19, k20, k21, k22, k23, k24, k25, k26, k27, k28, k29, k30, k31, k32, k33, k34, k35, k36, k37]
def interned : List (Array UInt16 × Addr) := []
def slotsUsed : Nat := 32
def theMethod : MethodId := ⟨1, 1⟩
def args0 : Array Value := #[.long 5, .int 1, .int 2, .int 3, .int 0]
def aboutOver (below : List Frame) : State where
  vm := { classes := classes, interned := interned.toArray }
  heap := heap
  slotsUsed := slotsUsed
  threads := #[{ frames := .invoking theMethod args0 :: below }]
def below0 : List Frame := [.native { method := ⟨0, 0⟩, args := #[] }]
def about1 : State := aboutOver below0
def p0 : Program := .bare "" "" ""
def e0 : Env := launch0.env 0 0 0
theorem w_frames : about1.frames = Frame.invoking theMethod args0 :: below0 := rfl
set_option maxRecDepth 65536 in
theorem w_args : argsFit about1.vm theMethod args0 = true := by decide +kernel
set_option maxRecDepth 65536 in
theorem w_heap : heapFits about1 = true := by decide +kernel
set_option maxRecDepth 65536 in
theorem w_runnable : about1.curStatus? = some .runnable := by decide +kernel
set_option maxRecDepth 65536 in
theorem w_alone : about1.alone = true := by decide +kernel
set_option maxRecDepth 65536 in
theorem w_named : about1.methodNamed? x = some theMethod := by decide +kernel
set_option maxRecDepth 65536 in
theorem w_hears : about1.hears theMethod below0 = true := by decide +kernel
set_option maxRecDepth 65536 in
theorem w_ripe : about1.ripe theMethod args0 below0 = true := by decide +kernel
theorem w_running : about1.status = .running := rfl
set_option maxRecDepth 65536 in
theorem w_room : about1.hasRoom e0.platform room_1 = true :=
  launch0.hasRoom_least _ room_1 (by decide +kernel) (by decide +kernel) (by decide +kernel) (by decide +kernel) (by decide +kernel) (by decide +kernel)
theorem allAtoms_all (ts : List Jvm.Cond) (a : Array Jvm.Value) (st : Jvm.State) : (allAtoms ts).before a st = ts.all (fun c => c.before a st) := by
  induction ts with
  | nil => rfl
  | cons c t ih =>
    show (Jvm.Cond.and c (allAtoms t)).before a st = _
    rw [Jvm.Cond.before_and, ih, List.all_cons]
def words1 : List Jvm.Cond := Jvm.Cond.code x code maxLocals ret :: tables_1
/-- a 'code' word, met by the world's own term for the bytes: nothing is compared byte by byte -/
theorem code_word {y : MethodName} {bytes : ByteArray} {mx : Nat} {rt : Option FieldType} {a : Array Value} {s : State} {m : MethodId} {meth : Method} {c : Code} (h1 : s.methodNamed? y = some m) (h2 : s.vm.method? m = some meth) (h3 : meth.code = some c) (h4 : c.code = bytes)
    (h5 : (c.maxLocals == mx && c.exceptionTable.isEmpty && decide (c.maxStack ≤ mostOperands) && decide (meth.sig.returnType = rt) && !meth.locks && decide (parseMethodDescriptor y.desc = some meth.sig)) = true) : (Jvm.Cond.code y bytes mx rt).before a s = true := by
  simp only [Bool.and_eq_true, beq_iff_eq, Bool.not_eq_true', decide_eq_true_eq] at h5
  obtain ⟨⟨⟨⟨⟨g1, g2⟩, g3⟩, g4⟩, g5⟩, g6⟩ := h5
  simp [Cond.before, Cond.holds, Cond.value, h1, h2, h3, h4, g1, g2, g3, g4, g5, g6]
def isCode : Jvm.Cond → Bool
  | .code _ _ _ _ => true
  | _ => false
theorem all_split {L : List Jvm.Cond} {P : Jvm.Cond → Bool} (h1 : L.all (fun c => isCode c || P c) = true) (h2 : ∀ c ∈ L.filter isCode, P c = true) : L.all P = true := by
  refine List.all_eq_true.mpr fun c hc => ?_
  have h := List.all_eq_true.mp h1 c hc
  rcases Bool.eq_false_or_eq_true (isCode c) with hi | hi
  · exact h2 c (List.mem_filter.mpr ⟨hc, hi⟩)
  · simpa [hi] using h
set_option maxRecDepth 65536 in
theorem w_c0 : (Jvm.Cond.code x code maxLocals ret).before args0 about1 = true := code_word (m := ⟨1, 1⟩) (meth := k1m1) (c := k1c1) (by decide +kernel) rfl rfl rfl (by decide +kernel)
set_option maxRecDepth 65536 in
theorem w_c1 : (Jvm.Cond.code ({ cls := "java/lang/String", name := "<init>", desc := "([C)V" } : Jvm.MethodName) jdk_42_method_3_code (2 : Nat) (Option.none : Option Jvm.ClassFile.FieldType)).before args0 about1 = true := code_word (m := ⟨7, 1⟩) (meth := k7m1) (c := k7c1) (by decide +kernel) rfl rfl rfl (by decide +kernel)
set_option maxRecDepth 65536 in
theorem w_c2 : (Jvm.Cond.code ({ cls := "java/lang/String", name := "<init>", desc := "([CIILjava/lang/Void;)V" } : Jvm.MethodName) jdk_42_method_149_code (6 : Nat) (Option.none : Option Jvm.ClassFile.FieldType)).before args0 about1 = true := code_word (m := ⟨7, 5⟩) (meth := k7m5) (c := k7c5) (by decide +kernel) rfl rfl rfl (by decide +kernel)
set_option maxRecDepth 65536 in
theorem w_c3 : (Jvm.Cond.code ({ cls := "java/lang/Object", name := "<init>", desc := "()V" } : Jvm.MethodName) object_method_1_code (1 : Nat) (Option.none : Option Jvm.ClassFile.FieldType)).before args0 about1 = true := code_word (m := ⟨0, 0⟩) (meth := k0m0) (c := k0c0) (by decide +kernel) rfl rfl rfl (by decide +kernel)
set_option maxRecDepth 65536 in
theorem w_c4 : (Jvm.Cond.code ({ cls := "java/lang/StringUTF16", name := "compress", desc := "([CII)[B" } : Jvm.MethodName) jdk_52_method_16_code (6 : Nat) (Option.some (Jvm.ClassFile.FieldType.array Jvm.ClassFile.FieldType.byte))).before args0 about1 = true := code_word (m := ⟨8, 2⟩) (meth := k8m2) (c := k8c2) (by decide +kernel) rfl rfl rfl (by decide +kernel)
set_option maxRecDepth 65536 in
theorem w_c5 : (Jvm.Cond.code ({ cls := "java/lang/StringUTF16", name := "compress", desc := "([CI[BII)I" } : Jvm.MethodName) jdk_52_method_21_code (7 : Nat) (Option.some Jvm.ClassFile.FieldType.int)).before args0 about1 = true := code_word (m := ⟨8, 3⟩) (meth := k8m3) (c := k8c3) (by decide +kernel) rfl rfl rfl (by decide +kernel)
set_option maxRecDepth 65536 in
theorem w_c6 : (Jvm.Cond.code ({ cls := "java/lang/StringUTF16", name := "coderFromArrayLen", desc := "([BI)B" } : Jvm.MethodName) jdk_52_method_15_code (2 : Nat) (Option.some Jvm.ClassFile.FieldType.byte)).before args0 about1 = true := code_word (m := ⟨8, 1⟩) (meth := k8m1) (c := k8c1) (by decide +kernel) rfl rfl rfl (by decide +kernel)
set_option maxRecDepth 65536 in
theorem w_c7 : (Jvm.Cond.code ({ cls := "java/lang/String", name := "valueOf", desc := "(C)Ljava/lang/String;" } : Jvm.MethodName) jdk_42_method_139_code (1 : Nat) (Option.some (Jvm.ClassFile.FieldType.object "java/lang/String"))).before args0 about1 = true := code_word (m := ⟨7, 4⟩) (meth := k7m4) (c := k7c4) (by decide +kernel) rfl rfl rfl (by decide +kernel)
set_option maxRecDepth 65536 in
theorem w_c8 : (Jvm.Cond.code ({ cls := "java/lang/StringLatin1", name := "canEncode", desc := "(C)Z" } : Jvm.MethodName) jdk_43_method_3_code (1 : Nat) (Option.some Jvm.ClassFile.FieldType.boolean)).before args0 about1 = true := code_word (m := ⟨9, 1⟩) (meth := k9m1) (c := k9c1) (by decide +kernel) rfl rfl rfl (by decide +kernel)
set_option maxRecDepth 65536 in
theorem w_c9 : (Jvm.Cond.code ({ cls := "java/lang/StringLatin1", name := "toBytes", desc := "(C)[B" } : Jvm.MethodName) jdk_43_method_46_code (1 : Nat) (Option.some (Jvm.ClassFile.FieldType.array Jvm.ClassFile.FieldType.byte))).before args0 about1 = true := code_word (m := ⟨9, 2⟩) (meth := k9m2) (c := k9c2) (by decide +kernel) rfl rfl rfl (by decide +kernel)
set_option maxRecDepth 65536 in
theorem w_c10 : (Jvm.Cond.code ({ cls := "java/lang/String", name := "<init>", desc := "([BB)V" } : Jvm.MethodName) jdk_42_method_151_code (3 : Nat) (Option.none : Option Jvm.ClassFile.FieldType)).before args0 about1 = true := code_word (m := ⟨7, 6⟩) (meth := k7m6) (c := k7c6) (by decide +kernel) rfl rfl rfl (by decide +kernel)
set_option maxRecDepth 65536 in
theorem w_c11 : (Jvm.Cond.code ({ cls := "com/example/tallymark/tallymark/FileFormatException", name := "<init>", desc := "(JLjava/lang/String;Ljava/lang/String;)V" } : Jvm.MethodName) prog_7_method_1_code (5 : Nat) (Option.none : Option Jvm.ClassFile.FieldType)).before args0 about1 = true := code_word (m := ⟨13, 0⟩) (meth := k13m0) (c := k13c0) (by decide +kernel) rfl rfl rfl (by decide +kernel)
set_option maxRecDepth 65536 in
theorem w_c12 : (Jvm.Cond.code ({ cls := "java/io/IOException", name := "<init>", desc := "(Ljava/lang/String;)V" } : Jvm.MethodName) jdk_131_method_2_code (2 : Nat) (Option.none : Option Jvm.ClassFile.FieldType)).before args0 about1 = true := code_word (m := ⟨12, 1⟩) (meth := k12m1) (c := k12c1) (by decide +kernel) rfl rfl rfl (by decide +kernel)
set_option maxRecDepth 65536 in
theorem w_c13 : (Jvm.Cond.code ({ cls := "java/lang/Exception", name := "<init>", desc := "(Ljava/lang/String;)V" } : Jvm.MethodName) jdk_59_method_2_code (2 : Nat) (Option.none : Option Jvm.ClassFile.FieldType)).before args0 about1 = true := code_word (m := ⟨11, 1⟩) (meth := k11m1) (c := k11c1) (by decide +kernel) rfl rfl rfl (by decide +kernel)
set_option maxRecDepth 65536 in
theorem w_c14 : (Jvm.Cond.code ({ cls := "java/lang/Throwable", name := "<init>", desc := "(Ljava/lang/String;)V" } : Jvm.MethodName) jdk_78_method_2_code (2 : Nat) (Option.none : Option Jvm.ClassFile.FieldType)).before args0 about1 = true := code_word (m := ⟨10, 1⟩) (meth := k10m1) (c := k10c1) (by decide +kernel) rfl rfl rfl (by decide +kernel)
set_option maxRecDepth 65536 in
theorem w_c15 : (Jvm.Cond.code ({ cls := "java/lang/Throwable", name := "<init>", desc := "()V" } : Jvm.MethodName) jdk_78_method_1_code (1 : Nat) (Option.none : Option Jvm.ClassFile.FieldType)).before args0 about1 = true := code_word (m := ⟨10, 0⟩) (meth := k10m0) (c := k10c0) (by decide +kernel) rfl rfl rfl (by decide +kernel)
set_option maxRecDepth 65536 in
theorem w_c16 : (Jvm.Cond.code ({ cls := "com/example/tallymark/tallymark/FileFormatException", name := "fault", desc := "(Ljava/lang/String;)Lcom/example/tallymark/tallymark/Fault;" } : Jvm.MethodName) prog_7_method_3_code (2 : Nat) (Option.some (Jvm.ClassFile.FieldType.object "com/example/tallymark/tallymark/Fault"))).before args0 about1 = true := code_word (m := ⟨13, 1⟩) (meth := k13m1) (c := k13c1) (by decide +kernel) rfl rfl rfl (by decide +kernel)
set_option maxRecDepth 65536 in
theorem w_c17 : (Jvm.Cond.code ({ cls := "java/lang/Throwable", name := "getMessage", desc := "()Ljava/lang/String;" } : Jvm.MethodName) jdk_78_method_6_code (1 : Nat) (Option.some (Jvm.ClassFile.FieldType.object "java/lang/String"))).before args0 about1 = true := code_word (m := ⟨10, 2⟩) (meth := k10m2) (c := k10c2) (by decide +kernel) rfl rfl rfl (by decide +kernel)
set_option maxRecDepth 65536 in
theorem w_c18 : (Jvm.Cond.code ({ cls := "com/example/tallymark/tallymark/Fault", name := "<init>", desc := "(Ljava/lang/String;JLjava/lang/String;Ljava/lang/String;)V" } : Jvm.MethodName) prog_5_method_1_code (6 : Nat) (Option.none : Option Jvm.ClassFile.FieldType)).before args0 about1 = true := code_word (m := ⟨15, 0⟩) (meth := k15m0) (c := k15c0) (by decide +kernel) rfl rfl rfl (by decide +kernel)
set_option maxRecDepth 65536 in
theorem w_c19 : (Jvm.Cond.code ({ cls := "java/lang/Record", name := "<init>", desc := "()V" } : Jvm.MethodName) jdk_30_method_1_code (1 : Nat) (Option.none : Option Jvm.ClassFile.FieldType)).before args0 about1 = true := code_word (m := ⟨14, 0⟩) (meth := k14m0) (c := k14c0) (by decide +kernel) rfl rfl rfl (by decide +kernel)
set_option maxRecDepth 65536 in
theorem w_c20 : (Jvm.Cond.code ({ cls := "java/lang/String", name := "isEmpty", desc := "()Z" } : Jvm.MethodName) jdk_42_method_55_code (1 : Nat) (Option.some Jvm.ClassFile.FieldType.boolean)).before args0 about1 = true := code_word (m := ⟨7, 2⟩) (meth := k7m2) (c := k7c2) (by decide +kernel) rfl rfl rfl (by decide +kernel)
set_option maxRecDepth 65536 in
theorem w_c21 : (Jvm.Cond.code ({ cls := "com/example/tallymark/tallymark/Fault", name := "file", desc := "()Ljava/lang/String;" } : Jvm.MethodName) prog_5_method_6_code (1 : Nat) (Option.some (Jvm.ClassFile.FieldType.object "java/lang/String"))).before args0 about1 = true := code_word (m := ⟨15, 1⟩) (meth := k15m1) (c := k15c1) (by decide +kernel) rfl rfl rfl (by decide +kernel)
set_option maxRecDepth 65536 in
theorem w_c22 : (Jvm.Cond.code ({ cls := "com/example/tallymark/tallymark/FileFormatExceptionFaultPinLaw", name := "eq", desc := "(Ljava/lang/String;Ljava/lang/String;)Z" } : Jvm.MethodName) method_3_code (2 : Nat) (Option.some Jvm.ClassFile.FieldType.boolean)).before args0 about1 = true := code_word (m := ⟨1, 2⟩) (meth := k1m2) (c := k1c2) (by decide +kernel) rfl rfl rfl (by decide +kernel)
set_option maxRecDepth 65536 in
theorem w_c23 : (Jvm.Cond.code ({ cls := "java/lang/String", name := "equals", desc := "(Ljava/lang/Object;)Z" } : Jvm.MethodName) jdk_42_method_66_code (3 : Nat) (Option.some Jvm.ClassFile.FieldType.boolean)).before args0 about1 = true := code_word (m := ⟨7, 3⟩) (meth := k7m3) (c := k7c3) (by decide +kernel) rfl rfl rfl (by decide +kernel)
set_option maxRecDepth 65536 in
theorem w_c24 : (Jvm.Cond.code ({ cls := "com/example/tallymark/tallymark/Fault", name := "line", desc := "()J" } : Jvm.MethodName) prog_5_method_7_code (1 : Nat) (Option.some Jvm.ClassFile.FieldType.long)).before args0 about1 = true := code_word (m := ⟨15, 2⟩) (meth := k15m2) (c := k15c2) (by decide +kernel) rfl rfl rfl (by decide +kernel)
set_option maxRecDepth 65536 in
theorem w_c25 : (Jvm.Cond.code ({ cls := "com/example/tallymark/tallymark/Fault", name := "key", desc := "()Ljava/lang/String;" } : Jvm.MethodName) prog_5_method_8_code (1 : Nat) (Option.some (Jvm.ClassFile.FieldType.object "java/lang/String"))).before args0 about1 = true := code_word (m := ⟨15, 3⟩) (meth := k15m3) (c := k15c3) (by decide +kernel) rfl rfl rfl (by decide +kernel)
set_option maxRecDepth 65536 in
theorem w_c26 : (Jvm.Cond.code ({ cls := "com/example/tallymark/tallymark/Fault", name := "message", desc := "()Ljava/lang/String;" } : Jvm.MethodName) prog_5_method_9_code (1 : Nat) (Option.some (Jvm.ClassFile.FieldType.object "java/lang/String"))).before args0 about1 = true := code_word (m := ⟨15, 4⟩) (meth := k15m4) (c := k15c4) (by decide +kernel) rfl rfl rfl (by decide +kernel)
def codes1 : List Jvm.Cond := [Jvm.Cond.code x code maxLocals ret, Jvm.Cond.code ({ cls := "java/lang/String", name := "<init>", desc := "([C)V" } : Jvm.MethodName) jdk_42_method_3_code (2 : Nat) (Option.none : Option Jvm.ClassFile.FieldType), Jvm.Cond.code ({ cls := "java/lang/String", name := "<init>", desc := "([CIILjava/lang/Void;)V" } : Jvm.MethodName) jdk_42_method_149_code (6 : Nat) (Option.none : Option Jvm.ClassFile.FieldType), Jvm.Cond.code ({ cls := "java/lang/Object", name := "<init>", desc := "()V" } : Jvm.MethodName) object_method_1_code (1 : Nat) (Option.none : Option Jvm.ClassFile.FieldType), Jvm.Cond.code ({ cls := "java/lang/StringUTF16", name := "compress", desc := "([CII)[B" } : Jvm.MethodName) jdk_52_method_16_code (6 : Nat) (Option.some (Jvm.ClassFile.FieldType.array Jvm.ClassFile.FieldType.byte)), Jvm.Cond.code ({ cls := "java/lang/StringUTF16", name := "compress", desc := "([CI[BII)I" } : Jvm.MethodName) jdk_52_method_21_code (7 : Nat) (Option.some Jvm.ClassFile.FieldType.int), Jvm.Cond.code ({ cls := "java/lang/StringUTF16", name := "coderFromArrayLen", desc := "([BI)B" } : Jvm.MethodName) jdk_52_method_15_code (2 : Nat) (Option.some Jvm.ClassFile.FieldType.byte), Jvm.Cond.code ({ cls := "java/lang/String", name := "valueOf", desc := "(C)Ljava/lang/String;" } : Jvm.MethodName) jdk_42_method_139_code (1 : Nat) (Option.some (Jvm.ClassFile.FieldType.object "java/lang/String")), Jvm.Cond.code ({ cls := "java/lang/StringLatin1", name := "canEncode", desc := "(C)Z" } : Jvm.MethodName) jdk_43_method_3_code (1 : Nat) (Option.some Jvm.ClassFile.FieldType.boolean), Jvm.Cond.code ({ cls := "java/lang/StringLatin1", name := "toBytes", desc := "(C)[B" } : Jvm.MethodName) jdk_43_method_46_code (1 : Nat) (Option.some (Jvm.ClassFile.FieldType.array Jvm.ClassFile.FieldType.byte)), Jvm.Cond.code ({ cls := "java/lang/String", name := "<init>", desc := "([BB)V" } : Jvm.MethodName) jdk_42_method_151_code (3 : Nat) (Option.none : Option Jvm.ClassFile.FieldType), Jvm.Cond.code ({ cls := "com/example/tallymark/tallymark/FileFormatException", name := "<init>", desc := "(JLjava/lang/String;Ljava/lang/String;)V" } : Jvm.MethodName) prog_7_method_1_code (5 : Nat) (Option.none : Option Jvm.ClassFile.FieldType), Jvm.Cond.code ({ cls := "java/io/IOException", name := "<init>", desc := "(Ljava/lang/String;)V" } : Jvm.MethodName) jdk_131_method_2_code (2 : Nat) (Option.none : Option Jvm.ClassFile.FieldType), Jvm.Cond.code ({ cls := "java/lang/Exception", name := "<init>", desc := "(Ljava/lang/String;)V" } : Jvm.MethodName) jdk_59_method_2_code (2 : Nat) (Option.none : Option Jvm.ClassFile.FieldType), Jvm.Cond.code ({ cls := "java/lang/Throwable", name := "<init>", desc := "(Ljava/lang/String;)V" } : Jvm.MethodName) jdk_78_method_2_code (2 : Nat) (Option.none : Option Jvm.ClassFile.FieldType), Jvm.Cond.code ({ cls := "java/lang/Throwable", name := "<init>", desc := "()V" } : Jvm.MethodName) jdk_78_method_1_code (1 : Nat) (Option.none : Option Jvm.ClassFile.FieldType), Jvm.Cond.code ({ cls := "com/example/tallymark/tallymark/FileFormatException", name := "fault", desc := "(Ljava/lang/String;)Lcom/example/tallymark/tallymark/Fault;" } : Jvm.MethodName) prog_7_method_3_code (2 : Nat) (Option.some (Jvm.ClassFile.FieldType.object "com/example/tallymark/tallymark/Fault")), Jvm.Cond.code ({ cls := "java/lang/Throwable", name := "getMessage", desc := "()Ljava/lang/String;" } : Jvm.MethodName) jdk_78_method_6_code (1 : Nat) (Option.some (Jvm.ClassFile.FieldType.object "java/lang/String")), Jvm.Cond.code ({ cls := "com/example/tallymark/tallymark/Fault", name := "<init>", desc := "(Ljava/lang/String;JLjava/lang/String;Ljava/lang/String;)V" } : Jvm.MethodName) prog_5_method_1_code (6 : Nat) (Option.none : Option Jvm.ClassFile.FieldType), Jvm.Cond.code ({ cls := "java/lang/Record", name := "<init>", desc := "()V" } : Jvm.MethodName) jdk_30_method_1_code (1 : Nat) (Option.none : Option Jvm.ClassFile.FieldType), Jvm.Cond.code ({ cls := "java/lang/String", name := "isEmpty", desc := "()Z" } : Jvm.MethodName) jdk_42_method_55_code (1 : Nat) (Option.some Jvm.ClassFile.FieldType.boolean), Jvm.Cond.code ({ cls := "com/example/tallymark/tallymark/Fault", name := "file", desc := "()Ljava/lang/String;" } : Jvm.MethodName) prog_5_method_6_code (1 : Nat) (Option.some (Jvm.ClassFile.FieldType.object "java/lang/String")), Jvm.Cond.code ({ cls := "com/example/tallymark/tallymark/FileFormatExceptionFaultPinLaw", name := "eq", desc := "(Ljava/lang/String;Ljava/lang/String;)Z" } : Jvm.MethodName) method_3_code (2 : Nat) (Option.some Jvm.ClassFile.FieldType.boolean), Jvm.Cond.code ({ cls := "java/lang/String", name := "equals", desc := "(Ljava/lang/Object;)Z" } : Jvm.MethodName) jdk_42_method_66_code (3 : Nat) (Option.some Jvm.ClassFile.FieldType.boolean), Jvm.Cond.code ({ cls := "com/example/tallymark/tallymark/Fault", name := "line", desc := "()J" } : Jvm.MethodName) prog_5_method_7_code (1 : Nat) (Option.some Jvm.ClassFile.FieldType.long), Jvm.Cond.code ({ cls := "com/example/tallymark/tallymark/Fault", name := "key", desc := "()Ljava/lang/String;" } : Jvm.MethodName) prog_5_method_8_code (1 : Nat) (Option.some (Jvm.ClassFile.FieldType.object "java/lang/String")), Jvm.Cond.code ({ cls := "com/example/tallymark/tallymark/Fault", name := "message", desc := "()Ljava/lang/String;" } : Jvm.MethodName) prog_5_method_9_code (1 : Nat) (Option.some (Jvm.ClassFile.FieldType.object "java/lang/String"))]
set_option maxRecDepth 65536 in
theorem codes_eq : words1.filter isCode = codes1 := rfl
theorem w_codes : ∀ c ∈ words1.filter isCode, c.before args0 about1 = true := by
  rw [codes_eq]
  intro c hc
  simp only [codes1, List.mem_cons, List.not_mem_nil, or_false] at hc
  rcases hc with rfl | rfl | rfl | rfl | rfl | rfl | rfl | rfl | rfl | rfl | rfl | rfl | rfl | rfl | rfl | rfl | rfl | rfl | rfl | rfl | rfl | rfl | rfl | rfl | rfl | rfl | rfl
  · exact w_c0
  · exact w_c1
  · exact w_c2
  · exact w_c3
  · exact w_c4
  · exact w_c5
  · exact w_c6
  · exact w_c7
  · exact w_c8
  · exact w_c9
  · exact w_c10
  · exact w_c11
  · exact w_c12
  · exact w_c13
  · exact w_c14
  · exact w_c15
  · exact w_c16
  · exact w_c17
  · exact w_c18
  · exact w_c19
  · exact w_c20
  · exact w_c21
  · exact w_c22
  · exact w_c23
  · exact w_c24
  · exact w_c25
  · exact w_c26
set_option maxRecDepth 65536 in
theorem w_t1 : (words1.take 24).all (fun c => isCode c || c.before args0 about1) = true := by decide +kernel
set_option maxRecDepth 65536 in
theorem w_t2 : ((words1.drop 24).take 24).all (fun c => isCode c || c.before args0 about1) = true := by decide +kernel
set_option maxRecDepth 65536 in
theorem w_t3 : (((words1.drop 24).drop 24).take 24).all (fun c => isCode c || c.before args0 about1) = true := by decide +kernel
set_option maxRecDepth 65536 in
theorem w_t4 : ((((words1.drop 24).drop 24).drop 24).take 24).all (fun c => isCode c || c.before args0 about1) = true := by decide +kernel
set_option maxRecDepth 65536 in
theorem w_t5 : (((((words1.drop 24).drop 24).drop 24).drop 24).take 24).all (fun c => isCode c || c.before args0 about1) = true := by decide +kernel
set_option maxRecDepth 65536 in
theorem w_t6 : ((((((words1.drop 24).drop 24).drop 24).drop 24).drop 24).take 24).all (fun c => isCode c || c.before args0 about1) = true := by decide +kernel
set_option maxRecDepth 65536 in
theorem w_t7 : (((((((words1.drop 24).drop 24).drop 24).drop 24).drop 24).drop 24).take 24).all (fun c => isCode c || c.before args0 about1) = true := by decide +kernel
set_option maxRecDepth 65536 in
theorem w_t8 : (((((((words1.drop 24).drop 24).drop 24).drop 24).drop 24).drop 24).drop 24).all (fun c => isCode c || c.before args0 about1) = true := by decide +kernel
theorem w_tables : (allAtoms (Jvm.Cond.code x code maxLocals ret :: tables_1)).before args0 about1 = true := by
  rw [allAtoms_all]
  show words1.all (fun c => c.before args0 about1) = true
  refine all_split ?_ w_codes
  rw [← List.take_append_drop 24 words1, List.all_append, w_t1, ← List.take_append_drop 24 (words1.drop 24), List.all_append, w_t2, ← List.take_append_drop 24 ((words1.drop 24).drop 24), List.all_append, w_t3, ← List.take_append_drop 24 (((words1.drop 24).drop 24).drop 24), List.all_append, w_t4, ← List.take_append_drop 24 ((((words1.drop 24).drop 24).drop 24).drop 24), List.all_append, w_t5, ← List.take_append_drop 24 (((((words1.drop 24).drop 24).drop 24).drop 24).drop 24), List.all_append, w_t6, ← List.take_append_drop 24 ((((((words1.drop 24).drop 24).drop 24).drop 24).drop 24).drop 24), List.all_append, w_t7, w_t8]
  rfl
set_option maxRecDepth 65536 in
theorem w_rest : rest_1_c.before args0 about1 = true := by decide +kernel
set_option maxRecDepth 65536 in
theorem w_case : (Jvm.Cond.and given_1 narrow_1).before args0 about1 = true := by decide +kernel
theorem w_applies : (headSpec (Jvm.Cond.code x code maxLocals ret :: tables_1) room_1).applies x e0.platform about1 = true :=
  (Spec.applies_iff w_frames).mpr ⟨w_running, w_runnable, w_alone, w_named, w_hears, w_ripe, w_room, w_tables⟩
theorem atStart : AtStart classFile x code maxLocals ret World_1 tables_1 room_1 Calls_1 rest_1 Pre_1 launch0 p0 e0 about1 theMethod args0 below0 :=
  ⟨lists_1, trivial, launch0.admits_env _ _ _, launch0.least_env, fairChoices_fair.cas, fairChoices_fair.clock, w_frames, w_args, w_heap, w_applies, ⟨(by decide +kernel : framesKnown about1 = true), ⟨(by decide +kernel : tablesKnown about1 = true), trivial⟩⟩, w_rest, w_case⟩
end start1
theorem witness_1 : WitnessClaimed_1 := ⟨start1.p0, start1.e0, start1.about1, start1.theMethod, start1.args0, start1.below0, start1.atStart⟩
end Jvm.Pilot.@@N@@
