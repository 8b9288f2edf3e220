import JvmDerived
import JvmDerived.Pilot.@@N@@Statement
import JvmDerived.Pilot.@@N@@Code
set_option linter.unusedVariables false
set_option linter.unusedSimpArgs false
@@BLOCK:TracedD.lean.txt@@
namespace Jvm.Pilot.@@N@@
open Jvm Jvm.ClassFile Sem Op Lib Jvm.Free Jvm.Stand Jvm.LawKit Jvm.RoadKit Bundle Jvm.Pilot.@@N@@.Jvm.D

/-! own_K: where a walk stands, with all that its steps ask; own_Ct: a body's contract. -/
section Own
def own_Cl (p : Program) (e : Env) (below : List Frame) (G : State → Prop) : Prop := ∀ S S', (∀ t, Steps p.tables e below S' t → Steps p.tables e below S t) → G S' → G S
def own_Out (p : Program) (e : Env) (m : MethodId) (below : List Frame) (T : State) (v : Option Value) (S : State) : Prop := ∀ fs : List Frame, (∀ (f : JFrame) (acts : List Action), f.method = m → f.locked = none → f.entered = [] → (doReturn e (T.setTop f) acts v).1 = T.setFrames fs) → Steps p.tables e below S (T.setFrames fs)
def own_Fin (p : Program) (l : Launch) (e : Env) (R : Room) (s : State) (m : MethodId) (args : Array Value) (below : List Frame) (meth : Method) (c : Code) (Q : Option Value → Heap → Prop) (G : State → Prop) (Z : State) : Prop :=
  ∀ (T : State) (L : List Loc) (k n : Nat) (v : Option Value) (S : State), Stand p l e R s m args below meth c T L k n → Fr Z.heap.size L → Ext Z.heap T.heap → k ≤ R.cells → n ≤ R.slots → (meth.sig.returnType = none → v = none) → Q v T.heap → own_Out p e m below T v S → G S
def own_K (p : Program) (l : Launch) (e : Env) (R : Room) (s : State) (m : MethodId) (args : Array Value) (below : List Frame) (meth : Method) (c : Code) (bytes : ByteArray) (own nm : String) (mx : Nat) (ret : Option FieldType) (Q : Option Value → Heap → Prop) (G : State → Prop) (Z T : State) (L : List Loc) (k n : Nat) (h : Heap) : Prop :=
  Stand p l e R s m args below meth c T L k n ∧ p.tables.exec = Jvm.exec ∧ c.code = bytes ∧ c.maxLocals = mx ∧ s.vm.findClass own = some m.cls ∧ meth.name = nm ∧ meth.sig.returnType = ret ∧ Z.Warmed39 s.vm ∧ T.heap = h ∧ Fr Z.heap.size L ∧ Ext Z.heap h ∧ own_Cl p e below G ∧ own_Fin p l e R s m args below meth c Q G Z
def own_Ct (l : Launch) (Z : State) (y : MethodName) (bytes : ByteArray) (mx : Nat) (ret : Option FieldType) (ws : List Jvm.Cond) (rm : Room) (as' : Array Value) (h0 : Heap) (Q : Option Value → Heap → Prop) : Prop :=
  MetFree l y (head1 (Jvm.Cond.code y bytes mx ret :: ws) rm) (fun a U => a = as' ∧ Z.Warmed39 U.vm ∧ U.heap = h0) (fun _ _ _ _ _ => True) (fun _ U o U' => ∃ v L, o = .returned v ∧ (Fr Z.heap.size L ∧ Ext Z.heap U'.heap ∧ Q v U'.heap) ∧ FrameEnd U o U' L rm.cells rm.slots)
def own_CtK (l : Launch) (Z : State) (y : MethodName) (bytes : ByteArray) (mx : Nat) (ret : Option FieldType) (ws : List Jvm.Cond) (rm : Room) (as' : Array Value) (h0 : Heap) (Q : Option Value → Heap → Prop) : Prop :=
  MetFree l y (head1 (Jvm.Cond.code y bytes mx ret :: ws) rm) (fun a U => a = as' ∧ Z.Warmed39 U.vm ∧ U.heap = h0) (fun _ _ bl s _ => s.vm.MethodsKnown ∧ s.vm.FramesKnown bl) (fun _ U o U' => ∃ v L, o = .returned v ∧ (Fr Z.heap.size L ∧ Ext Z.heap U'.heap ∧ Q v U'.heap) ∧ FrameEnd U o U' L rm.cells rm.slots)
variable {p : Program} {l : Launch} {e : Env} {R : Room} {s : State} {m : MethodId} {args : Array Value} {below : List Frame} {meth : Method} {c : Code} {bytes : ByteArray} {own nm : String} {mx : Nat} {ret : Option FieldType} {Q : Option Value → Heap → Prop} {G : State → Prop} {Z T T' : State} {L L' : List Loc} {k n k' n' : Nat} {h h' h1 h2 : Heap} {a0 : Array Value} {pc pc' : Nat} {Ls Ls' : Array Slot} {st rest : List Value}
theorem own_K.X (K : own_K p l e R s m args below meth c bytes own nm mx ret Q G Z T L k n h) : Stand p l e R s m args below meth c T L k n := K.1
theorem own_K.here (K : own_K p l e R s m args below meth c bytes own nm mx ret Q G Z T L k n h) : At T m c below := K.1.here
theorem own_K.hx (K : own_K p l e R s m args below meth c bytes own nm mx ret Q G Z T L k n h) : p.tables.exec = Jvm.exec := K.2.1
theorem own_K.hby (K : own_K p l e R s m args below meth c bytes own nm mx ret Q G Z T L k n h) : c.code = bytes := K.2.2.1
theorem own_K.hml (K : own_K p l e R s m args below meth c bytes own nm mx ret Q G Z T L k n h) : c.maxLocals = mx := K.2.2.2.1
theorem own_K.hown (K : own_K p l e R s m args below meth c bytes own nm mx ret Q G Z T L k n h) : s.vm.findClass own = some m.cls := K.2.2.2.2.1
theorem own_K.hnm (K : own_K p l e R s m args below meth c bytes own nm mx ret Q G Z T L k n h) : meth.name = nm := K.2.2.2.2.2.1
theorem own_K.hret (K : own_K p l e R s m args below meth c bytes own nm mx ret Q G Z T L k n h) : meth.sig.returnType = ret := K.2.2.2.2.2.2.1
theorem own_K.hZ (K : own_K p l e R s m args below meth c bytes own nm mx ret Q G Z T L k n h) : Z.Warmed39 s.vm := K.2.2.2.2.2.2.2.1
theorem own_K.eh (K : own_K p l e R s m args below meth c bytes own nm mx ret Q G Z T L k n h) : T.heap = h := K.2.2.2.2.2.2.2.2.1
theorem own_K.fr (K : own_K p l e R s m args below meth c bytes own nm mx ret Q G Z T L k n h) : Fr Z.heap.size L := K.2.2.2.2.2.2.2.2.2.1
theorem own_K.O (K : own_K p l e R s m args below meth c bytes own nm mx ret Q G Z T L k n h) : Ext Z.heap h := K.2.2.2.2.2.2.2.2.2.2.1
theorem own_K.cl (K : own_K p l e R s m args below meth c bytes own nm mx ret Q G Z T L k n h) : own_Cl p e below G := K.2.2.2.2.2.2.2.2.2.2.2.1
theorem own_K.fin (K : own_K p l e R s m args below meth c bytes own nm mx ret Q G Z T L k n h) : own_Fin p l e R s m args below meth c Q G Z := K.2.2.2.2.2.2.2.2.2.2.2.2
theorem own_K.nx (K : own_K p l e R s m args below meth c bytes own nm mx ret Q G Z T L k n h) (X' : Stand p l e R s m args below meth c T' L' k' n') (e' : T'.heap = h') (N' : Fr Z.heap.size L') (O' : Ext Z.heap h') : own_K p l e R s m args below meth c bytes own nm mx ret Q G Z T' L' k' n' h' :=
  ⟨X', K.hx, K.hby, K.hml, K.hown, K.hnm, K.hret, K.hZ, e', N', O', K.cl, K.fin⟩
theorem own_K.more (K : own_K p l e R s m args below meth c bytes own nm mx ret Q G Z T L k n h) (hk : k ≤ k') (hn : n ≤ n') : own_K p l e R s m args below meth c bytes own nm mx ret Q G Z T L k' n' h :=
  K.nx (K.X.more hk hn) K.eh K.fr K.O
theorem own_cat1 {v : Value} (h : v.isRef = true) : v.category = 1 := by cases v <;> simp [Value.isRef] at h <;> rfl
/-- the heap goes on: what was written lies in cells at or above the elder heap's end -/
theorem own_ext_refl (h : Heap) : Ext h h := ⟨Nat.le_refl _, fun _ _ q => q⟩
theorem own_ext_trans (E : Ext h h1) (E' : Ext h1 h2) : Ext h h2 := ⟨Nat.le_trans E.1 E'.1, fun a c q => E'.2 a c (E.2 a c q)⟩
theorem own_ext_keep {ws : List Addr} (E : Ext h h1) (K : Keep h1 h2 ws) (q : ∀ x ∈ ws, h.size ≤ x) : Ext h h2 := ⟨Nat.le_trans E.1 K.1, fun a c r => K.2.1 a c (E.2 a c r) fun z => absurd (Array.getElem?_eq_some_iff.mp r).1 (Nat.not_lt.mpr (q a z))⟩
theorem own_ext_wr {a : Addr} {sl : Nat} {v : Value} (E : Ext h h1) (W : Wr h1 h2 a sl v) (q : h.size ≤ a) : Ext h h2 := own_ext_keep E (Keep.of_wr W) fun x hx => by cases List.mem_singleton.mp hx; exact q
theorem own_keep_ext (K : Keep h h1 []) : Ext h h1 := ⟨K.1, fun a c q => K.2.1 a c q (fun z => nomatch z)⟩
theorem own_ext_of_keep (E : Ext h h1) : Keep h h1 [] := (Keep.refl h []).ext E
/-- a body's contract, from its walk -/
theorem own_body {y : MethodName} {ws : List Jvm.Cond} {rm : Room} {as' : Array Value} {h0 : Heap} (hpl : plainFor y = true) (hef : ∀ m, entryFrame m as' mx = mkF m 0 Ls []) (O0 : Ext Z.heap h0)
    (H : ∀ (p : Program) (e : Env) (s : State) (m : MethodId) (below : List Frame) (meth : Method) (c : Code) (T : State) (G : State → Prop), own_K p l e rm s m as' below meth c bytes y.cls y.name mx ret Q G Z T [] 0 0 h0 → G (T.setTop (mkF m 0 Ls []))) :
    own_Ct l Z y bytes mx ret ws rm as' h0 Q := by
  refine MetFree.of_bodySF hpl hisR ?_
  intro p e s m args below meth c s₁ Bd hml0 hP hK
  obtain ⟨rfl, hZ, hh⟩ := hP
  have X0 : Stand p l e rm s m args below meth c s₁ [] 0 0 := Stand.of_body Bd
  have e0 : s₁.heap = h0 := by rw [← hh, Bd.state]; rfl
  have hlocks := BodyLoose.notSynchronized Bd
  have q := H p e s m below meth c s₁ (fun S => ∃ (T : State) (L : List Loc) (k n : Nat) (v : Option Value), Stand p l e rm s m args below meth c T L k n ∧ Fr Z.heap.size L ∧ Ext Z.heap T.heap ∧ k ≤ rm.cells ∧ n ≤ rm.slots ∧ (meth.sig.returnType = none → v = none) ∧ Q v T.heap ∧ own_Out p e m below T v S)
    ⟨X0, Bd.exec, Bd.bytes, hml0, findClass_of_methodNamed Bd.named, (name_of_methodNamed Bd.named Bd.method).1, Bd.returns, hZ, e0, Fr.nil _, O0, fun S S' hs ⟨T, L, k, n, v, h1, h2, h3, h4, h5, h6, h7, h8⟩ => ⟨T, L, k, n, v, h1, h2, h3, h4, h5, h6, h7, fun fs hfs => hs _ (h8 fs hfs)⟩, fun T L k n v S h1 h2 h3 h4 h5 h6 h7 h8 => ⟨T, L, k, n, v, h1, h2, h3, h4, h5, h6, h7, h8⟩⟩
  obtain ⟨T, L, k, n, v, X, N, O, hk, hn, hv, hQ, hout⟩ := q
  obtain ⟨fs, hr, hrun, hended, hW, hsame⟩ := X.leave (v := v) hv
  refine ⟨_, _, castTop (hef m) (hout fs hr), hrun, hended, _, _, rfl, ⟨N, O, hQ⟩, ⟨_, rfl⟩, hW, hsame.mono hk hn⟩
/-- the same, where a stack trace is filled in beneath -/
theorem own_bodyK {y : MethodName} {ws : List Jvm.Cond} {rm : Room} {as' : Array Value} {h0 : Heap} (hpl : plainFor y = true) (hef : ∀ m, entryFrame m as' mx = mkF m 0 Ls []) (O0 : Ext Z.heap h0)
    (H : ∀ (p : Program) (e : Env) (s : State) (m : MethodId) (below : List Frame) (meth : Method) (c : Code) (T : State) (G : State → Prop), s.vm.MethodsKnown ∧ s.vm.FramesKnown below → s.heap = h0 → own_K p l e rm s m as' below meth c bytes y.cls y.name mx ret Q G Z T [] 0 0 h0 → G (T.setTop (mkF m 0 Ls []))) :
    own_CtK l Z y bytes mx ret ws rm as' h0 Q := by
  refine MetFree.of_bodySF hpl hisR ?_
  intro p e s m args below meth c s₁ Bd hml0 hP hK
  obtain ⟨rfl, hZ, hh⟩ := hP
  have X0 : Stand p l e rm s m args below meth c s₁ [] 0 0 := Stand.of_body Bd
  have e0 : s₁.heap = h0 := by rw [← hh, Bd.state]; rfl
  have hlocks := BodyLoose.notSynchronized Bd
  have q := H p e s m below meth c s₁ (fun S => ∃ (T : State) (L : List Loc) (k n : Nat) (v : Option Value), Stand p l e rm s m args below meth c T L k n ∧ Fr Z.heap.size L ∧ Ext Z.heap T.heap ∧ k ≤ rm.cells ∧ n ≤ rm.slots ∧ (meth.sig.returnType = none → v = none) ∧ Q v T.heap ∧ own_Out p e m below T v S) hK hh
    ⟨X0, Bd.exec, Bd.bytes, hml0, findClass_of_methodNamed Bd.named, (name_of_methodNamed Bd.named Bd.method).1, Bd.returns, hZ, e0, Fr.nil _, O0, fun S S' hs ⟨T, L, k, n, v, h1, h2, h3, h4, h5, h6, h7, h8⟩ => ⟨T, L, k, n, v, h1, h2, h3, h4, h5, h6, h7, fun fs hfs => hs _ (h8 fs hfs)⟩, fun T L k n v S h1 h2 h3 h4 h5 h6 h7 h8 => ⟨T, L, k, n, v, h1, h2, h3, h4, h5, h6, h7, h8⟩⟩
  obtain ⟨T, L, k, n, v, X, N, O, hk, hn, hv, hQ, hout⟩ := q
  obtain ⟨fs, hr, hrun, hended, hW, hsame⟩ := X.leave (v := v) hv
  refine ⟨_, _, castTop (hef m) (hout fs hr), hrun, hended, _, _, rfl, ⟨N, O, hQ⟩, ⟨_, rfl⟩, hW, hsame.mono hk hn⟩

theorem own_iadd (K : own_K p l e R s m args below meth c bytes own nm mx ret Q G Z T L k n h) {x y : Int32} (hd : decode bytes pc = .ok (.iadd, 1)) (hp : pc + 1 = pc') (kk : G (T.setTop (mkF m pc' Ls (.int (x + y) :: rest)))) : G (T.setTop (mkF m pc Ls (.int y :: .int x :: rest))) := by
  subst hp
  exact K.cl _ _ (fun t q => XS.iadd K.here K.hx rfl (hb K.hby hd) rfl q) kk
theorem own_isub (K : own_K p l e R s m args below meth c bytes own nm mx ret Q G Z T L k n h) {x y : Int32} (hd : decode bytes pc = .ok (.isub, 1)) (hp : pc + 1 = pc') (kk : G (T.setTop (mkF m pc' Ls (.int (x - y) :: rest)))) : G (T.setTop (mkF m pc Ls (.int y :: .int x :: rest))) := by
  subst hp
  exact K.cl _ _ (fun t q => XS.isub K.here K.hx rfl (hb K.hby hd) rfl q) kk
theorem own_imul (K : own_K p l e R s m args below meth c bytes own nm mx ret Q G Z T L k n h) {x y : Int32} (hd : decode bytes pc = .ok (.imul, 1)) (hp : pc + 1 = pc') (kk : G (T.setTop (mkF m pc' Ls (.int (x * y) :: rest)))) : G (T.setTop (mkF m pc Ls (.int y :: .int x :: rest))) := by
  subst hp
  exact K.cl _ _ (fun t q => XS.imul K.here K.hx rfl (hb K.hby hd) rfl q) kk
theorem own_iand (K : own_K p l e R s m args below meth c bytes own nm mx ret Q G Z T L k n h) {x y : Int32} (hd : decode bytes pc = .ok (.iand, 1)) (hp : pc + 1 = pc') (kk : G (T.setTop (mkF m pc' Ls (.int (x &&& y) :: rest)))) : G (T.setTop (mkF m pc Ls (.int y :: .int x :: rest))) := by
  subst hp
  exact K.cl _ _ (fun t q => XS.iand K.here K.hx rfl (hb K.hby hd) rfl q) kk
theorem own_ior (K : own_K p l e R s m args below meth c bytes own nm mx ret Q G Z T L k n h) {x y : Int32} (hd : decode bytes pc = .ok (.ior, 1)) (hp : pc + 1 = pc') (kk : G (T.setTop (mkF m pc' Ls (.int (x ||| y) :: rest)))) : G (T.setTop (mkF m pc Ls (.int y :: .int x :: rest))) := by
  subst hp
  exact K.cl _ _ (fun t q => XS.ior K.here K.hx rfl (hb K.hby hd) rfl q) kk
theorem own_ixor (K : own_K p l e R s m args below meth c bytes own nm mx ret Q G Z T L k n h) {x y : Int32} (hd : decode bytes pc = .ok (.ixor, 1)) (hp : pc + 1 = pc') (kk : G (T.setTop (mkF m pc' Ls (.int (x ^^^ y) :: rest)))) : G (T.setTop (mkF m pc Ls (.int y :: .int x :: rest))) := by
  subst hp
  exact K.cl _ _ (fun t q => XS.ixor K.here K.hx rfl (hb K.hby hd) rfl q) kk
theorem own_ishl (K : own_K p l e R s m args below meth c bytes own nm mx ret Q G Z T L k n h) {x y : Int32} (hd : decode bytes pc = .ok (.ishl, 1)) (hp : pc + 1 = pc') (kk : G (T.setTop (mkF m pc' Ls (.int (x <<< (y &&& 31)) :: rest)))) : G (T.setTop (mkF m pc Ls (.int y :: .int x :: rest))) := by
  subst hp
  exact K.cl _ _ (fun t q => XS.ishl K.here K.hx rfl (hb K.hby hd) rfl q) kk
theorem own_ishr (K : own_K p l e R s m args below meth c bytes own nm mx ret Q G Z T L k n h) {x y : Int32} (hd : decode bytes pc = .ok (.ishr, 1)) (hp : pc + 1 = pc') (kk : G (T.setTop (mkF m pc' Ls (.int (x >>> (y &&& 31)) :: rest)))) : G (T.setTop (mkF m pc Ls (.int y :: .int x :: rest))) := by
  subst hp
  exact K.cl _ _ (fun t q => XS.ishr K.here K.hx rfl (hb K.hby hd) rfl q) kk
theorem own_iushr (K : own_K p l e R s m args below meth c bytes own nm mx ret Q G Z T L k n h) {x y : Int32} (hd : decode bytes pc = .ok (.iushr, 1)) (hp : pc + 1 = pc') (kk : G (T.setTop (mkF m pc' Ls (.int ((x.toUInt32 >>> (y &&& 31).toUInt32).toInt32) :: rest)))) : G (T.setTop (mkF m pc Ls (.int y :: .int x :: rest))) := by
  subst hp
  exact K.cl _ _ (fun t q => XS.iushr K.here K.hx rfl (hb K.hby hd) rfl q) kk
theorem own_ladd (K : own_K p l e R s m args below meth c bytes own nm mx ret Q G Z T L k n h) {x y : Int64} (hd : decode bytes pc = .ok (.ladd, 1)) (hp : pc + 1 = pc') (kk : G (T.setTop (mkF m pc' Ls (.long (x + y) :: rest)))) : G (T.setTop (mkF m pc Ls (.long y :: .long x :: rest))) := by
  subst hp
  exact K.cl _ _ (fun t q => XS.ladd K.here K.hx rfl (hb K.hby hd) rfl q) kk
theorem own_lsub (K : own_K p l e R s m args below meth c bytes own nm mx ret Q G Z T L k n h) {x y : Int64} (hd : decode bytes pc = .ok (.lsub, 1)) (hp : pc + 1 = pc') (kk : G (T.setTop (mkF m pc' Ls (.long (x - y) :: rest)))) : G (T.setTop (mkF m pc Ls (.long y :: .long x :: rest))) := by
  subst hp
  exact K.cl _ _ (fun t q => XS.lsub K.here K.hx rfl (hb K.hby hd) rfl q) kk
theorem own_lmul (K : own_K p l e R s m args below meth c bytes own nm mx ret Q G Z T L k n h) {x y : Int64} (hd : decode bytes pc = .ok (.lmul, 1)) (hp : pc + 1 = pc') (kk : G (T.setTop (mkF m pc' Ls (.long (x * y) :: rest)))) : G (T.setTop (mkF m pc Ls (.long y :: .long x :: rest))) := by
  subst hp
  exact K.cl _ _ (fun t q => XS.lmul K.here K.hx rfl (hb K.hby hd) rfl q) kk
theorem own_land (K : own_K p l e R s m args below meth c bytes own nm mx ret Q G Z T L k n h) {x y : Int64} (hd : decode bytes pc = .ok (.land, 1)) (hp : pc + 1 = pc') (kk : G (T.setTop (mkF m pc' Ls (.long (x &&& y) :: rest)))) : G (T.setTop (mkF m pc Ls (.long y :: .long x :: rest))) := by
  subst hp
  exact K.cl _ _ (fun t q => XS.land K.here K.hx rfl (hb K.hby hd) rfl q) kk
theorem own_lor (K : own_K p l e R s m args below meth c bytes own nm mx ret Q G Z T L k n h) {x y : Int64} (hd : decode bytes pc = .ok (.lor, 1)) (hp : pc + 1 = pc') (kk : G (T.setTop (mkF m pc' Ls (.long (x ||| y) :: rest)))) : G (T.setTop (mkF m pc Ls (.long y :: .long x :: rest))) := by
  subst hp
  exact K.cl _ _ (fun t q => XS.lor K.here K.hx rfl (hb K.hby hd) rfl q) kk
theorem own_lxor (K : own_K p l e R s m args below meth c bytes own nm mx ret Q G Z T L k n h) {x y : Int64} (hd : decode bytes pc = .ok (.lxor, 1)) (hp : pc + 1 = pc') (kk : G (T.setTop (mkF m pc' Ls (.long (x ^^^ y) :: rest)))) : G (T.setTop (mkF m pc Ls (.long y :: .long x :: rest))) := by
  subst hp
  exact K.cl _ _ (fun t q => XS.lxor K.here K.hx rfl (hb K.hby hd) rfl q) kk
theorem own_lshl (K : own_K p l e R s m args below meth c bytes own nm mx ret Q G Z T L k n h) {x : Int64} {y : Int32} (hd : decode bytes pc = .ok (.lshl, 1)) (hp : pc + 1 = pc') (kk : G (T.setTop (mkF m pc' Ls (.long (x <<< (y &&& 0x3f).toInt64) :: rest)))) : G (T.setTop (mkF m pc Ls (.int y :: .long x :: rest))) := by
  subst hp
  exact K.cl _ _ (fun t q => XS.lshl K.here K.hx rfl (hb K.hby hd) rfl q) kk
theorem own_lshr (K : own_K p l e R s m args below meth c bytes own nm mx ret Q G Z T L k n h) {x : Int64} {y : Int32} (hd : decode bytes pc = .ok (.lshr, 1)) (hp : pc + 1 = pc') (kk : G (T.setTop (mkF m pc' Ls (.long (x >>> (y &&& 0x3f).toInt64) :: rest)))) : G (T.setTop (mkF m pc Ls (.int y :: .long x :: rest))) := by
  subst hp
  exact K.cl _ _ (fun t q => XS.lshr K.here K.hx rfl (hb K.hby hd) rfl q) kk
theorem own_lushr (K : own_K p l e R s m args below meth c bytes own nm mx ret Q G Z T L k n h) {x : Int64} {y : Int32} (hd : decode bytes pc = .ok (.lushr, 1)) (hp : pc + 1 = pc') (kk : G (T.setTop (mkF m pc' Ls (.long ((x.toUInt64 >>> (y &&& 0x3f).toInt64.toUInt64).toInt64) :: rest)))) : G (T.setTop (mkF m pc Ls (.int y :: .long x :: rest))) := by
  subst hp
  exact K.cl _ _ (fun t q => XS.lushr K.here K.hx rfl (hb K.hby hd) rfl q) kk
theorem own_idiv (K : own_K p l e R s m args below meth c bytes own nm mx ret Q G Z T L k n h) {x y : Int32} (hd : decode bytes pc = .ok (.idiv, 1)) (hp : pc + 1 = pc') (hy : y ≠ 0) (kk : G (T.setTop (mkF m pc' Ls (.int (x / y) :: rest)))) : G (T.setTop (mkF m pc Ls (.int y :: .int x :: rest))) := by
  subst hp
  exact K.cl _ _ (fun t q => XS.idiv K.here K.hx rfl (hb K.hby hd) rfl hy q) kk
theorem own_ldiv (K : own_K p l e R s m args below meth c bytes own nm mx ret Q G Z T L k n h) {x y : Int64} (hd : decode bytes pc = .ok (.ldiv, 1)) (hp : pc + 1 = pc') (hy : y ≠ 0) (kk : G (T.setTop (mkF m pc' Ls (.long (x / y) :: rest)))) : G (T.setTop (mkF m pc Ls (.long y :: .long x :: rest))) := by
  subst hp
  exact K.cl _ _ (fun t q => XS.ldiv K.here K.hx rfl (hb K.hby hd) rfl hy q) kk
theorem own_irem (K : own_K p l e R s m args below meth c bytes own nm mx ret Q G Z T L k n h) {x y : Int32} (hd : decode bytes pc = .ok (.irem, 1)) (hp : pc + 1 = pc') (hy : y ≠ 0) (kk : G (T.setTop (mkF m pc' Ls (.int (x % y) :: rest)))) : G (T.setTop (mkF m pc Ls (.int y :: .int x :: rest))) := by
  subst hp
  exact K.cl _ _ (fun t q => iremM K.X K.hx rfl (hb K.hby hd) rfl hy q) kk
theorem own_lrem (K : own_K p l e R s m args below meth c bytes own nm mx ret Q G Z T L k n h) {x y : Int64} (hd : decode bytes pc = .ok (.lrem, 1)) (hp : pc + 1 = pc') (hy : y ≠ 0) (kk : G (T.setTop (mkF m pc' Ls (.long (x % y) :: rest)))) : G (T.setTop (mkF m pc Ls (.long y :: .long x :: rest))) := by
  subst hp
  exact K.cl _ _ (fun t q => XS.lrem K.here K.hx rfl (hb K.hby hd) rfl hy (by rw [lrem_mod]; exact q)) kk
theorem own_ineg (K : own_K p l e R s m args below meth c bytes own nm mx ret Q G Z T L k n h) {x : Int32} (hd : decode bytes pc = .ok (.ineg, 1)) (hp : pc + 1 = pc') (kk : G (T.setTop (mkF m pc' Ls (.int (-x) :: rest)))) : G (T.setTop (mkF m pc Ls (.int x :: rest))) := by
  subst hp
  exact K.cl _ _ (fun t q => XS.ineg K.here K.hx rfl (hb K.hby hd) rfl q) kk
theorem own_lneg (K : own_K p l e R s m args below meth c bytes own nm mx ret Q G Z T L k n h) {x : Int64} (hd : decode bytes pc = .ok (.lneg, 1)) (hp : pc + 1 = pc') (kk : G (T.setTop (mkF m pc' Ls (.long (-x) :: rest)))) : G (T.setTop (mkF m pc Ls (.long x :: rest))) := by
  subst hp
  exact K.cl _ _ (fun t q => XS.lneg K.here K.hx rfl (hb K.hby hd) rfl q) kk
theorem own_i2l (K : own_K p l e R s m args below meth c bytes own nm mx ret Q G Z T L k n h) {x : Int32} (hd : decode bytes pc = .ok (.i2l, 1)) (hp : pc + 1 = pc') (kk : G (T.setTop (mkF m pc' Ls (.long x.toInt64 :: rest)))) : G (T.setTop (mkF m pc Ls (.int x :: rest))) := by
  subst hp
  exact K.cl _ _ (fun t q => XS.i2l K.here K.hx rfl (hb K.hby hd) rfl q) kk
theorem own_l2i (K : own_K p l e R s m args below meth c bytes own nm mx ret Q G Z T L k n h) {x : Int64} (hd : decode bytes pc = .ok (.l2i, 1)) (hp : pc + 1 = pc') (kk : G (T.setTop (mkF m pc' Ls (.int x.toInt32 :: rest)))) : G (T.setTop (mkF m pc Ls (.long x :: rest))) := by
  subst hp
  exact K.cl _ _ (fun t q => XS.l2i K.here K.hx rfl (hb K.hby hd) rfl q) kk
theorem own_i2b (K : own_K p l e R s m args below meth c bytes own nm mx ret Q G Z T L k n h) {x : Int32} (hd : decode bytes pc = .ok (.i2b, 1)) (hp : pc + 1 = pc') (kk : G (T.setTop (mkF m pc' Ls (.int x.toInt8.toInt32 :: rest)))) : G (T.setTop (mkF m pc Ls (.int x :: rest))) := by
  subst hp
  exact K.cl _ _ (fun t q => XS.i2b K.here K.hx rfl (hb K.hby hd) rfl q) kk
theorem own_i2c (K : own_K p l e R s m args below meth c bytes own nm mx ret Q G Z T L k n h) {x : Int32} (hd : decode bytes pc = .ok (.i2c, 1)) (hp : pc + 1 = pc') (kk : G (T.setTop (mkF m pc' Ls (.int x.toUInt32.toUInt16.toUInt32.toInt32 :: rest)))) : G (T.setTop (mkF m pc Ls (.int x :: rest))) := by
  subst hp
  exact K.cl _ _ (fun t q => XS.i2c K.here K.hx rfl (hb K.hby hd) rfl q) kk
theorem own_i2s (K : own_K p l e R s m args below meth c bytes own nm mx ret Q G Z T L k n h) {x : Int32} (hd : decode bytes pc = .ok (.i2s, 1)) (hp : pc + 1 = pc') (kk : G (T.setTop (mkF m pc' Ls (.int x.toInt16.toInt32 :: rest)))) : G (T.setTop (mkF m pc Ls (.int x :: rest))) := by
  subst hp
  exact K.cl _ _ (fun t q => XS.i2s K.here K.hx rfl (hb K.hby hd) rfl q) kk
theorem own_lcmp (K : own_K p l e R s m args below meth c bytes own nm mx ret Q G Z T L k n h) {x y : Int64} (hd : decode bytes pc = .ok (.lcmp, 1)) (hp : pc + 1 = pc') (kk : G (T.setTop (mkF m pc' Ls (.int (lcmpW x y) :: rest)))) : G (T.setTop (mkF m pc Ls (.long y :: .long x :: rest))) := by
  subst hp
  exact K.cl _ _ (fun t q => XS.lcmp K.here K.hx rfl (hb K.hby hd) rfl q) kk
theorem own_pop (K : own_K p l e R s m args below meth c bytes own nm mx ret Q G Z T L k n h) {x : Value} (hd : decode bytes pc = .ok (.pop, 1)) (hp : pc + 1 = pc') (hc : x.category = 1) (kk : G (T.setTop (mkF m pc' Ls rest))) : G (T.setTop (mkF m pc Ls (x :: rest))) := by
  subst hp
  exact K.cl _ _ (fun t q => XS.pop K.here K.hx rfl (hb K.hby hd) rfl hc q) kk
theorem own_dup (K : own_K p l e R s m args below meth c bytes own nm mx ret Q G Z T L k n h) {x : Value} (hd : decode bytes pc = .ok (.dup, 1)) (hp : pc + 1 = pc') (hc : x.category = 1) (kk : G (T.setTop (mkF m pc' Ls (x :: x :: rest)))) : G (T.setTop (mkF m pc Ls (x :: rest))) := by
  subst hp
  exact K.cl _ _ (fun t q => XS.dup K.here K.hx rfl (hb K.hby hd) rfl hc q) kk
theorem own_dupX1 (K : own_K p l e R s m args below meth c bytes own nm mx ret Q G Z T L k n h) {x y : Value} (hd : decode bytes pc = .ok (.dup_x1, 1)) (hp : pc + 1 = pc') (hc : x.category = 1) (hc' : y.category = 1) (kk : G (T.setTop (mkF m pc' Ls (x :: y :: x :: rest)))) : G (T.setTop (mkF m pc Ls (x :: y :: rest))) := by
  subst hp
  exact K.cl _ _ (fun t q => XS.dupX1 K.here K.hx rfl (hb K.hby hd) rfl hc hc' q) kk
theorem own_aconstNull (K : own_K p l e R s m args below meth c bytes own nm mx ret Q G Z T L k n h)  (hd : decode bytes pc = .ok (.aconst_null, 1)) (hp : pc + 1 = pc') (kk : G (T.setTop (mkF m pc' Ls (.null :: st)))) : G (T.setTop (mkF m pc Ls st)) := by
  subst hp
  exact K.cl _ _ (fun t q => XS.aconstNull K.here K.hx rfl (hb K.hby hd)  q) kk
theorem own_iconst (K : own_K p l e R s m args below meth c bytes own nm mx ret Q G Z T L k n h) {i : Int} {v : Int32} (hd : decode bytes pc = .ok (.iconst i, 1)) (hp : pc + 1 = pc') (hv : Int32.ofInt i = v) (kk : G (T.setTop (mkF m pc' Ls (.int v :: st)))) : G (T.setTop (mkF m pc Ls st)) := by
  subst hp hv
  exact K.cl _ _ (fun t q => XS.iconst K.here K.hx rfl (hb K.hby hd) q) kk
theorem own_bipush (K : own_K p l e R s m args below meth c bytes own nm mx ret Q G Z T L k n h) {i : Int} {v : Int32} (hd : decode bytes pc = .ok (.bipush i, 2)) (hp : pc + 2 = pc') (hv : (Int8.ofInt i).toInt32 = v) (kk : G (T.setTop (mkF m pc' Ls (.int v :: st)))) : G (T.setTop (mkF m pc Ls st)) := by
  subst hp hv
  exact K.cl _ _ (fun t q => XS.bipush K.here K.hx rfl (hb K.hby hd) q) kk
theorem own_sipush (K : own_K p l e R s m args below meth c bytes own nm mx ret Q G Z T L k n h) {i : Int} {v : Int32} (hd : decode bytes pc = .ok (.sipush i, 3)) (hp : pc + 3 = pc') (hv : (Int16.ofInt i).toInt32 = v) (kk : G (T.setTop (mkF m pc' Ls (.int v :: st)))) : G (T.setTop (mkF m pc Ls st)) := by
  subst hp hv
  exact K.cl _ _ (fun t q => XS.sipush K.here K.hx rfl (hb K.hby hd) q) kk
theorem own_lconst (K : own_K p l e R s m args below meth c bytes own nm mx ret Q G Z T L k n h) {i : Fin 2} {v : Int64} (hd : decode bytes pc = .ok (.lconst i, 1)) (hp : pc + 1 = pc') (hv : Int64.ofNat i = v) (kk : G (T.setTop (mkF m pc' Ls (.long v :: st)))) : G (T.setTop (mkF m pc Ls st)) := by
  subst hp hv
  exact K.cl _ _ (fun t q => XS.lconst K.here K.hx rfl (hb K.hby hd) q) kk
theorem own_iload (K : own_K p l e R s m args below meth c bytes own nm mx ret Q G Z T L k n h) {j : Nat} {v : Int32} (hd : decode bytes pc = .ok (.iload j, 2)) (hp : pc + 2 = pc') (hl : Ls[j]? = some (.val (.int v))) (kk : G (T.setTop (mkF m pc' Ls (.int v :: st)))) : G (T.setTop (mkF m pc Ls st)) := by
  subst hp
  exact K.cl _ _ (fun t q => XS.iload K.here K.hx rfl (hb K.hby hd) hl q) kk
theorem own_iloadN (K : own_K p l e R s m args below meth c bytes own nm mx ret Q G Z T L k n h) {j : Fin 4} {v : Int32} (hd : decode bytes pc = .ok (.iload_n j, 1)) (hp : pc + 1 = pc') (hl : Ls[j.val]? = some (.val (.int v))) (kk : G (T.setTop (mkF m pc' Ls (.int v :: st)))) : G (T.setTop (mkF m pc Ls st)) := by
  subst hp
  exact K.cl _ _ (fun t q => XS.iloadN K.here K.hx rfl (hb K.hby hd) hl q) kk
theorem own_lload (K : own_K p l e R s m args below meth c bytes own nm mx ret Q G Z T L k n h) {j : Nat} {v : Int64} (hd : decode bytes pc = .ok (.lload j, 2)) (hp : pc + 2 = pc') (hl : Ls[j]? = some (.val (.long v))) (kk : G (T.setTop (mkF m pc' Ls (.long v :: st)))) : G (T.setTop (mkF m pc Ls st)) := by
  subst hp
  exact K.cl _ _ (fun t q => XS.lload K.here K.hx rfl (hb K.hby hd) hl q) kk
theorem own_lloadN (K : own_K p l e R s m args below meth c bytes own nm mx ret Q G Z T L k n h) {j : Fin 4} {v : Int64} (hd : decode bytes pc = .ok (.lload_n j, 1)) (hp : pc + 1 = pc') (hl : Ls[j.val]? = some (.val (.long v))) (kk : G (T.setTop (mkF m pc' Ls (.long v :: st)))) : G (T.setTop (mkF m pc Ls st)) := by
  subst hp
  exact K.cl _ _ (fun t q => XS.lloadN K.here K.hx rfl (hb K.hby hd) hl q) kk
theorem own_aload (K : own_K p l e R s m args below meth c bytes own nm mx ret Q G Z T L k n h) {j : Nat} {v : Value} (hd : decode bytes pc = .ok (.aload j, 2)) (hp : pc + 2 = pc') (hl : Ls[j]? = some (.val v)) (hv : v.isRef = true) (kk : G (T.setTop (mkF m pc' Ls (v :: st)))) : G (T.setTop (mkF m pc Ls st)) := by
  subst hp
  exact K.cl _ _ (fun t q => XS.aload K.here K.hx rfl (hb K.hby hd) hl hv q) kk
theorem own_aloadN (K : own_K p l e R s m args below meth c bytes own nm mx ret Q G Z T L k n h) {j : Fin 4} {v : Value} (hd : decode bytes pc = .ok (.aload_n j, 1)) (hp : pc + 1 = pc') (hl : Ls[j.val]? = some (.val v)) (hv : v.isRef = true) (kk : G (T.setTop (mkF m pc' Ls (v :: st)))) : G (T.setTop (mkF m pc Ls st)) := by
  subst hp
  exact K.cl _ _ (fun t q => XS.aloadN K.here K.hx rfl (hb K.hby hd) hl hv q) kk
theorem own_istore (K : own_K p l e R s m args below meth c bytes own nm mx ret Q G Z T L k n h) {j : Nat} {v : Int32} (hd : decode bytes pc = .ok (.istore j, 2)) (hp : pc + 2 = pc') (hl : storeLocals Ls j (.int v) = some Ls') (kk : G (T.setTop (mkF m pc' Ls' rest))) : G (T.setTop (mkF m pc Ls (.int v :: rest))) := by
  subst hp
  exact K.cl _ _ (fun t q => XS.istore K.here K.hx rfl (hb K.hby hd) rfl hl q) kk
theorem own_istoreN (K : own_K p l e R s m args below meth c bytes own nm mx ret Q G Z T L k n h) {j : Fin 4} {v : Int32} (hd : decode bytes pc = .ok (.istore_n j, 1)) (hp : pc + 1 = pc') (hl : storeLocals Ls j.val (.int v) = some Ls') (kk : G (T.setTop (mkF m pc' Ls' rest))) : G (T.setTop (mkF m pc Ls (.int v :: rest))) := by
  subst hp
  exact K.cl _ _ (fun t q => XS.istoreN K.here K.hx rfl (hb K.hby hd) rfl hl q) kk
theorem own_lstore (K : own_K p l e R s m args below meth c bytes own nm mx ret Q G Z T L k n h) {j : Nat} {v : Int64} (hd : decode bytes pc = .ok (.lstore j, 2)) (hp : pc + 2 = pc') (hl : storeLocals Ls j (.long v) = some Ls') (kk : G (T.setTop (mkF m pc' Ls' rest))) : G (T.setTop (mkF m pc Ls (.long v :: rest))) := by
  subst hp
  exact K.cl _ _ (fun t q => XS.lstore K.here K.hx rfl (hb K.hby hd) rfl hl q) kk
theorem own_lstoreN (K : own_K p l e R s m args below meth c bytes own nm mx ret Q G Z T L k n h) {j : Fin 4} {v : Int64} (hd : decode bytes pc = .ok (.lstore_n j, 1)) (hp : pc + 1 = pc') (hl : storeLocals Ls j.val (.long v) = some Ls') (kk : G (T.setTop (mkF m pc' Ls' rest))) : G (T.setTop (mkF m pc Ls (.long v :: rest))) := by
  subst hp
  exact K.cl _ _ (fun t q => XS.lstoreN K.here K.hx rfl (hb K.hby hd) rfl hl q) kk
theorem own_astore (K : own_K p l e R s m args below meth c bytes own nm mx ret Q G Z T L k n h) {j : Nat} {v : Value} (hd : decode bytes pc = .ok (.astore j, 2)) (hp : pc + 2 = pc') (hv : v.isRef = true) (hl : storeLocals Ls j v = some Ls') (kk : G (T.setTop (mkF m pc' Ls' rest))) : G (T.setTop (mkF m pc Ls (v :: rest))) := by
  subst hp
  exact K.cl _ _ (fun t q => XS.astore K.here K.hx rfl (hb K.hby hd) rfl hv hl q) kk
theorem own_astoreN (K : own_K p l e R s m args below meth c bytes own nm mx ret Q G Z T L k n h) {j : Fin 4} {v : Value} (hd : decode bytes pc = .ok (.astore_n j, 1)) (hp : pc + 1 = pc') (hv : v.isRef = true) (hl : storeLocals Ls j.val v = some Ls') (kk : G (T.setTop (mkF m pc' Ls' rest))) : G (T.setTop (mkF m pc Ls (v :: rest))) := by
  subst hp
  exact K.cl _ _ (fun t q => XS.astoreN K.here K.hx rfl (hb K.hby hd) rfl hv hl q) kk
theorem own_iinc (K : own_K p l e R s m args below meth c bytes own nm mx ret Q G Z T L k n h) {j : Nat} {cst : Int} {x v : Int32} (hd : decode bytes pc = .ok (.iinc j cst, 3)) (hp : pc + 3 = pc') (hl : Ls[j]? = some (.val (.int x))) (hl' : storeLocals Ls j (.int (x + Int32.ofInt cst)) = some Ls') (kk : G (T.setTop (mkF m pc' Ls' st))) : G (T.setTop (mkF m pc Ls st)) := by
  subst hp
  exact K.cl _ _ (fun t q => XS.iinc K.here K.hx rfl (hb K.hby hd) hl hl' q) kk
theorem own_goto (K : own_K p l e R s m args below meth c bytes own nm mx ret Q G Z T L k n h) {o : Int} (hd : decode bytes pc = .ok (.goto o, 3)) (hp : ((pc : Int) + o).toNat = pc') (ho : 0 ≤ (pc : Int) + o) (kk : G (T.setTop (mkF m pc' Ls st))) : G (T.setTop (mkF m pc Ls st)) :=
  K.cl _ _ (fun t q => XS.goto K.here K.hx rfl rfl (hb K.hby hd) ho hp q) kk
theorem own_ifYes (K : own_K p l e R s m args below meth c bytes own nm mx ret Q G Z T L k n h) {cd : ClassFile.Cond} {x : Int32} {o : Int} (hd : decode bytes pc = .ok (.ifCond cd o, 3)) (hp : ((pc : Int) + o).toNat = pc') (ho : 0 ≤ (pc : Int) + o) (hc : ifCond.holds cd x = true) (kk : G (T.setTop (mkF m pc' Ls rest))) : G (T.setTop (mkF m pc Ls (.int x :: rest))) :=
  K.cl _ _ (fun t q => XS.ifYes K.here K.hx rfl rfl (hb K.hby hd) rfl hc ho hp q) kk
theorem own_ifNo (K : own_K p l e R s m args below meth c bytes own nm mx ret Q G Z T L k n h) {cd : ClassFile.Cond} {x : Int32} {o : Int} (hd : decode bytes pc = .ok (.ifCond cd o, 3)) (hp : pc + 3 = pc') (hc : ifCond.holds cd x = false) (kk : G (T.setTop (mkF m pc' Ls rest))) : G (T.setTop (mkF m pc Ls (.int x :: rest))) := by
  subst hp
  exact K.cl _ _ (fun t q => XS.ifNo K.here K.hx rfl (hb K.hby hd) rfl hc q) kk
theorem own_icmpYes (K : own_K p l e R s m args below meth c bytes own nm mx ret Q G Z T L k n h) {cd : ClassFile.Cond} {x y : Int32} {o : Int} (hd : decode bytes pc = .ok (.if_icmp cd o, 3)) (hp : ((pc : Int) + o).toNat = pc') (ho : 0 ≤ (pc : Int) + o) (hc : if_icmp.holds cd x y = true) (kk : G (T.setTop (mkF m pc' Ls rest))) : G (T.setTop (mkF m pc Ls (.int y :: .int x :: rest))) :=
  K.cl _ _ (fun t q => XS.icmpYes K.here K.hx rfl rfl (hb K.hby hd) rfl hc ho hp q) kk
theorem own_icmpNo (K : own_K p l e R s m args below meth c bytes own nm mx ret Q G Z T L k n h) {cd : ClassFile.Cond} {x y : Int32} {o : Int} (hd : decode bytes pc = .ok (.if_icmp cd o, 3)) (hp : pc + 3 = pc') (hc : if_icmp.holds cd x y = false) (kk : G (T.setTop (mkF m pc' Ls rest))) : G (T.setTop (mkF m pc Ls (.int y :: .int x :: rest))) := by
  subst hp
  exact K.cl _ _ (fun t q => XS.icmpNo K.here K.hx rfl (hb K.hby hd) rfl hc q) kk
theorem own_ifnullYes (K : own_K p l e R s m args below meth c bytes own nm mx ret Q G Z T L k n h) {o : Int} (hd : decode bytes pc = .ok (.ifnull o, 3)) (hp : ((pc : Int) + o).toNat = pc') (ho : 0 ≤ (pc : Int) + o) (kk : G (T.setTop (mkF m pc' Ls rest))) : G (T.setTop (mkF m pc Ls (.null :: rest))) :=
  K.cl _ _ (fun t q => XS.ifnullYes K.here K.hx rfl rfl (hb K.hby hd) rfl ho hp q) kk
theorem own_ifnullNo (K : own_K p l e R s m args below meth c bytes own nm mx ret Q G Z T L k n h) {o : Int} {b : Addr} (hd : decode bytes pc = .ok (.ifnull o, 3)) (hp : pc + 3 = pc') (kk : G (T.setTop (mkF m pc' Ls rest))) : G (T.setTop (mkF m pc Ls (.ref b :: rest))) := by
  subst hp
  exact K.cl _ _ (fun t q => XS.ifnullNo K.here K.hx rfl (hb K.hby hd) rfl q) kk
theorem own_ifnonnullYes (K : own_K p l e R s m args below meth c bytes own nm mx ret Q G Z T L k n h) {o : Int} {b : Addr} (hd : decode bytes pc = .ok (.ifnonnull o, 3)) (hp : ((pc : Int) + o).toNat = pc') (ho : 0 ≤ (pc : Int) + o) (kk : G (T.setTop (mkF m pc' Ls rest))) : G (T.setTop (mkF m pc Ls (.ref b :: rest))) :=
  K.cl _ _ (fun t q => XS.ifnonnullYes K.here K.hx rfl rfl (hb K.hby hd) rfl ho hp q) kk
theorem own_ifnonnullNo (K : own_K p l e R s m args below meth c bytes own nm mx ret Q G Z T L k n h) {o : Int} (hd : decode bytes pc = .ok (.ifnonnull o, 3)) (hp : pc + 3 = pc') (kk : G (T.setTop (mkF m pc' Ls rest))) : G (T.setTop (mkF m pc Ls (.null :: rest))) := by
  subst hp
  exact K.cl _ _ (fun t q => XS.ifnonnullNo K.here K.hx rfl (hb K.hby hd) rfl q) kk
theorem own_acmp (K : own_K p l e R s m args below meth c bytes own nm mx ret Q G Z T L k n h) {cd : ACond} {x y : Value} {o : Int} {same : Bool} (hd : decode bytes pc = .ok (.if_acmp cd o, 3)) (h1 : x.isRef = true) (h2 : y.isRef = true) (hq : decide (x = y) = same) (ho : 0 ≤ (pc : Int) + o) (hp : pc' = if acV cd same = true then ((pc : Int) + o).toNat else pc + 3) (kk : G (T.setTop (mkF m pc' Ls rest))) : G (T.setTop (mkF m pc Ls (y :: x :: rest))) :=
  K.cl _ _ (fun t q => RoadKit.acmp K.X K.hx rfl h1 h2 rfl (hb K.hby hd) rfl hq ho hp q) kk
theorem own_getF (K : own_K p l e R s m args below meth c bytes own nm mx ret Q G Z T L k n h) {R0 O nf d host : String} {index : Nat} {a : Addr} {v : Value} (w : (Cond.fieldLink own index R0 nf d).before a0 Z = true ∨ (Cond.fieldLinkNest own index R0 nf d host).before a0 Z = true) (via : Via Z R0 O nf d) (F : Fld Z h a O nf d v) (hd : decode bytes pc = .ok (.getfield index, 3)) (hp : pc + 3 = pc') (kk : ∀ T', own_K p l e R s m args below meth c bytes own nm mx ret Q G Z T' L k n h → G (T'.setTop (mkF m pc' Ls (v :: rest)))) : G (T.setTop (mkF m pc Ls (.ref a :: rest))) := by
  subst hp
  obtain ⟨T', X', e', st'⟩ := getF K.X K.hx K.hZ K.hown w via K.eh F (g := mkF m pc Ls (.ref a :: rest)) rfl rfl (hb K.hby hd)
  exact K.cl _ _ st' (kk T' (K.nx X' e' K.fr K.O))
theorem own_getS (K : own_K p l e R s m args below meth c bytes own nm mx ret Q G Z T L k n h) {R0 O nf d : String} {index : Nat} {v : Value} (w : (Cond.fieldLink own index R0 nf d).before a0 Z = true) (via : Via Z R0 O nf d) (F : Sta Z h O nf d v) (hd : decode bytes pc = .ok (.getstatic index, 3)) (hp : pc + 3 = pc') (kk : ∀ T', own_K p l e R s m args below meth c bytes own nm mx ret Q G Z T' L k n h → G (T'.setTop (mkF m pc' Ls (v :: st)))) : G (T.setTop (mkF m pc Ls st)) := by
  subst hp
  obtain ⟨T', X', e', st'⟩ := getS (host := "") K.X K.hx K.hZ K.hown w via K.eh F (g := mkF m pc Ls st) rfl (hb K.hby hd)
  exact K.cl _ _ st' (kk T' (K.nx X' e' K.fr K.O))
theorem own_putF (K : own_K p l e R s m args below meth c bytes own nm mx ret Q G Z T L k n h) {R0 O nf d host C : String} {index kk0 : Nat} {ty : FieldType} {a : Addr} {v old : Value} (w : (Cond.fieldLink own index R0 nf d).before a0 Z = true ∨ (Cond.fieldLinkNest own index R0 nf d host).before a0 Z = true) (via : Via Z R0 O nf d) (F : Fld Z h a O nf d old) (E : Exa Z h a C) (Ly : (Cond.lays C O nf d).before a0 Z = true ∨ ((Cond.laysFinal C O nf d).before a0 Z = true ∧ own = O ∧ nm = "<init>")) (wi : (Cond.instantiable C kk0).before a0 Z = true) (hty : parseFieldDescriptor d = some ty) (hn : narrow ty v = v) (hf : fits ty v = true) (ha : Z.heap.size ≤ a) (hd : decode bytes pc = .ok (.putfield index, 3)) (hp : pc + 3 = pc') (kk : ∀ T' h', own_K p l e R s m args below meth c bytes own nm mx ret Q G Z T' (L ++ [⟨a, RoadKit.slotOf Z O nf d⟩]) k n h' → Wr h h' a (RoadKit.slotOf Z O nf d) v → G (T'.setTop (mkF m pc' Ls rest))) : G (T.setTop (mkF m pc Ls (v :: .ref a :: rest))) := by
  subst hp
  obtain ⟨T', h', X', e', W', st'⟩ := putF K.X K.hx K.hZ K.hown w via K.eh F E (Ly.imp id fun q => ⟨q.1, q.2.1, K.hnm.trans q.2.2⟩) wi hty hn hf (g := mkF m pc Ls (v :: .ref a :: rest)) rfl rfl (hb K.hby hd)
  exact K.cl _ _ st' (kk T' h' (K.nx X' e' (Fr.snoc X' K.fr ha) (own_ext_wr K.O W' ha)) W')
theorem own_putFN (K : own_K p l e R s m args below meth c bytes own nm mx ret Q G Z T L k n h) {R0 O nf d C : String} {index kk0 : Nat} {ty : FieldType} {a : Addr} {v v' old : Value} (w : (Cond.fieldLink own index R0 nf d).before a0 Z = true) (via : Via Z R0 O nf d) (F : Fld Z h a O nf d old) (E : Exa Z h a C) (Ly : (Cond.lays C O nf d).before a0 Z = true ∨ ((Cond.laysFinal C O nf d).before a0 Z = true ∧ own = O ∧ nm = "<init>")) (wi : (Cond.instantiable C kk0).before a0 Z = true) (hty : parseFieldDescriptor d = some ty) (hn : narrow ty v = v') (hf : fits ty v' = true) (ha : Z.heap.size ≤ a) (hd : decode bytes pc = .ok (.putfield index, 3)) (hp : pc + 3 = pc') (kk : ∀ T' h', own_K p l e R s m args below meth c bytes own nm mx ret Q G Z T' (L ++ [⟨a, RoadKit.slotOf Z O nf d⟩]) k n h' → Wr h h' a (RoadKit.slotOf Z O nf d) v' → G (T'.setTop (mkF m pc' Ls rest))) : G (T.setTop (mkF m pc Ls (v :: .ref a :: rest))) := by
  subst hp
  obtain ⟨T', h', X', e', W', st'⟩ := putFN K.X K.hx K.hZ K.hown w via K.eh F E (Ly.imp id fun q => ⟨q.1, q.2.1, K.hnm.trans q.2.2⟩) wi hty hn hf (g := mkF m pc Ls (v :: .ref a :: rest)) rfl rfl (hb K.hby hd)
  exact K.cl _ _ st' (kk T' h' (K.nx X' e' (Fr.snoc X' K.fr ha) (own_ext_wr K.O W' ha)) W')
theorem own_newO (K : own_K p l e R s m args below meth c bytes own nm mx ret Q G Z T L k n h) {C : String} {index j : Nat} (w : (Cond.classLink own index C).before a0 Z = true) (wi : (Cond.instantiable C j).before a0 Z = true) (wz : (Cond.initialized C).before a0 Z = true) (hd : decode bytes pc = .ok (.new index, 3)) (hc : k + 1 ≤ R.cells) (hl : n + j ≤ R.slots) (hp : pc + 3 = pc') (kk : ∀ T' h' (a : Addr), own_K p l e R s m args below meth c bytes own nm mx ret Q G Z T' L (k + 1) (n + j) h' → a = h.size → Ext h h' → Exa Z h' a C → (∀ {O nf d : String} {ty : FieldType}, Laid Z a0 C O nf d → parseFieldDescriptor d = some ty → Fld Z h' a O nf d (defaultValue ty)) → Unt h' a → G (T'.setTop (mkF m pc' Ls (.ref a :: st)))) : G (T.setTop (mkF m pc Ls st)) := by
  subst hp
  obtain ⟨T', h', X', e', E', A', D', U', st'⟩ := newO K.X K.hx K.hZ K.hown w wi wz K.eh (g := mkF m pc Ls st) rfl (hb K.hby hd) hc hl
  exact K.cl _ _ st' (kk T' h' h.size (K.nx X' e' K.fr (own_ext_trans K.O E')) rfl E' A' D' U')
theorem own_newP (K : own_K p l e R s m args below meth c bytes own nm mx ret Q G Z T L k n h) {aty : ArrayType} {z : Int32} {cap : Nat} (w : (Cond.arrayClass (newarray.typeOf aty)).before a0 Z = true) (hd : decode bytes pc = .ok (.newarray aty, 2)) (hz : ¬ z < 0) (hcap : z.toNatClampNeg ≤ cap) (hcb : cap * 8 ≤ 536870912) (hc : k + 1 ≤ R.cells) (hl : n + cap ≤ R.slots) (hp : pc + 2 = pc') (kk : ∀ T' h' (a : Addr) (cA : ClassId), own_K p l e R s m args below meth c bytes own nm mx ret Q G Z T' L (k + 1) (n + cap) h' → a = h.size → Ext h h' → Arv Z h' a cA (newarray.typeOf aty) z [] (defaultValue (newarray.typeOf aty)) → G (T'.setTop (mkF m pc' Ls (.ref a :: rest)))) : G (T.setTop (mkF m pc Ls (.int z :: rest))) := by
  subst hp
  obtain ⟨T', h', cA, X', e', E', A', st'⟩ := newP K.X K.hx K.hZ w K.eh (g := mkF m pc Ls (.int z :: rest)) rfl (hb K.hby hd) rfl hz hcap hcb hc hl
  exact K.cl _ _ st' (kk T' h' h.size cA (K.nx X' e' K.fr (own_ext_trans K.O E')) rfl E' (Arv.new A' hz))
theorem own_newR (K : own_K p l e R s m args below meth c bytes own nm mx ret Q G Z T L k n h) {C : String} {index : Nat} {z : Int32} {cap : Nat} (w1 : (Cond.classLink own index C).before a0 Z = true) (w2 : (Cond.arrayOver (.object C)).before a0 Z = true) (hd : decode bytes pc = .ok (.anewarray index, 3)) (hz : ¬ z < 0) (hcap : z.toNatClampNeg ≤ cap) (hcb : cap * 8 ≤ 536870912) (hc : k + 1 ≤ R.cells) (hl : n + cap ≤ R.slots) (hp : pc + 3 = pc') (kk : ∀ T' h' (a : Addr) (cA : ClassId), own_K p l e R s m args below meth c bytes own nm mx ret Q G Z T' L (k + 1) (n + cap) h' → a = h.size → Ext h h' → Arv Z h' a cA (.object C) z [] .null → Ovr Z cA C → G (T'.setTop (mkF m pc' Ls (.ref a :: rest)))) : G (T.setTop (mkF m pc Ls (.int z :: rest))) := by
  subst hp
  obtain ⟨T', h', cA, X', e', E', A', O', st'⟩ := newR K.X K.hx K.hZ K.hown w1 w2 K.eh (g := mkF m pc Ls (.int z :: rest)) rfl (hb K.hby hd) rfl hz hcap hcb hc hl
  exact K.cl _ _ st' (kk T' h' h.size cA (K.nx X' e' K.fr (own_ext_trans K.O E')) rfl E' (Arv.new A' hz) O')
theorem own_castY (K : own_K p l e R s m args below meth c bytes own nm mx ret Q G Z T L k n h) {Kc : String} {index : Nat} {a : Addr} (w : (Cond.classLink own index Kc).before a0 Z = true) (F : Ins Z h a Kc true) (hd : decode bytes pc = .ok (.checkcast index, 3)) (hp : pc + 3 = pc') (kk : ∀ T', own_K p l e R s m args below meth c bytes own nm mx ret Q G Z T' L k n h → G (T'.setTop (mkF m pc' Ls (.ref a :: rest)))) : G (T.setTop (mkF m pc Ls (.ref a :: rest))) := by
  subst hp
  obtain ⟨T', X', e', st'⟩ := castY K.X K.hx K.hZ K.hown w K.eh F (g := mkF m pc Ls (.ref a :: rest)) rfl rfl (hb K.hby hd)
  exact K.cl _ _ st' (kk T' (K.nx X' e' K.fr K.O))
theorem own_instY (K : own_K p l e R s m args below meth c bytes own nm mx ret Q G Z T L k n h) {Kc : String} {index : Nat} {a : Addr} (w : (Cond.classLink own index Kc).before a0 Z = true) (F : Ins Z h a Kc true) (hd : decode bytes pc = .ok (.instanceof index, 3)) (hp : pc + 3 = pc') (kk : ∀ T', own_K p l e R s m args below meth c bytes own nm mx ret Q G Z T' L k n h → G (T'.setTop (mkF m pc' Ls (.int 1 :: rest)))) : G (T.setTop (mkF m pc Ls (.ref a :: rest))) := by
  subst hp
  obtain ⟨T', X', e', st'⟩ := instY K.X K.hx K.hZ K.hown w K.eh F (g := mkF m pc Ls (.ref a :: rest)) rfl rfl (hb K.hby hd)
  exact K.cl _ _ st' (kk T' (K.nx X' e' K.fr K.O))
theorem own_castNull (K : own_K p l e R s m args below meth c bytes own nm mx ret Q G Z T L k n h) {index : Nat} (hd : decode bytes pc = .ok (.checkcast index, 3)) (hp : pc + 3 = pc') (kk : G (T.setTop (mkF m pc' Ls (.null :: rest)))) : G (T.setTop (mkF m pc Ls (.null :: rest))) := by
  subst hp
  exact K.cl _ _ (K.X.checkcastNull K.hx (g := mkF m pc Ls (.null :: rest)) rfl rfl (hb K.hby hd)) kk
theorem own_ldcInt (K : own_K p l e R s m args below meth c bytes own nm mx ret Q G Z T L k n h) {index : Nat} {v : Int32} (w : (Cond.constant own index v).before a0 Z = true) (hd : decode bytes pc = .ok (.ldc index, 2)) (hp : pc + 2 = pc') (kk : G (T.setTop (mkF m pc' Ls (.int v :: st)))) : G (T.setTop (mkF m pc Ls st)) := by
  subst hp
  exact K.cl _ _ (K.X.ldcInt K.hx K.hown (mvT K.hZ w) (g := mkF m pc Ls st) rfl (hb K.hby hd)) kk
theorem own_ldcwInt (K : own_K p l e R s m args below meth c bytes own nm mx ret Q G Z T L k n h) {index : Nat} {v : Int32} (w : (Cond.constant own index v).before a0 Z = true) (hd : decode bytes pc = .ok (.ldc_w index, 3)) (hp : pc + 3 = pc') (kk : G (T.setTop (mkF m pc' Ls (.int v :: st)))) : G (T.setTop (mkF m pc Ls st)) := by
  subst hp
  exact K.cl _ _ (K.X.ldcwInt K.hx K.hown (mvT K.hZ w) (g := mkF m pc Ls st) rfl (hb K.hby hd)) kk
theorem own_ldc2Long (K : own_K p l e R s m args below meth c bytes own nm mx ret Q G Z T L k n h) {index : Nat} {v : Int64} (w : (Cond.constantLong own index v).before a0 Z = true) (hd : decode bytes pc = .ok (.ldc2_w index, 3)) (hp : pc + 3 = pc') (kk : G (T.setTop (mkF m pc' Ls (.long v :: st)))) : G (T.setTop (mkF m pc Ls st)) := by
  subst hp
  exact K.cl _ _ (K.X.ldc2Long K.hx K.hown (mvT K.hZ w) (g := mkF m pc Ls st) rfl (hb K.hby hd)) kk
theorem own_inb {z j : Int32} {cl : Cell} (S : cl.slots.size = z.toNatClampNeg) (q : ¬ j < 0 ∧ j < z) : ¬ (j < 0 ∨ cl.slots.size ≤ j.toNatClampNeg) := inb_of S q
theorem own_at {z j : Int32} {cl : Cell} {vs : List Value} {dv v : Value} (S : cl.slots.size = z.toNatClampNeg) (H : Has cl vs dv) (q : ¬ j < 0 ∧ j < z) (hv : vs.getD j.toNatClampNeg dv = v) : cl.slots[j.toNatClampNeg]? = some v := by
  have h1 := inb_of S q
  rw [← hv]; exact H _ (by omega)
theorem own_iaload (K : own_K p l e R s m args below meth c bytes own nm mx ret Q G Z T L k n h) {a : Addr} {kA : ClassId} {z j : Int32} {vs : List Value} {dv : Value} {x : Int32} (V : Arv Z h a kA .int z vs dv) (hj : ¬ j < 0 ∧ j < z) (hv : vs.getD j.toNatClampNeg dv = .int x) (hd : decode bytes pc = .ok (.iaload, 1)) (hp : pc + 1 = pc') (kk : G (T.setTop (mkF m pc' Ls (.int x :: rest)))) : G (T.setTop (mkF m pc Ls (.int j :: .ref a :: rest))) := by
  subst hp
  obtain ⟨cl, A, -, S, -, H, -⟩ := V
  exact K.cl _ _ (K.X.iaload K.hx (j := j) (v := .int x) (by rw [K.eh]; exact A.1) (State.isArrayOf_alike K.hZ.alike A.2.1) A.2.2 (own_inb S hj) (own_at S H hj hv) (g := mkF m pc Ls (.int j :: .ref a :: rest)) rfl rfl (hb K.hby hd)) kk
theorem own_caload (K : own_K p l e R s m args below meth c bytes own nm mx ret Q G Z T L k n h) {a : Addr} {kA : ClassId} {z j : Int32} {vs : List Value} {dv : Value} {x : Int32} (V : Arv Z h a kA .char z vs dv) (hj : ¬ j < 0 ∧ j < z) (hv : vs.getD j.toNatClampNeg dv = .int x) (hd : decode bytes pc = .ok (.caload, 1)) (hp : pc + 1 = pc') (kk : G (T.setTop (mkF m pc' Ls (.int x :: rest)))) : G (T.setTop (mkF m pc Ls (.int j :: .ref a :: rest))) := by
  subst hp
  obtain ⟨cl, A, -, S, -, H, -⟩ := V
  exact K.cl _ _ (K.X.caload K.hx (j := j) (v := .int x) (by rw [K.eh]; exact A.1) (State.isArrayOf_alike K.hZ.alike A.2.1) A.2.2 (own_inb S hj) (own_at S H hj hv) (g := mkF m pc Ls (.int j :: .ref a :: rest)) rfl rfl (hb K.hby hd)) kk
theorem own_baload (K : own_K p l e R s m args below meth c bytes own nm mx ret Q G Z T L k n h) {a : Addr} {kA : ClassId} {z j : Int32} {vs : List Value} {dv : Value} {x : Int32} (V : Arv Z h a kA .byte z vs dv) (hj : ¬ j < 0 ∧ j < z) (hv : vs.getD j.toNatClampNeg dv = .int x) (hd : decode bytes pc = .ok (.baload, 1)) (hp : pc + 1 = pc') (kk : G (T.setTop (mkF m pc' Ls (.int x :: rest)))) : G (T.setTop (mkF m pc Ls (.int j :: .ref a :: rest))) := by
  subst hp
  obtain ⟨cl, A, -, S, -, H, -⟩ := V
  exact K.cl _ _ (K.X.baloadBytes K.hx (j := j) (v := .int x) (by rw [K.eh]; exact A.1) (State.isArrayOf_alike K.hZ.alike A.2.1) A.2.2 (own_inb S hj) (own_at S H hj hv) (g := mkF m pc Ls (.int j :: .ref a :: rest)) rfl rfl (hb K.hby hd)) kk
theorem own_laload (K : own_K p l e R s m args below meth c bytes own nm mx ret Q G Z T L k n h) {a : Addr} {kA : ClassId} {z j : Int32} {vs : List Value} {dv : Value} {x : Int64} (V : Arv Z h a kA .long z vs dv) (hj : ¬ j < 0 ∧ j < z) (hv : vs.getD j.toNatClampNeg dv = .long x) (hd : decode bytes pc = .ok (.laload, 1)) (hp : pc + 1 = pc') (kk : G (T.setTop (mkF m pc' Ls (.long x :: rest)))) : G (T.setTop (mkF m pc Ls (.int j :: .ref a :: rest))) := by
  subst hp
  obtain ⟨cl, A, -, S, -, H, -⟩ := V
  exact K.cl _ _ (K.X.laload K.hx (j := j) (v := .long x) (by rw [K.eh]; exact A.1) (State.isArrayOf_alike K.hZ.alike A.2.1) A.2.2 (own_inb S hj) (own_at S H hj hv) (g := mkF m pc Ls (.int j :: .ref a :: rest)) rfl rfl (hb K.hby hd)) kk
theorem own_aaload (K : own_K p l e R s m args below meth c bytes own nm mx ret Q G Z T L k n h) {a : Addr} {kA : ClassId} {ty : FieldType} {z j : Int32} {vs : List Value} {dv v : Value} (V : Arv Z h a kA ty z vs dv) (hty : ty.isReference = true) (hj : ¬ j < 0 ∧ j < z) (hv : vs.getD j.toNatClampNeg dv = v) (hr : v.isRef = true) (hd : decode bytes pc = .ok (.aaload, 1)) (hp : pc + 1 = pc') (kk : G (T.setTop (mkF m pc' Ls (v :: rest)))) : G (T.setTop (mkF m pc Ls (.int j :: .ref a :: rest))) := by
  subst hp
  obtain ⟨cl, A, -, S, -, H, -⟩ := V
  exact K.cl _ _ (K.X.aaload K.hx (j := j) (v := v) (by rw [K.eh]; exact A.1) (State.isArrayOf_alike K.hZ.alike A.2.1) hty A.2.2 (own_inb S hj) (own_at S H hj hv) (g := mkF m pc Ls (.int j :: .ref a :: rest)) rfl rfl (hb K.hby hd)) kk
theorem own_arraylength (K : own_K p l e R s m args below meth c bytes own nm mx ret Q G Z T L k n h) {a : Addr} {kA : ClassId} {ty : FieldType} {z : Int32} {vs : List Value} {dv : Value} (V : Arv Z h a kA ty z vs dv) (hd : decode bytes pc = .ok (.arraylength, 1)) (hp : pc + 1 = pc') (kk : G (T.setTop (mkF m pc' Ls (.int z :: rest)))) : G (T.setTop (mkF m pc Ls (.ref a :: rest))) := by
  subst hp
  obtain ⟨cl, A, -, S, hz, H, -⟩ := V
  refine K.cl _ _ (K.X.arraylength K.hx (by rw [K.eh]; exact A.1) (State.isArrayOf_alike K.hZ.alike A.2.1) (g := mkF m pc Ls (.ref a :: rest)) rfl rfl (hb K.hby hd)) ?_
  rw [len_of S hz]; exact kk
theorem own_castore (K : own_K p l e R s m args below meth c bytes own nm mx ret Q G Z T L k n h) {a : Addr} {kA : ClassId} {z j x x' : Int32} {vs : List Value} {dv : Value} (V : Arv Z h a kA .char z vs dv) (hj : ¬ j < 0 ∧ j < z) (i : Nat) (hi : j.toNatClampNeg = i) (hl : i < vs.length) (hx' : nar .char x = x') (ha : Z.heap.size ≤ a) (hd : decode bytes pc = .ok (.castore, 1)) (hp : pc + 1 = pc')
    (kk : ∀ T' h', own_K p l e R s m args below meth c bytes own nm mx ret Q G Z T' (L ++ [⟨a, i⟩]) k n h' → Wr h h' a i (.int x') → Arv Z h' a kA .char z (vs.set i (.int x')) dv → G (T'.setTop (mkF m pc' Ls rest))) : G (T.setTop (mkF m pc Ls (.int x :: .int j :: .ref a :: rest))) := by
  subst hp hx' hi
  obtain ⟨cl, A, q1, S, hz, H, Gf⟩ := V
  obtain ⟨T', h', X', e', W', st'⟩ := stC K.X K.hx K.hZ K.eh A (j := j) (own_inb S hj) (g := mkF m pc Ls (.int x :: .int j :: .ref a :: rest)) rfl rfl (hb K.hby hd)
  exact K.cl _ _ st' (kk T' h' (K.nx X' e' (Fr.snoc X' K.fr ha) (own_ext_wr K.O W' ha)) W' (Arv.set A q1 S hz H Gf (fits_nar_char _) W' _ rfl hl))
theorem own_bastore (K : own_K p l e R s m args below meth c bytes own nm mx ret Q G Z T L k n h) {a : Addr} {kA : ClassId} {z j x x' : Int32} {vs : List Value} {dv : Value} (V : Arv Z h a kA .byte z vs dv) (hj : ¬ j < 0 ∧ j < z) (i : Nat) (hi : j.toNatClampNeg = i) (hl : i < vs.length) (hx' : nar .byte x = x') (ha : Z.heap.size ≤ a) (hd : decode bytes pc = .ok (.bastore, 1)) (hp : pc + 1 = pc')
    (kk : ∀ T' h', own_K p l e R s m args below meth c bytes own nm mx ret Q G Z T' (L ++ [⟨a, i⟩]) k n h' → Wr h h' a i (.int x') → Arv Z h' a kA .byte z (vs.set i (.int x')) dv → G (T'.setTop (mkF m pc' Ls rest))) : G (T.setTop (mkF m pc Ls (.int x :: .int j :: .ref a :: rest))) := by
  subst hp hx' hi
  obtain ⟨cl, A, q1, S, hz, H, Gf⟩ := V
  obtain ⟨T', h', X', e', W', st'⟩ := stB K.X K.hx K.hZ K.eh A (j := j) (own_inb S hj) (g := mkF m pc Ls (.int x :: .int j :: .ref a :: rest)) rfl rfl (hb K.hby hd)
  exact K.cl _ _ st' (kk T' h' (K.nx X' e' (Fr.snoc X' K.fr ha) (own_ext_wr K.O W' ha)) W' (Arv.set A q1 S hz H Gf (fits_nar_byte _) W' _ rfl hl))
theorem own_zastore (K : own_K p l e R s m args below meth c bytes own nm mx ret Q G Z T L k n h) {a : Addr} {kA : ClassId} {z j x x' : Int32} {vs : List Value} {dv : Value} (V : Arv Z h a kA .boolean z vs dv) (hj : ¬ j < 0 ∧ j < z) (i : Nat) (hi : j.toNatClampNeg = i) (hl : i < vs.length) (hx' : nar .boolean x = x') (ha : Z.heap.size ≤ a) (hd : decode bytes pc = .ok (.bastore, 1)) (hp : pc + 1 = pc')
    (kk : ∀ T' h', own_K p l e R s m args below meth c bytes own nm mx ret Q G Z T' (L ++ [⟨a, i⟩]) k n h' → Wr h h' a i (.int x') → Arv Z h' a kA .boolean z (vs.set i (.int x')) dv → G (T'.setTop (mkF m pc' Ls rest))) : G (T.setTop (mkF m pc Ls (.int x :: .int j :: .ref a :: rest))) := by
  subst hp hx' hi
  obtain ⟨cl, A, q1, S, hz, H, Gf⟩ := V
  obtain ⟨T', h', X', e', W', st'⟩ := stZ K.X K.hx K.hZ K.eh A (j := j) (own_inb S hj) (g := mkF m pc Ls (.int x :: .int j :: .ref a :: rest)) rfl rfl (hb K.hby hd)
  exact K.cl _ _ st' (kk T' h' (K.nx X' e' (Fr.snoc X' K.fr ha) (own_ext_wr K.O W' ha)) W' (Arv.set A q1 S hz H Gf (fits_nar_bool _) W' _ rfl hl))
theorem own_aastore (K : own_K p l e R s m args below meth c bytes own nm mx ret Q G Z T L k n h) {a : Addr} {kA : ClassId} {ty : FieldType} {z j : Int32} {v : Value} {vs : List Value} {dv : Value} (V : Arv Z h a kA ty z vs dv) (hty : ty.isReference = true) (hf : fits ty v = true) (F : Sto Z h a v) (hj : ¬ j < 0 ∧ j < z) (i : Nat) (hi : j.toNatClampNeg = i) (hl : i < vs.length) (ha : Z.heap.size ≤ a) (hd : decode bytes pc = .ok (.aastore, 1)) (hp : pc + 1 = pc')
    (kk : ∀ T' h', own_K p l e R s m args below meth c bytes own nm mx ret Q G Z T' (L ++ [⟨a, i⟩]) k n h' → Wr h h' a i v → Arv Z h' a kA ty z (vs.set i v) dv → G (T'.setTop (mkF m pc' Ls rest))) : G (T.setTop (mkF m pc Ls (v :: .int j :: .ref a :: rest))) := by
  subst hp hi
  obtain ⟨cl, A, q1, S, hz, H, Gf⟩ := V
  obtain ⟨T', h', X', e', W', st'⟩ := stR K.X K.hx K.hZ K.eh A (j := j) (own_inb S hj) hty F (g := mkF m pc Ls (v :: .int j :: .ref a :: rest)) rfl rfl (hb K.hby hd)
  exact K.cl _ _ st' (kk T' h' (K.nx X' e' (Fr.snoc X' K.fr ha) (own_ext_wr K.O W' ha)) W' (Arv.set A q1 S hz H Gf hf W' _ rfl hl))
theorem own_initO (K : own_K p l e R s m args below meth c bytes own nm mx ret Q G Z T L k n h) {idx : Nat} {a : Addr} {W : Nat} (w1 : (Cond.methodLink own idx Lib.objectInit).before a0 Z = true) (w2 : (Cond.instanceMethod Lib.objectInit).before a0 Z = true) (w3 : (Cond.code Lib.objectInit ⟨#[0xb1]⟩ 1 none).before a0 Z = true) (hsz : Ls.size = mx) (hW : (rest.map fun v => v.category).sum = W) (hf : 1 ≤ R.frames) (hl : W + 12 ≤ R.locals) (hd : decode bytes pc = .ok (.invokespecial idx, 3)) (hp : pc + 3 = pc')
    (kk : ∀ T', own_K p l e R s m args below meth c bytes own nm mx ret Q G Z T' L k n h → G (T'.setTop (mkF m pc' Ls rest))) : G (T.setTop (mkF m pc Ls (.ref a :: rest))) := by
  subst hp
  obtain ⟨T', X', e', st'⟩ := initO K.X K.hx K.hZ K.hown w1 w2 w3 K.eh (g := mkF m pc Ls (.ref a :: rest)) rfl (by rw [K.hml]; exact hsz) rfl (hb K.hby hd) hf (W := W) (by show 2 * 0 + _ ≤ _; rw [hW]; omega) hl
  exact K.cl _ _ st' (kk T' (K.nx X' e' K.fr K.O))
theorem own_callS (K : own_K p l e R s m args below meth c bytes own nm mx ret Q G Z T L k n h) {index W mx' : Nat} {y : MethodName} {bytes' : ByteArray} {ret' : Option FieldType} {rm : Room} {ps : List FieldType} {rr : Option FieldType} {Qc : Option Value → Heap → Prop} {argsL : List Value} (wl : (Cond.methodLink own index y).before a0 Z = true) (ws : (Cond.static y).before a0 Z = true) (C : own_Ct l Z y bytes' mx' ret' [] rm argsL.toArray h Qc) (hcd : (Cond.code y bytes' mx' ret').before a0 Z = true) (hin : (Cond.initialized (y).cls).before a0 Z = true) (hy : y.cls ≠ "java/lang/invoke/MethodHandle" ∧ y.cls ≠ "java/lang/invoke/VarHandle")  (hstk : st = (argsL.reverse ++ rest)) (hpd : parseMethodDescriptor y.desc = some ⟨ps, rr⟩) (hal : argsL.length = ps.length) (hsz : Ls.size = mx) (hW : (rest.map fun v => v.category).sum = W) (hrf : rm.frames + 1 ≤ R.frames) (hrl : W + (mx' + 11) + rm.locals ≤ R.locals) (hrc : k + rm.cells ≤ R.cells) (hrs : n + rm.slots ≤ R.slots) (hd : decode bytes pc = .ok (.invokestatic index, 3)) (hp : pc + 3 = pc')
    (kk : ∀ T' h' L' v, own_K p l e R s m args below meth c bytes own nm mx ret Q G Z T' (L ++ L') (k + rm.cells) (n + rm.slots) h' → Qc v h' → G (T'.setTop (mkF m pc' Ls (v.toList ++ rest)))) : G (T.setTop (mkF m pc Ls st)) := by
  subst hp hstk
  obtain ⟨v, _, ⟨T', L1, k1, n1⟩, -, X', ⟨L', hQ, l1, l2, l3⟩, st'⟩ := Jvm.LawKit.callS K.X K.hx (y := y) K.hown (mvT K.hZ wl) (mvT K.hZ ws) (mvT K.hZ hin) (mvT K.hZ hcd) hy (backOf (W := W) (Q := fun v h L => Fr Z.heap.size L ∧ Ext Z.heap h ∧ Qc v h) C K.hZ hcd hin hrf hrl) (g := mkF m pc Ls (argsL.reverse ++ rest)) rfl (by rw [K.hml]; exact hsz) (argsL := argsL) (rest := rest) (fun sig q => by rw [hpd] at q; cases q; exact hal) rfl (by show 2 * 0 + _ ≤ _; rw [hW]; omega) (hb K.hby hd) (fun _ _ => ⟨rfl, K.eh, hrc, hrs⟩)
  dsimp only [Pt.U, Pt.locs, Pt.cells, Pt.slots] at X' l1 l2 l3 st' hQ
  subst l1 l2 l3
  obtain ⟨hN, hO, hq⟩ := hQ
  exact K.cl _ _ (fun t q => st' t q) (kk T' T'.heap L' v (K.nx X' rfl (Fr.app K.fr hN) hO) hq)
theorem own_callI (K : own_K p l e R s m args below meth c bytes own nm mx ret Q G Z T L k n h) {index W mx' : Nat} {y : MethodName} {bytes' : ByteArray} {rm : Room} {ps : List FieldType} {rr : Option FieldType} {Qc : Option Value → Heap → Prop} {argsL : List Value} {a : Addr} (wl : (Cond.methodLink own index y).before a0 Z = true) (wi : (Cond.instanceMethod y).before a0 Z = true) (C : own_Ct l Z y bytes' mx' none [] rm (.ref a :: argsL).toArray h Qc) (hcd : (Cond.code y bytes' mx' none).before a0 Z = true) (hin : (Cond.initialized (y).cls).before a0 Z = true) (hy : y.cls ≠ "java/lang/invoke/MethodHandle" ∧ y.cls ≠ "java/lang/invoke/VarHandle") (hy1 : y.name = "<init>")  (hstk : st = (argsL.reverse ++ .ref a :: rest)) (hpd : parseMethodDescriptor y.desc = some ⟨ps, rr⟩) (hal : argsL.length = ps.length) (hsz : Ls.size = mx) (hW : (rest.map fun v => v.category).sum = W) (hrf : rm.frames + 1 ≤ R.frames) (hrl : W + (mx' + 11) + rm.locals ≤ R.locals) (hrc : k + rm.cells ≤ R.cells) (hrs : n + rm.slots ≤ R.slots) (hd : decode bytes pc = .ok (.invokespecial index, 3)) (hp : pc + 3 = pc')
    (kk : ∀ T' h' L' v, own_K p l e R s m args below meth c bytes own nm mx ret Q G Z T' (L ++ L') (k + rm.cells) (n + rm.slots) h' → Qc v h' → G (T'.setTop (mkF m pc' Ls (v.toList ++ rest)))) : G (T.setTop (mkF m pc Ls st)) := by
  subst hp hstk
  obtain ⟨v, _, ⟨T', L1, k1, n1⟩, -, X', ⟨L', hQ, l1, l2, l3⟩, st'⟩ := K.X.specialBack K.hx (y := y) hy1 K.hown (mvT K.hZ wl) (mvT K.hZ wi) (mvT K.hZ hcd) hy (backOf (W := W) (Q := fun v h L => Fr Z.heap.size L ∧ Ext Z.heap h ∧ Qc v h) C K.hZ hcd hin hrf hrl) (g := mkF m pc Ls (argsL.reverse ++ .ref a :: rest)) rfl (by rw [K.hml]; exact hsz) (Steps.refl _) (a := a) (argsL := argsL) (rest := rest) (fun sig q => by rw [hpd] at q; cases q; exact hal) rfl (by show 2 * 0 + _ ≤ _; rw [hW]; omega) (hb K.hby hd) (fun _ _ => ⟨rfl, K.eh, hrc, hrs⟩)
  dsimp only [Pt.U, Pt.locs, Pt.cells, Pt.slots] at X' l1 l2 l3 st' hQ
  subst l1 l2 l3
  obtain ⟨hN, hO, hq⟩ := hQ
  exact K.cl _ _ (fun t q => st'.trans q) (kk T' T'.heap L' v (K.nx X' rfl (Fr.app K.fr hN) hO) hq)
theorem own_callV (K : own_K p l e R s m args below meth c bytes own nm mx ret Q G Z T L k n h) {index W mx' : Nat} {y : MethodName} {bytes' : ByteArray} {ret' : Option FieldType} {rm : Room} {ps : List FieldType} {rr : Option FieldType} {Qc : Option Value → Heap → Prop} {argsL : List Value} {a : Addr} {Cc : String} {x0 : MethodName} (wl : (Cond.methodLink own index x0).before a0 Z = true) (wd : (Cond.declares x0).before a0 Z = true) (hnf : ∀ {s : State}, Z.Warmed39 s.vm → NotFace s x0) (wsel : (Cond.selects Cc x0 y).before a0 Z = true) (wi : (Cond.instanceMethod y).before a0 Z = true) (C : own_Ct l Z y bytes' mx' ret' [] rm (.ref a :: argsL).toArray h Qc) (hcd : (Cond.code y bytes' mx' ret').before a0 Z = true) (hin : (Cond.initialized (y).cls).before a0 Z = true) (hy : x0.cls ≠ "java/lang/invoke/MethodHandle" ∧ x0.cls ≠ "java/lang/invoke/VarHandle") (E : Exa Z h a Cc)  (hstk : st = (argsL.reverse ++ .ref a :: rest)) (hpd : parseMethodDescriptor x0.desc = some ⟨ps, rr⟩) (hal : argsL.length = ps.length) (hsz : Ls.size = mx) (hW : (rest.map fun v => v.category).sum = W) (hrf : rm.frames + 1 ≤ R.frames) (hrl : W + (mx' + 11) + rm.locals ≤ R.locals) (hrc : k + rm.cells ≤ R.cells) (hrs : n + rm.slots ≤ R.slots) (hd : decode bytes pc = .ok (.invokevirtual index, 3)) (hp : pc + 3 = pc')
    (kk : ∀ T' h' L' v, own_K p l e R s m args below meth c bytes own nm mx ret Q G Z T' (L ++ L') (k + rm.cells) (n + rm.slots) h' → Qc v h' → G (T'.setTop (mkF m pc' Ls (v.toList ++ rest)))) : G (T.setTop (mkF m pc Ls st)) := by
  subst hp hstk
  obtain ⟨v, _, ⟨T', L1, k1, n1⟩, -, X', ⟨L', hQ, l1, l2, l3⟩, st'⟩ := (isOf K.hZ K.eh E).elim fun cB q => q.elim fun kB q => K.X.virtualBack K.hx (y := x0) (z := y) K.hown (mvT K.hZ wl) (mvT K.hZ wd) (hnf K.hZ) (mvT K.hZ wsel) (mvT K.hZ wi) hy (backOf (W := W) (Q := fun v h L => Fr Z.heap.size L ∧ Ext Z.heap h ∧ Qc v h) C K.hZ hcd hin hrf hrl) q.1 q.2.2 (g := mkF m pc Ls (argsL.reverse ++ .ref a :: rest)) rfl (by rw [K.hml]; exact hsz) (Steps.refl _) (argsL := argsL) (rest := rest) (fun sig q => by rw [hpd] at q; cases q; exact hal) rfl (by show 2 * 0 + _ ≤ _; rw [hW]; omega) (hb K.hby hd) (fun _ _ => ⟨rfl, K.eh, hrc, hrs⟩)
  dsimp only [Pt.U, Pt.locs, Pt.cells, Pt.slots] at X' l1 l2 l3 st' hQ
  subst l1 l2 l3
  obtain ⟨hN, hO, hq⟩ := hQ
  exact K.cl _ _ (fun t q => st'.trans q) (kk T' T'.heap L' v (K.nx X' rfl (Fr.app K.fr hN) hO) hq)
theorem own_callVU (K : own_K p l e R s m args below meth c bytes own nm mx ret Q G Z T L k n h) {index W mx' : Nat} {y : MethodName} {bytes' : ByteArray} {ret' : Option FieldType} {rm : Room} {ps : List FieldType} {rr : Option FieldType} {Qc : Option Value → Heap → Prop} {argsL : List Value} {a : Addr} {Cc owner : String} {x0 : MethodName} (wl : (Cond.methodLink own index x0).before a0 Z = true) (wsm : (Cond.sameMethod x0.cls owner x0.name x0.desc).before a0 Z = true) (wd : (Cond.declares ⟨owner, x0.name, x0.desc⟩).before a0 Z = true) (wsel : (Cond.selects Cc x0 y).before a0 Z = true) (wi : (Cond.instanceMethod y).before a0 Z = true) (C : own_Ct l Z y bytes' mx' ret' [] rm (.ref a :: argsL).toArray h Qc) (hcd : (Cond.code y bytes' mx' ret').before a0 Z = true) (hin : (Cond.initialized (y).cls).before a0 Z = true) (hy : owner ≠ "java/lang/invoke/MethodHandle" ∧ owner ≠ "java/lang/invoke/VarHandle") (E : Exa Z h a Cc)  (hstk : st = (argsL.reverse ++ .ref a :: rest)) (hpd : parseMethodDescriptor x0.desc = some ⟨ps, rr⟩) (hal : argsL.length = ps.length) (hsz : Ls.size = mx) (hW : (rest.map fun v => v.category).sum = W) (hrf : rm.frames + 1 ≤ R.frames) (hrl : W + (mx' + 11) + rm.locals ≤ R.locals) (hrc : k + rm.cells ≤ R.cells) (hrs : n + rm.slots ≤ R.slots) (hd : decode bytes pc = .ok (.invokevirtual index, 3)) (hp : pc + 3 = pc')
    (kk : ∀ T' h' L' v, own_K p l e R s m args below meth c bytes own nm mx ret Q G Z T' (L ++ L') (k + rm.cells) (n + rm.slots) h' → Qc v h' → G (T'.setTop (mkF m pc' Ls (v.toList ++ rest)))) : G (T.setTop (mkF m pc Ls st)) := by
  subst hp hstk
  obtain ⟨v, _, ⟨T', L1, k1, n1⟩, -, X', ⟨L', hQ, l1, l2, l3⟩, st'⟩ := (isOf K.hZ K.eh E).elim fun cB q => q.elim fun kB q => K.X.virtualBackUp K.hx (x := x0) (y := y) K.hown (mvT K.hZ wl) (mvT K.hZ wsm) (mvT K.hZ wd) hy (mvT K.hZ wsel) (mvT K.hZ wi) (backOf (W := W) (Q := fun v h L => Fr Z.heap.size L ∧ Ext Z.heap h ∧ Qc v h) C K.hZ hcd hin hrf hrl) q.1 q.2.2 (g := mkF m pc Ls (argsL.reverse ++ .ref a :: rest)) rfl (by rw [K.hml]; exact hsz) (Steps.refl _) (argsL := argsL) (rest := rest) (fun sig q => by rw [hpd] at q; cases q; exact hal) rfl (by show 2 * 0 + _ ≤ _; rw [hW]; omega) (hb K.hby hd) (fun _ _ => ⟨rfl, K.eh, hrc, hrs⟩)
  dsimp only [Pt.U, Pt.locs, Pt.cells, Pt.slots] at X' l1 l2 l3 st' hQ
  subst l1 l2 l3
  obtain ⟨hN, hO, hq⟩ := hQ
  exact K.cl _ _ (fun t q => st'.trans q) (kk T' T'.heap L' v (K.nx X' rfl (Fr.app K.fr hN) hO) hq)
theorem own_callF (K : own_K p l e R s m args below meth c bytes own nm mx ret Q G Z T L k n h) {index W mx' : Nat} {y : MethodName} {bytes' : ByteArray} {ret' : Option FieldType} {rm : Room} {ps : List FieldType} {rr : Option FieldType} {Qc : Option Value → Heap → Prop} {argsL : List Value} {cnt : Nat} {a : Addr} {Cc : String} {x0 : MethodName} (wl : (Cond.methodLink own index x0).before a0 Z = true) (wd : (Cond.declares x0).before a0 Z = true) (wf : ∀ {s : State} {args : Array Value}, Z.Warmed39 s.vm → (Cond.interfaceMethod x0.cls x0.cls x0.name x0.desc).before args s = true) (wsel : (Cond.selects Cc x0 y).before a0 Z = true) (wi : (Cond.instanceMethod y).before a0 Z = true) (wp : (Cond.publicMethod y).before a0 Z = true) (wu : (Cond.unhidden Cc x0.name x0.desc).before a0 Z = true) (wc : (Cond.castable Cc x0.cls).before a0 Z = true) (C : own_Ct l Z y bytes' mx' ret' [] rm (.ref a :: argsL).toArray h Qc) (hcd : (Cond.code y bytes' mx' ret').before a0 Z = true) (hin : (Cond.initialized (y).cls).before a0 Z = true) (hy : x0.cls ≠ "java/lang/invoke/MethodHandle" ∧ x0.cls ≠ "java/lang/invoke/VarHandle") (E : Exa Z h a Cc)  (hstk : st = (argsL.reverse ++ .ref a :: rest)) (hpd : parseMethodDescriptor x0.desc = some ⟨ps, rr⟩) (hal : argsL.length = ps.length) (hsz : Ls.size = mx) (hW : (rest.map fun v => v.category).sum = W) (hrf : rm.frames + 1 ≤ R.frames) (hrl : W + (mx' + 11) + rm.locals ≤ R.locals) (hrc : k + rm.cells ≤ R.cells) (hrs : n + rm.slots ≤ R.slots) (hd : decode bytes pc = .ok (.invokeinterface index cnt, 5)) (hp : pc + 5 = pc')
    (kk : ∀ T' h' L' v, own_K p l e R s m args below meth c bytes own nm mx ret Q G Z T' (L ++ L') (k + rm.cells) (n + rm.slots) h' → Qc v h' → G (T'.setTop (mkF m pc' Ls (v.toList ++ rest)))) : G (T.setTop (mkF m pc Ls st)) := by
  subst hp hstk
  obtain ⟨v, _, ⟨T', L1, k1, n1⟩, -, X', ⟨L', hQ, l1, l2, l3⟩, st'⟩ := (isOf K.hZ K.eh E).elim fun cB q => q.elim fun kB q => K.X.interfaceBack K.hx (xi := x0) (y := y) K.hown (mvT K.hZ wl) (mvT K.hZ wd) (wf K.hZ) (mvT K.hZ wsel) (mvT K.hZ wi) (mvT K.hZ wp) (mvT K.hZ wu) (mvT K.hZ wc) hy (backOf (W := W) (Q := fun v h L => Fr Z.heap.size L ∧ Ext Z.heap h ∧ Qc v h) C K.hZ hcd hin hrf hrl) q.1 q.2.1 q.2.2 (g := mkF m pc Ls (argsL.reverse ++ .ref a :: rest)) rfl (by rw [K.hml]; exact hsz) (Steps.refl _) (argsL := argsL) (rest := rest) (fun sig q => by rw [hpd] at q; cases q; exact hal) rfl (by show 2 * 0 + _ ≤ _; rw [hW]; omega) (hb K.hby hd) (fun _ _ => ⟨rfl, K.eh, hrc, hrs⟩)
  dsimp only [Pt.U, Pt.locs, Pt.cells, Pt.slots] at X' l1 l2 l3 st' hQ
  subst l1 l2 l3
  obtain ⟨hN, hO, hq⟩ := hQ
  exact K.cl _ _ (fun t q => st'.trans q) (kk T' T'.heap L' v (K.nx X' rfl (Fr.app K.fr hN) hO) hq)
theorem own_callP (K : own_K p l e R s m args below meth c bytes own nm mx ret Q G Z T L k n h) {index W mx' : Nat} {y : MethodName} {bytes' : ByteArray} {ret' : Option FieldType} {rm : Room} {ps : List FieldType} {rr : Option FieldType} {Qc : Option Value → Heap → Prop} {argsL : List Value} {a : Addr} {Cc : String} (wl : (Cond.methodLink own index y).before a0 Z = true) (wi : (Cond.instanceMethod y).before a0 Z = true) (wsel : (Cond.selects y.cls y y).before a0 Z = true) (wp : (Cond.privateMethod y).before a0 Z = true) (C : own_Ct l Z y bytes' mx' ret' [] rm (.ref a :: argsL).toArray h Qc) (hcd : (Cond.code y bytes' mx' ret').before a0 Z = true) (hin : (Cond.initialized (y).cls).before a0 Z = true) (hy : y.cls ≠ "java/lang/invoke/MethodHandle" ∧ y.cls ≠ "java/lang/invoke/VarHandle") (E : Exa Z h a Cc)  (hstk : st = (argsL.reverse ++ .ref a :: rest)) (hpd : parseMethodDescriptor y.desc = some ⟨ps, rr⟩) (hal : argsL.length = ps.length) (hsz : Ls.size = mx) (hW : (rest.map fun v => v.category).sum = W) (hrf : rm.frames + 1 ≤ R.frames) (hrl : W + (mx' + 11) + rm.locals ≤ R.locals) (hrc : k + rm.cells ≤ R.cells) (hrs : n + rm.slots ≤ R.slots) (hd : decode bytes pc = .ok (.invokevirtual index, 3)) (hp : pc + 3 = pc')
    (kk : ∀ T' h' L' v, own_K p l e R s m args below meth c bytes own nm mx ret Q G Z T' (L ++ L') (k + rm.cells) (n + rm.slots) h' → Qc v h' → G (T'.setTop (mkF m pc' Ls (v.toList ++ rest)))) : G (T.setTop (mkF m pc Ls st)) := by
  subst hp hstk
  obtain ⟨v, _, ⟨T', L1, k1, n1⟩, -, X', ⟨L', hQ, l1, l2, l3⟩, st'⟩ := E.cell.elim fun cq q => K.X.privateBack K.hx (y := y) K.hown (mvT K.hZ wl) (mvT K.hZ wi) (mvT K.hZ wsel) (Cond.privateMethod_at (mvP K.hZ wp (args := #[]))) (mvT K.hZ hcd) hy (backOf (W := W) (Q := fun v h L => Fr Z.heap.size L ∧ Ext Z.heap h ∧ Qc v h) C K.hZ hcd hin hrf hrl) (g := mkF m pc Ls (argsL.reverse ++ .ref a :: rest)) rfl (by rw [K.hml]; exact hsz) (Steps.refl _) (a := a) (by rw [K.eh]; exact q.1) q.2 (argsL := argsL) (rest := rest) (fun sig q => by rw [hpd] at q; cases q; exact hal) rfl (by show 2 * 0 + _ ≤ _; rw [hW]; omega) (hb K.hby hd) (fun _ _ => ⟨rfl, K.eh, hrc, hrs⟩)
  dsimp only [Pt.U, Pt.locs, Pt.cells, Pt.slots] at X' l1 l2 l3 st' hQ
  subst l1 l2 l3
  obtain ⟨hN, hO, hq⟩ := hQ
  exact K.cl _ _ (fun t q => st'.trans q) (kk T' T'.heap L' v (K.nx X' rfl (Fr.app K.fr hN) hO) hq)
theorem own_callSup (K : own_K p l e R s m args below meth c bytes own nm mx ret Q G Z T L k n h) {index W mx' : Nat} {y : MethodName} {bytes' : ByteArray} {ret' : Option FieldType} {rm : Room} {ps : List FieldType} {rr : Option FieldType} {Qc : Option Value → Heap → Prop} {argsL : List Value} {a : Addr} {Cc : String} (wl : (Cond.methodLink own index y).before a0 Z = true) (wsm : (Cond.sameMethod y.cls y.cls y.name y.desc).before a0 Z = true) (wi : (Cond.instanceMethod y).before a0 Z = true) (wsup : (Cond.superclass own y.cls).before a0 Z = true) (C : own_Ct l Z y bytes' mx' ret' [] rm (.ref a :: argsL).toArray h Qc) (hcd : (Cond.code y bytes' mx' ret').before a0 Z = true) (hin : (Cond.initialized (y).cls).before a0 Z = true) (hy : y.name ≠ "<init>") (E : Exa Z h a Cc)  (hstk : st = (argsL.reverse ++ .ref a :: rest)) (hpd : parseMethodDescriptor y.desc = some ⟨ps, rr⟩) (hal : argsL.length = ps.length) (hsz : Ls.size = mx) (hW : (rest.map fun v => v.category).sum = W) (hrf : rm.frames + 1 ≤ R.frames) (hrl : W + (mx' + 11) + rm.locals ≤ R.locals) (hrc : k + rm.cells ≤ R.cells) (hrs : n + rm.slots ≤ R.slots) (hd : decode bytes pc = .ok (.invokespecial index, 3)) (hp : pc + 3 = pc')
    (kk : ∀ T' h' L' v, own_K p l e R s m args below meth c bytes own nm mx ret Q G Z T' (L ++ L') (k + rm.cells) (n + rm.slots) h' → Qc v h' → G (T'.setTop (mkF m pc' Ls (v.toList ++ rest)))) : G (T.setTop (mkF m pc Ls st)) := by
  subst hp hstk
  obtain ⟨v, _, ⟨T', L1, k1, n1⟩, -, X', ⟨L', hQ, l1, l2, l3⟩, st'⟩ := RoadKit.superBack K.X K.hx K.hZ (y := y) K.hown wl wsm wi wsup hy (backOf (W := W) (Q := fun v h L => Fr Z.heap.size L ∧ Ext Z.heap h ∧ Qc v h) C K.hZ hcd hin hrf hrl) K.eh (Ins.self E) (g := mkF m pc Ls (argsL.reverse ++ .ref a :: rest)) rfl (by rw [K.hml]; exact hsz) hcd (argsL := argsL) (rest := rest) (fun sig q => by rw [hpd] at q; cases q; exact hal) rfl (by show 2 * 0 + _ ≤ _; rw [hW]; omega) (hb K.hby hd) (fun _ _ => ⟨rfl, K.eh, hrc, hrs⟩)
  dsimp only [Pt.U, Pt.locs, Pt.cells, Pt.slots] at X' l1 l2 l3 st' hQ
  subst l1 l2 l3
  obtain ⟨hN, hO, hq⟩ := hQ
  exact K.cl _ _ (fun t q => st'.trans q) (kk T' T'.heap L' v (K.nx X' rfl (Fr.app K.fr hN) hO) hq)
theorem own_callSK (K : own_K p l e R s m args below meth c bytes own nm mx ret Q G Z T L k n h) {index W mx' : Nat} {y : MethodName} {bytes' : ByteArray} {ret' : Option FieldType} {rm : Room} {ps : List FieldType} {rr : Option FieldType} {Qc : Option Value → Heap → Prop} {argsL : List Value} (hkn : s.vm.MethodsKnown ∧ s.vm.FramesKnown below) (wl : (Cond.methodLink own index y).before a0 Z = true) (ws : (Cond.static y).before a0 Z = true) (C : own_CtK l Z y bytes' mx' ret' [] rm argsL.toArray h Qc) (hcd : (Cond.code y bytes' mx' ret').before a0 Z = true) (hin : (Cond.initialized (y).cls).before a0 Z = true) (hy : y.cls ≠ "java/lang/invoke/MethodHandle" ∧ y.cls ≠ "java/lang/invoke/VarHandle")  (hstk : st = (argsL.reverse ++ rest)) (hpd : parseMethodDescriptor y.desc = some ⟨ps, rr⟩) (hal : argsL.length = ps.length) (hsz : Ls.size = mx) (hW : (rest.map fun v => v.category).sum = W) (hrf : rm.frames + 1 ≤ R.frames) (hrl : W + (mx' + 11) + rm.locals ≤ R.locals) (hrc : k + rm.cells ≤ R.cells) (hrs : n + rm.slots ≤ R.slots) (hd : decode bytes pc = .ok (.invokestatic index, 3)) (hp : pc + 3 = pc')
    (kk : ∀ T' h' L' v, own_K p l e R s m args below meth c bytes own nm mx ret Q G Z T' (L ++ L') (k + rm.cells) (n + rm.slots) h' → Qc v h' → G (T'.setTop (mkF m pc' Ls (v.toList ++ rest)))) : G (T.setTop (mkF m pc Ls st)) := by
  subst hp hstk
  obtain ⟨v, _, ⟨T', L1, k1, n1⟩, -, X', ⟨L', hQ, l1, l2, l3⟩, st'⟩ := Jvm.LawKit.callS K.X K.hx (y := y) K.hown (mvT K.hZ wl) (mvT K.hZ ws) (mvT K.hZ hin) (mvT K.hZ hcd) hy (backOfKL (W := W) (Q := fun v h L => Fr Z.heap.size L ∧ Ext Z.heap h ∧ Qc v h) C K.hZ hcd hin hrf hrl hkn.1 hkn.2) (g := mkF m pc Ls (argsL.reverse ++ rest)) rfl (by rw [K.hml]; exact hsz) (argsL := argsL) (rest := rest) (fun sig q => by rw [hpd] at q; cases q; exact hal) rfl (by show 2 * 0 + _ ≤ _; rw [hW]; omega) (hb K.hby hd) (fun _ _ => ⟨rfl, K.eh, hrc, hrs⟩)
  dsimp only [Pt.U, Pt.locs, Pt.cells, Pt.slots] at X' l1 l2 l3 st' hQ
  subst l1 l2 l3
  obtain ⟨hN, hO, hq⟩ := hQ
  exact K.cl _ _ (fun t q => st' t q) (kk T' T'.heap L' v (K.nx X' rfl (Fr.app K.fr hN) hO) hq)
theorem own_callIK (K : own_K p l e R s m args below meth c bytes own nm mx ret Q G Z T L k n h) {index W mx' : Nat} {y : MethodName} {bytes' : ByteArray} {rm : Room} {ps : List FieldType} {rr : Option FieldType} {Qc : Option Value → Heap → Prop} {argsL : List Value} (hkn : s.vm.MethodsKnown ∧ s.vm.FramesKnown below) {a : Addr} (wl : (Cond.methodLink own index y).before a0 Z = true) (wi : (Cond.instanceMethod y).before a0 Z = true) (C : own_CtK l Z y bytes' mx' none [] rm (.ref a :: argsL).toArray h Qc) (hcd : (Cond.code y bytes' mx' none).before a0 Z = true) (hin : (Cond.initialized (y).cls).before a0 Z = true) (hy : y.cls ≠ "java/lang/invoke/MethodHandle" ∧ y.cls ≠ "java/lang/invoke/VarHandle") (hy1 : y.name = "<init>")  (hstk : st = (argsL.reverse ++ .ref a :: rest)) (hpd : parseMethodDescriptor y.desc = some ⟨ps, rr⟩) (hal : argsL.length = ps.length) (hsz : Ls.size = mx) (hW : (rest.map fun v => v.category).sum = W) (hrf : rm.frames + 1 ≤ R.frames) (hrl : W + (mx' + 11) + rm.locals ≤ R.locals) (hrc : k + rm.cells ≤ R.cells) (hrs : n + rm.slots ≤ R.slots) (hd : decode bytes pc = .ok (.invokespecial index, 3)) (hp : pc + 3 = pc')
    (kk : ∀ T' h' L' v, own_K p l e R s m args below meth c bytes own nm mx ret Q G Z T' (L ++ L') (k + rm.cells) (n + rm.slots) h' → Qc v h' → G (T'.setTop (mkF m pc' Ls (v.toList ++ rest)))) : G (T.setTop (mkF m pc Ls st)) := by
  subst hp hstk
  obtain ⟨v, _, ⟨T', L1, k1, n1⟩, -, X', ⟨L', hQ, l1, l2, l3⟩, st'⟩ := K.X.specialBack K.hx (y := y) hy1 K.hown (mvT K.hZ wl) (mvT K.hZ wi) (mvT K.hZ hcd) hy (backOfKL (W := W) (Q := fun v h L => Fr Z.heap.size L ∧ Ext Z.heap h ∧ Qc v h) C K.hZ hcd hin hrf hrl hkn.1 hkn.2) (g := mkF m pc Ls (argsL.reverse ++ .ref a :: rest)) rfl (by rw [K.hml]; exact hsz) (Steps.refl _) (a := a) (argsL := argsL) (rest := rest) (fun sig q => by rw [hpd] at q; cases q; exact hal) rfl (by show 2 * 0 + _ ≤ _; rw [hW]; omega) (hb K.hby hd) (fun _ _ => ⟨rfl, K.eh, hrc, hrs⟩)
  dsimp only [Pt.U, Pt.locs, Pt.cells, Pt.slots] at X' l1 l2 l3 st' hQ
  subst l1 l2 l3
  obtain ⟨hN, hO, hq⟩ := hQ
  exact K.cl _ _ (fun t q => st'.trans q) (kk T' T'.heap L' v (K.nx X' rfl (Fr.app K.fr hN) hO) hq)
theorem own_excL1 (K : own_K p l e R s m args below meth c bytes own nm mx ret Q G Z T L k n h) (hkn : s.vm.MethodsKnown ∧ s.vm.FramesKnown below) (hl : l.stackTraces = true) {rc : String} {links : List Jvm.Free.Exc.Link} {ic j W : Nat} {a : Addr} {msg : Value} (hok : Jvm.Free.Exc.linksOk 1 links = true) (w1 : (Cond.methodLink own ic (Jvm.Free.Exc.ctor 1 (Jvm.Free.Exc.headName links))).before a0 Z = true) (w2 : (Cond.instanceMethod (Jvm.Free.Exc.ctor 1 (Jvm.Free.Exc.headName links))).before a0 Z = true) (wT : (Jvm.Free.Exc.chainTab 1 rc links).before a0 Z = true) (wi : (Cond.instantiable rc j).before a0 Z = true) (r : ∀ d ∈ twoRefs, d.before a0 Z = true) (hT0 : ThS Z s.heap) (E : Exa Z h a rc) (N : Unt h a) (B : Fld Z h a "java/lang/Throwable" "backtrace" "Ljava/lang/Object;" .null) (B2 : Fld Z h a "java/lang/Throwable" "detailMessage" "Ljava/lang/String;" .null) (hmsg : msg.isRef = true) (ha : Z.heap.size ≤ a) (hsz : Ls.size = mx) (hW : (rest.map fun v => v.category).sum = W) (hf : 4 + links.length ≤ R.frames) (hlo : W + (56 + 14 * links.length) ≤ R.locals) (hc : k + 1 ≤ R.cells) (hsl : n + 2752 ≤ R.slots) (hd : decode bytes pc = .ok (.invokespecial ic, 3)) (hp : pc + 3 = pc')
    (kk : ∀ T' h', own_K p l e R s m args below meth c bytes own nm mx ret Q G Z T' (L ++ sixLocs Z a) (k + 1) (n + 2752) h' → Kp Z h h' a → Exa Z h' a rc → Unt h' a → Fld Z h' a "java/lang/Throwable" "detailMessage" "Ljava/lang/String;" msg → G (T'.setTop (mkF m pc' Ls rest))) : G (T.setTop (mkF m pc Ls (msg :: .ref a :: rest))) := by
  subst hp
  obtain ⟨T', h', X', e', Kp', E', U', F', -, -, st'⟩ := excL1 K.X K.hx hl K.hZ K.hown (links := links) hok w1 w2 wT wi r hT0 (ThS.start.ext K.O) hkn.1 hkn.2 K.eh E N B B2 hmsg (g := mkF m pc Ls (msg :: .ref a :: rest)) rfl (by rw [K.hml]; exact hsz) (rest := rest) rfl (hb K.hby hd) hf (by show 2 * 0 + _ + _ ≤ _; rw [hW]; omega) hc hsl
  exact K.cl _ _ st' (kk T' h' (K.nx X' e' (Fr.six K.fr ha) (own_ext_keep K.O (keep_of_kp Kp') (fun x hx => by cases List.mem_singleton.mp hx; exact ha))) Kp' E' U' F')
theorem own_retI (K : own_K p l e R s m args below meth c bytes own nm mx ret Q G Z T L k n h) {z : Int32} (hd : decode bytes pc = .ok (.ireturn, 1)) (hr : ret = some .int) (hc : k ≤ R.cells) (hn : n ≤ R.slots) (hq : Q (some (.int z)) h) : G (T.setTop (mkF m pc Ls (.int z :: rest))) :=
  K.fin T L k n (some (.int z)) _ K.X K.fr (by rw [K.eh]; exact K.O) hc hn (fun q => by rw [K.hret, hr] at q; cases q) (by rw [K.eh]; exact hq) (fun fs hfs => retOut K.X K.hx (K.hret.trans hr) rfl (Or.inl ⟨rfl, Or.inl rfl, _, rfl⟩) (hb K.hby hd) hfs)
theorem own_retJ (K : own_K p l e R s m args below meth c bytes own nm mx ret Q G Z T L k n h) {z : Int64} (hd : decode bytes pc = .ok (.lreturn, 1)) (hr : ret = some .long) (hc : k ≤ R.cells) (hn : n ≤ R.slots) (hq : Q (some (.long z)) h) : G (T.setTop (mkF m pc Ls (.long z :: rest))) :=
  K.fin T L k n (some (.long z)) _ K.X K.fr (by rw [K.eh]; exact K.O) hc hn (fun q => by rw [K.hret, hr] at q; cases q) (by rw [K.eh]; exact hq) (fun fs hfs => retOut K.X K.hx (K.hret.trans hr) rfl (Or.inr (Or.inl ⟨rfl, rfl, _, rfl⟩)) (hb K.hby hd) hfs)
theorem own_retA (K : own_K p l e R s m args below meth c bytes own nm mx ret Q G Z T L k n h) {w : Value} {t : FieldType} (hd : decode bytes pc = .ok (.areturn, 1)) (hr : ret = some t) (ht : t.isReference = true) (hw : w.isRef = true) (hnw : narrow t w = w) (hc : k ≤ R.cells) (hn : n ≤ R.slots) (hq : Q (some (w)) h) : G (T.setTop (mkF m pc Ls (w :: rest))) :=
  K.fin T L k n (some (w)) _ K.X K.fr (by rw [K.eh]; exact K.O) hc hn (fun q => by rw [K.hret, hr] at q; cases q) (by rw [K.eh]; exact hq) (fun fs hfs => retOut K.X K.hx (K.hret.trans hr) hnw (Or.inr (Or.inr (Or.inr (Or.inr ⟨rfl, ht, hw⟩)))) (hb K.hby hd) hfs)
theorem own_retN (K : own_K p l e R s m args below meth c bytes own nm mx ret Q G Z T L k n h) {z z' : Int32} {t : FieldType} (hd : decode bytes pc = .ok (.ireturn, 1)) (hr : ret = some t) (ht : t = .boolean ∨ t = .byte ∨ t = .char ∨ t = .short) (hz : nar t z = z') (hc : k ≤ R.cells) (hn : n ≤ R.slots) (hq : Q (some (.int z')) h) : G (T.setTop (mkF m pc Ls (.int z :: rest))) := by
  subst hz
  exact K.fin T L k n (some (.int (nar t z))) _ K.X K.fr (by rw [K.eh]; exact K.O) hc hn (fun q => by rw [K.hret, hr] at q; cases q) (by rw [K.eh]; exact hq) (fun fs hfs => retN K.X K.hx (K.hret.trans hr) ht (hb K.hby hd) hfs)
theorem own_ret0 (K : own_K p l e R s m args below meth c bytes own nm mx ret Q G Z T L k n h) (hd : decode bytes pc = .ok (.return_, 1)) (hr : ret = none) (hc : k ≤ R.cells) (hn : n ≤ R.slots) (hq : Q none h) : G (T.setTop (mkF m pc Ls [])) :=
  K.fin T L k n none _ K.X K.fr (by rw [K.eh]; exact K.O) hc hn (fun _ => rfl) (by rw [K.eh]; exact hq) (fun fs hfs => K.X.returnOut K.hx (K.hret.trans hr) (hb K.hby hd) hfs)
end Own
section OwnNum
theorem own_lt {i n : Nat} (h : i < n) (hn : n < 2147483648) : Int32.ofNat i < Int32.ofNat n := by
  rw [Int32.lt_iff_toInt_lt, Int32.toInt_ofNat_of_lt (by omega), Int32.toInt_ofNat_of_lt (by omega)]
  omega
theorem own_nlt {i n : Nat} (h : n ≤ i) (hn : i < 2147483648) : ¬ Int32.ofNat i < Int32.ofNat n := by
  rw [Int32.lt_iff_toInt_lt, Int32.toInt_ofNat_of_lt (by omega), Int32.toInt_ofNat_of_lt (by omega)]
  omega
theorem own_nn {i : Nat} (h : i < 2147483648) : ¬ Int32.ofNat i < 0 := by
  rw [Int32.lt_iff_toInt_lt, Int32.toInt_ofNat_of_lt (by omega)]
  show ¬ (i : Int) < 0
  omega
theorem own_clamp {i : Nat} (h : i < 2147483648) : (Int32.ofNat i).toNatClampNeg = i := by
  rw [Int32.toNatClampNeg, Int32.toInt_ofNat_of_lt (by omega)]; rfl
theorem own_one (i : Nat) : Int32.ofNat i + (1 : Int32) = Int32.ofNat (i + 1) := (Int32.ofNat_add i 1).symm
theorem own_ofNat_inj {i n : Nat} (hi : i < 2147483648) (hn : n < 2147483648) (h : Int32.ofNat i = Int32.ofNat n) : i = n := by
  have := congrArg Int32.toInt h
  rw [Int32.toInt_ofNat_of_lt (by omega), Int32.toInt_ofNat_of_lt (by omega)] at this; omega
theorem own_i2c255 (x : Int32) : ¬ (x &&& (255 : Int32)).toUInt32.toUInt16.toUInt32.toInt32 < 0 ∧ (x &&& (255 : Int32)).toUInt32.toUInt16.toUInt32.toInt32 < 256 := by
  have h1 := c_mask x 255 8 (by decide) (by decide)
  have h2 := c_i2c (x &&& 255)
  rw [Int32.lt_iff_toInt_lt, Int32.lt_iff_toInt_lt]
  rw [show (0 : Int32).toInt = 0 from rfl, show (256 : Int32).toInt = 256 from rfl]
  omega
theorem own_nar_char {x : Int32} (h : ¬ x < 0 ∧ x < 65536) : nar .char x = x := by
  have h2 := c_i2c x
  rw [Int32.lt_iff_toInt_lt, Int32.lt_iff_toInt_lt, show (0 : Int32).toInt = 0 from rfl, show (65536 : Int32).toInt = 65536 from rfl] at h
  apply Int32.toInt_inj.mp
  show (x.toUInt32.toUInt16.toUInt32.toInt32).toInt = _
  omega
theorem own_lt_trans {x a b : Int32} (h : x < a) (h2 : a ≤ b) : x < b := by
  rw [Int32.lt_iff_toInt_lt] at *; rw [Int32.le_iff_toInt_le] at h2; omega
theorem own_nar_char8 {x : Int32} (h : ¬ x < 0 ∧ x < 256) : nar .char x = x := own_nar_char ⟨h.1, own_lt_trans h.2 (by decide)⟩
theorem own_n255 {x : Int32} (h : ¬ x < 0 ∧ x < 256) : ¬ (255 : Int32) < x := by
  obtain ⟨h1, h2⟩ := h
  rw [Int32.lt_iff_toInt_lt] at *; rw [show (256 : Int32).toInt = 256 from rfl] at h2; rw [show (255 : Int32).toInt = 255 from rfl]; omega
theorem own_nar_byte (x : Int32) : nar .byte x.toInt8.toInt32 = x.toInt8.toInt32 := by
  show (x.toInt8.toInt32).toInt8.toInt32 = _
  simp
theorem own_shr0 (x : Int32) : x >>> ((0 : Int32) &&& 31) = x := by
  have := c_ishr x 0 0 (by decide)
  apply Int32.toInt_inj.mp
  rw [this]; simp
end OwnNum
section OwnStr
/-- the bytes that a Latin-1 String keeps of its chars -/
def own_by (cs : List Int32) : List Value := cs.map fun c => Value.int c.toInt8.toInt32
theorem own_by_len (cs : List Int32) : (own_by cs).length = cs.length := by simp [own_by]
/-- a String of these chars, none above 255 -/
def own_Str (Z : State) (h : Heap) (a : Addr) (cs : List Int32) : Prop := Exa Z h a "java/lang/String" ∧ Fld Z h a "java/lang/String" "coder" "B" (.int 0) ∧ ∃ (b : Addr) (kb : ClassId), Fld Z h a "java/lang/String" "value" "[B" (.ref b) ∧ Arv Z h b kb .byte (Int32.ofNat cs.length) (own_by cs) (.int 0)
variable {Z : State} {h h' : Heap} {a : Addr} {cs : List Int32}
theorem own_Str.ext (S : own_Str Z h a cs) (E : Ext h h') : own_Str Z h' a cs := by
  obtain ⟨h1, h2, b, kb, h3, h4⟩ := S
  exact ⟨h1.ext E, h2.ext E, b, kb, h3.ext E, h4.ext E⟩
theorem own_Str.exa (S : own_Str Z h a cs) : Exa Z h a "java/lang/String" := S.1
theorem own_fill {cs : List Int32} {i : Nat} (hi : i < cs.length) : ((own_by (cs.take i)) ++ List.replicate (cs.length - i) (Value.int 0)).set i (.int (cs[i]).toInt8.toInt32) = (own_by (cs.take (i + 1))) ++ List.replicate (cs.length - (i + 1)) (Value.int 0) := by
  have hl : (own_by (cs.take i)).length = i := by rw [own_by_len, List.length_take]; omega
  rw [List.set_append_right _ _ (by omega), hl, Nat.sub_self, show cs.length - i = (cs.length - (i + 1)) + 1 by omega, List.replicate_succ, List.set_cons_zero]
  have e : own_by (cs.take (i + 1)) = own_by (cs.take i) ++ [.int (cs[i]).toInt8.toInt32] := by
    unfold own_by; rw [List.map_take, List.map_take, List.take_add_one, List.getElem?_map, List.getElem?_eq_getElem hi]; rfl
  rw [e, List.append_assoc, List.singleton_append]
end OwnStr
section OwnNum3
theorem own_ch_lt {x : Int32} (h : ¬ x < 0 ∧ x < 65536) : 0 ≤ x.toInt ∧ x.toInt < 65536 := by
  rw [Int32.lt_iff_toInt_lt, Int32.lt_iff_toInt_lt, show (0 : Int32).toInt = 0 from rfl, show (65536 : Int32).toInt = 65536 from rfl] at h; omega
theorem own_lo_lt {x : Int32} (h : ¬ x < 0 ∧ x < 256) : 0 ≤ x.toInt ∧ x.toInt < 256 := by
  rw [Int32.lt_iff_toInt_lt, Int32.lt_iff_toInt_lt, show (0 : Int32).toInt = 0 from rfl, show (256 : Int32).toInt = 256 from rfl] at h; omega
theorem own_lo_ch {x : Int32} (h : ¬ x < 0 ∧ x < 256) : ¬ x < 0 ∧ x < 65536 := ⟨h.1, own_lt_trans h.2 (by decide)⟩
theorem own_g255 {x : Int32} (h : ¬ x < 256) : (255 : Int32) < x := by
  rw [Int32.lt_iff_toInt_lt] at *; rw [show (256 : Int32).toInt = 256 from rfl] at h; rw [show (255 : Int32).toInt = 255 from rfl]; omega
/-- a Latin-1 byte, read -/
theorem own_rd1 {x : Int32} (h : ¬ x < 0 ∧ x < 256) : x.toInt8.toInt32 &&& 255 = x := by
  have h1 := c_mask x.toInt8.toInt32 255 8 (by decide) (by decide)
  have h2 := c_i2b x
  have h3 := own_lo_lt h
  apply Int32.toInt_inj.mp
  omega
theorem own_i2c_id {x : Int32} (h : ¬ x < 0 ∧ x < 65536) : x.toUInt32.toUInt16.toUInt32.toInt32 = x := by
  have h2 := c_i2c x
  have h3 := own_ch_lt h
  apply Int32.toInt_inj.mp
  omega
/-- the two bytes of a char -/
def own_b0 (x : Int32) : Int32 := (x >>> ((0 : Int32) &&& 31)).toInt8.toInt32
def own_b1 (x : Int32) : Int32 := (x >>> ((8 : Int32) &&& 31)).toInt8.toInt32
theorem own_rd2 {x : Int32} (h : ¬ x < 0 ∧ x < 65536) : nar .char (((own_b0 x &&& 255) <<< ((0 : Int32) &&& 31)) ||| ((own_b1 x &&& 255) <<< ((8 : Int32) &&& 31))).toUInt32.toUInt16.toUInt32.toInt32 = x := by
  have h3 := own_ch_lt h
  have a1 := c_ishr x 0 0 (by decide)
  have a2 := c_ishr x 8 8 (by decide)
  have b1 := c_i2b (x >>> ((0 : Int32) &&& 31))
  have b2 := c_i2b (x >>> ((8 : Int32) &&& 31))
  have m1 := c_mask (own_b0 x) 255 8 (by decide) (by decide)
  have m2 := c_mask (own_b1 x) 255 8 (by decide) (by decide)
  have s1 := c_ishl (own_b0 x &&& 255) 0 0 (by decide)
  have s2 := c_ishl (own_b1 x &&& 255) 8 8 (by decide)
  have r1 : ∀ y : Int32, -2147483648 ≤ y.toInt ∧ y.toInt < 2147483648 := fun y => ⟨Int32.le_toInt y, Int32.toInt_lt y⟩
  have r2 := r1 ((own_b0 x &&& 255) <<< ((0 : Int32) &&& 31))
  have r3 := r1 ((own_b1 x &&& 255) <<< ((8 : Int32) &&& 31))
  have e0 : own_b0 x = (x >>> ((0 : Int32) &&& 31)).toInt8.toInt32 := rfl
  have e1 : own_b1 x = (x >>> ((8 : Int32) &&& 31)).toInt8.toInt32 := rfl
  rw [← e0] at b1; rw [← e1] at b2
  have o := c_or' ((own_b0 x &&& 255) <<< ((0 : Int32) &&& 31)) ((own_b1 x &&& 255) <<< ((8 : Int32) &&& 31)) 8 (by decide) 256 rfl (by omega) (by omega) (by omega)
  generalize ((own_b0 x &&& 255) <<< ((0 : Int32) &&& 31)) ||| ((own_b1 x &&& 255) <<< ((8 : Int32) &&& 31)) = y at o
  have q := c_i2c y
  have r4 := r1 y
  have q2 := c_i2c y.toUInt32.toUInt16.toUInt32.toInt32
  apply Int32.toInt_inj.mp
  show (y.toUInt32.toUInt16.toUInt32.toInt32.toUInt32.toUInt16.toUInt32.toInt32).toInt = _
  omega
theorem own_nar_b0 (x : Int32) : nar .byte (own_b0 x) = own_b0 x := own_nar_byte _
theorem own_nar_b1 (x : Int32) : nar .byte (own_b1 x) = own_b1 x := own_nar_byte _
theorem own_shl1 {i : Nat} (h : i < 1073741824) : Int32.ofNat i <<< ((1 : Int32) &&& 31) = Int32.ofNat (2 * i) := by
  have := c_ishl (Int32.ofNat i) 1 1 (by decide)
  have r1 : ∀ y : Int32, -2147483648 ≤ y.toInt ∧ y.toInt < 2147483648 := fun y => ⟨Int32.le_toInt y, Int32.toInt_lt y⟩
  have r := r1 (Int32.ofNat i <<< ((1 : Int32) &&& 31))
  rw [Int32.toInt_ofNat_of_lt (by omega)] at this
  apply Int32.toInt_inj.mp
  rw [Int32.toInt_ofNat_of_lt (by omega)]
  omega
theorem own_shl0 (x : Int32) : x <<< ((0 : Int32) &&& 31) = x := by
  have := c_ishl x 0 0 (by decide)
  have r1 : ∀ y : Int32, -2147483648 ≤ y.toInt ∧ y.toInt < 2147483648 := fun y => ⟨Int32.le_toInt y, Int32.toInt_lt y⟩
  have r := r1 (x <<< ((0 : Int32) &&& 31))
  have r2 := r1 x
  apply Int32.toInt_inj.mp
  omega
theorem own_shr1 {i : Nat} (h : i < 1073741824) : Int32.ofNat (2 * i) >>> ((1 : Int32) &&& 31) = Int32.ofNat i := by
  have := c_ishr (Int32.ofNat (2 * i)) 1 1 (by decide)
  rw [Int32.toInt_ofNat_of_lt (by omega)] at this
  apply Int32.toInt_inj.mp
  rw [Int32.toInt_ofNat_of_lt (by omega)]
  omega
theorem own_addN (i j : Nat) : Int32.ofNat i + Int32.ofNat j = Int32.ofNat (i + j) := (Int32.ofNat_add i j).symm
theorem own_subN {i j : Nat} (h : j ≤ i) : Int32.ofNat i - Int32.ofNat j = Int32.ofNat (i - j) := by
  obtain ⟨k, rfl⟩ := Nat.exists_eq_add_of_le h
  rw [← own_addN, Nat.add_sub_cancel_left, Int32.add_comm, Int32.add_sub_cancel]
theorem own_orNN {i j : Nat} (hi : i < 2147483648) (hj : j < 2147483648) : ¬ (Int32.ofNat i ||| Int32.ofNat j) < 0 := by
  have := (c_orS (Int32.ofNat i) (Int32.ofNat j)).1
  rw [Int32.toInt_ofNat_of_lt (by omega), Int32.toInt_ofNat_of_lt (by omega)] at this
  rw [Int32.lt_iff_toInt_lt, show (0 : Int32).toInt = 0 from rfl]
  omega
theorem own_orNN3 {i j k : Nat} (hi : i < 2147483648) (hj : j < 2147483648) (hk : k < 2147483648) : ¬ (Int32.ofNat i ||| Int32.ofNat j ||| Int32.ofNat k) < 0 := by
  have h1 := own_orNN hi hj
  have := (c_orS (Int32.ofNat i ||| Int32.ofNat j) (Int32.ofNat k)).1
  rw [Int32.lt_iff_toInt_lt, show (0 : Int32).toInt = 0 from rfl] at h1
  rw [Int32.toInt_ofNat_of_lt (by omega)] at this
  rw [Int32.lt_iff_toInt_lt, show (0 : Int32).toInt = 0 from rfl]
  omega
theorem own_ne0 {i : Nat} (h : 0 < i) (hn : i < 2147483648) : ¬ Int32.ofNat i = 0 := fun q => by have := own_ofNat_inj hn (by decide : 0 < 2147483648) q; omega
end OwnNum3
section OwnStr3
/-- the bytes of a UTF-16 String's chars -/
def own_by2 : List Int32 → List Value
  | [] => []
  | c :: cs => .int (own_b0 c) :: .int (own_b1 c) :: own_by2 cs
theorem own_by2_len : ∀ cs : List Int32, (own_by2 cs).length = 2 * cs.length
  | [] => rfl
  | c :: cs => by simp only [own_by2, List.length_cons, own_by2_len cs]; omega
theorem own_by2_app : ∀ cs ds : List Int32, own_by2 (cs ++ ds) = own_by2 cs ++ own_by2 ds
  | [], ds => rfl
  | c :: cs, ds => by simp only [own_by2, List.cons_append, own_by2_app cs ds]
theorem own_by_app (cs ds : List Int32) : own_by (cs ++ ds) = own_by cs ++ own_by ds := by simp [own_by]
theorem own_by2_get : ∀ (cs : List Int32) (i : Nat) (h : i < cs.length), (own_by2 cs).getD (2 * i) (.int 0) = .int (own_b0 cs[i]) ∧ (own_by2 cs).getD (2 * i + 1) (.int 0) = .int (own_b1 cs[i])
  | c :: cs, 0, _ => ⟨rfl, rfl⟩
  | c :: cs, i + 1, h => by
    have := own_by2_get cs i (by simpa using h)
    rw [show 2 * (i + 1) = (2 * i) + 1 + 1 by omega]
    exact this
theorem own_by_get (cs : List Int32) (i : Nat) (h : i < cs.length) : (own_by cs).getD i (.int 0) = .int (cs[i]).toInt8.toInt32 := by
  simp [own_by, h]
/-- coder, bytes and how many, by whether the String is UTF-16 -/
def own_cd (u : Bool) : Int32 := cond u 1 0
def own_bs (u : Bool) (cs : List Int32) : List Value := cond u (own_by2 cs) (own_by cs)
def own_bn (u : Bool) (n : Nat) : Nat := cond u (2 * n) n
theorem own_bs_len (u : Bool) (cs : List Int32) : (own_bs u cs).length = own_bn u cs.length := by cases u; exact own_by_len cs; exact own_by2_len cs
theorem own_bs_app (u : Bool) (cs ds : List Int32) : own_bs u (cs ++ ds) = own_bs u cs ++ own_bs u ds := by cases u; exact own_by_app cs ds; exact own_by2_app cs ds
theorem own_bn_le (u : Bool) {n m : Nat} (h : n ≤ m) : own_bn u n ≤ own_bn u m := by cases u <;> simp only [own_bn, cond] <;> omega
theorem own_bn_2 (u : Bool) (n : Nat) : own_bn u n ≤ 2 * n := by cases u <;> simp only [own_bn, cond] <;> omega
/-- each is a char; no char of a Latin-1 one is above 255 -/
def own_ok (u : Bool) (cs : List Int32) : Prop := ∀ c ∈ cs, ¬ c < 0 ∧ c < cond u 65536 256
/-- a String of these chars -/
def own_StrG (Z : State) (h : Heap) (a : Addr) (u : Bool) (cs : List Int32) : Prop := Exa Z h a "java/lang/String" ∧ Fld Z h a "java/lang/String" "coder" "B" (.int (own_cd u)) ∧ ∃ (b : Addr) (kb : ClassId), Fld Z h a "java/lang/String" "value" "[B" (.ref b) ∧ Arv Z h b kb .byte (Int32.ofNat (own_bn u cs.length)) (own_bs u cs) (.int 0)
variable {Z : State} {h h' : Heap} {a : Addr} {cs : List Int32} {u : Bool}
theorem own_StrG.ext (S : own_StrG Z h a u cs) (E : Ext h h') : own_StrG Z h' a u cs := by
  obtain ⟨h1, h2, b, kb, h3, h4⟩ := S
  exact ⟨h1.ext E, h2.ext E, b, kb, h3.ext E, h4.ext E⟩
theorem own_StrG.exa (S : own_StrG Z h a u cs) : Exa Z h a "java/lang/String" := S.1
theorem own_set_end (vs : List Value) (x d : Value) : (vs ++ List.replicate 1 d).set vs.length x = vs ++ [x] := by
  rw [List.set_append_right _ _ (Nat.le_refl _), Nat.sub_self]; rfl
theorem own_set_end2 (vs : List Value) (x y d : Value) : ((vs ++ List.replicate 2 d).set vs.length x).set (vs.length + 1) y = vs ++ [x, y] := by
  rw [List.set_append_right _ _ (Nat.le_refl _), Nat.sub_self, List.set_append_right _ _ (by omega), Nat.add_sub_cancel_left]; rfl
end OwnStr3
section OwnStep3
theorem own_nfS {args : Array Value} {s : State} {C : String} {y1 y2 y : MethodName} (hsel : (Cond.selects C y1 y2).before args s = true) (hc : y2.cls = y.cls) : NotFace s y := fun r0 h0 => by
  obtain ⟨c, r, m, -, -, q3, -, mk, q4, q5⟩ := Cond.selects_spec hsel
  have e1 := findClass_of_methodNamed q3
  have e2 := findClass_of_methodNamed h0
  rw [hc, e2] at e1
  rw [← Option.some.inj e1] at q4
  exact ⟨mk, q4, q5⟩
theorem own_sameSelf {args : Array Value} {s : State} {y : MethodName} (hi : (Cond.instanceMethod y).before args s = true) (hn : NotFace s y) (hx : y.cls ≠ "java/lang/invoke/MethodHandle" ∧ y.cls ≠ "java/lang/invoke/VarHandle") : (Cond.sameMethod y.cls y.cls y.name y.desc).before args s = true := by
  obtain ⟨mk, methM, hnamed, hmethM, -, -⟩ := Cond.instanceMethod_spec hi
  obtain ⟨kr, q1, q2⟩ := hn mk hnamed
  have hf := State.methodFound?_of_named hnamed hx
  have hc := findClass_of_methodNamed hnamed
  have hnamed' : s.methodNamed? ⟨y.cls, y.name, y.desc⟩ = some mk := hnamed
  simp [Cond.before, Cond.holds, Cond.value, hf, hc, hnamed', q1, q2]
theorem own_selfSel {args : Array Value} {s : State} {y : MethodName} (hi : (Cond.instanceMethod y).before args s = true) (hp : (Cond.privateMethod y).before args s = true) (hn : NotFace s y) (hx : y.cls ≠ "java/lang/invoke/MethodHandle" ∧ y.cls ≠ "java/lang/invoke/VarHandle") : (Cond.selects y.cls y y).before args s = true := by
  obtain ⟨mk, methM, hnamed, hmethM, -, -⟩ := Cond.instanceMethod_spec hi
  obtain ⟨kr, q1, q2⟩ := hn mk hnamed
  have hf := State.methodFound?_of_named hnamed hx
  have hc := findClass_of_methodNamed hnamed
  have hs : selectMethod {} s.vm mk.cls mk = .method mk := selectMethod_private hmethM (Cond.privateMethod_at hp mk methM hnamed hmethM)
  simp [Cond.before, Cond.holds, Cond.value, hf, hc, hnamed, q1, q2, hs]
variable {p : Program} {l : Launch} {e : Env} {R : Room} {s : State} {m : MethodId} {args : Array Value} {below : List Frame} {meth : Method} {c : Code} {bytes : ByteArray} {own nm : String} {mx : Nat} {ret : Option FieldType} {Q : Option Value → Heap → Prop} {G : State → Prop} {Z T T' : State} {L L' : List Loc} {k n k' n' : Nat} {h h' h1 h2 : Heap} {a0 : Array Value} {pc pc' : Nat} {Ls Ls' : Array Slot} {st rest : List Value}
theorem own_lookup (K : own_K p l e R s m args below meth c bytes own nm mx ret Q G Z T L k n h) {df off : Int} {ps : Array (Int × Int)} {ln : Nat} {i : Int32} (hd : decode bytes pc = .ok (.lookupswitch df ps, ln)) (hso : (ps.toList.zip ps.toList.tail).all (fun q => decide (q.1.1 < q.2.1)) = true) (ho : lookupswitch.offset ps.toList df i.toInt = off) (h0 : 0 ≤ (pc : Int) + off) (hp : ((pc : Int) + off).toNat = pc') (kk : G (T.setTop (mkF m pc' Ls rest))) : G (T.setTop (mkF m pc Ls (.int i :: rest))) := by
  subst hp ho
  refine K.cl _ _ (fun t q => ?_) kk
  have hh := K.here
  have hd' : decode c.code pc = .ok (.lookupswitch df ps, ln) := by rw [K.hby]; exact hd
  have hz : 0 ≤ ((mkF m pc Ls (.int i :: rest)).pc : Int) + lookupswitch.offset ps.toList df i.toInt := h0
  jvm_step hh [hh.top, K.hx, hd', lookupswitch.wp_chain, hz, mkF]
  exact ⟨fun a b a1 b1 hm => of_decide_eq_true (List.all_eq_true.mp hso _ hm), q⟩
theorem own_arraycopy (K : own_K p l e R s m args below meth c bytes own nm mx ret Q G Z T L k n h) {index W : Nat} (w1 : (Cond.methodLink own index Jvm.Stand.acN).before a0 Z = true) (w2 : (Cond.native Jvm.Stand.acN).before a0 Z = true) (w3 : (Cond.static Jvm.Stand.acN).before a0 Z = true) (w4 : (Cond.initialized "java/lang/System").before a0 Z = true)
    {a b : Addr} {ka kb : ClassId} {z z' : Int32} {vs vd us : List Value} {dv dd : Value} {sp dp nn : Nat} (A : Arv Z h a ka .byte z vs dv) (B : Arv Z h b kb .byte z' vd dd) (hsp : sp < 2147483648) (hdp : dp < 2147483648) (hnn : nn < 2147483648) (h4 : sp + nn ≤ z.toNatClampNeg) (h5 : dp + nn ≤ z'.toNatClampNeg) (hus : (List.range nn).map (fun i => vs.getD (sp + i) dv) = us) (hl : dp + nn ≤ vd.length) (gb : Z.heap.size ≤ b) (hsz : Ls.size = mx) (hW : (rest.map fun v => v.category).sum = W) (hf : 1 ≤ R.frames) (hlo : W + (nativeFrameWords "java/lang/System" "arraycopy" 5 + 11) ≤ R.locals) (hd : decode bytes pc = .ok (.invokestatic index, 3)) (hp : pc + 3 = pc')
    (kk : ∀ T' h' L', own_K p l e R s m args below meth c bytes own nm mx ret Q G Z T' L' k n h' → Keep h h' [b] → Arv Z h' b kb .byte z' (vd.take dp ++ us ++ vd.drop (dp + nn)) dd → G (T'.setTop (mkF m pc' Ls rest))) : G (T.setTop (mkF m pc Ls (.int (Int32.ofNat nn) :: .int (Int32.ofNat dp) :: .ref b :: .int (Int32.ofNat sp) :: .ref a :: rest))) := by
  subst hp hus
  obtain ⟨T', h', L', X', e', N', Kp, V, st'⟩ := cpA K.X K.hx K.hZ K.hown w1 w2 w3 w4 K.eh A B (sp := Int32.ofNat sp) (dp := Int32.ofNat dp) (nn := Int32.ofNat nn) (us := (List.range nn).map fun i => vs.getD (sp + i) dv) (Or.inl ⟨rfl, rfl⟩) (own_nn hsp) (own_nn hdp) (own_nn hnn) (by rw [own_clamp hsp, own_clamp hnn]; exact h4) (by rw [own_clamp hdp, own_clamp hnn]; exact h5) (by rw [own_clamp hsp, own_clamp hnn]) (by rw [own_clamp hdp, own_clamp hnn]; exact hl) K.fr gb (g := mkF m pc Ls (.int (Int32.ofNat nn) :: .int (Int32.ofNat dp) :: .ref b :: .int (Int32.ofNat sp) :: .ref a :: rest)) rfl (by rw [K.hml]; exact hsz) (rest := rest) rfl (hb K.hby hd) hf (W := W) (by show 2 * 0 + _ ≤ _; rw [hW]; omega) hlo
  rw [own_clamp hdp, own_clamp hnn] at V
  exact K.cl _ _ st' (kk T' h' L' (K.nx X' e' N' (own_ext_keep K.O Kp (fun x hx => by cases List.mem_singleton.mp hx; exact gb))) Kp V)
end OwnStep3
section OwnAc
theorem own_ext_of_keep' {h h1 : Heap} (E : Ext h h1) (ws : List Addr) : Keep h h1 ws := (Keep.refl h ws).ext E
theorem own_acw : nativeFrameWords "java/lang/System" "arraycopy" 5 + 11 ≤ 40 := by decide +kernel
end OwnAc
section OwnSta
theorem own_staR {a0 : Array Value} {Z : State} {C F D : String} (q : (Jvm.Cond.isRef (.static C F D)).before a0 Z = true) (w1 : (Cond.initializedFor C F D).before a0 Z = true) : ∃ u, Sta Z Z.heap C F D u ∧ u.isRef = true := by
  obtain ⟨u, e, r⟩ := isR_v (Cond.before_iff.mp q)
  exact ⟨u, Sta.start e (Or.inl w1), r⟩
theorem own_staI {a0 : Array Value} {Z : State} {C F D : String} {v : Int32} (q : (Jvm.Cond.eq (.static C F D) (.int v)).before a0 Z = true) (w1 : (Cond.initializedFor C F D).before a0 Z = true) : Sta Z Z.heap C F D (.int v) := by
  exact Sta.start (eqv_i (Term.int_eval v) (Cond.before_iff.mp q)) (Or.inl w1)
end OwnSta
section OwnClone
variable {p : Program} {l : Launch} {e : Env} {R : Room} {s : State} {m : MethodId} {args : Array Value} {below : List Frame} {meth : Method} {c : Code} {bytes : ByteArray} {own nm : String} {mx : Nat} {ret : Option FieldType} {Q : Option Value → Heap → Prop} {G : State → Prop} {Z T T' : State} {L L' : List Loc} {k n k' n' : Nat} {h h' h1 h2 : Heap} {a0 : Array Value} {pc pc' : Nat} {Ls Ls' : Array Slot} {st rest : List Value}
theorem own_newPB (K : own_K p l e R s m args below meth c bytes own nm mx ret Q G Z T L k n h) {z : Int32} {cap : Nat} (w : (Cond.arrayClass .byte).before a0 Z = true) (hd : decode bytes pc = .ok (.newarray .byte, 2)) (hz : ¬ z < 0) (hcap : z.toNatClampNeg ≤ cap) (hcb : cap * 8 ≤ 536870912) (hc : k + 1 ≤ R.cells) (hl : n + cap ≤ R.slots) (hp : pc + 2 = pc')
    (kk : ∀ T' h' (a : Addr) (cA : ClassId), own_K p l e R s m args below meth c bytes own nm mx ret Q G Z T' L (k + 1) (n + cap) h' → a = h.size → Ext h h' → Arv Z h' a cA .byte z [] (.int 0) → Exa Z h' a "[B" → G (T'.setTop (mkF m pc' Ls (.ref a :: rest)))) : G (T.setTop (mkF m pc Ls (.int z :: rest))) := by
  subst hp
  obtain ⟨T', h', cA, X', e', E', A', B', st'⟩ := newPE K.X K.hx K.hZ (aty := .byte) w K.eh (g := mkF m pc Ls (.int z :: rest)) rfl (hb K.hby hd) rfl hz hcap hcb hc hl (ad := "[B") (by decide)
  exact K.cl _ _ st' (kk T' h' h.size cA (K.nx X' e' K.fr (own_ext_trans K.O E')) rfl E' (Arv.new A' hz) B')
theorem own_clone (K : own_K p l e R s m args below meth c bytes own nm mx ret Q G Z T L k n h) {ad : String} {index W cap : Nat} {a : Addr} {kA : ClassId} {ty : FieldType} {z : Int32} {vs : List Value} {dv : Value}
    (w1 : (Cond.methodLink own index ⟨ad, "clone", "()Ljava/lang/Object;"⟩).before a0 Z = true) (w2 : (Cond.sameMethod ad "java/lang/Object" "clone" "()Ljava/lang/Object;").before a0 Z = true) (w3 : (Cond.native ⟨"java/lang/Object", "clone", "()Ljava/lang/Object;"⟩).before a0 Z = true)
    (w4 : (Cond.instanceMethod ⟨"java/lang/Object", "clone", "()Ljava/lang/Object;"⟩).before a0 Z = true) (w5 : (Cond.selects ad ⟨ad, "clone", "()Ljava/lang/Object;"⟩ ⟨"java/lang/Object", "clone", "()Ljava/lang/Object;"⟩).before a0 Z = true) (w6 : (Cond.castable ad "java/lang/Cloneable").before a0 Z = true)
    (V : Arv Z h a kA ty z vs dv) (E : Exa Z h a ad) (hsz : Ls.size = mx) (hW : (rest.map fun v => v.category).sum = W) (hf : 1 ≤ R.frames) (hlo : W + 14 ≤ R.locals) (hcap : z.toNatClampNeg ≤ cap) (hc : k + 1 ≤ R.cells) (hl : n + cap ≤ R.slots) (hd : decode bytes pc = .ok (.invokevirtual index, 3)) (hp : pc + 3 = pc')
    (kk : ∀ T' h' (b : Addr), own_K p l e R s m args below meth c bytes own nm mx ret Q G Z T' L (k + 1) (n + cap) h' → b = h.size → Ext h h' → Arv Z h' b kA ty z vs dv → Exa Z h' b ad → G (T'.setTop (mkF m pc' Ls (.ref b :: rest)))) : G (T.setTop (mkF m pc Ls (.ref a :: rest))) := by
  subst hp
  obtain ⟨cl, A, q1, S, q3, H, Gf⟩ := V
  have FC : FitC Z cl := fitC_of A fun i hi v hv => by rw [H i hi] at hv; cases hv; exact Gf i hi
  obtain ⟨T', h', X', e', E', A', B', st'⟩ := cloneA K.X K.hx K.hZ K.hown w1 w2 w3 w4 w5 w6 K.eh A E FC (g := mkF m pc Ls (.ref a :: rest)) rfl (by rw [K.hml]; exact hsz) rfl (hb K.hby hd) hf (W := W) (by show 2 * 0 + _ ≤ _; rw [hW]; omega) hlo (by rw [S]; exact hcap) hc hl
  exact K.cl _ _ st' (kk T' h' h.size (K.nx X' e' K.fr (own_ext_trans K.O E')) rfl E' ⟨cloneOf cl, A', q1, S, q3, H, Gf⟩ B')
end OwnClone
section OwnExc
open LibCode.Throwable
/-- the words on Throwable that the filling in of a stack trace asks; the fields as the class rc lays them -/
def own_thW (rc : String) : List Jvm.Cond :=
  [.native tFill0, .initialized tN, .superclass tN "java/lang/Object", .instanceMethod tFill, .codeSync tFill Fill.code 1 (some (.object tN)), .instanceMethod tFill0, .instanceMethod oInit, .code oInit ⟨#[0xb1]⟩ 1 none, .methodLink tN 1 oInit, .methodLink tN 27 tFill, .methodLink tN 202 tFill0,
   .fieldLink tN 7 tN "cause" "Ljava/lang/Throwable;", .fieldLink tN 17 tN "stackTrace" steD, .fieldLink tN 24 tN "suppressedExceptions" listD, .fieldLink tN 13 tN "UNASSIGNED_STACK" steD, .fieldLink tN 20 tN "SUPPRESSED_SENTINEL" listD, .fieldLink tN 198 tN "backtrace" "Ljava/lang/Object;",
   .laysStatic tN "UNASSIGNED_STACK" steD, .laysStatic tN "SUPPRESSED_SENTINEL" listD, .lays rc tN "cause" "Ljava/lang/Throwable;", .lays rc tN "stackTrace" steD, .lays rc tN "suppressedExceptions" listD, .lays rc tN "detailMessage" "Ljava/lang/String;", .lays rc tN "backtrace" "Ljava/lang/Object;", .lays rc tN "depth" "I",
   .declares tFill, .selects rc tFill0 tFill0, .selects rc tFill tFill, .arrayOver (.object "java/lang/Object"), .soleField tN "backtrace", .soleField tN "depth"]
theorem own_thOk {rc : String} : (own_thW rc).all xOk = true := rfl
theorem own_links {args : Array Value} {s : State} {pl : Platform} (h1 : pl.frameOwnsMonitors = true) (h2 : pl.finalization = false) (h3 : pl.magicAccessors = ({} : Platform).magicAccessors) {rc : String} (W : ∀ d ∈ own_thW rc, d.before args s = true) :
    ∃ T : ThrowableC, T.Links pl s ∧ s.vm.findClass tN = some T.cT ∧ s.methodNamed? tFill = some T.fill ∧ s.methodNamed? tFill0 = some T.fill0 ∧ s.fieldFound? tN "stackTrace" steD = some (T.cT, T.kT, T.i17, T.fStack) ∧ T.fStack.type = .array (.object "java/lang/StackTraceElement") ∧ s.fieldFound? tN "UNASSIGNED_STACK" steD = some (T.cT, T.kT, T.i13, T.fUnassigned) := by
  have w : ∀ d, d ∈ own_thW rc → d.holds args s none s [] = true := fun d hd => W d hd
  -- the class
  obtain ⟨⟨ct, j0⟩, me0, nn0, mm0, nat0, cod0, lok0, sig0⟩ := Cond.native_spec (w (.native tFill0) (by simp [own_thW]))
  have fc : s.vm.findClass tN = some ct := findClass_of_methodNamed nn0
  obtain ⟨kt, ck, knm⟩ := Vm.findClass_spec fc
  obtain ⟨_, _, _, _, ck', _, _, _, _, nif⟩ := Cond.superclass_spec fc (w (.superclass tN "java/lang/Object") (by simp [own_thW]))
  cases ck.symm.trans ck'
  have ini := Cond.initialized_spec fc ck (w (.initialized tN) (by simp [own_thW]))
  -- Object's constructor
  obtain ⟨mo, meo, nno, mmo, sto, abo⟩ := Cond.instanceMethod_spec (w (.instanceMethod oInit) (by simp [own_thW]))
  obtain ⟨_, co, mmo', coo, byo, _, _, lko, _, sgo⟩ := Cond.code_spec nno (w (.code oInit ⟨#[0xb1]⟩ 1 none) (by simp [own_thW]))
  cases mmo.symm.trans mmo'
  obtain ⟨ko, cko, nmko⟩ := Vm.findClass_spec (findClass_of_methodNamed nno)
  obtain ⟨nmo, dso⟩ := name_of_methodNamed nno mmo
  -- the two methods
  obtain ⟨jf, mef, nnf, mmf, atf, stf, abf, _, _⟩ := Cond.ownMethod (x := tFill) fc ck (w (.instanceMethod tFill) (by simp [own_thW]))
  obtain ⟨_, cf_, mmf', cof, byf, mlf, rtf, lkf, _, sgf⟩ := Cond.codeSync_spec nnf (w (.codeSync tFill Fill.code 1 (some (.object tN))) (by simp [own_thW]))
  cases mmf.symm.trans mmf'
  obtain ⟨_, _, nn0', mm0', at0, st0, ab0, nm0, ds0⟩ := Cond.ownMethod (x := tFill0) fc ck (w (.instanceMethod tFill0) (by simp [own_thW]))
  cases nn0.symm.trans nn0'
  cases mm0.symm.trans mm0'
  -- the pool
  obtain ⟨a1, b1, file, l1, r1, fi1, p1⟩ := Cond.linkedMethod fc ck nno (w (.methodLink tN 1 oInit) (by simp [own_thW])) pl h3
  obtain ⟨a27, b27, _, l27, r27, fi27, p27⟩ := Cond.linkedMethod fc ck nnf (w (.methodLink tN 27 tFill) (by simp [own_thW])) pl h3
  cases fi1.symm.trans fi27
  obtain ⟨a202, b202, _, l202, r202, fi202, p202⟩ := Cond.linkedMethod fc ck nn0 (w (.methodLink tN 202 tFill0) (by simp [own_thW])) pl h3
  cases fi1.symm.trans fi202
  -- the fields
  obtain ⟨a7, i7, f7, l7, r7, t7, s7, n7, m7, ty7, ff7⟩ := Cond.ownField (t := .object tN) fc ck (by decide +kernel) (w (.fieldLink tN 7 tN "cause" "Ljava/lang/Throwable;") (by simp [own_thW])) (w (.lays rc tN "cause" "Ljava/lang/Throwable;") (by simp [own_thW])) pl h3
  obtain ⟨a17, i17, f17, l17, r17, t17, s17, n17, m17, ty17, ff17⟩ := Cond.ownField (t := .array (.object "java/lang/StackTraceElement")) fc ck (by decide +kernel) (w (.fieldLink tN 17 tN "stackTrace" steD) (by simp [own_thW])) (w (.lays rc tN "stackTrace" steD) (by simp [own_thW])) pl h3
  obtain ⟨a24, i24, f24, l24, r24, t24, s24, n24, m24, ty24, ff24⟩ := Cond.ownField (t := .object "java/util/List") fc ck (by decide +kernel) (w (.fieldLink tN 24 tN "suppressedExceptions" listD) (by simp [own_thW])) (w (.lays rc tN "suppressedExceptions" listD) (by simp [own_thW])) pl h3
  obtain ⟨a13, i13, f13, sa, sc, l13, r13, t13, s13, _, _, hsta, _, _, _, _, ff13⟩ := Cond.ownStatic (t := .array (.object "java/lang/StackTraceElement")) fc ck (by decide +kernel) (w (.fieldLink tN 13 tN "UNASSIGNED_STACK" steD) (by simp [own_thW])) (w (.laysStatic tN "UNASSIGNED_STACK" steD) (by simp [own_thW])) pl h3
  obtain ⟨a20, i20, f20, _, _, l20, r20, t20, s20, _, _, _, _, _, _, _, ff20⟩ := Cond.ownStatic (t := .object "java/util/List") fc ck (by decide +kernel) (w (.fieldLink tN 20 tN "SUPPRESSED_SENTINEL" listD) (by simp [own_thW])) (w (.laysStatic tN "SUPPRESSED_SENTINEL" listD) (by simp [own_thW])) pl h3
  obtain ⟨cx, kx, _, _, _, fM, fcx, ckx, ffM, sM, nM, _⟩ := Cond.lays_spec (w (.lays rc tN "detailMessage" "Ljava/lang/String;") (by simp [own_thW]))
  obtain ⟨_, d17, e17, g17⟩ := Cond.laysAt fcx ckx ff17 (w (.lays rc tN "stackTrace" steD) (by simp [own_thW]))
  obtain ⟨_, d24, e24, g24⟩ := Cond.laysAt fcx ckx ff24 (w (.lays rc tN "suppressedExceptions" listD) (by simp [own_thW]))
  have apart := Cond.laysApart e17 e24 g17 g24 (by rw [m17, m24]; decide)
  have pf : mef.sig.parameters = [] := by
    have q : (parseMethodDescriptor tFill.desc).map (·.parameters) = some [] := by decide +kernel
    rw [sgf] at q; simpa using q
  have p0 : me0.sig.parameters = [.int] := by
    have q : (parseMethodDescriptor tFill0.desc).map (·.parameters) = some [.int] := by decide +kernel
    rw [sig0] at q; simpa using q
  have po : meo.sig.parameters.length = 0 := by
    have q : (parseMethodDescriptor oInit.desc).map (·.parameters.length) = some 0 := by decide +kernel
    rw [sgo] at q; simpa using q
  refine ⟨{ cT := ct, kT := kt, cO := ct, aS := sa, fillIdx := jf, fill0Idx := j0, initSIdx := jf, obj := mo, kObj := ko, methFill := mef, methFill0 := me0, methInitS := mef, methObj := meo, codeFill := cf_, codeInitS := cf_, codeObj := co, fBack := f7, fDepth := f7, fStack := f17, fCause := f7, fSupp := f24, fMsg := fM, fUnassigned := f13, fSentinel := f20, cfT := file, ci1 := a1, n1 := b1, ci27 := a27, n27 := b27, ci202 := a202, n202 := b202, ci7 := a7, i7 := i7, ci13 := a13, i13 := i13, ci17 := a17, i17 := i17, ci20 := a20, i20 := i20, ci24 := a24, i24 := i24 }, ?_, fc, nnf, nn0, ff17, ty17, ff13⟩
  constructor <;> first | assumption | exact Vm.findClass_boot fc ck | exact knm | (rw [dso]; exact lookupSpecial_of_named nno mmo sto)
variable {p : Program} {l : Launch} {e : Env} {R : Room} {s : State} {m : MethodId} {args : Array Value} {below : List Frame} {meth : Method} {c : Code} {bytes : ByteArray} {nm : String} {mx : Nat} {ret : Option FieldType} {Q : Option Value → Heap → Prop} {G : State → Prop} {Z T T' : State} {L L' : List Loc} {k n k' n' : Nat} {h h' h1 h2 : Heap} {a0 : Array Value} {pc pc' : Nat} {Ls Ls' : Array Slot} {st rest : List Value}
/-- what stood at Z stands: the walk's places lie above -/
theorem own_old (X : Stand p l e R s m args below meth c T L k n) (O0 : Ext Z.heap s.heap) (N : Fr Z.heap.size L) : Ext Z.heap T.heap := by
  have key : ∀ (a : Addr) (cl : Cell), Z.heap[a]? = some cl → T.heap[a]? = some cl := fun a cl hcl => by
    obtain ⟨c', q1, q2, -, q4⟩ := X.same.2.2.2.2.2 a cl (O0.2 a cl hcl)
    have hb := (Array.getElem?_eq_some_iff.mp hcl).1
    have hsl : c'.slots = cl.slots := Array.ext_getElem? fun i => q4 i fun hm => absurd (N _ hm) (Nat.not_le.mpr hb)
    have hcc : c' = cl := by rw [q2, hsl]
    rw [← hcc]; exact q1
  refine ⟨Nat.le_of_not_lt fun q => ?_, key⟩
  have := key T.heap.size _ (Array.getElem?_eq_getElem q)
  exact Nat.lt_irrefl _ (Array.getElem?_eq_some_iff.mp this).1
theorem own_ff (hZ : Z.Warmed39 s.vm) {C nf d : String} {c1 c2 i1 i2 : Nat} {k1 k2 : Class} {f1 f2 : Field} (q1 : Z.fieldFound? C nf d = some (c1, k1, i1, f1)) (q2 : s.fieldFound? C nf d = some (c2, k2, i2, f2)) : f1 = f2 := by
  obtain ⟨k', e1, -⟩ := State.fieldFound?_setVm hZ.alike q1
  have e2 : s.fieldFound? C nf d = some (c1, k', i1, f1) := e1
  have := q2.symm.trans e2
  simp only [Option.some.injEq, Prod.mk.injEq] at this
  exact this.2.2.2.symm
theorem own_slotOf (hZ : Z.Warmed39 s.vm) {C nf d : String} {c2 i2 : Nat} {k2 : Class} {f2 : Field} (q2 : s.fieldFound? C nf d = some (c2, k2, i2, f2)) : RoadKit.slotOf Z C nf d = f2.slot := by
  obtain ⟨k', q⟩ := ff_back hZ.alike q2
  simp [RoadKit.slotOf, q]
theorem own_fillIn (K : own_K p l e R s m args below meth c bytes "java/lang/Throwable" nm mx ret Q G Z T L k n h) (hkn : s.vm.MethodsKnown ∧ s.vm.FramesKnown below) (hl : l.stackTraces = true) (O0 : Ext Z.heap s.heap) {rc : String} {j : Nat} (wi : (Cond.instantiable rc j).before a0 Z = true) (W : ∀ d ∈ own_thW rc, d.before a0 Z = true) {a : Addr} {u : Value} (E : Exa Z h a rc) (U : Unt h a) (FS : Fld Z h a "java/lang/Throwable" "stackTrace" "[Ljava/lang/StackTraceElement;" u) (hu : u.isRef = true) (SU : Sta Z Z.heap "java/lang/Throwable" "UNASSIGNED_STACK" "[Ljava/lang/StackTraceElement;" u) (FB : Fld Z h a "java/lang/Throwable" "backtrace" "Ljava/lang/Object;" .null) (ha : Z.heap.size ≤ a) (hsz : Ls.size = mx) (hf : 3 ≤ R.frames) (hlo : 42 ≤ R.locals) (hc : k + 1 ≤ R.cells) (hs : n + 2752 ≤ R.slots) (hd : decode bytes pc = .ok (.invokevirtual 27, 3)) (hp : pc + 3 = pc')
    (kk : ∀ T' h' L', own_K p l e R s m args below meth c bytes "java/lang/Throwable" nm mx ret Q G Z T' (L ++ L') (k + 1) (n + 2752) h' → (∀ y ∈ L', ∃ nd ∈ Jvm.Free.Exc.sixNames, y = ⟨a, RoadKit.slotOf Z tN nd.1 nd.2⟩) → Exa Z h' a rc → (∀ {O nf d : String} {v : Value}, Fld Z h a O nf d v → RoadKit.slotOf Z O nf d ≠ RoadKit.slotOf Z tN "backtrace" "Ljava/lang/Object;" → RoadKit.slotOf Z O nf d ≠ RoadKit.slotOf Z tN "depth" "I" → RoadKit.slotOf Z O nf d ≠ RoadKit.slotOf Z tN "stackTrace" steD → Fld Z h' a O nf d v) → G (T'.setTop (mkF m pc' Ls [.ref a]))) : G (T.setTop (mkF m pc Ls [.ref a])) := by
  subst hp
  have hT0 : ThS Z s.heap := ThS.start.ext O0
  have Ws : ∀ d ∈ own_thW rc, d.before args s = true := fun d hd => mvX hT0 K.hZ (List.all_eq_true.mp own_thOk d hd) (W d hd)
  have w : ∀ d, d ∈ own_thW rc → d.holds args s none s [] = true := fun d hd => Ws d hd
  have pl1 : e.platform.frameOwnsMonitors = true := by rw [K.X.admits.platform]
  have pl2 : e.platform.finalization = false := by rw [K.X.admits.platform]
  have pl3 : e.platform.magicAccessors = ({} : Platform).magicAccessors := by rw [K.X.admits.platform]
  have htr : e.platform.stackTraces = true := by rw [K.X.admits.platform]; exact hl
  obtain ⟨Th, Lk, fc, nf, n0, ffS, tyS, ffU⟩ := own_links pl1 pl2 pl3 Ws
  -- the object's cell
  have E0 := E
  obtain ⟨cl, kX, hcl, hfc, hkX, hst, hszX⟩ := E
  obtain ⟨cl', u1, u2, u3⟩ := U
  cases hcl.symm.trans u1
  obtain ⟨cI, kI, hfI, hkI, hkindI, -⟩ := Cond.instantiable_spec wi
  cases hfc.symm.trans hfI
  cases hkX.symm.trans hkI
  obtain ⟨kX', hkX', ekX⟩ := K.hZ.alike.2.2 _ _ hkX
  have hord : kX'.kind = .ordinary := by rw [ekX]; exact hkindI
  have hsz' : cl.slots.size = kX'.instanceTypes.size := by rw [ekX]; exact hszX hkindI
  have hfound : s.vm.findClass rc = some cl.cls := by rw [K.hZ.alike.findClass]; exact hfc
  obtain ⟨cS, _, _, _, fS, g1, g2, _, _, _, _, g7⟩ := FS
  cases hcl.symm.trans g1
  cases own_ff K.hZ g2 ffS
  obtain ⟨cB, _, _, _, fB0, b1, b2, _, _, _, _, b7⟩ := FB
  cases hcl.symm.trans b1
  -- backtrace, depth
  obtain ⟨c198, i198, fB, k198, r198, t198, sB, _, nB, tyB, ffB⟩ := Cond.ownField (t := .object "java/lang/Object") fc Lk.cls (by decide +kernel) (w (.fieldLink tN 198 tN "backtrace" "Ljava/lang/Object;") (by simp [own_thW])) (w (.lays rc tN "backtrace" "Ljava/lang/Object;") (by simp [own_thW])) e.platform pl3
  cases own_ff K.hZ b2 ffB
  obtain ⟨_, _, cD, kD, iD, fD, _, _, ffD, sD, _, _, _, _⟩ := Cond.lays_spec (w (.lays rc tN "depth" "I") (by simp [own_thW]))
  cases Option.some.inj ((Cond.lays_declared (w (.lays rc tN "depth" "I") (by simp [own_thW])) ffD).symm.trans fc)
  obtain ⟨kD', tD⟩ := State.fieldFound?_spec ffD
  cases Option.some.inj (kD'.symm.trans Lk.cls)
  obtain ⟨nD, tyD⟩ := State.fieldFound?_type ffD (t := .int) (by decide +kernel)
  have findB := Cond.soleField_find fc Lk.cls (w (.soleField tN "backtrace") (by simp [own_thW])) t198 nB sB
  have findD := Cond.soleField_find fc Lk.cls (w (.soleField tN "depth") (by simp [own_thW])) tD nD sD
  obtain ⟨comp, cO, kO, _, _, hkO, hkindO, hO⟩ := Cond.arrayOver_spec (Ws (.arrayOver (.object "java/lang/Object")) (by simp [own_thW]))
  obtain ⟨yS, _, _, _⟩ := Cond.laysAt hfound hkX' ffS (w (.lays rc tN "stackTrace" steD) (by simp [own_thW]))
  obtain ⟨yB, _, _, _⟩ := Cond.laysAt hfound hkX' ffB (w (.lays rc tN "backtrace" "Ljava/lang/Object;") (by simp [own_thW]))
  obtain ⟨yD, _, _, _⟩ := Cond.laysAt hfound hkX' ffD (w (.lays rc tN "depth" "I") (by simp [own_thW]))
  have takes : ∀ {f : Field} {v : Value}, kX'.instanceTypes[f.slot]? = some f.type → fits f.type v = true → Jvm.Takes s cl f v := fun {f v} z1 z2 => by
    obtain ⟨z3, z4⟩ := Takes.of_laid (v := v) hkX' hord z1 z2
    exact ⟨by rw [hsz']; simpa using z3, by rw [u2]; exact z4⟩
  -- the statics' cell
  obtain ⟨cU, iU, kU, fU, sta, cellS, v1, v2, v3, v4, v5, v6, v7⟩ := SU
  cases own_ff K.hZ v1 ffU
  have eU : Th.aS = sta := by
    obtain ⟨k', z1, z2⟩ := State.fieldFound?_setVm K.hZ.alike v1
    have z3 : s.fieldFound? tN "UNASSIGNED_STACK" steD = some (cU, k', iU, Th.fUnassigned) := z1
    have z4 := ffU.symm.trans z3
    simp only [Option.some.injEq, Prod.mk.injEq] at z4
    have z5 : Th.kT.statics = some sta := by rw [z4.2.1, z2]; exact v4
    exact Option.some.inj (Lk.statics.symm.trans z5)
  have atS : h[sta]? = some cellS := K.O.2 _ _ v5
  have neS : Th.aS ≠ a := fun q => by
    rw [eU] at q; subst q
    cases hcl.symm.trans atS
    rw [hst] at v6; cases v6
  have knS : cellS.vm ≠ .unknown := fun q => by rw [q] at v6; cases v6
  have sel0 : selectMethod e.platform s.vm cl.cls Th.fill0 = .method Th.fill0 := by
    obtain ⟨_, _, _, q1, q2, q3, q4, -⟩ := Cond.selects_spec (w (.selects rc tFill0 tFill0) (by simp [own_thW]))
    cases Option.some.inj (q1.symm.trans hfound)
    cases Option.some.inj (q2.symm.trans (State.methodFound?_of_named n0 (by decide)))
    cases Option.some.inj (q3.symm.trans n0)
    rw [Launch.admits_selectMethod K.X.admits]; exact q4
  have selF := Ws (.selects rc tFill tFill) (by simp [own_thW])
  obtain ⟨v, _, ⟨T', L1, k1, n1⟩, -, X', ⟨rfl, C, n2, hn2, hC, q1, q2, q3, q4, l1, l2, l3⟩, st'⟩ := K.X.virtualBack K.hx (own := tN) (C := rc) (index := 27) (y := tFill) (z := tFill) K.hown (Ws (.methodLink tN 27 tFill) (by simp [own_thW])) (Ws (.declares tFill) (by simp [own_thW])) (notFace_of_selects selF) selF (Ws (.instanceMethod tFill) (by simp [own_thW])) (by decide)
    (Jvm.Free.Exc.fillPaysAny (l := l) (W := 0) K.hx htr Th Lk nf (u0 := ⟨u, hu⟩) (self := a) (cell := cl) (cellS := cellS) (fun _ => by rw [u2]; simp) (by rw [u2]; simp) (by rw [u3]) (by rw [u3]) g7 sel0 neS knS v7 (takes yS (by rw [tyS]; exact fits_refV_array _ ⟨u, hu⟩))
      ⟨{ ci198 := c198, i198 := i198, fBack := fB0 }, ⟨k198, r198, t198, sB⟩, b7⟩ hkn.1 hkn.2 fc hO hkO hkindO findB findD (fun x => takes yB (by rw [tyB]; rfl)) (fun x => takes yD (by rw [tyD]; rfl)) (by omega) (by omega))
    (b := a) (cB := cl.cls) hfound ⟨cl, by rw [K.eh]; exact hcl, rfl, hst⟩ (g := mkF m pc Ls [.ref a]) rfl (by rw [K.hml]; exact hsz) (Steps.refl _) (argsL := []) (rest := [])
    (fun sig q => by rw [show parseMethodDescriptor tFill.desc = some ⟨[], some (.object tN)⟩ from by decide +kernel] at q; rw [← Option.some.inj q]; rfl) rfl (by show 2 * 0 + 0 ≤ 0; decide) (hb K.hby hd)
    (fun _ _ => ⟨rfl, hc, hs, by show T.heap[a]? = _; rw [K.eh]; exact hcl, by show T.heap[Th.aS]? = _; rw [K.eh, eU]; exact atS⟩)
  dsimp only [Pt.U, Pt.locs, Pt.cells, Pt.slots] at X' l1 l2 l3 st' hC
  subst l1 l2 l3
  have sB' := own_slotOf K.hZ ffB
  have sD' := own_slotOf K.hZ ffD
  have sS' := own_slotOf K.hZ ffS
  have six : ∀ y ∈ [(⟨a, fB0.slot⟩ : Loc), ⟨a, fD.slot⟩, ⟨a, Th.fStack.slot⟩], ∃ nd ∈ Jvm.Free.Exc.sixNames, y = ⟨a, RoadKit.slotOf Z tN nd.1 nd.2⟩ := fun y hy => by
    simp only [List.mem_cons, List.not_mem_nil, or_false] at hy
    rcases hy with rfl | rfl | rfl
    · exact ⟨("backtrace", "Ljava/lang/Object;"), by simp [Jvm.Free.Exc.sixNames, Jvm.Free.Exc.obD], by rw [sB']⟩
    · exact ⟨("depth", "I"), by simp [Jvm.Free.Exc.sixNames], by rw [sD']⟩
    · exact ⟨("stackTrace", steD), by simp [Jvm.Free.Exc.sixNames, steD], by rw [sS']⟩
  have N' : Fr Z.heap.size (L ++ [(⟨a, fB0.slot⟩ : Loc), ⟨a, fD.slot⟩, ⟨a, Th.fStack.slot⟩]) := K.fr.app fun y hy => by
    obtain ⟨nd, -, rfl⟩ := six y hy
    exact ha
  refine K.cl _ _ (fun t q => st'.trans q) (kk T' T'.heap _ (K.nx (X'.more (Nat.le_refl _) (Nat.add_le_add_left hn2 _)) rfl N' (own_old X' O0 N')) six ⟨C, kX, hC, by rw [q1]; exact hfc, by rw [q1]; exact hkX, by rw [q2]; exact hst, fun z => by rw [q3]; exact hszX z⟩ ?_)
  intro O nf' d v' F z1 z2 z3
  obtain ⟨cF, cf, kf, i, f, x1, x2, x3, x4, x5, x6, x7⟩ := F
  cases hcl.symm.trans x1
  have sl : RoadKit.slotOf Z O nf' d = f.slot := by simp [RoadKit.slotOf, x2]
  rw [sl] at z1 z2 z3
  exact ⟨C, cf, kf, i, f, hC, x2, x3, by rw [q2]; exact x4, by rw [q2]; exact x5, by rw [q1]; exact x6, by rw [q4 _ (by rw [← sB']; exact z1) (by rw [← sD']; exact z2) (by rw [← sS']; exact z3)]; exact x7⟩
def own_Six (Z : State) (a : Addr) (L : List Loc) : Prop := ∀ y ∈ L, ∃ nd ∈ Jvm.Free.Exc.sixNames, y = ⟨a, RoadKit.slotOf Z tN nd.1 nd.2⟩
theorem own_six0 {a : Addr} : own_Six Z a [] := fun _ q => nomatch q
theorem own_sixA {a : Addr} (A : own_Six Z a L) (B : own_Six Z a L') : own_Six Z a (L ++ L') := fun y q => (List.mem_append.mp q).elim (A y) (B y)
theorem own_six1 {a : Addr} {nf d : String} (q : (nf, d) ∈ Jvm.Free.Exc.sixNames) : own_Six Z a [⟨a, RoadKit.slotOf Z "java/lang/Throwable" nf d⟩] := fun y hy => ⟨(nf, d), q, List.mem_singleton.mp hy⟩
theorem own_kp {own : String} (K : own_K p l e R s m args below meth c bytes own nm mx ret Q G Z T L k n h) {h0 : Heap} (hs0 : s.heap = h0) {a : Addr} (six : own_Six Z a L) : Kp Z h0 h a := by
  subst hs0
  have key : ∀ (y : Addr) (cy : Cell), s.heap[y]? = some cy → ∃ c' : Cell, h[y]? = some c' ∧ c' = { cy with slots := c'.slots } ∧ c'.slots.size = cy.slots.size ∧ (y ≠ a → c' = cy) ∧ ∀ i, (∀ nd ∈ Jvm.Free.Exc.sixNames, RoadKit.slotOf Z tN nd.1 nd.2 ≠ i) → c'.slots[i]? = cy.slots[i]? := fun y cy hy => by
    obtain ⟨c', q1, q2, q3, q4⟩ := K.X.same.2.2.2.2.2 y cy hy
    have q1' : h[y]? = some c' := by rw [← K.eh]; exact q1
    refine ⟨c', q1', q2, q3, fun hne => ?_, fun i hi => q4 i fun hm => ?_⟩
    · have hsl : c'.slots = cy.slots := Array.ext_getElem? fun i => q4 i fun hm => by
        obtain ⟨nd, -, e⟩ := six _ hm
        exact hne (congrArg Loc.base e)
      rw [q2, hsl]
    · obtain ⟨nd, hnd, e⟩ := six _ hm
      exact hi nd hnd (congrArg Loc.slot e).symm
  refine ⟨Nat.le_of_not_lt fun q => ?_, key⟩
  obtain ⟨c', q1, -⟩ := key h.size _ (Array.getElem?_eq_getElem q)
  exact Nat.lt_irrefl _ (Array.getElem?_eq_some_iff.mp q1).1
theorem own_sixNe {sl : Nat} (h1 : RoadKit.slotOf Z "java/lang/Throwable" "cause" "Ljava/lang/Throwable;" ≠ sl) (h2 : RoadKit.slotOf Z "java/lang/Throwable" "stackTrace" "[Ljava/lang/StackTraceElement;" ≠ sl) (h3 : RoadKit.slotOf Z "java/lang/Throwable" "suppressedExceptions" "Ljava/util/List;" ≠ sl) (h4 : RoadKit.slotOf Z "java/lang/Throwable" "backtrace" "Ljava/lang/Object;" ≠ sl) (h5 : RoadKit.slotOf Z "java/lang/Throwable" "depth" "I" ≠ sl) (h6 : RoadKit.slotOf Z "java/lang/Throwable" "detailMessage" "Ljava/lang/String;" ≠ sl) : ∀ nd ∈ Jvm.Free.Exc.sixNames, RoadKit.slotOf Z tN nd.1 nd.2 ≠ sl := fun nd hnd => by
  simp only [Jvm.Free.Exc.sixNames, List.mem_cons, List.not_mem_nil, or_false] at hnd
  rcases hnd with rfl | rfl | rfl | rfl | rfl | rfl
  · exact h1
  · exact h2
  · exact h3
  · exact h4
  · exact h5
  · exact h6
theorem own_unassigned {F D : String} (q : (Jvm.Cond.isRef (.static "java/lang/Throwable" F D)).before a0 Z = true) (w1 : (Cond.initialized "java/lang/Throwable").before a0 Z = true) (w2 : (Cond.laysStatic "java/lang/Throwable" F D).before a0 Z = true) : ∃ u, Sta Z Z.heap "java/lang/Throwable" F D u ∧ u.isRef = true := by
  obtain ⟨u, ev, hu⟩ := isR_v (Cond.before_iff.mp q)
  exact ⟨u, Sta.start ev (Or.inr ⟨w1, w2⟩), hu⟩
end OwnExc

section OwnW
open Jvm.Free.SB Jvm.Free.SBG
/-- a wide contract: kc: the constants' invariant is handed on at the end; kn: known frames are asked -/
def own_CtW (l : Launch) (Z : State) (EL : List (String × Nat)) (kc kn : Bool) (y : MethodName) (bytes : ByteArray) (mx : Nat) (ret : Option FieldType) (ws : List Jvm.Cond) (rm : Room) (as' : Array Value) (h0 : Heap) (Q : Option Value → Heap → Prop) : Prop :=
  MetFree l y (head1 (Jvm.Cond.code y bytes mx ret :: ws) rm) (fun a U => a = as' ∧ Z.Warmed39 U.vm ∧ U.heap = h0 ∧ CHv Z EL U.vm h0) (fun _ _ bl s _ => kn = true → s.vm.MethodsKnown ∧ s.vm.FramesKnown bl) (fun _ U o U' => ∃ v L, o = .returned v ∧ (Fr Z.heap.size L ∧ Ext Z.heap U'.heap ∧ Q v U'.heap) ∧ (kc = true → CHr Z EL U.vm U.heap U'.vm U'.heap) ∧ ReturnedEndW U o U' L rm.cells rm.slots)
/-- what the body's end asks where the tables stand at vm -/
def own_QW (Z : State) (EL : List (String × Nat)) (kc : Bool) (vm0 : Vm) (h0 : Heap) (vm : Vm) (k1 : Nat) (Q : Option Value → Heap → Prop) : Option Value → Heap → Prop := fun v h => (Q v h ∧ k1 ≤ h.size) ∧ (kc = true → CHr Z EL vm0 h0 vm h)
def own_FW (p : Program) (l : Launch) (e : Env) (R : Room) (s : State) (m : MethodId) (args : Array Value) (below : List Frame) (meth : Method) (c : Code) (Q : Option Value → Heap → Prop) (G : State → Prop) (Z : State) (EL : List (String × Nat)) (kc : Bool) (vm0 : Vm) (h0 : Heap) : Prop :=
  ∀ (vm : Vm) (k1 : Nat), s.Since vm k1 → Z.Warmed39 vm → own_Fin p l e R (s.setVm vm) m args below meth c (own_QW Z EL kc vm0 h0 vm k1 Q) G Z
/-- where a walk that may intern stands -/
def own_KW (p : Program) (l : Launch) (e : Env) (R : Room) (s : State) (m : MethodId) (args : Array Value) (below : List Frame) (meth : Method) (c : Code) (bytes : ByteArray) (own nm : String) (mx : Nat) (ret : Option FieldType) (Q : Option Value → Heap → Prop) (G : State → Prop) (Z : State) (EL : List (String × Nat)) (kc : Bool) (vm0 : Vm) (h0 : Heap) (vm : Vm) (k1 : Nat) (T : State) (L : List Loc) (k n : Nat) (h : Heap) : Prop :=
  own_K p l e R (s.setVm vm) m args below meth c bytes own nm mx ret (own_QW Z EL kc vm0 h0 vm k1 Q) G Z T L k n h ∧ own_FW p l e R s m args below meth c Q G Z EL kc vm0 h0 ∧ s.Since vm k1 ∧ k1 ≤ h.size ∧ CHr Z EL vm0 h0 vm h
variable {p : Program} {l : Launch} {e : Env} {R : Room} {s : State} {m : MethodId} {args : Array Value} {below : List Frame} {meth : Method} {c : Code} {bytes : ByteArray} {own nm : String} {mx : Nat} {ret : Option FieldType} {Q : Option Value → Heap → Prop} {G : State → Prop} {Z T T' : State} {L L' : List Loc} {k n k' n' : Nat} {h h' h0 h1 h2 : Heap} {a0 : Array Value} {pc pc' : Nat} {Ls Ls' : Array Slot} {st rest : List Value} {EL : List (String × Nat)} {kc : Bool} {vm0 vm vm' : Vm} {k1 : Nat}
theorem own_KW.K (W : own_KW p l e R s m args below meth c bytes own nm mx ret Q G Z EL kc vm0 h0 vm k1 T L k n h) : own_K p l e R (s.setVm vm) m args below meth c bytes own nm mx ret (own_QW Z EL kc vm0 h0 vm k1 Q) G Z T L k n h := W.1
theorem own_KW.F (W : own_KW p l e R s m args below meth c bytes own nm mx ret Q G Z EL kc vm0 h0 vm k1 T L k n h) : own_FW p l e R s m args below meth c Q G Z EL kc vm0 h0 := W.2.1
theorem own_KW.S (W : own_KW p l e R s m args below meth c bytes own nm mx ret Q G Z EL kc vm0 h0 vm k1 T L k n h) : s.Since vm k1 := W.2.2.1
theorem own_KW.le (W : own_KW p l e R s m args below meth c bytes own nm mx ret Q G Z EL kc vm0 h0 vm k1 T L k n h) : k1 ≤ h.size := W.2.2.2.1
theorem own_KW.C (W : own_KW p l e R s m args below meth c bytes own nm mx ret Q G Z EL kc vm0 h0 vm k1 T L k n h) : CHr Z EL vm0 h0 vm h := W.2.2.2.2
theorem own_KW.hZ (W : own_KW p l e R s m args below meth c bytes own nm mx ret Q G Z EL kc vm0 h0 vm k1 T L k n h) : Z.Warmed39 vm := W.1.hZ
/-- narrow steps behind: the heap has gone on as the constants' invariant allows -/
theorem own_KW.nx (W : own_KW p l e R s m args below meth c bytes own nm mx ret Q G Z EL kc vm0 h0 vm k1 T L k n h) (K' : own_K p l e R (s.setVm vm) m args below meth c bytes own nm mx ret (own_QW Z EL kc vm0 h0 vm k1 Q) G Z T' L' k' n' h') (C' : CHr Z EL vm h vm h') : own_KW p l e R s m args below meth c bytes own nm mx ret Q G Z EL kc vm0 h0 vm k1 T' L' k' n' h' :=
  ⟨K', W.F, W.S, Nat.le_trans W.le C'.2.1, W.C.trans C'⟩
theorem own_KW.same (W : own_KW p l e R s m args below meth c bytes own nm mx ret Q G Z EL kc vm0 h0 vm k1 T L k n h) (K' : own_K p l e R (s.setVm vm) m args below meth c bytes own nm mx ret (own_QW Z EL kc vm0 h0 vm k1 Q) G Z T' L' k' n' h) : own_KW p l e R s m args below meth c bytes own nm mx ret Q G Z EL kc vm0 h0 vm k1 T' L' k' n' h := W.nx K' (CHr.refl W.C.1)
theorem own_KW.ext (W : own_KW p l e R s m args below meth c bytes own nm mx ret Q G Z EL kc vm0 h0 vm k1 T L k n h) (K' : own_K p l e R (s.setVm vm) m args below meth c bytes own nm mx ret (own_QW Z EL kc vm0 h0 vm k1 Q) G Z T' L' k' n' h') (E : Ext h h') : own_KW p l e R s m args below meth c bytes own nm mx ret Q G Z EL kc vm0 h0 vm k1 T' L' k' n' h' := W.nx K' (CHr.ext E W.C.1)
theorem own_KW.wr (W : own_KW p l e R s m args below meth c bytes own nm mx ret Q G Z EL kc vm0 h0 vm k1 T L k n h) (K' : own_K p l e R (s.setVm vm) m args below meth c bytes own nm mx ret (own_QW Z EL kc vm0 h0 vm k1 Q) G Z T' L' k' n' h') {a : Addr} {sl : Nat} {v : Value} (X : Wr h h' a sl v) (S : Safe Z EL vm h a) : own_KW p l e R s m args below meth c bytes own nm mx ret Q G Z EL kc vm0 h0 vm k1 T' L' k' n' h' := W.nx K' (CHr.wr X S W.C.1)
theorem own_KW.keep (W : own_KW p l e R s m args below meth c bytes own nm mx ret Q G Z EL kc vm0 h0 vm k1 T L k n h) (K' : own_K p l e R (s.setVm vm) m args below meth c bytes own nm mx ret (own_QW Z EL kc vm0 h0 vm k1 Q) G Z T' L' k' n' h') {ws : List Addr} (X : Keep h h' ws) (S : ∀ x ∈ ws, Safe Z EL vm h x) : own_KW p l e R s m args below meth c bytes own nm mx ret Q G Z EL kc vm0 h0 vm k1 T' L' k' n' h' := W.nx K' (CHr.keep X S W.C.1)
theorem own_KW.kn (W : own_KW p l e R s m args below meth c bytes own nm mx ret Q G Z EL kc vm0 h0 vm k1 T L k n h) (hk : s.vm.MethodsKnown ∧ s.vm.FramesKnown below) : (s.setVm vm).vm.MethodsKnown ∧ (s.setVm vm).vm.FramesKnown below := ⟨hk.1.alikeC W.S.1.alike, hk.2.alikeC W.S.1.alike⟩
theorem own_bodyW {y : MethodName} {ws : List Jvm.Cond} {rm : Room} {as' : Array Value} {kn : Bool} (hEL : EW Z a0 EL) (hpl : plainFor y = true) (hef : ∀ m, entryFrame m as' mx = mkF m 0 Ls []) (O0 : Ext Z.heap h0)
    (H : ∀ (p : Program) (e : Env) (s : State) (m : MethodId) (below : List Frame) (meth : Method) (c : Code) (T : State) (G : State → Prop), (kn = true → s.vm.MethodsKnown ∧ s.vm.FramesKnown below) → s.heap = h0 → own_KW p l e rm s m as' below meth c bytes y.cls y.name mx ret Q G Z EL kc s.vm h0 s.vm 0 T [] 0 0 h0 → G (T.setTop (mkF m 0 Ls []))) :
    own_CtW l Z EL kc kn y bytes mx ret ws rm as' h0 Q := by
  refine MetFree.of_bodySF hpl hisR ?_
  intro p e s m args below meth c s₁ Bd hml0 hP hK
  obtain ⟨rfl, hZ, hh, hC⟩ := hP
  have X0 : Stand p l e rm s m args below meth c s₁ [] 0 0 := Stand.of_body Bd
  have e0 : s₁.heap = h0 := by rw [← hh, Bd.state]; rfl
  have hlocks := BodyLoose.notSynchronized Bd
  have hS0 : s.Since s.vm 0 := (State.WarmedH.refl s).since 0
  have q := H p e s m below meth c s₁ (fun S => ∃ (vm : Vm) (k1 : Nat) (T : State) (L : List Loc) (k n : Nat) (v : Option Value), s.Since vm k1 ∧ Z.Warmed39 vm ∧ Stand p l e rm (s.setVm vm) m args below meth c T L k n ∧ Fr Z.heap.size L ∧ Ext Z.heap T.heap ∧ k ≤ rm.cells ∧ n ≤ rm.slots ∧ (meth.sig.returnType = none → v = none) ∧ own_QW Z EL kc s.vm h0 vm k1 Q v T.heap ∧ own_Out p e m below T v S) hK hh
    ⟨⟨X0, Bd.exec, Bd.bytes, hml0, findClass_of_methodNamed Bd.named, (name_of_methodNamed Bd.named Bd.method).1, Bd.returns, hZ, e0, Fr.nil _, O0, fun S S' hs ⟨vmx, k1, T, L, k, n, v, g1, g2, g3, g4, g5, g6, g7, g8, g9, g10⟩ => ⟨vmx, k1, T, L, k, n, v, g1, g2, g3, g4, g5, g6, g7, g8, g9, fun fs hfs => hs _ (g10 fs hfs)⟩, fun T L k n v S g1 g2 g3 g4 g5 g6 g7 g8 => ⟨s.vm, 0, T, L, k, n, v, hS0, hZ, g1, g2, g3, g4, g5, g6, g7, g8⟩⟩,
      fun vmx k1 hS hZ' T L k n v S g1 g2 g3 g4 g5 g6 g7 g8 => ⟨vmx, k1, T, L, k, n, v, hS, hZ', g1, g2, g3, g4, g5, g6, g7, g8⟩, hS0, Nat.zero_le _, CHr.refl hC⟩
  obtain ⟨vmx, k1, T, L, k, n, v, hS, hZ', X, N, O, hk, hn, hv, ⟨⟨hQ, hle⟩, hCH⟩, hout⟩ := q
  obtain ⟨fs, hr, hrun, hended, hend⟩ := X.leaveW hS hle (v := v) hv
  refine ⟨_, _, castTop (hef m) (hout fs hr), hrun, hended, _, _, rfl, ⟨N, O, hQ⟩, fun q => ?_, hend.1, hend.2.1, hend.2.2.1, hend.2.2.2.mono hk hn⟩
  have hC1 := hCH q
  have := CHv.at (h := T.heap) X hZ' hEL hC1.1
  rw [hh]
  exact hC1.trans this
/-- ldc of any String constant, unread -/
theorem own_ldcO (W : own_KW p l e R s m args below meth c bytes own nm mx ret Q G Z EL kc vm0 h0 vm k1 T L k n h) (hEL : EW Z a0 EL) {text : String} {index nn : Nat} (w : (Cond.stringLink own index text).before a0 Z = true) (wS : ∀ a ∈ Bundle.stringAtoms, a.before a0 Z = true) (hn : 4 * text.toList.length ≤ nn) (hbig : nn ≤ 536870912) (hc : k + 2 ≤ R.cells) (hl : n + (nn + 4) ≤ R.slots) (hd : decode bytes pc = .ok (.ldc index, 2)) (hp : pc + 2 = pc')
    (kk : ∀ T' h' k1' (a : Addr), own_KW p l e R s m args below meth c bytes own nm mx ret Q G Z EL kc vm0 h0 T'.vm k1' T' L (k + 2) (n + (nn + 4)) h' → Ext h h' → CHr Z EL vm h T'.vm h' → G (T'.setTop (mkF m pc' Ls (.ref a :: st)))) : G (T.setTop (mkF m pc Ls st)) := by
  subst hp
  obtain ⟨a, T', h', k1', X', e', E', S', le', hZ', hown', C', -, st'⟩ := ldcOH W.K.X W.K.hx W.hZ W.K.hown w wS W.K.eh W.S W.le hEL W.C.1 (g := mkF m pc Ls st) rfl (hb W.K.hby hd) hn hbig hc hl
  exact W.K.cl _ _ st' (kk T' h' k1' a ⟨⟨X', W.K.hx, W.K.hby, W.K.hml, hown', W.K.hnm, W.K.hret, hZ', e', W.K.fr, own_ext_trans W.K.O E', W.K.cl, W.F _ _ S' hZ'⟩, W.F, S', le', W.C.trans C'⟩ E' C')
/-- ldc of a constant of EL, its text read -/
theorem own_ldcC (W : own_KW p l e R s m args below meth c bytes own nm mx ret Q G Z EL kc vm0 h0 vm k1 T L k n h) (hEL : EW Z a0 EL) {text : String} {index nn : Nat} (hmem : (own, index) ∈ EL) (w : (Cond.stringLink own index text).before a0 Z = true) (wS : ∀ a ∈ Bundle.stringAtoms, a.before a0 Z = true) {vs : List Value} {z : Int32} (ht : (∀ c ∈ text.toList, c.toNat < 256) ∧ text.toList.map (fun c => Value.int (Jvm.Lit.byteI c.toNat.toUInt16)) = vs) (hz : ¬ z < 0) (hlv : z.toNatClampNeg = vs.length) (hn : 4 * text.toList.length ≤ nn) (hbig : nn ≤ 536870912) (hc : k + 2 ≤ R.cells) (hl : n + (nn + 4) ≤ R.slots) (hd : decode bytes pc = .ok (.ldc index, 2)) (hp : pc + 2 = pc')
    (kk : ∀ T' h' k1' (a b : Addr) (kb : ClassId), own_KW p l e R s m args below meth c bytes own nm mx ret Q G Z EL kc vm0 h0 T'.vm k1' T' L (k + 2) (n + (nn + 4)) h' → Ext h h' → CHr Z EL vm h T'.vm h' → Exa Z h' a "java/lang/String" → Fld Z h' a "java/lang/String" "coder" "B" (.int 0) → Fld Z h' a "java/lang/String" "value" "[B" (.ref b) → Arv Z h' b kb .byte z vs (.int 0) → (∀ x, Safe Z EL T'.vm h' x → x ≠ a ∧ x ≠ b) → G (T'.setTop (mkF m pc' Ls (.ref a :: st)))) : G (T.setTop (mkF m pc Ls st)) := by
  subst hp
  obtain ⟨a, T', h', k1', b, kb, X', e', E', S', le', hZ', hown', A1, A2, A3, A4, -, -, C', -, sf, st'⟩ := ldcCH W.K.X W.K.hx W.hZ W.K.hown w wS W.K.eh W.S W.le hEL hmem W.C.1 ht hz hlv (g := mkF m pc Ls st) rfl (hb W.K.hby hd) hn hbig hc hl
  exact W.K.cl _ _ st' (kk T' h' k1' a b kb ⟨⟨X', W.K.hx, W.K.hby, W.K.hml, hown', W.K.hnm, W.K.hret, hZ', e', W.K.fr, own_ext_trans W.K.O E', W.K.cl, W.F _ _ S' hZ'⟩, W.F, S', le', W.C.trans C'⟩ E' C' A1 A2 A3 A4 sf)
theorem own_backW {y : MethodName} {bytes' : ByteArray} {mx' : Nat} {ret' : Option FieldType} {rm : Room} {len Wd : Nat} {as' : Array Value} {Qc : Option Value → Heap → Prop} {kn : Bool} (C : own_CtW l Z EL true kn y bytes' mx' ret' [] rm as' h Qc) (hZ : Z.Warmed39 vm) (wc : (Cond.code y bytes' mx' ret').before a0 Z = true) (wz : (Cond.initialized y.cls).before a0 Z = true) (hf : rm.frames + 1 ≤ R.frames) (hl : Wd + (mx' + 11) + rm.locals ≤ R.locals) (hEL : EW Z a0 EL) (H : CHv Z EL vm h) (hkn : kn = true → vm.MethodsKnown ∧ vm.FramesKnown below) :
    BackS l R p e below (s.setVm vm) args y len Wd (fun A a => a = as' ∧ A.U.heap = h ∧ A.cells + rm.cells ≤ R.cells ∧ A.slots + rm.slots ≤ R.slots)
      (fun A _ v B => ∃ L, (Fr Z.heap.size L ∧ Ext Z.heap B.U.heap ∧ Qc v B.U.heap) ∧ B.locs = A.locs ++ L ∧ B.cells = A.cells + rm.cells ∧ B.slots = A.slots + rm.slots ∧ CHr Z EL vm h B.U.vm B.U.heap) := by
  cases kn with
  | false =>
    refine backOfSH (Q := fun v h L => Fr Z.heap.size L ∧ Ext Z.heap h ∧ Qc v h) (fun p e q1 q2 q3 s m args below q4 q5 q6 _ => ?_) hZ wc wz hf hl hEL H
    obtain ⟨n, o, z1, z2, z3, v, L, z4, z5, z6, z7⟩ := C p e q1 q2 q3 s m args below q4 q5 q6 (fun q => nomatch q)
    exact ⟨n, o, z1, z2, z3, v, L, z4, z5, z6 rfl, z7⟩
  | true =>
    refine backOfSKH (Q := fun v h L => Fr Z.heap.size L ∧ Ext Z.heap h ∧ Qc v h) (fun p e q1 q2 q3 s m args below q4 q5 q6 q7 => ?_) hZ wc wz hf hl hEL H (hkn rfl).1 (hkn rfl).2
    obtain ⟨n, o, z1, z2, z3, v, L, z4, z5, z6, z7⟩ := C p e q1 q2 q3 s m args below q4 q5 q6 (fun _ => q7)
    exact ⟨n, o, z1, z2, z3, v, L, z4, z5, z6 rfl, z7⟩

theorem own_callSW (W : own_KW p l e R s m args below meth c bytes own nm mx ret Q G Z EL kc vm0 h0 vm k1 T L k n h) (hEL : EW Z a0 EL) {index Wd mx' : Nat} {kn : Bool} {y : MethodName} {bytes' : ByteArray} {ret' : Option FieldType} {rm : Room} {ps : List FieldType} {rr : Option FieldType} {Qc : Option Value → Heap → Prop} {argsL : List Value} (hkn : kn = true → vm.MethodsKnown ∧ vm.FramesKnown below) (wl : (Cond.methodLink own index y).before a0 Z = true) (ws : (Cond.static y).before a0 Z = true) (C : own_CtW l Z EL true kn y bytes' mx' ret' [] rm argsL.toArray h Qc) (hcd : (Cond.code y bytes' mx' ret').before a0 Z = true) (hin : (Cond.initialized y.cls).before a0 Z = true) (hy : y.cls ≠ "java/lang/invoke/MethodHandle" ∧ y.cls ≠ "java/lang/invoke/VarHandle") (hstk : st = (argsL.reverse ++ rest)) (hpd : parseMethodDescriptor y.desc = some ⟨ps, rr⟩) (hal : argsL.length = ps.length) (hsz : Ls.size = mx) (hW : (rest.map fun v => v.category).sum = Wd) (hrf : rm.frames + 1 ≤ R.frames) (hrl : Wd + (mx' + 11) + rm.locals ≤ R.locals) (hrc : k + rm.cells ≤ R.cells) (hrs : n + rm.slots ≤ R.slots) (hd : decode bytes pc = .ok (.invokestatic index, 3)) (hp : pc + 3 = pc')
    (kk : ∀ T' h' L' v k1', own_KW p l e R s m args below meth c bytes own nm mx ret Q G Z EL kc vm0 h0 T'.vm k1' T' (L ++ L') (k + rm.cells) (n + rm.slots) h' → CHr Z EL vm h T'.vm h' → Qc v h' → G (T'.setTop (mkF m pc' Ls (v.toList ++ rest)))) : G (T.setTop (mkF m pc Ls st)) := by
  subst hp hstk
  obtain ⟨v, _, ⟨T', L1, k2, n2⟩, -, X', S', gr, ⟨L', hQ, l1, l2, l3, C'⟩, st'⟩ := callSS W.K.X W.K.hx (y := y) W.K.hown (mvT W.K.hZ wl) (mvT W.K.hZ ws) (mvT W.K.hZ hin) (mvT W.K.hZ hcd) hy (own_backW (Wd := Wd) C W.hZ hcd hin hrf hrl hEL W.C.1 hkn) (g := mkF m pc Ls (argsL.reverse ++ rest)) rfl (by rw [W.K.hml]; exact hsz) (argsL := argsL) (rest := rest) (fun sig q => by rw [hpd] at q; cases q; exact hal) rfl (by show 2 * 0 + _ ≤ _; rw [hW]; omega) (hb W.K.hby hd) (fun _ _ => ⟨rfl, W.K.eh, hrc, hrs⟩)
  dsimp only [Pt.U, Pt.locs, Pt.cells, Pt.slots] at X' S' gr l1 l2 l3 st' hQ C'
  subst l1 l2 l3
  obtain ⟨hN, hO, hq⟩ := hQ
  have hZ' : Z.Warmed39 T'.vm := State.Warmed39.trans (t := s.setVm vm) W.hZ S'.1
  have S2 : s.Since T'.vm T'.heap.size := W.S.trans S' (Nat.le_trans W.le (by rw [← W.K.eh]; exact gr))
  have hown' : (s.setVm T'.vm).vm.findClass own = some m.cls := (S'.1.alike.findClass _ _).trans W.K.hown
  exact W.K.cl _ _ (fun t q => st'.trans q) (kk T' T'.heap L' v T'.heap.size ⟨⟨X', W.K.hx, W.K.hby, W.K.hml, hown', W.K.hnm, W.K.hret, hZ', rfl, Fr.app W.K.fr hN, hO, W.K.cl, W.F _ _ S2 hZ'⟩, W.F, S2, Nat.le_refl _, W.C.trans C'⟩ C' hq)
theorem own_callIW (W : own_KW p l e R s m args below meth c bytes own nm mx ret Q G Z EL kc vm0 h0 vm k1 T L k n h) (hEL : EW Z a0 EL) {index Wd mx' : Nat} {kn : Bool} {y : MethodName} {bytes' : ByteArray} {rm : Room} {ps : List FieldType} {rr : Option FieldType} {Qc : Option Value → Heap → Prop} {argsL : List Value} (hkn : kn = true → vm.MethodsKnown ∧ vm.FramesKnown below) {a : Addr} (wl : (Cond.methodLink own index y).before a0 Z = true) (wi : (Cond.instanceMethod y).before a0 Z = true) (C : own_CtW l Z EL true kn y bytes' mx' none [] rm (.ref a :: argsL).toArray h Qc) (hcd : (Cond.code y bytes' mx' none).before a0 Z = true) (hin : (Cond.initialized y.cls).before a0 Z = true) (hy : y.cls ≠ "java/lang/invoke/MethodHandle" ∧ y.cls ≠ "java/lang/invoke/VarHandle") (hy1 : y.name = "<init>") (hstk : st = (argsL.reverse ++ .ref a :: rest)) (hpd : parseMethodDescriptor y.desc = some ⟨ps, rr⟩) (hal : argsL.length = ps.length) (hsz : Ls.size = mx) (hW : (rest.map fun v => v.category).sum = Wd) (hrf : rm.frames + 1 ≤ R.frames) (hrl : Wd + (mx' + 11) + rm.locals ≤ R.locals) (hrc : k + rm.cells ≤ R.cells) (hrs : n + rm.slots ≤ R.slots) (hd : decode bytes pc = .ok (.invokespecial index, 3)) (hp : pc + 3 = pc')
    (kk : ∀ T' h' L' v k1', own_KW p l e R s m args below meth c bytes own nm mx ret Q G Z EL kc vm0 h0 T'.vm k1' T' (L ++ L') (k + rm.cells) (n + rm.slots) h' → CHr Z EL vm h T'.vm h' → Qc v h' → G (T'.setTop (mkF m pc' Ls (v.toList ++ rest)))) : G (T.setTop (mkF m pc Ls st)) := by
  subst hp hstk
  obtain ⟨v, _, ⟨T', L1, k2, n2⟩, -, X', S', gr, ⟨L', hQ, l1, l2, l3, C'⟩, st'⟩ := W.K.X.specialBackS W.K.hx (y := y) hy1 W.K.hown (mvT W.K.hZ wl) (mvT W.K.hZ wi) (mvT W.K.hZ hcd) hy (own_backW (Wd := Wd) C W.hZ hcd hin hrf hrl hEL W.C.1 hkn) (g := mkF m pc Ls (argsL.reverse ++ .ref a :: rest)) rfl (by rw [W.K.hml]; exact hsz) (Steps.refl _) (a := a) (argsL := argsL) (rest := rest) (fun sig q => by rw [hpd] at q; cases q; exact hal) rfl (by show 2 * 0 + _ ≤ _; rw [hW]; omega) (hb W.K.hby hd) (fun _ _ => ⟨rfl, W.K.eh, hrc, hrs⟩)
  dsimp only [Pt.U, Pt.locs, Pt.cells, Pt.slots] at X' S' gr l1 l2 l3 st' hQ C'
  subst l1 l2 l3
  obtain ⟨hN, hO, hq⟩ := hQ
  have hZ' : Z.Warmed39 T'.vm := State.Warmed39.trans (t := s.setVm vm) W.hZ S'.1
  have S2 : s.Since T'.vm T'.heap.size := W.S.trans S' (Nat.le_trans W.le (by rw [← W.K.eh]; exact gr))
  have hown' : (s.setVm T'.vm).vm.findClass own = some m.cls := (S'.1.alike.findClass _ _).trans W.K.hown
  exact W.K.cl _ _ (fun t q => st'.trans q) (kk T' T'.heap L' v T'.heap.size ⟨⟨X', W.K.hx, W.K.hby, W.K.hml, hown', W.K.hnm, W.K.hret, hZ', rfl, Fr.app W.K.fr hN, hO, W.K.cl, W.F _ _ S2 hZ'⟩, W.F, S2, Nat.le_refl _, W.C.trans C'⟩ C' hq)
theorem own_callVW (W : own_KW p l e R s m args below meth c bytes own nm mx ret Q G Z EL kc vm0 h0 vm k1 T L k n h) (hEL : EW Z a0 EL) {index Wd mx' : Nat} {kn : Bool} {y : MethodName} {bytes' : ByteArray} {ret' : Option FieldType} {rm : Room} {ps : List FieldType} {rr : Option FieldType} {Qc : Option Value → Heap → Prop} {argsL : List Value} (hkn : kn = true → vm.MethodsKnown ∧ vm.FramesKnown below) {a : Addr} {Cc : String} {x0 : MethodName} (wl : (Cond.methodLink own index x0).before a0 Z = true) (wd : (Cond.declares x0).before a0 Z = true) (hnf : ∀ {s : State}, Z.Warmed39 s.vm → NotFace s x0) (wsel : (Cond.selects Cc x0 y).before a0 Z = true) (wi : (Cond.instanceMethod y).before a0 Z = true) (C : own_CtW l Z EL true kn y bytes' mx' ret' [] rm (.ref a :: argsL).toArray h Qc) (hcd : (Cond.code y bytes' mx' ret').before a0 Z = true) (hin : (Cond.initialized y.cls).before a0 Z = true) (hy : x0.cls ≠ "java/lang/invoke/MethodHandle" ∧ x0.cls ≠ "java/lang/invoke/VarHandle") (E : Exa Z h a Cc) (hstk : st = (argsL.reverse ++ .ref a :: rest)) (hpd : parseMethodDescriptor x0.desc = some ⟨ps, rr⟩) (hal : argsL.length = ps.length) (hsz : Ls.size = mx) (hW : (rest.map fun v => v.category).sum = Wd) (hrf : rm.frames + 1 ≤ R.frames) (hrl : Wd + (mx' + 11) + rm.locals ≤ R.locals) (hrc : k + rm.cells ≤ R.cells) (hrs : n + rm.slots ≤ R.slots) (hd : decode bytes pc = .ok (.invokevirtual index, 3)) (hp : pc + 3 = pc')
    (kk : ∀ T' h' L' v k1', own_KW p l e R s m args below meth c bytes own nm mx ret Q G Z EL kc vm0 h0 T'.vm k1' T' (L ++ L') (k + rm.cells) (n + rm.slots) h' → CHr Z EL vm h T'.vm h' → Qc v h' → G (T'.setTop (mkF m pc' Ls (v.toList ++ rest)))) : G (T.setTop (mkF m pc Ls st)) := by
  subst hp hstk
  obtain ⟨v, _, ⟨T', L1, k2, n2⟩, -, X', S', gr, ⟨L', hQ, l1, l2, l3, C'⟩, st'⟩ := (isOf W.K.hZ W.K.eh E).elim fun cB q => q.elim fun kB q => W.K.X.virtualBackS W.K.hx (y := x0) (z := y) W.K.hown (mvT W.K.hZ wl) (mvT W.K.hZ wd) (hnf W.K.hZ) (mvT W.K.hZ wsel) (mvT W.K.hZ wi) hy (own_backW (Wd := Wd) C W.hZ hcd hin hrf hrl hEL W.C.1 hkn) q.1 q.2.2 (g := mkF m pc Ls (argsL.reverse ++ .ref a :: rest)) rfl (by rw [W.K.hml]; exact hsz) (Steps.refl _) (argsL := argsL) (rest := rest) (fun sig q => by rw [hpd] at q; cases q; exact hal) rfl (by show 2 * 0 + _ ≤ _; rw [hW]; omega) (hb W.K.hby hd) (fun _ _ => ⟨rfl, W.K.eh, hrc, hrs⟩)
  dsimp only [Pt.U, Pt.locs, Pt.cells, Pt.slots] at X' S' gr l1 l2 l3 st' hQ C'
  subst l1 l2 l3
  obtain ⟨hN, hO, hq⟩ := hQ
  have hZ' : Z.Warmed39 T'.vm := State.Warmed39.trans (t := s.setVm vm) W.hZ S'.1
  have S2 : s.Since T'.vm T'.heap.size := W.S.trans S' (Nat.le_trans W.le (by rw [← W.K.eh]; exact gr))
  have hown' : (s.setVm T'.vm).vm.findClass own = some m.cls := (S'.1.alike.findClass _ _).trans W.K.hown
  exact W.K.cl _ _ (fun t q => st'.trans q) (kk T' T'.heap L' v T'.heap.size ⟨⟨X', W.K.hx, W.K.hby, W.K.hml, hown', W.K.hnm, W.K.hret, hZ', rfl, Fr.app W.K.fr hN, hO, W.K.cl, W.F _ _ S2 hZ'⟩, W.F, S2, Nat.le_refl _, W.C.trans C'⟩ C' hq)
end OwnW
section OwnSafe
open Jvm.Free.SB Jvm.Free.SBG
/-- a String whose value is null is no booked one -/
theorem own_safe_null {Z : State} {EL : List (String × Nat)} {vm : Vm} {h : Heap} {x : Addr} (hal : Z.vm.Alike vm) (E : Exa Z h x "java/lang/String") (F : Fld Z h x "java/lang/String" "value" "[B" .null) : Safe Z EL vm h x := fun B => by
  obtain ⟨p, -, u, a, -, q, -, G, rfl | rfl⟩ := B
  · obtain ⟨cell, cf, k, i, f, e1, e2, -, -, -, -, e7⟩ := F
    cases (show h[q.sa]? = some q.sC from G.ha).symm.trans e1
    obtain ⟨cS, ⟨⟨-, -, -, ⟨c1, k1, i1, f1, -⟩, -, -, -, v1, -⟩, -⟩, -⟩ := G
    obtain ⟨k3, e3, -⟩ := State.fieldFound?_setVm (s := ({ Z with heap := h } : State)) hal e2
    have e4 := (show (Wst Z vm h).fieldFound? _ _ _ = _ from e3).symm.trans f1
    simp only [Option.some.injEq, Prod.mk.injEq] at e4
    rw [← e4.2.2.2, e7] at v1
    cases v1
  · obtain ⟨cell, k, e1, e2, e3, -, -⟩ := E
    cases (show h[q.sd]? = some q.SA from G.hd).symm.trans e1
    obtain ⟨cS, -, -, f, -⟩ := G
    have f' : vm.findClass "[B" = some q.SA.cls := f
    rw [hal.findClass] at f'
    obtain ⟨k1, q1, q2⟩ := Vm.findClass_spec f'
    obtain ⟨k2, q3, q4⟩ := Vm.findClass_spec e2
    cases q1.symm.trans q3
    exact absurd (q2.symm.trans q4) (by decide)
end OwnSafe
section OwnDig
open Jvm.Free.SB Jvm.Free.SBG
theorem own_rget (f : Nat → Value) {r : Nat} (h : r < 100) (d : Value) : ((List.range 100).map f).getD r d = f r := by simp [h]
theorem own_tblB {a0 : Array Value} {Z : State} {name : String} {F : Nat → Nat} {rhs : Term} (hF : ∀ r, r < 100 → F r < 128) (hex : (Cond.exactly (Tof name) "[B").before a0 Z = true) (hle : (Cond.eq (.length (Tof name)) (.int 100)).before a0 Z = true) (hini : (Cond.initialized "java/lang/Integer").before a0 Z = true) (hla : (Cond.laysStatic "java/lang/Integer" name "[B").before a0 Z = true) (harr : (Cond.arrayClass .byte).before a0 Z = true) (hrhs : ∀ r, r < 100 → rhs.eval a0 Z none [r] Z = some (.int (Int32.ofNat (F r)))) (hall : (Cond.all (Tof name) (.eq (.elem (Tof name) (.index 0)) rhs)).before a0 Z = true) : ∃ (o : Addr) (ko : ClassId), Sta Z Z.heap "java/lang/Integer" name "[B" (.ref o) ∧ Arv Z Z.heap o ko .byte 100 ((List.range 100).map fun r => Value.int (Int32.ofNat (F r))) (.int 0) := by
  obtain ⟨d, cB, D, kB, hev, hfcB, hcellD, hkB, hstatD, hclsD, -⟩ := Cond.exactly_spec hex
  have hevAll : ∀ idx, (Tof name).eval a0 Z none idx Z = some (.ref d) := fun idx => by
    have : (Tof name).eval a0 Z none idx Z = (Tof name).eval a0 Z none [] Z := by simp only [Tof, Term.eval]
    rw [this]; exact hev
  have hl := Cond.eq_int hle rfl
  obtain ⟨d', D', hev', harrAt, hlen⟩ := Term.length_spec hl
  cases hev.symm.trans hev'
  obtain ⟨hcellD', hknD, -, -⟩ := State.arrayAt?_spec harrAt
  cases hcellD.symm.trans hcellD'
  have h31 := length_lt hev harrAt hl
  have hsz : D.slots.size = 100 := by
    have e := Option.some.inj ((len_f hev harrAt h31).symm.trans hl)
    have e2 : D.slots.size.toInt32 = (100 : Int32) := by injection e
    have := congrArg Int32.toInt e2
    rw [show (100 : Int32).toInt = 100 from rfl, show D.slots.size.toInt32 = Int32.ofNat D.slots.size from rfl, Int32.toInt_ofNat_of_lt h31] at this
    omega
  have hA : Z.isArrayOf D .byte := by
    obtain ⟨cB', kB', comp, hnameB, hkB', hkindB⟩ := Cond.arrayClass_spec harr
    have eBA : ("[" ++ FieldType.toString .byte) = "[B" := by decide
    rw [eBA] at hnameB
    cases hfcB.symm.trans hnameB
    cases hkB.symm.trans hkB'
    exact ⟨(fun q h => by rw [h] at hstatD; cases hstatD), kB, (by rw [hclsD]; exact hkB), comp, hkindB⟩
  have hg : ∀ r, r < 100 → D.slots[r]? = some (.int (Int32.ofNat (F r))) := fun r hr => by
    have h1 := Cond.all_elim (hevAll []) harrAt (Cond.before_iff.mp hall) r (by omega)
    have h2 := eqv_i (hrhs r hr) h1
    have nn : ¬ Int32.ofNat r < 0 := own_nn (by omega)
    have e : (Int32.ofNat r).toNatClampNeg = r := own_clamp (by omega)
    have h3 := elem_f (hevAll [r]) (a := .index 0) (j := Int32.ofNat r) (by have q := idx_at (args := a0) (s := Z) (first := Z) (o := none) (j := Int32.ofNat r) nn; rw [e] at q; exact q) harrAt nn
    rw [e] at h3
    exact h3.symm.trans h2
  refine ⟨d, D.cls, Sta.start hev (Or.inr ⟨hini, hla⟩), D, ⟨hcellD, hA, hknD⟩, rfl, hsz, by decide, fun r hr => ?_, fun r hr => ?_⟩
  · rw [hsz] at hr
    rw [hg r hr, own_rget _ hr]
  · rw [hsz] at hr
    rw [own_rget _ hr]
    have h5 := hF r hr
    have e : nar .byte (Int32.ofNat (F r)) = Int32.ofNat (F r) := by
      have h2 := c_i2b (Int32.ofNat (F r))
      rw [Int32.toInt_ofNat_of_lt (by omega)] at h2
      apply Int32.toInt_inj.mp
      show ((Int32.ofNat (F r)).toInt8.toInt32).toInt = _
      rw [Int32.toInt_ofNat_of_lt (by omega)]; omega
    rw [← e]; exact fits_nar_byte _
/-- the decimal digits of a number, as chars -/
def own_dg (n : Nat) : List Int32 := if n < 10 then [Int32.ofNat (48 + n)] else own_dg (n / 10) ++ [Int32.ofNat (48 + n % 10)]
termination_by n
decreasing_by omega
theorem own_dg_lt {n : Nat} (h : n < 10) : own_dg n = [Int32.ofNat (48 + n)] := by rw [own_dg, if_pos h]
theorem own_dg_ge {n : Nat} (h : 10 ≤ n) : own_dg n = own_dg (n / 10) ++ [Int32.ofNat (48 + n % 10)] := by rw [own_dg, if_neg (by omega)]
theorem own_dg_100 {n : Nat} (h : 100 ≤ n) : own_dg n = own_dg (n / 100) ++ [Int32.ofNat (48 + n % 100 / 10), Int32.ofNat (48 + n % 100 % 10)] := by
  rw [own_dg_ge (by omega), own_dg_ge (n := n / 10) (by omega), List.append_assoc, List.singleton_append, Nat.div_div_eq_div_mul, show n / 10 % 10 = n % 100 / 10 by omega, show n % 10 = n % 100 % 10 by omega]
theorem own_dg_2 {n : Nat} (h : 10 ≤ n) (h2 : n < 100) : own_dg n = [Int32.ofNat (48 + n / 10), Int32.ofNat (48 + n % 10)] := by
  rw [own_dg_ge h, own_dg_lt (by omega)]; rfl
theorem own_dg_pos (n : Nat) : 0 < (own_dg n).length := by
  by_cases h : n < 10
  · rw [own_dg_lt h]; exact Nat.zero_lt_one
  · rw [own_dg_ge (by omega)]; simp
theorem own_dg_len : ∀ (i n : Nat), n < 10 ^ (i + 1) → (i = 0 ∨ 10 ^ i ≤ n) → (own_dg n).length = i + 1
  | 0, n, h, _ => by rw [own_dg_lt (by simpa using h)]; rfl
  | i + 1, n, h, h' => by
    have h1 : 10 ^ (i + 1) ≤ n := h'.resolve_left (by omega)
    have e : 10 ^ (i + 1) = 10 * 10 ^ i := by rw [Nat.pow_succ, Nat.mul_comm]
    have e2 : 10 ^ (i + 1 + 1) = 10 * 10 ^ (i + 1) := by rw [Nat.pow_succ, Nat.mul_comm]
    have hp : 0 < 10 ^ i := Nat.pow_pos (by omega)
    rw [own_dg_ge (by omega), List.length_append, own_dg_len i (n / 10) (by omega) (Or.inr (by omega))]; rfl
theorem own_dg_at : ∀ (k n : Nat), k < (own_dg n).length → (own_dg n)[(own_dg n).length - 1 - k]? = some (Int32.ofNat (48 + n / 10 ^ k % 10))
  | 0, n, h => by
    by_cases hn : n < 10
    · rw [own_dg_lt hn]; simp [Nat.mod_eq_of_lt hn]
    · rw [own_dg_ge (by omega)]; simp
  | k + 1, n, h => by
    by_cases hn : n < 10
    · rw [own_dg_lt hn] at h; simp at h
    · have e := own_dg_ge (n := n) (by omega)
      have h2 : k < (own_dg (n / 10)).length := by rw [e, List.length_append] at h; simpa using h
      have ih := own_dg_at k (n / 10) h2
      have e3 : n / 10 / 10 ^ k = n / 10 ^ (k + 1) := by rw [Nat.div_div_eq_div_mul, Nat.pow_succ, Nat.mul_comm]
      rw [e3] at ih
      rw [e, List.length_append, List.length_singleton, List.getElem?_append_left (by omega), show (own_dg (n / 10)).length + 1 - 1 - (k + 1) = (own_dg (n / 10)).length - 1 - k by omega]
      exact ih
theorem own_dg_ok (n : Nat) : ∀ c ∈ own_dg n, ¬ c < 0 ∧ c < 256 := by
  have key : ∀ m, m < 10 → ¬ Int32.ofNat (48 + m) < 0 ∧ Int32.ofNat (48 + m) < 256 := by decide
  induction n using Nat.strongRecOn with
  | ind n ih =>
    intro c hc
    by_cases h : n < 10
    · rw [own_dg_lt h] at hc; cases List.mem_singleton.mp hc; exact key n h
    · rw [own_dg_ge (by omega)] at hc
      rcases List.mem_append.mp hc with q | q
      · exact ih (n / 10) (by omega) c q
      · cases List.mem_singleton.mp q; exact key _ (by omega)
/-- a write into the gap ahead of what stands already -/
theorem own_setm (A S : List Value) (k : Nat) (x d : Value) (hk : 0 < k) : (A ++ List.replicate k d ++ S).set (A.length + k - 1) x = A ++ List.replicate (k - 1) d ++ (x :: S) := by
  obtain ⟨j, rfl⟩ : ∃ j, k = j + 1 := ⟨k - 1, by omega⟩
  rw [show A.length + (j + 1) - 1 = A.length + j by omega, List.append_assoc, List.set_append_right _ _ (by omega), Nat.add_sub_cancel_left, List.set_append_left _ _ (by simp), Nat.add_sub_cancel, List.append_assoc]
  congr 1
  rw [List.replicate_succ', List.set_append_right _ _ (by simp), List.length_replicate, Nat.sub_self, List.append_assoc]; rfl
/-- numbers, negated, in longs and ints -/
theorem own_J {n : Nat} (h : n < 9223372036854775808) : (Int64.ofNat n).toInt = n := Int64.toInt_ofNat_of_lt h
theorem own_negJ {n : Nat} (h : n < 9223372036854775808) : (-(Int64.ofNat n)).toInt = -(n : Int) := by
  have := c_lneg (Int64.ofNat n)
  have r : ∀ y : Int64, -9223372036854775808 ≤ y.toInt ∧ y.toInt < 9223372036854775808 := fun y => ⟨Int64.le_toInt y, Int64.toInt_lt y⟩
  have r1 := r (-(Int64.ofNat n))
  rw [own_J h] at this; omega
end OwnDig
abbrev u : Bool := false
abbrev us : Bool := false
/-- is a char above 255 among them? -/
def own_ub (cs : List Int32) : Bool := cs.any fun c => !decide (c < 256)
def own_chs (cs : List Int32) : Prop := ∀ c ∈ cs, ¬ c < 0 ∧ c < 65536
theorem own_ub_ok {cs : List Int32} (h : own_chs cs) : own_ok (own_ub cs) cs := fun c hc => by
  refine ⟨(h c hc).1, ?_⟩
  cases hu : own_ub cs
  · have := List.any_eq_false.mp hu c hc
    simpa using this
  · exact (h c hc).2
theorem own_ub_bad {cs : List Int32} (h : own_ub cs = true) : ∃ q, ∃ hq : q < cs.length, ¬ cs[q] < 256 := by
  obtain ⟨c, hc, h1⟩ := List.any_eq_true.mp h
  obtain ⟨q, hq, rfl⟩ := List.getElem_of_mem hc
  exact ⟨q, hq, by simpa using h1⟩
theorem own_ub_app (cs ds : List Int32) : own_ub (cs ++ ds) = (own_ub cs || own_ub ds) := List.any_append
theorem own_ub_one (y : Int32) : own_ub [y] = !decide (y < 256) := by simp [own_ub]
theorem own_chs_nil : own_chs [] := fun _ q => nomatch q
theorem own_chs_cons {c : Int32} {cs : List Int32} (h : ¬ c < 0 ∧ c < 65536) (h' : own_chs cs) : own_chs (c :: cs) := fun d hd => (List.mem_cons.mp hd).elim (fun q => q ▸ h) (h' d)
theorem own_chs_app {cs ds : List Int32} (h : own_chs cs) (h' : own_chs ds) : own_chs (cs ++ ds) := fun d hd => (List.mem_append.mp hd).elim (h d) (h' d)
theorem own_add8 (i : Nat) : Int32.ofNat i + (8 : Int32) = Int32.ofNat (i + 8) := own_addN i 8
theorem own_add2 (i : Nat) : Int32.ofNat i + (2 : Int32) = Int32.ofNat (i + 2) := own_addN i 2
theorem own_addL (a b : List Int32) : Int32.ofNat a.length + Int32.ofNat b.length = Int32.ofNat (a ++ b).length := by rw [own_addN, List.length_append]
theorem own_i2c_rng (x : Int32) : ¬ x.toUInt32.toUInt16.toUInt32.toInt32 < 0 ∧ x.toUInt32.toUInt16.toUInt32.toInt32 < 65536 := by
  have h := c_i2c x
  rw [Int32.lt_iff_toInt_lt, Int32.lt_iff_toInt_lt, show (0 : Int32).toInt = 0 from rfl, show (65536 : Int32).toInt = 65536 from rfl]; omega
theorem own_nar_i2c (x : Int32) : nar .char x.toUInt32.toUInt16.toUInt32.toInt32 = x.toUInt32.toUInt16.toUInt32.toInt32 := own_nar_char (own_i2c_rng x)
theorem d_jdk_42_m152_0 : decode jdk_42_method_152_code 0 = .ok (.getstatic 38, 3) := by decide +kernel
theorem wd15 {a0 : Array Value} {Z : State} (hw : ∀ d ∈ tables_1, d.before a0 Z = true) : (Jvm.Cond.fieldLink "java/lang/String" (38 : Nat) "java/lang/String" "COMPACT_STRINGS" "Z").before a0 Z = true := hw _ (List.mem_of_getElem? (i := 15) rfl)
theorem d_jdk_42_m152_3 : decode jdk_42_method_152_code 3 = .ok (.ifCond .eq 10, 3) := by decide +kernel
theorem d_jdk_42_m152_6 : decode jdk_42_method_152_code 6 = .ok (.aload_n 0, 1) := by decide +kernel
theorem wd27 {a0 : Array Value} {Z : State} (hw : ∀ d ∈ tables_1, d.before a0 Z = true) : (Jvm.Cond.fieldLink "java/lang/String" (15 : Nat) "java/lang/String" "coder" "B").before a0 Z = true := hw _ (List.mem_of_getElem? (i := 27) rfl)
theorem d_jdk_42_m152_7 : decode jdk_42_method_152_code 7 = .ok (.getfield 15, 3) := by decide +kernel
theorem d_jdk_42_m152_10 : decode jdk_42_method_152_code 10 = .ok (.goto 4, 3) := by decide +kernel
theorem d_jdk_42_m152_14 : decode jdk_42_method_152_code 14 = .ok (.ireturn, 1) := by decide +kernel
theorem st0 {a0 : Array Value} {Z : State} (hs : ∀ d ∈ jdkStatics_1, d.before a0 Z = true) : (Jvm.Cond.initializedFor "java/lang/String" "COMPACT_STRINGS" "Z").before a0 Z = true := hs _ (List.mem_of_getElem? (i := 0) rfl)
theorem st1 {a0 : Array Value} {Z : State} (hs : ∀ d ∈ jdkStatics_1, d.before a0 Z = true) : (Jvm.Cond.isInt (Jvm.Term.static "java/lang/String" "COMPACT_STRINGS" "Z")).before a0 Z = true := hs _ (List.mem_of_getElem? (i := 1) rfl)
theorem st2 {a0 : Array Value} {Z : State} (hs : ∀ d ∈ jdkStatics_1, d.before a0 Z = true) : (Jvm.Cond.not (Jvm.Cond.eq (Jvm.Term.static "java/lang/String" "COMPACT_STRINGS" "Z") (Jvm.Term.int (0 : Int32)))).before a0 Z = true := hs _ (List.mem_of_getElem? (i := 2) rfl)
theorem own_compact {a0 : Array Value} {Z : State} (hs : ∀ d ∈ jdkStatics_1, d.before a0 Z = true) : ∃ zc : Int32, Sta Z Z.heap "java/lang/String" "COMPACT_STRINGS" "Z" (.int zc) ∧ ¬ zc = 0 := by
  obtain ⟨i, e⟩ := is_v (Cond.before_iff.mp (st1 hs))
  exact ⟨i, Sta.start e (Or.inl (st0 hs)), gotF (Cond.eq_ints e (Term.int_eval (0))) (not_v (Cond.before_iff.mp (st2 hs)))⟩
theorem pn_java_lang_String : plainName "java/lang/String" = true := by first | (simp [plainName, overriddenIn]; done) | decide +kernel
set_option maxRecDepth 65536 in
set_option maxHeartbeats 40000000 in
theorem rm_coder {l : Launch} {Z : State} {a0 : Array Value} (hw : ∀ d ∈ tables_1, d.before a0 Z = true) (hs : ∀ d ∈ jdkStatics_1, d.before a0 Z = true) {x : Addr} {cs : List Int32} {h0 : Heap} (O0 : Ext Z.heap h0) (S : own_StrG Z h0 x u cs) (hlen : cs.length ≤ 4000) :
    own_Ct l Z (⟨"java/lang/String", "coder", "()B"⟩ : MethodName) jdk_42_method_152_code 1 (some .byte) [] ({ frames := 0, locals := 0, cells := 0, slots := 0 } : Room) #[(.ref x)] h0 (fun v h => v = some (.int (own_cd u)) ∧ h = h0) := by
  obtain ⟨zc, SC, hzc⟩ := own_compact hs
  obtain ⟨E, Fc, b, kb, Fv, V⟩ := S
  refine own_body (Ls := #[.val (.ref x)]) (plainFor_of_name pn_java_lang_String) (fun m => by first | (simp [entryFrame, mkF, argsToLocals, Value.category]; done) | rfl) O0 ?_
  intro p e s m below meth c T0 G K0
  refine own_getS K0 (wd15 hw) Via.refl (SC.ext K0.O) d_jdk_42_m152_0 rfl ?_
  intro T1 K1
  refine own_ifNo K1 d_jdk_42_m152_3 rfl ((if0 _ _).trans (feq hzc).1) ?_
  refine own_aloadN K1 d_jdk_42_m152_6 rfl rfl rfl ?_
  refine own_getF K1 (host := "") (Or.inl (wd27 hw)) Via.refl Fc d_jdk_42_m152_7 rfl ?_
  intro T2 K2
  refine own_goto K2 d_jdk_42_m152_10 (pc' := 14) (by decide) (by decide) ?_
  exact own_retN K2 (z' := own_cd u) d_jdk_42_m152_14 rfl (by simp) (by cases u <;> decide) (by decide) (by decide) ⟨rfl, rfl⟩
theorem own_lenS (u : Bool) {n : Nat} (h : n ≤ 4000) : Int32.ofNat (own_bn u n) >>> (own_cd u &&& 31) = Int32.ofNat n := by
  cases u
  · exact own_shr0 _
  · exact own_shr1 (by omega)
theorem d_jdk_42_m54_0 : decode jdk_42_method_54_code 0 = .ok (.aload_n 0, 1) := by decide +kernel
theorem wd29 {a0 : Array Value} {Z : State} (hw : ∀ d ∈ tables_1, d.before a0 Z = true) : (Jvm.Cond.fieldLink "java/lang/String" (9 : Nat) "java/lang/String" "value" "[B").before a0 Z = true := hw _ (List.mem_of_getElem? (i := 29) rfl)
theorem d_jdk_42_m54_1 : decode jdk_42_method_54_code 1 = .ok (.getfield 9, 3) := by decide +kernel
theorem d_jdk_42_m54_4 : decode jdk_42_method_54_code 4 = .ok (.arraylength, 1) := by decide +kernel
theorem d_jdk_42_m54_5 : decode jdk_42_method_54_code 5 = .ok (.aload_n 0, 1) := by decide +kernel
theorem d_jdk_42_m54_6 : decode jdk_42_method_54_code 6 = .ok (.invokevirtual 335, 3) := by decide +kernel
theorem wd142 {a0 : Array Value} {Z : State} (hw : ∀ d ∈ tables_1, d.before a0 Z = true) : (Jvm.Cond.code ({ cls := "java/lang/String", name := "coder", desc := "()B" } : Jvm.MethodName) jdk_42_method_152_code (1 : Nat) (Option.some Jvm.ClassFile.FieldType.byte)).before a0 Z = true := hw _ (List.mem_of_getElem? (i := 142) rfl)
theorem wd4 {a0 : Array Value} {Z : State} (hw : ∀ d ∈ tables_1, d.before a0 Z = true) : (Jvm.Cond.initialized "java/lang/String").before a0 Z = true := hw _ (List.mem_of_getElem? (i := 4) rfl)
theorem pd_2829B : parseMethodDescriptor "()B" = some ⟨[], some .byte⟩ := by decide +kernel
theorem wd136 {a0 : Array Value} {Z : State} (hw : ∀ d ∈ tables_1, d.before a0 Z = true) : (Jvm.Cond.selects "java/lang/String" ({ cls := "java/lang/String", name := "length", desc := "()I" } : Jvm.MethodName) ({ cls := "java/lang/String", name := "length", desc := "()I" } : Jvm.MethodName)).before a0 Z = true := hw _ (List.mem_of_getElem? (i := 136) rfl)
theorem wd138 {a0 : Array Value} {Z : State} (hw : ∀ d ∈ tables_1, d.before a0 Z = true) : (Jvm.Cond.methodLink "java/lang/String" (335 : Nat) ({ cls := "java/lang/String", name := "coder", desc := "()B" } : Jvm.MethodName)).before a0 Z = true := hw _ (List.mem_of_getElem? (i := 138) rfl)
theorem wd139 {a0 : Array Value} {Z : State} (hw : ∀ d ∈ tables_1, d.before a0 Z = true) : (Jvm.Cond.declares ({ cls := "java/lang/String", name := "coder", desc := "()B" } : Jvm.MethodName)).before a0 Z = true := hw _ (List.mem_of_getElem? (i := 139) rfl)
theorem wd141 {a0 : Array Value} {Z : State} (hw : ∀ d ∈ tables_1, d.before a0 Z = true) : (Jvm.Cond.selects "java/lang/String" ({ cls := "java/lang/String", name := "coder", desc := "()B" } : Jvm.MethodName) ({ cls := "java/lang/String", name := "coder", desc := "()B" } : Jvm.MethodName)).before a0 Z = true := hw _ (List.mem_of_getElem? (i := 141) rfl)
theorem wd140 {a0 : Array Value} {Z : State} (hw : ∀ d ∈ tables_1, d.before a0 Z = true) : (Jvm.Cond.instanceMethod ({ cls := "java/lang/String", name := "coder", desc := "()B" } : Jvm.MethodName)).before a0 Z = true := hw _ (List.mem_of_getElem? (i := 140) rfl)
theorem d_jdk_42_m54_9 : decode jdk_42_method_54_code 9 = .ok (.ishr, 1) := by decide +kernel
theorem d_jdk_42_m54_10 : decode jdk_42_method_54_code 10 = .ok (.ireturn, 1) := by decide +kernel
set_option maxRecDepth 65536 in
set_option maxHeartbeats 40000000 in
theorem rm_lengthS {l : Launch} {Z : State} {a0 : Array Value} (hw : ∀ d ∈ tables_1, d.before a0 Z = true) (hs : ∀ d ∈ jdkStatics_1, d.before a0 Z = true) {x : Addr} {cs : List Int32} {h0 : Heap} (O0 : Ext Z.heap h0) (S : own_StrG Z h0 x u cs) (hlen : cs.length ≤ 4000) :
    own_Ct l Z (⟨"java/lang/String", "length", "()I"⟩ : MethodName) jdk_42_method_54_code 1 (some .int) [] ({ frames := 1, locals := 13, cells := 0, slots := 0 } : Room) #[(.ref x)] h0 (fun v h => v = some (.int (Int32.ofNat cs.length)) ∧ h = h0) := by
  have S' := S
  obtain ⟨E, Fc, b, kb, Fv, V⟩ := S'
  refine own_body (Ls := #[.val (.ref x)]) (plainFor_of_name pn_java_lang_String) (fun m => by first | (simp [entryFrame, mkF, argsToLocals, Value.category]; done) | rfl) O0 ?_
  intro p e s m below meth c T0 G K0
  refine own_aloadN K0 d_jdk_42_m54_0 rfl rfl rfl ?_
  refine own_getF K0 (host := "") (Or.inl (wd29 hw)) Via.refl Fv d_jdk_42_m54_1 rfl ?_
  intro T3 K3
  refine own_arraylength K3 V d_jdk_42_m54_4 rfl ?_
  refine own_aloadN K3 d_jdk_42_m54_5 rfl rfl rfl ?_
  refine own_callV K3 (a := x) (x0 := (⟨"java/lang/String", "coder", "()B"⟩ : MethodName)) (wd138 hw) (wd139 hw) (fun q => own_nfS (args := #[]) (mvT q (wd136 hw)) rfl) (wd141 hw) (wd140 hw) (rm_coder hw hs K3.O S hlen) (wd142 hw) (wd4 hw) (by decide) S.exa (argsL := []) (rest := [(.int (Int32.ofNat (own_bn u cs.length)))]) rfl pd_2829B rfl rfl (W := 1) rfl (by decide) (by decide) (by decide) (by decide) d_jdk_42_m54_6 rfl ?_
  intro T4 h4 L4 v4 K4 q4
  obtain ⟨rfl, e4⟩ := q4
  have f4 := e4.symm
  subst f4
  show G (T4.setTop (mkF m 9 #[.val (.ref x)] [(.int (own_cd u)), (.int (Int32.ofNat (own_bn u cs.length)))]))
  refine own_ishr K4 d_jdk_42_m54_9 rfl ?_
  exact own_retI K4 d_jdk_42_m54_10 rfl (by decide) (by decide) ⟨by rw [own_lenS u hlen], rfl⟩
theorem d_jdk_42_m154_0 : decode jdk_42_method_154_code 0 = .ok (.getstatic 38, 3) := by decide +kernel
theorem d_jdk_42_m154_3 : decode jdk_42_method_154_code 3 = .ok (.ifCond .eq 14, 3) := by decide +kernel
theorem d_jdk_42_m154_6 : decode jdk_42_method_154_code 6 = .ok (.aload_n 0, 1) := by decide +kernel
theorem d_jdk_42_m154_7 : decode jdk_42_method_154_code 7 = .ok (.getfield 15, 3) := by decide +kernel
theorem d_jdk_42_m154_10 : decode jdk_42_method_154_code 10 = .ok (.ifCond .ne 7, 3) := by decide +kernel
theorem d_jdk_42_m154_13 : decode jdk_42_method_154_code 13 = .ok (.iconst 1, 1) := by decide +kernel
theorem d_jdk_42_m154_14 : decode jdk_42_method_154_code 14 = .ok (.goto 4, 3) := by decide +kernel
theorem d_jdk_42_m154_18 : decode jdk_42_method_154_code 18 = .ok (.ireturn, 1) := by decide +kernel
set_option maxRecDepth 65536 in
set_option maxHeartbeats 40000000 in
theorem rm_isLatin1 {l : Launch} {Z : State} {a0 : Array Value} (hw : ∀ d ∈ tables_1, d.before a0 Z = true) (hs : ∀ d ∈ jdkStatics_1, d.before a0 Z = true) {x : Addr} {cs : List Int32} {h0 : Heap} (O0 : Ext Z.heap h0) (S : own_StrG Z h0 x u cs) (hlen : cs.length ≤ 4000) :
    own_Ct l Z (⟨"java/lang/String", "isLatin1", "()Z"⟩ : MethodName) jdk_42_method_154_code 1 (some .boolean) [] ({ frames := 0, locals := 0, cells := 0, slots := 0 } : Room) #[(.ref x)] h0 (fun v h => v = some (.int (cond u 0 1)) ∧ h = h0) := by
  obtain ⟨zc, SC, hzc⟩ := own_compact hs
  obtain ⟨E, Fc, b, kb, Fv, V⟩ := S
  refine own_body (Ls := #[.val (.ref x)]) (plainFor_of_name pn_java_lang_String) (fun m => by first | (simp [entryFrame, mkF, argsToLocals, Value.category]; done) | rfl) O0 ?_
  intro p e s m below meth c T0 G K0
  refine own_getS K0 (wd15 hw) Via.refl (SC.ext K0.O) d_jdk_42_m154_0 rfl ?_
  intro T5 K5
  refine own_ifNo K5 d_jdk_42_m154_3 rfl ((if0 _ _).trans (feq hzc).1) ?_
  refine own_aloadN K5 d_jdk_42_m154_6 rfl rfl rfl ?_
  refine own_getF K5 (host := "") (Or.inl (wd27 hw)) Via.refl Fc d_jdk_42_m154_7 rfl ?_
  intro T6 K6
  · skip
    refine own_ifNo K6 d_jdk_42_m154_10 rfl ((if0 _ _).trans (teq rfl).2) ?_
    refine own_iconst K6 (v := (1 : Int32)) d_jdk_42_m154_13 rfl rfl ?_
    refine own_goto K6 d_jdk_42_m154_14 (pc' := 18) (by decide) (by decide) ?_
    exact own_retN K6 (z' := (1 : Int32)) d_jdk_42_m154_18 rfl (by simp) (by decide) (by decide) (by decide) ⟨rfl, rfl⟩
theorem d_jdk_41_m11_0 : decode jdk_41_method_11_code 0 = .ok (.iload_n 0, 1) := by decide +kernel
theorem d_jdk_41_m11_1 : decode jdk_41_method_11_code 1 = .ok (.ifCond .lt 8, 3) := by decide +kernel
theorem d_jdk_41_m11_4 : decode jdk_41_method_11_code 4 = .ok (.iload_n 0, 1) := by decide +kernel
theorem d_jdk_41_m11_5 : decode jdk_41_method_11_code 5 = .ok (.iload_n 1, 1) := by decide +kernel
theorem d_jdk_41_m11_6 : decode jdk_41_method_11_code 6 = .ok (.if_icmp .lt 10, 3) := by decide +kernel
theorem d_jdk_41_m11_16 : decode jdk_41_method_11_code 16 = .ok (.iload_n 0, 1) := by decide +kernel
theorem d_jdk_41_m11_17 : decode jdk_41_method_11_code 17 = .ok (.ireturn, 1) := by decide +kernel
theorem pn_jdk_internal_util_Preconditions : plainName "jdk/internal/util/Preconditions" = true := by first | (simp [plainName, overriddenIn]; done) | decide +kernel
set_option maxRecDepth 65536 in
set_option maxHeartbeats 40000000 in
theorem rm_checkIndexP {l : Launch} {Z : State} {a0 : Array Value} (hw : ∀ d ∈ tables_1, d.before a0 Z = true) (hs : ∀ d ∈ jdkStatics_1, d.before a0 Z = true) {i : Nat} {nn : Nat} {fm : Value} {h0 : Heap} (O0 : Ext Z.heap h0) (hfm : fm.isRef = true) (hi : i < nn) (hn : nn ≤ 8000) :
    own_Ct l Z (⟨"jdk/internal/util/Preconditions", "checkIndex", "(IILjava/util/function/BiFunction;)I"⟩ : MethodName) jdk_41_method_11_code 3 (some .int) [] ({ frames := 0, locals := 0, cells := 0, slots := 0 } : Room) #[(.int (Int32.ofNat i)), (.int (Int32.ofNat nn)), fm] h0 (fun v h => v = some (.int (Int32.ofNat i)) ∧ h = h0) := by
  refine own_body (Ls := #[.val (.int (Int32.ofNat i)), .val (.int (Int32.ofNat nn)), .val fm]) (plainFor_of_name pn_jdk_internal_util_Preconditions) (fun m => by first | (simp [entryFrame, mkF, argsToLocals, Value.category]; done) | rfl | (revert hfm; cases fm <;> intro hfm <;> first | (simp [Value.isRef] at hfm; done) | (simp [entryFrame, mkF, argsToLocals, Value.category]; done))) O0 ?_
  intro p e s m below meth c T0 G K0
  refine own_iloadN K0 d_jdk_41_m11_0 rfl rfl ?_
  refine own_ifNo K0 d_jdk_41_m11_1 rfl ((if0 _ _).trans (flt (own_nn (by omega))).1) ?_
  refine own_iloadN K0 d_jdk_41_m11_4 rfl rfl ?_
  refine own_iloadN K0 d_jdk_41_m11_5 rfl rfl ?_
  refine own_icmpYes K0 d_jdk_41_m11_6 (pc' := 16) (by decide) (by decide) (tlt (own_lt hi (by omega))).1 ?_
  refine own_iloadN K0 d_jdk_41_m11_16 rfl rfl ?_
  exact own_retI K0 d_jdk_41_m11_17 rfl (by decide) (by decide) ⟨rfl, rfl⟩
theorem d_jdk_42_m155_0 : decode jdk_42_method_155_code 0 = .ok (.iload_n 0, 1) := by decide +kernel
theorem d_jdk_42_m155_1 : decode jdk_42_method_155_code 1 = .ok (.iload_n 1, 1) := by decide +kernel
theorem d_jdk_42_m155_2 : decode jdk_42_method_155_code 2 = .ok (.getstatic 1053, 3) := by decide +kernel
theorem wd302 {a0 : Array Value} {Z : State} (hw : ∀ d ∈ tables_1, d.before a0 Z = true) : (Jvm.Cond.fieldLink "java/lang/String" (1053 : Nat) "jdk/internal/util/Preconditions" "SIOOBE_FORMATTER" "Ljava/util/function/BiFunction;").before a0 Z = true := hw _ (List.mem_of_getElem? (i := 302) rfl)
theorem d_jdk_42_m155_5 : decode jdk_42_method_155_code 5 = .ok (.invokestatic 1059, 3) := by decide +kernel
theorem wd306 {a0 : Array Value} {Z : State} (hw : ∀ d ∈ tables_1, d.before a0 Z = true) : (Jvm.Cond.code ({ cls := "jdk/internal/util/Preconditions", name := "checkIndex", desc := "(IILjava/util/function/BiFunction;)I" } : Jvm.MethodName) jdk_41_method_11_code (3 : Nat) (Option.some Jvm.ClassFile.FieldType.int)).before a0 Z = true := hw _ (List.mem_of_getElem? (i := 306) rfl)
theorem wd303 {a0 : Array Value} {Z : State} (hw : ∀ d ∈ tables_1, d.before a0 Z = true) : (Jvm.Cond.initialized "jdk/internal/util/Preconditions").before a0 Z = true := hw _ (List.mem_of_getElem? (i := 303) rfl)
theorem pd_28IILjava2futil2ffunction2fBiFunction3b29I : parseMethodDescriptor "(IILjava/util/function/BiFunction;)I" = some ⟨[.int, .int, (.object "java/util/function/BiFunction")], some .int⟩ := by decide +kernel
theorem wd304 {a0 : Array Value} {Z : State} (hw : ∀ d ∈ tables_1, d.before a0 Z = true) : (Jvm.Cond.methodLink "java/lang/String" (1059 : Nat) ({ cls := "jdk/internal/util/Preconditions", name := "checkIndex", desc := "(IILjava/util/function/BiFunction;)I" } : Jvm.MethodName)).before a0 Z = true := hw _ (List.mem_of_getElem? (i := 304) rfl)
theorem wd305 {a0 : Array Value} {Z : State} (hw : ∀ d ∈ tables_1, d.before a0 Z = true) : (Jvm.Cond.static ({ cls := "jdk/internal/util/Preconditions", name := "checkIndex", desc := "(IILjava/util/function/BiFunction;)I" } : Jvm.MethodName)).before a0 Z = true := hw _ (List.mem_of_getElem? (i := 305) rfl)
theorem d_jdk_42_m155_8 : decode jdk_42_method_155_code 8 = .ok (.pop, 1) := by decide +kernel
theorem d_jdk_42_m155_9 : decode jdk_42_method_155_code 9 = .ok (.return_, 1) := by decide +kernel
theorem st8 {a0 : Array Value} {Z : State} (hs : ∀ d ∈ jdkStatics_1, d.before a0 Z = true) : (Jvm.Cond.isRef (Jvm.Term.static "jdk/internal/util/Preconditions" "SIOOBE_FORMATTER" "Ljava/util/function/BiFunction;")).before a0 Z = true := hs _ (List.mem_of_getElem? (i := 8) rfl)
theorem st7 {a0 : Array Value} {Z : State} (hs : ∀ d ∈ jdkStatics_1, d.before a0 Z = true) : (Jvm.Cond.initializedFor "jdk/internal/util/Preconditions" "SIOOBE_FORMATTER" "Ljava/util/function/BiFunction;").before a0 Z = true := hs _ (List.mem_of_getElem? (i := 7) rfl)
theorem own_fmt {a0 : Array Value} {Z : State} (hs : ∀ d ∈ jdkStatics_1, d.before a0 Z = true) : ∃ fm, Sta Z Z.heap "jdk/internal/util/Preconditions" "SIOOBE_FORMATTER" "Ljava/util/function/BiFunction;" fm ∧ fm.isRef = true :=
  own_staR (st8 hs) (st7 hs)
set_option maxRecDepth 65536 in
set_option maxHeartbeats 40000000 in
theorem rm_checkIndexS {l : Launch} {Z : State} {a0 : Array Value} (hw : ∀ d ∈ tables_1, d.before a0 Z = true) (hs : ∀ d ∈ jdkStatics_1, d.before a0 Z = true) {i : Nat} {nn : Nat} {h0 : Heap} (O0 : Ext Z.heap h0) (hi : i < nn) (hn : nn ≤ 8000) :
    own_Ct l Z (⟨"java/lang/String", "checkIndex", "(II)V"⟩ : MethodName) jdk_42_method_155_code 2 none [] ({ frames := 1, locals := 14, cells := 0, slots := 0 } : Room) #[(.int (Int32.ofNat i)), (.int (Int32.ofNat nn))] h0 (fun v h => v = none ∧ h = h0) := by
  obtain ⟨fm, SFm, hfm⟩ := own_fmt hs
  refine own_body (Ls := #[.val (.int (Int32.ofNat i)), .val (.int (Int32.ofNat nn))]) (plainFor_of_name pn_java_lang_String) (fun m => by first | (simp [entryFrame, mkF, argsToLocals, Value.category]; done) | rfl) O0 ?_
  intro p e s m below meth c T0 G K0
  refine own_iloadN K0 d_jdk_42_m155_0 rfl rfl ?_
  refine own_iloadN K0 d_jdk_42_m155_1 rfl rfl ?_
  refine own_getS K0 (wd302 hw) Via.refl (SFm.ext K0.O) d_jdk_42_m155_2 rfl ?_
  intro T7 K7
  refine own_callS K7 (wd304 hw) (wd305 hw) (rm_checkIndexP hw hs K7.O hfm hi hn) (wd306 hw) (wd303 hw) (by decide) (argsL := [(.int (Int32.ofNat i)), (.int (Int32.ofNat nn)), fm]) (rest := []) rfl pd_28IILjava2futil2ffunction2fBiFunction3b29I rfl rfl (W := 0) rfl (by decide) (by decide) (by decide) (by decide) d_jdk_42_m155_5 rfl ?_
  intro T8 h8 L8 v8 K8 q8
  obtain ⟨rfl, e8⟩ := q8
  have f8 := e8.symm
  subst f8
  show G (T8.setTop (mkF m 8 #[.val (.int (Int32.ofNat i)), .val (.int (Int32.ofNat nn))] [(.int (Int32.ofNat i))]))
  refine own_pop K8 d_jdk_42_m155_8 rfl rfl ?_
  exact own_ret0 K8 d_jdk_42_m155_9 rfl (by decide) (by decide) ⟨rfl, rfl⟩
theorem d_jdk_43_m2_0 : decode jdk_43_method_2_code 0 = .ok (.iload_n 1, 1) := by decide +kernel
theorem d_jdk_43_m2_1 : decode jdk_43_method_2_code 1 = .ok (.aload_n 0, 1) := by decide +kernel
theorem d_jdk_43_m2_2 : decode jdk_43_method_2_code 2 = .ok (.arraylength, 1) := by decide +kernel
theorem d_jdk_43_m2_3 : decode jdk_43_method_2_code 3 = .ok (.invokestatic 9, 3) := by decide +kernel
theorem wd301 {a0 : Array Value} {Z : State} (hw : ∀ d ∈ tables_1, d.before a0 Z = true) : (Jvm.Cond.code ({ cls := "java/lang/String", name := "checkIndex", desc := "(II)V" } : Jvm.MethodName) jdk_42_method_155_code (2 : Nat) (Option.none : Option Jvm.ClassFile.FieldType)).before a0 Z = true := hw _ (List.mem_of_getElem? (i := 301) rfl)
theorem pd_28II29V : parseMethodDescriptor "(II)V" = some ⟨[.int, .int], none⟩ := by decide +kernel
theorem wd299 {a0 : Array Value} {Z : State} (hw : ∀ d ∈ tables_1, d.before a0 Z = true) : (Jvm.Cond.methodLink "java/lang/StringLatin1" (9 : Nat) ({ cls := "java/lang/String", name := "checkIndex", desc := "(II)V" } : Jvm.MethodName)).before a0 Z = true := hw _ (List.mem_of_getElem? (i := 299) rfl)
theorem wd300 {a0 : Array Value} {Z : State} (hw : ∀ d ∈ tables_1, d.before a0 Z = true) : (Jvm.Cond.static ({ cls := "java/lang/String", name := "checkIndex", desc := "(II)V" } : Jvm.MethodName)).before a0 Z = true := hw _ (List.mem_of_getElem? (i := 300) rfl)
theorem d_jdk_43_m2_6 : decode jdk_43_method_2_code 6 = .ok (.aload_n 0, 1) := by decide +kernel
theorem d_jdk_43_m2_7 : decode jdk_43_method_2_code 7 = .ok (.iload_n 1, 1) := by decide +kernel
theorem d_jdk_43_m2_8 : decode jdk_43_method_2_code 8 = .ok (.baload, 1) := by decide +kernel
theorem d_jdk_43_m2_9 : decode jdk_43_method_2_code 9 = .ok (.sipush 255, 3) := by decide +kernel
theorem d_jdk_43_m2_12 : decode jdk_43_method_2_code 12 = .ok (.iand, 1) := by decide +kernel
theorem d_jdk_43_m2_13 : decode jdk_43_method_2_code 13 = .ok (.i2c, 1) := by decide +kernel
theorem d_jdk_43_m2_14 : decode jdk_43_method_2_code 14 = .ok (.ireturn, 1) := by decide +kernel
theorem pn_java_lang_StringLatin1 : plainName "java/lang/StringLatin1" = true := by first | (simp [plainName, overriddenIn]; done) | decide +kernel
set_option maxRecDepth 65536 in
set_option maxHeartbeats 40000000 in
theorem rm_charAt1 {l : Launch} {Z : State} {a0 : Array Value} (hw : ∀ d ∈ tables_1, d.before a0 Z = true) (hs : ∀ d ∈ jdkStatics_1, d.before a0 Z = true) {b : Addr} {kb : ClassId} {cs : List Int32} {i : Nat} {h0 : Heap} (O0 : Ext Z.heap h0) (V : Arv Z h0 b kb .byte (Int32.ofNat cs.length) (own_by cs) (.int 0)) (hlen : cs.length ≤ 4000) (hok : own_ok false cs) (hi : i < cs.length) :
    own_Ct l Z (⟨"java/lang/StringLatin1", "charAt", "([BI)C"⟩ : MethodName) jdk_43_method_2_code 2 (some .char) [] ({ frames := 2, locals := 27, cells := 0, slots := 0 } : Room) #[(.ref b), (.int (Int32.ofNat i))] h0 (fun v h => v = some (.int cs[i]) ∧ h = h0) := by
  refine own_body (Ls := #[.val (.ref b), .val (.int (Int32.ofNat i))]) (plainFor_of_name pn_java_lang_StringLatin1) (fun m => by first | (simp [entryFrame, mkF, argsToLocals, Value.category]; done) | rfl) O0 ?_
  intro p e s m below meth c T0 G K0
  refine own_iloadN K0 d_jdk_43_m2_0 rfl rfl ?_
  refine own_aloadN K0 d_jdk_43_m2_1 rfl rfl rfl ?_
  refine own_arraylength K0 V d_jdk_43_m2_2 rfl ?_
  refine own_callS K0 (wd299 hw) (wd300 hw) (rm_checkIndexS hw hs K0.O hi (by omega)) (wd301 hw) (wd4 hw) (by decide) (argsL := [(.int (Int32.ofNat i)), (.int (Int32.ofNat cs.length))]) (rest := []) rfl pd_28II29V rfl rfl (W := 0) rfl (by decide) (by decide) (by decide) (by decide) d_jdk_43_m2_3 rfl ?_
  intro T9 h9 L9 v9 K9 q9
  obtain ⟨rfl, e9⟩ := q9
  have f9 := e9.symm
  subst f9
  show G (T9.setTop (mkF m 6 #[.val (.ref b), .val (.int (Int32.ofNat i))] []))
  refine own_aloadN K9 d_jdk_43_m2_6 rfl rfl rfl ?_
  refine own_iloadN K9 d_jdk_43_m2_7 rfl rfl ?_
  refine own_baload K9 (x := (cs[i]).toInt8.toInt32) V ⟨own_nn (by omega), own_lt hi (by omega)⟩ (by rw [own_clamp (by omega)]; exact own_by_get cs i hi) d_jdk_43_m2_8 rfl ?_
  refine own_sipush K9 (v := (255 : Int32)) d_jdk_43_m2_9 rfl rfl ?_
  refine own_iand K9 d_jdk_43_m2_12 rfl ?_
  refine own_i2c K9 d_jdk_43_m2_13 rfl ?_
  exact own_retN K9 (z' := cs[i]) d_jdk_43_m2_14 rfl (by simp) (by rw [own_rd1 (hok _ (List.getElem_mem hi)), own_i2c_id (own_lo_ch (hok _ (List.getElem_mem hi)))]; exact own_nar_char8 (hok _ (List.getElem_mem hi))) (by decide) (by decide) ⟨rfl, rfl⟩
theorem d_jdk_42_m56_0 : decode jdk_42_method_56_code 0 = .ok (.aload_n 0, 1) := by decide +kernel
theorem d_jdk_42_m56_1 : decode jdk_42_method_56_code 1 = .ok (.invokevirtual 492, 3) := by decide +kernel
theorem wd294 {a0 : Array Value} {Z : State} (hw : ∀ d ∈ tables_1, d.before a0 Z = true) : (Jvm.Cond.code ({ cls := "java/lang/String", name := "isLatin1", desc := "()Z" } : Jvm.MethodName) jdk_42_method_154_code (1 : Nat) (Option.some Jvm.ClassFile.FieldType.boolean)).before a0 Z = true := hw _ (List.mem_of_getElem? (i := 294) rfl)
theorem pd_2829Z : parseMethodDescriptor "()Z" = some ⟨[], some .boolean⟩ := by decide +kernel
theorem wd290 {a0 : Array Value} {Z : State} (hw : ∀ d ∈ tables_1, d.before a0 Z = true) : (Jvm.Cond.methodLink "java/lang/String" (492 : Nat) ({ cls := "java/lang/String", name := "isLatin1", desc := "()Z" } : Jvm.MethodName)).before a0 Z = true := hw _ (List.mem_of_getElem? (i := 290) rfl)
theorem wd291 {a0 : Array Value} {Z : State} (hw : ∀ d ∈ tables_1, d.before a0 Z = true) : (Jvm.Cond.declares ({ cls := "java/lang/String", name := "isLatin1", desc := "()Z" } : Jvm.MethodName)).before a0 Z = true := hw _ (List.mem_of_getElem? (i := 291) rfl)
theorem wd293 {a0 : Array Value} {Z : State} (hw : ∀ d ∈ tables_1, d.before a0 Z = true) : (Jvm.Cond.selects "java/lang/String" ({ cls := "java/lang/String", name := "isLatin1", desc := "()Z" } : Jvm.MethodName) ({ cls := "java/lang/String", name := "isLatin1", desc := "()Z" } : Jvm.MethodName)).before a0 Z = true := hw _ (List.mem_of_getElem? (i := 293) rfl)
theorem wd292 {a0 : Array Value} {Z : State} (hw : ∀ d ∈ tables_1, d.before a0 Z = true) : (Jvm.Cond.instanceMethod ({ cls := "java/lang/String", name := "isLatin1", desc := "()Z" } : Jvm.MethodName)).before a0 Z = true := hw _ (List.mem_of_getElem? (i := 292) rfl)
theorem d_jdk_42_m56_4 : decode jdk_42_method_56_code 4 = .ok (.ifCond .eq 12, 3) := by decide +kernel
theorem d_jdk_42_m56_7 : decode jdk_42_method_56_code 7 = .ok (.aload_n 0, 1) := by decide +kernel
theorem d_jdk_42_m56_8 : decode jdk_42_method_56_code 8 = .ok (.getfield 9, 3) := by decide +kernel
theorem d_jdk_42_m56_11 : decode jdk_42_method_56_code 11 = .ok (.iload_n 1, 1) := by decide +kernel
theorem d_jdk_42_m56_12 : decode jdk_42_method_56_code 12 = .ok (.invokestatic 495, 3) := by decide +kernel
theorem wd298 {a0 : Array Value} {Z : State} (hw : ∀ d ∈ tables_1, d.before a0 Z = true) : (Jvm.Cond.code ({ cls := "java/lang/StringLatin1", name := "charAt", desc := "([BI)C" } : Jvm.MethodName) jdk_43_method_2_code (2 : Nat) (Option.some Jvm.ClassFile.FieldType.char)).before a0 Z = true := hw _ (List.mem_of_getElem? (i := 298) rfl)
theorem wd297 {a0 : Array Value} {Z : State} (hw : ∀ d ∈ tables_1, d.before a0 Z = true) : (Jvm.Cond.initialized "java/lang/StringLatin1").before a0 Z = true := hw _ (List.mem_of_getElem? (i := 297) rfl)
theorem pd_285bBI29C : parseMethodDescriptor "([BI)C" = some ⟨[(.array .byte), .int], some .char⟩ := by decide +kernel
theorem wd295 {a0 : Array Value} {Z : State} (hw : ∀ d ∈ tables_1, d.before a0 Z = true) : (Jvm.Cond.methodLink "java/lang/String" (495 : Nat) ({ cls := "java/lang/StringLatin1", name := "charAt", desc := "([BI)C" } : Jvm.MethodName)).before a0 Z = true := hw _ (List.mem_of_getElem? (i := 295) rfl)
theorem wd296 {a0 : Array Value} {Z : State} (hw : ∀ d ∈ tables_1, d.before a0 Z = true) : (Jvm.Cond.static ({ cls := "java/lang/StringLatin1", name := "charAt", desc := "([BI)C" } : Jvm.MethodName)).before a0 Z = true := hw _ (List.mem_of_getElem? (i := 296) rfl)
theorem d_jdk_42_m56_15 : decode jdk_42_method_56_code 15 = .ok (.ireturn, 1) := by decide +kernel
set_option maxRecDepth 65536 in
set_option maxHeartbeats 40000000 in
theorem rm_charAt {l : Launch} {Z : State} {a0 : Array Value} (hw : ∀ d ∈ tables_1, d.before a0 Z = true) (hs : ∀ d ∈ jdkStatics_1, d.before a0 Z = true) {x : Addr} {cs : List Int32} {i : Nat} {h0 : Heap} (O0 : Ext Z.heap h0) (S : own_StrG Z h0 x u cs) (hlen : cs.length ≤ 4000) (hok : own_ok u cs) (hi : i < cs.length) :
    own_Ct l Z (⟨"java/lang/String", "charAt", "(I)C"⟩ : MethodName) jdk_42_method_56_code 2 (some .char) [] ({ frames := 3, locals := 40, cells := 0, slots := 0 } : Room) #[(.ref x), (.int (Int32.ofNat i))] h0 (fun v h => v = some (.int cs[i]) ∧ h = h0) := by
  have S' := S
  obtain ⟨E, Fc, b, kb, Fv, V⟩ := S'
  refine own_body (Ls := #[.val (.ref x), .val (.int (Int32.ofNat i))]) (plainFor_of_name pn_java_lang_String) (fun m => by first | (simp [entryFrame, mkF, argsToLocals, Value.category]; done) | rfl) O0 ?_
  intro p e s m below meth c T0 G K0
  refine own_aloadN K0 d_jdk_42_m56_0 rfl rfl rfl ?_
  refine own_callV K0 (a := x) (x0 := (⟨"java/lang/String", "isLatin1", "()Z"⟩ : MethodName)) (wd290 hw) (wd291 hw) (fun q => own_nfS (args := #[]) (mvT q (wd136 hw)) rfl) (wd293 hw) (wd292 hw) (rm_isLatin1 hw hs K0.O S hlen) (wd294 hw) (wd4 hw) (by decide) S.exa (argsL := []) (rest := []) rfl pd_2829Z rfl rfl (W := 0) rfl (by decide) (by decide) (by decide) (by decide) d_jdk_42_m56_1 rfl ?_
  intro T10 h10 L10 v10 K10 q10
  obtain ⟨rfl, e10⟩ := q10
  have f10 := e10.symm
  subst f10
  show G (T10.setTop (mkF m 4 #[.val (.ref x), .val (.int (Int32.ofNat i))] [(.int (cond u 0 1))]))
  · skip
    refine own_ifNo K10 d_jdk_42_m56_4 rfl ((if0 _ _).trans (feq (by decide)).1) ?_
    refine own_aloadN K10 d_jdk_42_m56_7 rfl rfl rfl ?_
    refine own_getF K10 (host := "") (Or.inl (wd29 hw)) Via.refl Fv d_jdk_42_m56_8 rfl ?_
    intro T11 K11
    refine own_iloadN K11 d_jdk_42_m56_11 rfl rfl ?_
    refine own_callS K11 (wd295 hw) (wd296 hw) (rm_charAt1 hw hs K11.O V hlen hok hi) (wd298 hw) (wd297 hw) (by decide) (argsL := [(.ref b), (.int (Int32.ofNat i))]) (rest := []) rfl pd_285bBI29C rfl rfl (W := 0) rfl (by decide) (by decide) (by decide) (by decide) d_jdk_42_m56_12 rfl ?_
    intro T12 h12 L12 v12 K12 q12
    obtain ⟨rfl, e12⟩ := q12
    have f12 := e12.symm
    subst f12
    show G (T12.setTop (mkF m 15 #[.val (.ref x), .val (.int (Int32.ofNat i))] [(.int cs[i])]))
    exact own_retN K12 (z' := cs[i]) d_jdk_42_m56_15 rfl (by simp) (own_nar_char8 (hok _ (List.getElem_mem hi))) (by decide) (by decide) ⟨rfl, rfl⟩
theorem own_keep2 {h0 h1 h2 : Heap} {x b b' : Addr} (K : Keep h0 h1 [x]) (K' : Keep h1 h2 [b']) (hb : b' = b ∨ h0.size ≤ b') : Keep h0 h2 [x, b] := by
  have K1 : Keep h0 h1 [x, b] := ⟨K.1, fun y c q r => K.2.1 y c q (fun z => r (by rw [List.mem_singleton.mp z]; exact List.mem_cons_self ..)), K.2.2⟩
  exact K1.trans K' fun y q => by
    rw [List.mem_singleton.mp q]
    exact hb.imp (fun z => by rw [z]; exact List.mem_cons_of_mem _ (List.mem_singleton.mpr rfl)) id
/-- a StringBuilder: its coder, its count n, the chars that stand in its array b, room for N chars -/
def own_SB (Z : State) (h : Heap) (a : Addr) (u : Bool) (n : Nat) (cs : List Int32) (b : Addr) (kb : ClassId) (N : Nat) : Prop :=
  Exa Z h a "java/lang/StringBuilder" ∧ Fld Z h a "java/lang/AbstractStringBuilder" "value" "[B" (.ref b) ∧ Fld Z h a "java/lang/AbstractStringBuilder" "coder" "B" (.int (own_cd u)) ∧ Fld Z h a "java/lang/AbstractStringBuilder" "count" "I" (.int (Int32.ofNat n)) ∧ Arv Z h b kb .byte (Int32.ofNat (own_bn u N)) (own_bs u cs) (.int 0) ∧ Exa Z h b "[B" ∧ a ≠ b ∧ Z.heap.size ≤ a ∧ Z.heap.size ≤ b ∧ cs.length ≤ N ∧ N ≤ 2000 ∧ n ≤ cs.length
theorem own_SB.ext {Z : State} {h h' : Heap} {a : Addr} {u : Bool} {n : Nat} {cs : List Int32} {b : Addr} {kb : ClassId} {N : Nat} (B : own_SB Z h a u n cs b kb N) (E : Ext h h') : own_SB Z h' a u n cs b kb N := by
  obtain ⟨E0, F0, F1, F2, V, X0, r⟩ := B
  exact ⟨E0.ext E, F0.ext E, F1.ext E, F2.ext E, V.ext E, X0.ext E, r⟩
theorem own_SB.exa {Z : State} {h : Heap} {a : Addr} {u : Bool} {n : Nat} {cs : List Int32} {b : Addr} {kb : ClassId} {N : Nat} (B : own_SB Z h a u n cs b kb N) : Exa Z h a "java/lang/StringBuilder" := B.1
theorem own_SB.lt {Z : State} {h : Heap} {a : Addr} {u : Bool} {n : Nat} {cs : List Int32} {b : Addr} {kb : ClassId} {N : Nat} (B : own_SB Z h a u n cs b kb N) : a < h.size ∧ b < h.size := by
  obtain ⟨E0, F0, F1, F2, V, r⟩ := B
  exact ⟨E0.lt, V.lt⟩
theorem own_nosub {i j : Nat} (h : i ≤ j) (hj : j < 1000000) : ¬ 0 < Int32.ofNat i - Int32.ofNat j := by
  have h1 := c_isub (Int32.ofNat i) (Int32.ofNat j)
  have h3 : ∀ y : Int32, -2147483648 ≤ y.toInt ∧ y.toInt < 2147483648 := fun y => ⟨Int32.le_toInt y, Int32.toInt_lt y⟩
  have h4 := h3 (Int32.ofNat i - Int32.ofNat j)
  rw [Int32.toInt_ofNat_of_lt (by omega), Int32.toInt_ofNat_of_lt (by omega)] at h1
  rw [Int32.lt_iff_toInt_lt, show (0 : Int32).toInt = 0 from rfl]; omega
theorem own_shrU (u : Bool) {n : Nat} (h : n ≤ 4000) : Int32.ofNat (own_bn u n) >>> (own_cd u &&& 31) = Int32.ofNat n := by
  cases u
  · exact own_shr0 _
  · exact own_shr1 (by omega)
theorem own_shlU (u : Bool) {n : Nat} (h : n ≤ 4000) : Int32.ofNat n <<< (own_cd u &&& 31) = Int32.ofNat (own_bn u n) := by
  cases u
  · exact own_shl0 _
  · exact own_shl1 (by omega)
theorem own_acp (vs us : List Value) (d : Value) (n : Nat) : (vs ++ List.replicate n d).take vs.length ++ us ++ (vs ++ List.replicate n d).drop (vs.length + n) = vs ++ us := by
  rw [List.take_left' rfl, List.drop_eq_nil_of_le (by simp), List.append_nil]
theorem own_rng (vs : List Value) (d : Value) (n : Nat) (h : n = vs.length) : (List.range n).map (fun i => vs.getD (0 + i) d) = vs := by
  subst h
  apply List.ext_getElem
  · simp
  · intro i h1 h2
    simp at h1
    simp [h1]
/-- how much room a builder has behind ensureCapacityInternal -/
def own_cap (N mm : Nat) : Nat := if mm ≤ N then N else N + max (mm - N) (N + 2)
theorem own_cap_ge (N mm : Nat) : N ≤ own_cap N mm ∧ mm ≤ own_cap N mm := by unfold own_cap; split <;> omega
theorem own_bn_add' (u : Bool) (i j : Nat) : own_bn u i + own_bn u j = own_bn u (i + j) := by cases u <;> simp only [own_bn, cond] <;> omega
theorem own_bn_sub (u : Bool) (i j : Nat) : own_bn u i - own_bn u j = own_bn u (i - j) := by cases u <;> simp only [own_bn, cond] <;> omega
theorem own_bn_max (u : Bool) (i j : Nat) : max (own_bn u i) (own_bn u j) = own_bn u (max i j) := by cases u <;> simp only [own_bn, cond] <;> omega
theorem own_shl2U (u : Bool) : (2 : Int32) <<< (own_cd u &&& 31) = Int32.ofNat (own_bn u 2) := own_shlU u (n := 2) (by omega)
theorem own_keep3 {h0 h1 h2 : Heap} {x b b1 : Addr} (K : Keep h0 h1 [x]) (K' : Keep h1 h2 [x, b1]) (hb : b1 = b ∨ h0.size ≤ b1) : Keep h0 h2 [x, b] := by
  have K1 : Keep h0 h1 [x, b] := ⟨K.1, fun y c q r => K.2.1 y c q (fun z => r (by rw [List.mem_singleton.mp z]; exact List.mem_cons_self ..)), K.2.2⟩
  exact K1.trans K' fun y q => by
    rcases List.mem_cons.mp q with z | z
    · rw [z]; exact Or.inl (List.mem_cons_self ..)
    · rw [List.mem_singleton.mp z]
      exact hb.imp (fun w => by rw [w]; exact List.mem_cons_of_mem _ (List.mem_singleton.mpr rfl)) id
theorem own_padB {Z : State} {h : Heap} {a : Addr} {k : ClassId} {z : Int32} {vs : List Value} {i j : Nat} (V : Arv Z h a k .byte z (vs ++ List.replicate i (.int 0) ++ List.replicate j (.int 0)) (.int 0)) : Arv Z h a k .byte z vs (.int 0) := V.pad fun n => by rw [pad_rep, pad_rep]
theorem d_jdk_29_m65_0 : decode jdk_29_method_65_code 0 = .ok (.iload_n 0, 1) := by decide +kernel
theorem d_jdk_29_m65_1 : decode jdk_29_method_65_code 1 = .ok (.iload_n 1, 1) := by decide +kernel
theorem d_jdk_29_m65_2 : decode jdk_29_method_65_code 2 = .ok (.if_icmp .lt 7, 3) := by decide +kernel
theorem d_jdk_29_m65_9 : decode jdk_29_method_65_code 9 = .ok (.iload_n 1, 1) := by decide +kernel
theorem d_jdk_29_m65_5 : decode jdk_29_method_65_code 5 = .ok (.iload_n 0, 1) := by decide +kernel
theorem d_jdk_29_m65_6 : decode jdk_29_method_65_code 6 = .ok (.goto 4, 3) := by decide +kernel
theorem d_jdk_29_m65_10 : decode jdk_29_method_65_code 10 = .ok (.ireturn, 1) := by decide +kernel
set_option maxRecDepth 65536 in
set_option maxHeartbeats 40000000 in
theorem rm_max {l : Launch} {Z : State} {a0 : Array Value} (hw : ∀ d ∈ tables_1, d.before a0 Z = true) (hs : ∀ d ∈ jdkStatics_1, d.before a0 Z = true) {i : Nat} {k : Nat} {h0 : Heap} (O0 : Ext Z.heap h0) (hn : i ≤ 100000 ∧ k ≤ 100000) :
    own_Ct l Z (⟨"java/lang/Math", "max", "(II)I"⟩ : MethodName) jdk_29_method_65_code 2 (some .int) [] ({ frames := 0, locals := 0, cells := 0, slots := 0 } : Room) #[(.int (Int32.ofNat i)), (.int (Int32.ofNat k))] h0 (fun v h => v = some (.int (Int32.ofNat (max i k))) ∧ h = h0) := by
  refine own_body (Ls := #[.val (.int (Int32.ofNat i)), .val (.int (Int32.ofNat k))]) (Jvm.Free.JP.mathPlain rfl (by decide +kernel)) (fun m => by first | (simp [entryFrame, mkF, argsToLocals, Value.category]; done) | rfl) O0 ?_
  intro p e s m below meth c T0 G K0
  refine own_iloadN K0 d_jdk_29_m65_0 rfl rfl ?_
  refine own_iloadN K0 d_jdk_29_m65_1 rfl rfl ?_
  by_cases hq : (Int32.ofNat i) < (Int32.ofNat k)
  · skip
    refine own_icmpYes K0 d_jdk_29_m65_2 (pc' := 9) (by decide) (by decide) (tlt hq).1 ?_
    refine own_iloadN K0 d_jdk_29_m65_9 rfl rfl ?_
    rw [Int32.lt_iff_toInt_lt, Int32.toInt_ofNat_of_lt (by omega), Int32.toInt_ofNat_of_lt (by omega)] at hq
    exact own_retI K0 d_jdk_29_m65_10 rfl (by decide) (by decide) ⟨by congr 2; congr 1; omega, rfl⟩
  · skip
    refine own_icmpNo K0 d_jdk_29_m65_2 rfl (flt hq).1 ?_
    refine own_iloadN K0 d_jdk_29_m65_5 rfl rfl ?_
    refine own_goto K0 d_jdk_29_m65_6 (pc' := 10) (by decide) (by decide) ?_
    rw [Int32.lt_iff_toInt_lt, Int32.toInt_ofNat_of_lt (by omega), Int32.toInt_ofNat_of_lt (by omega)] at hq
    exact own_retI K0 d_jdk_29_m65_10 rfl (by decide) (by decide) ⟨by congr 2; congr 1; omega, rfl⟩
theorem d_jdk_48_m27_0 : decode jdk_48_method_27_code 0 = .ok (.iload_n 0, 1) := by decide +kernel
theorem d_jdk_48_m27_1 : decode jdk_48_method_27_code 1 = .ok (.iload_n 1, 1) := by decide +kernel
theorem d_jdk_48_m27_2 : decode jdk_48_method_27_code 2 = .ok (.iload_n 2, 1) := by decide +kernel
theorem d_jdk_48_m27_3 : decode jdk_48_method_27_code 3 = .ok (.invokestatic 194, 3) := by decide +kernel
theorem wd162 {a0 : Array Value} {Z : State} (hw : ∀ d ∈ tables_1, d.before a0 Z = true) : (Jvm.Cond.code ({ cls := "java/lang/Math", name := "max", desc := "(II)I" } : Jvm.MethodName) jdk_29_method_65_code (2 : Nat) (Option.some Jvm.ClassFile.FieldType.int)).before a0 Z = true := hw _ (List.mem_of_getElem? (i := 162) rfl)
theorem wd161 {a0 : Array Value} {Z : State} (hw : ∀ d ∈ tables_1, d.before a0 Z = true) : (Jvm.Cond.initialized "java/lang/Math").before a0 Z = true := hw _ (List.mem_of_getElem? (i := 161) rfl)
theorem pd_28II29I : parseMethodDescriptor "(II)I" = some ⟨[.int, .int], some .int⟩ := by decide +kernel
theorem wd159 {a0 : Array Value} {Z : State} (hw : ∀ d ∈ tables_1, d.before a0 Z = true) : (Jvm.Cond.methodLink "jdk/internal/util/ArraysSupport" (194 : Nat) ({ cls := "java/lang/Math", name := "max", desc := "(II)I" } : Jvm.MethodName)).before a0 Z = true := hw _ (List.mem_of_getElem? (i := 159) rfl)
theorem wd160 {a0 : Array Value} {Z : State} (hw : ∀ d ∈ tables_1, d.before a0 Z = true) : (Jvm.Cond.static ({ cls := "java/lang/Math", name := "max", desc := "(II)I" } : Jvm.MethodName)).before a0 Z = true := hw _ (List.mem_of_getElem? (i := 160) rfl)
theorem d_jdk_48_m27_6 : decode jdk_48_method_27_code 6 = .ok (.iadd, 1) := by decide +kernel
theorem d_jdk_48_m27_7 : decode jdk_48_method_27_code 7 = .ok (.istore_n 3, 1) := by decide +kernel
theorem d_jdk_48_m27_8 : decode jdk_48_method_27_code 8 = .ok (.iconst 0, 1) := by decide +kernel
theorem d_jdk_48_m27_9 : decode jdk_48_method_27_code 9 = .ok (.iload_n 3, 1) := by decide +kernel
theorem d_jdk_48_m27_10 : decode jdk_48_method_27_code 10 = .ok (.if_icmp .ge 11, 3) := by decide +kernel
theorem d_jdk_48_m27_13 : decode jdk_48_method_27_code 13 = .ok (.iload_n 3, 1) := by decide +kernel
theorem wd163 {a0 : Array Value} {Z : State} (hw : ∀ d ∈ tables_1, d.before a0 Z = true) : (Jvm.Cond.constant "jdk/internal/util/ArraysSupport" (200 : Nat) (2147483639 : Int32)).before a0 Z = true := hw _ (List.mem_of_getElem? (i := 163) rfl)
theorem d_jdk_48_m27_14 : decode jdk_48_method_27_code 14 = .ok (.ldc 200, 2) := by decide +kernel
theorem d_jdk_48_m27_16 : decode jdk_48_method_27_code 16 = .ok (.if_icmp .gt 5, 3) := by decide +kernel
theorem d_jdk_48_m27_19 : decode jdk_48_method_27_code 19 = .ok (.iload_n 3, 1) := by decide +kernel
theorem d_jdk_48_m27_20 : decode jdk_48_method_27_code 20 = .ok (.ireturn, 1) := by decide +kernel
theorem pn_jdk_internal_util_ArraysSupport : plainName "jdk/internal/util/ArraysSupport" = true := by first | (simp [plainName, overriddenIn]; done) | decide +kernel
set_option maxRecDepth 65536 in
set_option maxHeartbeats 40000000 in
theorem rm_newLength {l : Launch} {Z : State} {a0 : Array Value} (hw : ∀ d ∈ tables_1, d.before a0 Z = true) (hs : ∀ d ∈ jdkStatics_1, d.before a0 Z = true) {o : Nat} {i : Nat} {k : Nat} {h0 : Heap} (O0 : Ext Z.heap h0) (hn : 0 < o + max i k ∧ o ≤ 100000 ∧ i ≤ 100000 ∧ k ≤ 100000) :
    own_Ct l Z (⟨"jdk/internal/util/ArraysSupport", "newLength", "(III)I"⟩ : MethodName) jdk_48_method_27_code 4 (some .int) [] ({ frames := 1, locals := 14, cells := 0, slots := 0 } : Room) #[(.int (Int32.ofNat o)), (.int (Int32.ofNat i)), (.int (Int32.ofNat k))] h0 (fun v h => v = some (.int (Int32.ofNat (o + max i k))) ∧ h = h0) := by
  refine own_body (Ls := #[.val (.int (Int32.ofNat o)), .val (.int (Int32.ofNat i)), .val (.int (Int32.ofNat k)), .unset]) (plainFor_of_name pn_jdk_internal_util_ArraysSupport) (fun m => by first | (simp [entryFrame, mkF, argsToLocals, Value.category]; done) | rfl) O0 ?_
  intro p e s m below meth c T0 G K0
  refine own_iloadN K0 d_jdk_48_m27_0 rfl rfl ?_
  refine own_iloadN K0 d_jdk_48_m27_1 rfl rfl ?_
  refine own_iloadN K0 d_jdk_48_m27_2 rfl rfl ?_
  refine own_callS K0 (wd159 hw) (wd160 hw) (rm_max hw hs K0.O ⟨by omega, by omega⟩) (wd162 hw) (wd161 hw) (by decide) (argsL := [(.int (Int32.ofNat i)), (.int (Int32.ofNat k))]) (rest := [(.int (Int32.ofNat o))]) rfl pd_28II29I rfl rfl (W := 1) rfl (by decide) (by decide) (by decide) (by decide) d_jdk_48_m27_3 rfl ?_
  intro T13 h13 L13 v13 K13 q13
  obtain ⟨rfl, e13⟩ := q13
  have f13 := e13.symm
  subst f13
  show G (T13.setTop (mkF m 6 #[.val (.int (Int32.ofNat o)), .val (.int (Int32.ofNat i)), .val (.int (Int32.ofNat k)), .unset] [(.int (Int32.ofNat (max i k))), (.int (Int32.ofNat o))]))
  refine own_iadd K13 d_jdk_48_m27_6 rfl ?_
  rw [own_addN]
  refine own_istoreN K13 (Ls' := #[.val (.int (Int32.ofNat o)), .val (.int (Int32.ofNat i)), .val (.int (Int32.ofNat k)), .val (.int (Int32.ofNat (o + max i k)))]) d_jdk_48_m27_7 rfl rfl ?_
  refine own_iconst K13 (v := (0 : Int32)) d_jdk_48_m27_8 rfl rfl ?_
  refine own_iloadN K13 d_jdk_48_m27_9 rfl rfl ?_
  refine own_icmpNo K13 d_jdk_48_m27_10 rfl (tlt (own_lt (i := 0) hn.1 (by omega))).2.1 ?_
  refine own_iloadN K13 d_jdk_48_m27_13 rfl rfl ?_
  refine own_ldcInt K13 (wd163 hw) d_jdk_48_m27_14 rfl ?_
  refine own_icmpNo K13 d_jdk_48_m27_16 rfl (flt (own_nlt (i := 2147483639) (by omega) (by decide))).2.2.1 ?_
  refine own_iloadN K13 d_jdk_48_m27_19 rfl rfl ?_
  exact own_retI K13 d_jdk_48_m27_20 rfl (by decide) (by decide) ⟨rfl, rfl⟩
theorem d_jdk_68_m10_0 : decode jdk_68_method_10_code 0 = .ok (.aload_n 0, 1) := by decide +kernel
theorem wd116 {a0 : Array Value} {Z : State} (hw : ∀ d ∈ tables_1, d.before a0 Z = true) : (Jvm.Cond.fieldLink "java/lang/AbstractStringBuilder" (15 : Nat) "java/lang/AbstractStringBuilder" "value" "[B").before a0 Z = true := hw _ (List.mem_of_getElem? (i := 116) rfl)
theorem d_jdk_68_m10_1 : decode jdk_68_method_10_code 1 = .ok (.getfield 15, 3) := by decide +kernel
theorem d_jdk_68_m10_4 : decode jdk_68_method_10_code 4 = .ok (.arraylength, 1) := by decide +kernel
theorem d_jdk_68_m10_5 : decode jdk_68_method_10_code 5 = .ok (.istore_n 2, 1) := by decide +kernel
theorem d_jdk_68_m10_6 : decode jdk_68_method_10_code 6 = .ok (.iload_n 1, 1) := by decide +kernel
theorem d_jdk_68_m10_7 : decode jdk_68_method_10_code 7 = .ok (.aload_n 0, 1) := by decide +kernel
theorem wd118 {a0 : Array Value} {Z : State} (hw : ∀ d ∈ tables_1, d.before a0 Z = true) : (Jvm.Cond.fieldLink "java/lang/AbstractStringBuilder" (22 : Nat) "java/lang/AbstractStringBuilder" "coder" "B").before a0 Z = true := hw _ (List.mem_of_getElem? (i := 118) rfl)
theorem d_jdk_68_m10_8 : decode jdk_68_method_10_code 8 = .ok (.getfield 22, 3) := by decide +kernel
theorem d_jdk_68_m10_11 : decode jdk_68_method_10_code 11 = .ok (.ishl, 1) := by decide +kernel
theorem d_jdk_68_m10_12 : decode jdk_68_method_10_code 12 = .ok (.istore_n 3, 1) := by decide +kernel
theorem d_jdk_68_m10_13 : decode jdk_68_method_10_code 13 = .ok (.iload_n 3, 1) := by decide +kernel
theorem d_jdk_68_m10_14 : decode jdk_68_method_10_code 14 = .ok (.iload_n 2, 1) := by decide +kernel
theorem d_jdk_68_m10_15 : decode jdk_68_method_10_code 15 = .ok (.isub, 1) := by decide +kernel
theorem d_jdk_68_m10_16 : decode jdk_68_method_10_code 16 = .ok (.istore 4, 2) := by decide +kernel
theorem d_jdk_68_m10_18 : decode jdk_68_method_10_code 18 = .ok (.iload_n 2, 1) := by decide +kernel
theorem d_jdk_68_m10_19 : decode jdk_68_method_10_code 19 = .ok (.iload 4, 2) := by decide +kernel
theorem d_jdk_68_m10_21 : decode jdk_68_method_10_code 21 = .ok (.iload_n 2, 1) := by decide +kernel
theorem d_jdk_68_m10_22 : decode jdk_68_method_10_code 22 = .ok (.iconst 2, 1) := by decide +kernel
theorem d_jdk_68_m10_23 : decode jdk_68_method_10_code 23 = .ok (.aload_n 0, 1) := by decide +kernel
theorem d_jdk_68_m10_24 : decode jdk_68_method_10_code 24 = .ok (.getfield 22, 3) := by decide +kernel
theorem d_jdk_68_m10_27 : decode jdk_68_method_10_code 27 = .ok (.ishl, 1) := by decide +kernel
theorem d_jdk_68_m10_28 : decode jdk_68_method_10_code 28 = .ok (.iadd, 1) := by decide +kernel
theorem d_jdk_68_m10_29 : decode jdk_68_method_10_code 29 = .ok (.invokestatic 114, 3) := by decide +kernel
theorem wd158 {a0 : Array Value} {Z : State} (hw : ∀ d ∈ tables_1, d.before a0 Z = true) : (Jvm.Cond.code ({ cls := "jdk/internal/util/ArraysSupport", name := "newLength", desc := "(III)I" } : Jvm.MethodName) jdk_48_method_27_code (4 : Nat) (Option.some Jvm.ClassFile.FieldType.int)).before a0 Z = true := hw _ (List.mem_of_getElem? (i := 158) rfl)
theorem wd157 {a0 : Array Value} {Z : State} (hw : ∀ d ∈ tables_1, d.before a0 Z = true) : (Jvm.Cond.initialized "jdk/internal/util/ArraysSupport").before a0 Z = true := hw _ (List.mem_of_getElem? (i := 157) rfl)
theorem pd_28III29I : parseMethodDescriptor "(III)I" = some ⟨[.int, .int, .int], some .int⟩ := by decide +kernel
theorem wd155 {a0 : Array Value} {Z : State} (hw : ∀ d ∈ tables_1, d.before a0 Z = true) : (Jvm.Cond.methodLink "java/lang/AbstractStringBuilder" (114 : Nat) ({ cls := "jdk/internal/util/ArraysSupport", name := "newLength", desc := "(III)I" } : Jvm.MethodName)).before a0 Z = true := hw _ (List.mem_of_getElem? (i := 155) rfl)
theorem wd156 {a0 : Array Value} {Z : State} (hw : ∀ d ∈ tables_1, d.before a0 Z = true) : (Jvm.Cond.static ({ cls := "jdk/internal/util/ArraysSupport", name := "newLength", desc := "(III)I" } : Jvm.MethodName)).before a0 Z = true := hw _ (List.mem_of_getElem? (i := 156) rfl)
theorem d_jdk_68_m10_32 : decode jdk_68_method_10_code 32 = .ok (.istore 5, 2) := by decide +kernel
theorem d_jdk_68_m10_34 : decode jdk_68_method_10_code 34 = .ok (.iload 5, 2) := by decide +kernel
theorem wd164 {a0 : Array Value} {Z : State} (hw : ∀ d ∈ tables_1, d.before a0 Z = true) : (Jvm.Cond.constant "java/lang/AbstractStringBuilder" (39 : Nat) (2147483647 : Int32)).before a0 Z = true := hw _ (List.mem_of_getElem? (i := 164) rfl)
theorem d_jdk_68_m10_36 : decode jdk_68_method_10_code 36 = .ok (.ldc 39, 2) := by decide +kernel
theorem d_jdk_68_m10_38 : decode jdk_68_method_10_code 38 = .ok (.if_icmp .ne 13, 3) := by decide +kernel
theorem d_jdk_68_m10_51 : decode jdk_68_method_10_code 51 = .ok (.iload 5, 2) := by decide +kernel
theorem d_jdk_68_m10_53 : decode jdk_68_method_10_code 53 = .ok (.aload_n 0, 1) := by decide +kernel
theorem d_jdk_68_m10_54 : decode jdk_68_method_10_code 54 = .ok (.getfield 22, 3) := by decide +kernel
theorem d_jdk_68_m10_57 : decode jdk_68_method_10_code 57 = .ok (.ishr, 1) := by decide +kernel
theorem d_jdk_68_m10_58 : decode jdk_68_method_10_code 58 = .ok (.ireturn, 1) := by decide +kernel
theorem own_shrU' (u : Bool) {n : Nat} (h : n ≤ 100000) : Int32.ofNat (own_bn u n) >>> (own_cd u &&& 31) = Int32.ofNat n := by
  cases u
  · exact own_shr0 _
  · exact own_shr1 (by omega)
theorem pn_java_lang_AbstractStringBuilder : plainName "java/lang/AbstractStringBuilder" = true := by first | (simp [plainName, overriddenIn]; done) | decide +kernel
set_option maxRecDepth 65536 in
set_option maxHeartbeats 40000000 in
theorem rm_newCap {l : Launch} {Z : State} {a0 : Array Value} (hw : ∀ d ∈ tables_1, d.before a0 Z = true) (hs : ∀ d ∈ jdkStatics_1, d.before a0 Z = true) {x : Addr} {cs : List Int32} {b : Addr} {kb : ClassId} {N : Nat} {mm : Nat} {h0 : Heap} (O0 : Ext Z.heap h0) (B : own_SB Z h0 x u cs.length cs b kb N) (hm : N < mm ∧ mm ≤ 2000) :
    own_Ct l Z (⟨"java/lang/AbstractStringBuilder", "newCapacity", "(I)I"⟩ : MethodName) jdk_68_method_10_code 6 (some .int) [] ({ frames := 2, locals := 29, cells := 0, slots := 0 } : Room) #[(.ref x), (.int (Int32.ofNat mm))] h0 (fun v h => v = some (.int (Int32.ofNat (own_cap N mm))) ∧ h = h0) := by
  have B' := B
  obtain ⟨BE, Bvalue, Bcoder, Bcount, BV, BX, hab, ga, gb, hcN, hN, hnc⟩ := B'
  refine own_body (Ls := #[.val (.ref x), .val (.int (Int32.ofNat mm)), .unset, .unset, .unset, .unset]) (plainFor_of_name pn_java_lang_AbstractStringBuilder) (fun m => by first | (simp [entryFrame, mkF, argsToLocals, Value.category]; done) | rfl) O0 ?_
  intro p e s m below meth c T0 G K0
  refine own_aloadN K0 d_jdk_68_m10_0 rfl rfl rfl ?_
  refine own_getF K0 (host := "") (Or.inl (wd116 hw)) Via.refl Bvalue d_jdk_68_m10_1 rfl ?_
  intro T14 K14
  refine own_arraylength K14 BV d_jdk_68_m10_4 rfl ?_
  refine own_istoreN K14 (Ls' := #[.val (.ref x), .val (.int (Int32.ofNat mm)), .val (.int (Int32.ofNat (own_bn u N))), .unset, .unset, .unset]) d_jdk_68_m10_5 rfl rfl ?_
  refine own_iloadN K14 d_jdk_68_m10_6 rfl rfl ?_
  refine own_aloadN K14 d_jdk_68_m10_7 rfl rfl rfl ?_
  refine own_getF K14 (host := "") (Or.inl (wd118 hw)) Via.refl Bcoder d_jdk_68_m10_8 rfl ?_
  intro T15 K15
  refine own_ishl K15 d_jdk_68_m10_11 rfl ?_
  rw [own_shlU u (by omega)]
  refine own_istoreN K15 (Ls' := #[.val (.ref x), .val (.int (Int32.ofNat mm)), .val (.int (Int32.ofNat (own_bn u N))), .val (.int (Int32.ofNat (own_bn u mm))), .unset, .unset]) d_jdk_68_m10_12 rfl rfl ?_
  refine own_iloadN K15 d_jdk_68_m10_13 rfl rfl ?_
  refine own_iloadN K15 d_jdk_68_m10_14 rfl rfl ?_
  refine own_isub K15 d_jdk_68_m10_15 rfl ?_
  have hb1 := own_bn_2 u mm
  have hb2 := own_bn_2 u N
  have hb3 := own_bn_le u (Nat.le_of_lt hm.1)
  rw [own_subN hb3, own_bn_sub]
  refine own_istore K15 (Ls' := #[.val (.ref x), .val (.int (Int32.ofNat mm)), .val (.int (Int32.ofNat (own_bn u N))), .val (.int (Int32.ofNat (own_bn u mm))), .val (.int (Int32.ofNat (own_bn u (mm - N)))), .unset]) d_jdk_68_m10_16 rfl rfl ?_
  refine own_iloadN K15 d_jdk_68_m10_18 rfl rfl ?_
  refine own_iload K15 d_jdk_68_m10_19 rfl rfl ?_
  refine own_iloadN K15 d_jdk_68_m10_21 rfl rfl ?_
  refine own_iconst K15 (v := (2 : Int32)) d_jdk_68_m10_22 rfl rfl ?_
  refine own_aloadN K15 d_jdk_68_m10_23 rfl rfl rfl ?_
  refine own_getF K15 (host := "") (Or.inl (wd118 hw)) Via.refl Bcoder d_jdk_68_m10_24 rfl ?_
  intro T16 K16
  refine own_ishl K16 d_jdk_68_m10_27 rfl ?_
  rw [own_shl2U u]
  refine own_iadd K16 d_jdk_68_m10_28 rfl ?_
  rw [own_addN, own_bn_add']
  have hb4 := own_bn_2 u (mm - N)
  have hb5 := own_bn_2 u (N + 2)
  have hb6 : 0 < own_bn u (N + 2) := by cases u <;> simp only [own_bn, cond] <;> omega
  refine own_callS K16 (wd155 hw) (wd156 hw) (rm_newLength hw hs K16.O ⟨by omega, by omega, by omega, by omega⟩) (wd158 hw) (wd157 hw) (by decide) (argsL := [(.int (Int32.ofNat (own_bn u N))), (.int (Int32.ofNat (own_bn u (mm - N)))), (.int (Int32.ofNat (own_bn u (N + 2))))]) (rest := []) rfl pd_28III29I rfl rfl (W := 0) rfl (by decide) (by decide) (by decide) (by decide) d_jdk_68_m10_29 rfl ?_
  intro T17 h17 L17 v17 K17 q17
  obtain ⟨rfl, e17⟩ := q17
  have f17 := e17.symm
  subst f17
  show G (T17.setTop (mkF m 32 #[.val (.ref x), .val (.int (Int32.ofNat mm)), .val (.int (Int32.ofNat (own_bn u N))), .val (.int (Int32.ofNat (own_bn u mm))), .val (.int (Int32.ofNat (own_bn u (mm - N)))), .unset] [(.int (Int32.ofNat (own_bn u N + max (own_bn u (mm - N)) (own_bn u (N + 2)))))]))
  rw [own_bn_max, own_bn_add', show N + max (mm - N) (N + 2) = own_cap N mm by unfold own_cap; rw [if_neg (by omega)]]
  have hc1 : own_cap N mm ≤ 4002 + 2000 := by unfold own_cap; rw [if_neg (by omega)]; omega
  have hb7 := own_bn_2 u (own_cap N mm)
  refine own_istore K17 (Ls' := #[.val (.ref x), .val (.int (Int32.ofNat mm)), .val (.int (Int32.ofNat (own_bn u N))), .val (.int (Int32.ofNat (own_bn u mm))), .val (.int (Int32.ofNat (own_bn u (mm - N)))), .val (.int (Int32.ofNat (own_bn u (own_cap N mm))))]) d_jdk_68_m10_32 rfl rfl ?_
  refine own_iload K17 d_jdk_68_m10_34 rfl rfl ?_
  refine own_ldcInt K17 (wd164 hw) d_jdk_68_m10_36 rfl ?_
  refine own_icmpYes K17 d_jdk_68_m10_38 (pc' := 51) (by decide) (by decide) (feq (fun q => by have := own_ofNat_inj (n := 2147483647) (by omega) (by decide) q; omega)).2 ?_
  refine own_iload K17 d_jdk_68_m10_51 rfl rfl ?_
  refine own_aloadN K17 d_jdk_68_m10_53 rfl rfl rfl ?_
  refine own_getF K17 (host := "") (Or.inl (wd118 hw)) Via.refl Bcoder d_jdk_68_m10_54 rfl ?_
  intro T18 K18
  refine own_ishr K18 d_jdk_68_m10_57 rfl ?_
  exact own_retI K18 d_jdk_68_m10_58 rfl (by decide) (by decide) ⟨by rw [own_shrU' u (by omega)], rfl⟩
theorem d_jdk_29_m69_0 : decode jdk_29_method_69_code 0 = .ok (.iload_n 0, 1) := by decide +kernel
theorem d_jdk_29_m69_1 : decode jdk_29_method_69_code 1 = .ok (.iload_n 1, 1) := by decide +kernel
theorem d_jdk_29_m69_2 : decode jdk_29_method_69_code 2 = .ok (.if_icmp .gt 7, 3) := by decide +kernel
theorem d_jdk_29_m69_5 : decode jdk_29_method_69_code 5 = .ok (.iload_n 0, 1) := by decide +kernel
theorem d_jdk_29_m69_6 : decode jdk_29_method_69_code 6 = .ok (.goto 4, 3) := by decide +kernel
theorem d_jdk_29_m69_10 : decode jdk_29_method_69_code 10 = .ok (.ireturn, 1) := by decide +kernel
set_option maxRecDepth 65536 in
set_option maxHeartbeats 40000000 in
theorem rm_minL {l : Launch} {Z : State} {a0 : Array Value} (hw : ∀ d ∈ tables_1, d.before a0 Z = true) (hs : ∀ d ∈ jdkStatics_1, d.before a0 Z = true) {i : Nat} {nn : Nat} {h0 : Heap} (O0 : Ext Z.heap h0) (hn : i ≤ nn ∧ nn ≤ 100000) :
    own_Ct l Z (⟨"java/lang/Math", "min", "(II)I"⟩ : MethodName) jdk_29_method_69_code 2 (some .int) [] ({ frames := 0, locals := 0, cells := 0, slots := 0 } : Room) #[(.int (Int32.ofNat i)), (.int (Int32.ofNat nn))] h0 (fun v h => v = some (.int (Int32.ofNat i)) ∧ h = h0) := by
  refine own_body (Ls := #[.val (.int (Int32.ofNat i)), .val (.int (Int32.ofNat nn))]) (Jvm.Free.JP.mathPlain rfl (by decide +kernel)) (fun m => by first | (simp [entryFrame, mkF, argsToLocals, Value.category]; done) | rfl) O0 ?_
  intro p e s m below meth c T0 G K0
  refine own_iloadN K0 d_jdk_29_m69_0 rfl rfl ?_
  refine own_iloadN K0 d_jdk_29_m69_1 rfl rfl ?_
  refine own_icmpNo K0 d_jdk_29_m69_2 rfl (flt (own_nlt hn.1 (by omega))).2.2.1 ?_
  refine own_iloadN K0 d_jdk_29_m69_5 rfl rfl ?_
  refine own_goto K0 d_jdk_29_m69_6 (pc' := 10) (by decide) (by decide) ?_
  exact own_retI K0 d_jdk_29_m69_10 rfl (by decide) (by decide) ⟨rfl, rfl⟩
theorem d_jdk_65_m121_0 : decode jdk_65_method_121_code 0 = .ok (.iload_n 1, 1) := by decide +kernel
theorem d_jdk_65_m121_1 : decode jdk_65_method_121_code 1 = .ok (.aload_n 0, 1) := by decide +kernel
theorem d_jdk_65_m121_2 : decode jdk_65_method_121_code 2 = .ok (.arraylength, 1) := by decide +kernel
theorem d_jdk_65_m121_3 : decode jdk_65_method_121_code 3 = .ok (.if_icmp .ne 11, 3) := by decide +kernel
theorem d_jdk_65_m121_14 : decode jdk_65_method_121_code 14 = .ok (.iload_n 1, 1) := by decide +kernel
theorem d_jdk_65_m121_15 : decode jdk_65_method_121_code 15 = .ok (.newarray .byte, 2) := by decide +kernel
theorem wd20 {a0 : Array Value} {Z : State} (hw : ∀ d ∈ tables_1, d.before a0 Z = true) : (Jvm.Cond.arrayClass Jvm.ClassFile.FieldType.byte).before a0 Z = true := hw _ (List.mem_of_getElem? (i := 20) rfl)
theorem d_jdk_65_m121_17 : decode jdk_65_method_121_code 17 = .ok (.astore_n 2, 1) := by decide +kernel
theorem d_jdk_65_m121_18 : decode jdk_65_method_121_code 18 = .ok (.aload_n 0, 1) := by decide +kernel
theorem d_jdk_65_m121_19 : decode jdk_65_method_121_code 19 = .ok (.iconst 0, 1) := by decide +kernel
theorem d_jdk_65_m121_20 : decode jdk_65_method_121_code 20 = .ok (.aload_n 2, 1) := by decide +kernel
theorem d_jdk_65_m121_21 : decode jdk_65_method_121_code 21 = .ok (.iconst 0, 1) := by decide +kernel
theorem d_jdk_65_m121_22 : decode jdk_65_method_121_code 22 = .ok (.aload_n 0, 1) := by decide +kernel
theorem d_jdk_65_m121_23 : decode jdk_65_method_121_code 23 = .ok (.arraylength, 1) := by decide +kernel
theorem d_jdk_65_m121_24 : decode jdk_65_method_121_code 24 = .ok (.iload_n 1, 1) := by decide +kernel
theorem d_jdk_65_m121_25 : decode jdk_65_method_121_code 25 = .ok (.invokestatic 304, 3) := by decide +kernel
theorem wd171 {a0 : Array Value} {Z : State} (hw : ∀ d ∈ tables_1, d.before a0 Z = true) : (Jvm.Cond.code ({ cls := "java/lang/Math", name := "min", desc := "(II)I" } : Jvm.MethodName) jdk_29_method_69_code (2 : Nat) (Option.some Jvm.ClassFile.FieldType.int)).before a0 Z = true := hw _ (List.mem_of_getElem? (i := 171) rfl)
theorem wd169 {a0 : Array Value} {Z : State} (hw : ∀ d ∈ tables_1, d.before a0 Z = true) : (Jvm.Cond.methodLink "java/util/Arrays" (304 : Nat) ({ cls := "java/lang/Math", name := "min", desc := "(II)I" } : Jvm.MethodName)).before a0 Z = true := hw _ (List.mem_of_getElem? (i := 169) rfl)
theorem wd170 {a0 : Array Value} {Z : State} (hw : ∀ d ∈ tables_1, d.before a0 Z = true) : (Jvm.Cond.static ({ cls := "java/lang/Math", name := "min", desc := "(II)I" } : Jvm.MethodName)).before a0 Z = true := hw _ (List.mem_of_getElem? (i := 170) rfl)
theorem d_jdk_65_m121_28 : decode jdk_65_method_121_code 28 = .ok (.invokestatic 150, 3) := by decide +kernel
theorem wd172 {a0 : Array Value} {Z : State} (hw : ∀ d ∈ tables_1, d.before a0 Z = true) : (Jvm.Cond.methodLink "java/util/Arrays" (150 : Nat) ({ cls := "java/lang/System", name := "arraycopy", desc := "(Ljava/lang/Object;ILjava/lang/Object;II)V" } : Jvm.MethodName)).before a0 Z = true := hw _ (List.mem_of_getElem? (i := 172) rfl)
theorem wd175 {a0 : Array Value} {Z : State} (hw : ∀ d ∈ tables_1, d.before a0 Z = true) : (Jvm.Cond.native ({ cls := "java/lang/System", name := "arraycopy", desc := "(Ljava/lang/Object;ILjava/lang/Object;II)V" } : Jvm.MethodName)).before a0 Z = true := hw _ (List.mem_of_getElem? (i := 175) rfl)
theorem wd173 {a0 : Array Value} {Z : State} (hw : ∀ d ∈ tables_1, d.before a0 Z = true) : (Jvm.Cond.static ({ cls := "java/lang/System", name := "arraycopy", desc := "(Ljava/lang/Object;ILjava/lang/Object;II)V" } : Jvm.MethodName)).before a0 Z = true := hw _ (List.mem_of_getElem? (i := 173) rfl)
theorem wd174 {a0 : Array Value} {Z : State} (hw : ∀ d ∈ tables_1, d.before a0 Z = true) : (Jvm.Cond.initialized "java/lang/System").before a0 Z = true := hw _ (List.mem_of_getElem? (i := 174) rfl)
theorem d_jdk_65_m121_31 : decode jdk_65_method_121_code 31 = .ok (.aload_n 2, 1) := by decide +kernel
theorem d_jdk_65_m121_32 : decode jdk_65_method_121_code 32 = .ok (.areturn, 1) := by decide +kernel
theorem pn_java_util_Arrays : plainName "java/util/Arrays" = true := by first | (simp [plainName, overriddenIn]; done) | decide +kernel
set_option maxRecDepth 65536 in
set_option maxHeartbeats 40000000 in
theorem rm_copyOfA {l : Launch} {Z : State} {a0 : Array Value} (hw : ∀ d ∈ tables_1, d.before a0 Z = true) (hs : ∀ d ∈ jdkStatics_1, d.before a0 Z = true) {b : Addr} {kb : ClassId} {M : Nat} {vs : List Value} {nn : Nat} {cap : Nat} {h0 : Heap} (O0 : Ext Z.heap h0) (V : Arv Z h0 b kb .byte (Int32.ofNat M) vs (.int 0)) (hv : vs.length ≤ M) (hM : M < nn ∧ nn ≤ 20000) (hcap : nn ≤ cap) (hcap2 : cap ≤ 20000) :
    own_Ct l Z (⟨"java/util/Arrays", "copyOf", "([BI)[B"⟩ : MethodName) jdk_65_method_121_code 3 (some (.array .byte)) [] ({ frames := 1, locals := 40, cells := 1, slots := cap } : Room) #[(.ref b), (.int (Int32.ofNat nn))] h0 (fun v h => ∃ (b' : Addr) (kb' : ClassId), v = some (.ref b') ∧ b' = h0.size ∧ Ext h0 h ∧ Arv Z h b' kb' .byte (Int32.ofNat nn) vs (.int 0) ∧ Exa Z h b' "[B") := by
  refine own_body (Ls := #[.val (.ref b), .val (.int (Int32.ofNat nn)), .unset]) (plainFor_of_name pn_java_util_Arrays) (fun m => by first | (simp [entryFrame, mkF, argsToLocals, Value.category]; done) | rfl) O0 ?_
  intro p e s m below meth c T0 G K0
  refine own_iloadN K0 d_jdk_65_m121_0 rfl rfl ?_
  refine own_aloadN K0 d_jdk_65_m121_1 rfl rfl rfl ?_
  refine own_arraylength K0 V d_jdk_65_m121_2 rfl ?_
  refine own_icmpYes K0 d_jdk_65_m121_3 (pc' := 14) (by decide) (by decide) (feq (fun q => by have := own_ofNat_inj (by omega) (by omega) q; omega)).2 ?_
  refine own_iloadN K0 d_jdk_65_m121_14 rfl rfl ?_
  refine own_newPB K0 (wd20 hw) d_jdk_65_m121_15 (own_nn (by omega)) (cap := cap) (by rw [own_clamp (by omega)]; exact hcap) (by omega) (by first | decide | omega | (dsimp only; omega)) (by first | decide | omega | (dsimp only; omega)) rfl ?_
  intro T19 h19 a19 c19 K19 g19 E19 V19 X19
  refine own_astoreN K19 (Ls' := #[.val (.ref b), .val (.int (Int32.ofNat nn)), .val (.ref a19)]) d_jdk_65_m121_17 rfl rfl rfl ?_
  refine own_aloadN K19 d_jdk_65_m121_18 rfl rfl rfl ?_
  refine own_iconst K19 (v := (0 : Int32)) d_jdk_65_m121_19 rfl rfl ?_
  refine own_aloadN K19 d_jdk_65_m121_20 rfl rfl rfl ?_
  refine own_iconst K19 (v := (0 : Int32)) d_jdk_65_m121_21 rfl rfl ?_
  refine own_aloadN K19 d_jdk_65_m121_22 rfl rfl rfl ?_
  refine own_arraylength K19 (V.ext E19) d_jdk_65_m121_23 rfl ?_
  refine own_iloadN K19 d_jdk_65_m121_24 rfl rfl ?_
  refine own_callS K19 (wd169 hw) (wd170 hw) (rm_minL hw hs K19.O ⟨by omega, by omega⟩) (wd171 hw) (wd161 hw) (by decide) (argsL := [(.int (Int32.ofNat M)), (.int (Int32.ofNat nn))]) (rest := [(.int (0 : Int32)), (.ref a19), (.int (0 : Int32)), (.ref b)]) rfl pd_28II29I rfl rfl (W := 4) rfl (by first | decide | omega | (dsimp only; omega)) (by first | decide | omega | (dsimp only; omega)) (by first | decide | omega | (dsimp only; omega)) (by first | decide | omega | (dsimp only; omega)) d_jdk_65_m121_25 rfl ?_
  intro T20 h20 L20 v20 K20 q20
  obtain ⟨rfl, e20⟩ := q20
  have f20 := e20.symm
  subst f20
  show G (T20.setTop (mkF m 28 #[.val (.ref b), .val (.int (Int32.ofNat nn)), .val (.ref a19)] [(.int (Int32.ofNat M)), (.int (0 : Int32)), (.ref a19), (.int (0 : Int32)), (.ref b)]))
  have gz : Z.heap.size ≤ a19 := by rw [g19]; exact K0.O.1
  refine own_arraycopy K20 (W := 0) (sp := 0) (dp := 0) (nn := M) (us := (vs ++ List.replicate (M - vs.length) (.int 0))) (wd172 hw) (wd175 hw) (wd173 hw) (wd174 hw) ((V.ext E19).pad (pad_rep vs _ (M - vs.length))) (V19.pad (pad_rep [] _ nn)) (by omega) (by omega) (by omega) (by rw [own_clamp (by omega)]; omega) (by rw [own_clamp (by omega)]; omega) (own_rng _ _ _ (by rw [List.length_append, List.length_replicate]; omega)) (by simp; omega) gz rfl rfl (by first | decide | omega | (dsimp only; omega)) (by first | decide | (have := own_acw; dsimp only; omega)) d_jdk_65_m121_28 rfl ?_
  intro T21 h21 L21 K21 Kp21 V21
  refine own_aloadN K21 d_jdk_65_m121_31 rfl rfl rfl ?_
  have VV : Arv Z h21 a19 c19 .byte (Int32.ofNat nn) (vs ++ List.replicate (M - vs.length) (.int 0) ++ List.replicate (nn - M) (.int 0)) (.int 0) := by have q := V21; simp only [List.nil_append, List.take_zero, Nat.zero_add, List.drop_replicate] at q; exact q
  exact own_retA K21 d_jdk_65_m121_32 rfl rfl rfl rfl (by first | decide | omega | (dsimp only; omega)) (by first | decide | omega | (dsimp only; omega)) ⟨a19, c19, rfl, g19, own_ext_keep E19 Kp21 (fun y q => by cases List.mem_singleton.mp q; exact Nat.le_of_eq g19.symm), own_padB VV, X19.keep Kp21⟩
theorem d_jdk_68_m9_0 : decode jdk_68_method_9_code 0 = .ok (.aload_n 0, 1) := by decide +kernel
theorem d_jdk_68_m9_1 : decode jdk_68_method_9_code 1 = .ok (.getfield 15, 3) := by decide +kernel
theorem d_jdk_68_m9_4 : decode jdk_68_method_9_code 4 = .ok (.arraylength, 1) := by decide +kernel
theorem d_jdk_68_m9_5 : decode jdk_68_method_9_code 5 = .ok (.aload_n 0, 1) := by decide +kernel
theorem d_jdk_68_m9_6 : decode jdk_68_method_9_code 6 = .ok (.getfield 22, 3) := by decide +kernel
theorem d_jdk_68_m9_9 : decode jdk_68_method_9_code 9 = .ok (.ishr, 1) := by decide +kernel
theorem d_jdk_68_m9_10 : decode jdk_68_method_9_code 10 = .ok (.istore_n 2, 1) := by decide +kernel
theorem d_jdk_68_m9_11 : decode jdk_68_method_9_code 11 = .ok (.iload_n 1, 1) := by decide +kernel
theorem d_jdk_68_m9_12 : decode jdk_68_method_9_code 12 = .ok (.iload_n 2, 1) := by decide +kernel
theorem d_jdk_68_m9_13 : decode jdk_68_method_9_code 13 = .ok (.isub, 1) := by decide +kernel
theorem d_jdk_68_m9_14 : decode jdk_68_method_9_code 14 = .ok (.ifCond .le 24, 3) := by decide +kernel
theorem d_jdk_68_m9_38 : decode jdk_68_method_9_code 38 = .ok (.return_, 1) := by decide +kernel
theorem d_jdk_68_m9_17 : decode jdk_68_method_9_code 17 = .ok (.aload_n 0, 1) := by decide +kernel
theorem d_jdk_68_m9_18 : decode jdk_68_method_9_code 18 = .ok (.aload_n 0, 1) := by decide +kernel
theorem d_jdk_68_m9_19 : decode jdk_68_method_9_code 19 = .ok (.getfield 15, 3) := by decide +kernel
theorem d_jdk_68_m9_22 : decode jdk_68_method_9_code 22 = .ok (.aload_n 0, 1) := by decide +kernel
theorem d_jdk_68_m9_23 : decode jdk_68_method_9_code 23 = .ok (.iload_n 1, 1) := by decide +kernel
theorem d_jdk_68_m9_24 : decode jdk_68_method_9_code 24 = .ok (.invokevirtual 104, 3) := by decide +kernel
theorem wd154 {a0 : Array Value} {Z : State} (hw : ∀ d ∈ tables_1, d.before a0 Z = true) : (Jvm.Cond.code ({ cls := "java/lang/AbstractStringBuilder", name := "newCapacity", desc := "(I)I" } : Jvm.MethodName) jdk_68_method_10_code (6 : Nat) (Option.some Jvm.ClassFile.FieldType.int)).before a0 Z = true := hw _ (List.mem_of_getElem? (i := 154) rfl)
theorem wd112 {a0 : Array Value} {Z : State} (hw : ∀ d ∈ tables_1, d.before a0 Z = true) : (Jvm.Cond.initialized "java/lang/AbstractStringBuilder").before a0 Z = true := hw _ (List.mem_of_getElem? (i := 112) rfl)
theorem pd_28I29I : parseMethodDescriptor "(I)I" = some ⟨[.int], some .int⟩ := by decide +kernel
theorem wd150 {a0 : Array Value} {Z : State} (hw : ∀ d ∈ tables_1, d.before a0 Z = true) : (Jvm.Cond.methodLink "java/lang/AbstractStringBuilder" (104 : Nat) ({ cls := "java/lang/AbstractStringBuilder", name := "newCapacity", desc := "(I)I" } : Jvm.MethodName)).before a0 Z = true := hw _ (List.mem_of_getElem? (i := 150) rfl)
theorem wd151 {a0 : Array Value} {Z : State} (hw : ∀ d ∈ tables_1, d.before a0 Z = true) : (Jvm.Cond.instanceMethod ({ cls := "java/lang/AbstractStringBuilder", name := "newCapacity", desc := "(I)I" } : Jvm.MethodName)).before a0 Z = true := hw _ (List.mem_of_getElem? (i := 151) rfl)
theorem wd152 {a0 : Array Value} {Z : State} (hw : ∀ d ∈ tables_1, d.before a0 Z = true) : (Jvm.Cond.privateMethod ({ cls := "java/lang/AbstractStringBuilder", name := "newCapacity", desc := "(I)I" } : Jvm.MethodName)).before a0 Z = true := hw _ (List.mem_of_getElem? (i := 152) rfl)
theorem wd148 {a0 : Array Value} {Z : State} (hw : ∀ d ∈ tables_1, d.before a0 Z = true) : (Jvm.Cond.selects "java/lang/StringBuilder" ({ cls := "java/lang/AbstractStringBuilder", name := "ensureCapacityInternal", desc := "(I)V" } : Jvm.MethodName) ({ cls := "java/lang/AbstractStringBuilder", name := "ensureCapacityInternal", desc := "(I)V" } : Jvm.MethodName)).before a0 Z = true := hw _ (List.mem_of_getElem? (i := 148) rfl)
theorem d_jdk_68_m9_27 : decode jdk_68_method_9_code 27 = .ok (.aload_n 0, 1) := by decide +kernel
theorem d_jdk_68_m9_28 : decode jdk_68_method_9_code 28 = .ok (.getfield 22, 3) := by decide +kernel
theorem d_jdk_68_m9_31 : decode jdk_68_method_9_code 31 = .ok (.ishl, 1) := by decide +kernel
theorem d_jdk_68_m9_32 : decode jdk_68_method_9_code 32 = .ok (.invokestatic 108, 3) := by decide +kernel
theorem wd168 {a0 : Array Value} {Z : State} (hw : ∀ d ∈ tables_1, d.before a0 Z = true) : (Jvm.Cond.code ({ cls := "java/util/Arrays", name := "copyOf", desc := "([BI)[B" } : Jvm.MethodName) jdk_65_method_121_code (3 : Nat) (Option.some (Jvm.ClassFile.FieldType.array Jvm.ClassFile.FieldType.byte))).before a0 Z = true := hw _ (List.mem_of_getElem? (i := 168) rfl)
theorem wd167 {a0 : Array Value} {Z : State} (hw : ∀ d ∈ tables_1, d.before a0 Z = true) : (Jvm.Cond.initialized "java/util/Arrays").before a0 Z = true := hw _ (List.mem_of_getElem? (i := 167) rfl)
theorem pd_285bBI295bB : parseMethodDescriptor "([BI)[B" = some ⟨[(.array .byte), .int], some (.array .byte)⟩ := by decide +kernel
theorem wd165 {a0 : Array Value} {Z : State} (hw : ∀ d ∈ tables_1, d.before a0 Z = true) : (Jvm.Cond.methodLink "java/lang/AbstractStringBuilder" (108 : Nat) ({ cls := "java/util/Arrays", name := "copyOf", desc := "([BI)[B" } : Jvm.MethodName)).before a0 Z = true := hw _ (List.mem_of_getElem? (i := 165) rfl)
theorem wd166 {a0 : Array Value} {Z : State} (hw : ∀ d ∈ tables_1, d.before a0 Z = true) : (Jvm.Cond.static ({ cls := "java/util/Arrays", name := "copyOf", desc := "([BI)[B" } : Jvm.MethodName)).before a0 Z = true := hw _ (List.mem_of_getElem? (i := 166) rfl)
theorem wd117 {a0 : Array Value} {Z : State} (hw : ∀ d ∈ tables_1, d.before a0 Z = true) : (Jvm.Cond.lays "java/lang/StringBuilder" "java/lang/AbstractStringBuilder" "value" "[B").before a0 Z = true := hw _ (List.mem_of_getElem? (i := 117) rfl)
theorem d_jdk_68_m9_35 : decode jdk_68_method_9_code 35 = .ok (.putfield 15, 3) := by decide +kernel
theorem wd103 {a0 : Array Value} {Z : State} (hw : ∀ d ∈ tables_1, d.before a0 Z = true) : (Jvm.Cond.instantiable "java/lang/StringBuilder" (4 : Nat)).before a0 Z = true := hw _ (List.mem_of_getElem? (i := 103) rfl)
theorem wd119 {a0 : Array Value} {Z : State} (hw : ∀ d ∈ tables_1, d.before a0 Z = true) : (Jvm.Cond.lays "java/lang/StringBuilder" "java/lang/AbstractStringBuilder" "coder" "B").before a0 Z = true := hw _ (List.mem_of_getElem? (i := 119) rfl)
theorem wd144 {a0 : Array Value} {Z : State} (hw : ∀ d ∈ tables_1, d.before a0 Z = true) : (Jvm.Cond.lays "java/lang/StringBuilder" "java/lang/AbstractStringBuilder" "count" "I").before a0 Z = true := hw _ (List.mem_of_getElem? (i := 144) rfl)
set_option maxRecDepth 65536 in
set_option maxHeartbeats 40000000 in
theorem rm_ensureG {l : Launch} {Z : State} {a0 : Array Value} (hw : ∀ d ∈ tables_1, d.before a0 Z = true) (hs : ∀ d ∈ jdkStatics_1, d.before a0 Z = true) {x : Addr} {cs : List Int32} {b : Addr} {kb : ClassId} {N : Nat} {mm : Nat} {cap : Nat} {h0 : Heap} (O0 : Ext Z.heap h0) (B : own_SB Z h0 x u cs.length cs b kb N) (hm : mm ≤ 2000 ∧ own_cap N mm ≤ 2000) (hcap : own_bn u (own_cap N mm) ≤ cap) (hcap2 : cap ≤ 4000) :
    own_Ct l Z (⟨"java/lang/AbstractStringBuilder", "ensureCapacityInternal", "(I)V"⟩ : MethodName) jdk_68_method_9_code 3 none [] ({ frames := 3, locals := 55, cells := 1, slots := cap } : Room) #[(.ref x), (.int (Int32.ofNat mm))] h0 (fun v h => v = none ∧ Keep h0 h [x] ∧ ∃ (b' : Addr) (kb' : ClassId), (b' = b ∨ h0.size ≤ b') ∧ own_SB Z h x u cs.length cs b' kb' (own_cap N mm)) := by
  have B' := B
  obtain ⟨BE, Bvalue, Bcoder, Bcount, BV, BX, hab, ga, gb, hcN, hN, hnc⟩ := B'
  refine own_body (Ls := #[.val (.ref x), .val (.int (Int32.ofNat mm)), .unset]) (plainFor_of_name pn_java_lang_AbstractStringBuilder) (fun m => by first | (simp [entryFrame, mkF, argsToLocals, Value.category]; done) | rfl) O0 ?_
  intro p e s m below meth c T0 G K0
  refine own_aloadN K0 d_jdk_68_m9_0 rfl rfl rfl ?_
  refine own_getF K0 (host := "") (Or.inl (wd116 hw)) Via.refl Bvalue d_jdk_68_m9_1 rfl ?_
  intro T22 K22
  refine own_arraylength K22 BV d_jdk_68_m9_4 rfl ?_
  refine own_aloadN K22 d_jdk_68_m9_5 rfl rfl rfl ?_
  refine own_getF K22 (host := "") (Or.inl (wd118 hw)) Via.refl Bcoder d_jdk_68_m9_6 rfl ?_
  intro T23 K23
  refine own_ishr K23 d_jdk_68_m9_9 rfl ?_
  rw [own_shrU u (by omega)]
  refine own_istoreN K23 (Ls' := #[.val (.ref x), .val (.int (Int32.ofNat mm)), .val (.int (Int32.ofNat N))]) d_jdk_68_m9_10 rfl rfl ?_
  refine own_iloadN K23 d_jdk_68_m9_11 rfl rfl ?_
  refine own_iloadN K23 d_jdk_68_m9_12 rfl rfl ?_
  refine own_isub K23 d_jdk_68_m9_13 rfl ?_
  by_cases hq : mm ≤ N
  · skip
    refine own_ifYes K23 d_jdk_68_m9_14 (pc' := 38) (by decide) (by decide) ((if0 _ _).trans (flt (own_nosub hq (by omega))).2.2.2) ?_
    exact own_ret0 K23 d_jdk_68_m9_38 rfl (by first | decide | omega | (dsimp only; omega)) (by first | decide | omega | (dsimp only; omega)) ⟨rfl, Keep.refl _ _, b, kb, Or.inl rfl, by unfold own_cap; rw [if_pos hq]; exact B⟩
  · skip
    refine own_ifNo K23 d_jdk_68_m9_14 rfl ((if0 _ _).trans (tlt (by rw [own_subN (by omega)]; exact own_lt (i := 0) (by omega) (by omega))).2.2.2) ?_
    refine own_aloadN K23 d_jdk_68_m9_17 rfl rfl rfl ?_
    refine own_aloadN K23 d_jdk_68_m9_18 rfl rfl rfl ?_
    refine own_getF K23 (host := "") (Or.inl (wd116 hw)) Via.refl Bvalue d_jdk_68_m9_19 rfl ?_
    intro T24 K24
    refine own_aloadN K24 d_jdk_68_m9_22 rfl rfl rfl ?_
    refine own_iloadN K24 d_jdk_68_m9_23 rfl rfl ?_
    refine own_callP K24 (a := x) (wd150 hw) (wd151 hw) (own_selfSel (wd151 hw) (wd152 hw) (own_nfS (wd148 hw) rfl) (by decide)) (wd152 hw) (rm_newCap hw hs K24.O B ⟨by omega, hm.1⟩) (wd154 hw) (wd112 hw) (by decide) BE (argsL := [(.int (Int32.ofNat mm))]) (rest := [(.ref b), (.ref x)]) rfl pd_28I29I rfl rfl (W := 2) rfl (by first | decide | omega | (dsimp only; omega)) (by first | decide | omega | (dsimp only; omega)) (by first | decide | omega | (dsimp only; omega)) (by first | decide | omega | (dsimp only; omega)) d_jdk_68_m9_24 rfl ?_
    intro T25 h25 L25 v25 K25 q25
    obtain ⟨rfl, e25⟩ := q25
    have f25 := e25.symm
    subst f25
    show G (T25.setTop (mkF m 27 #[.val (.ref x), .val (.int (Int32.ofNat mm)), .val (.int (Int32.ofNat N))] [(.int (Int32.ofNat (own_cap N mm))), (.ref b), (.ref x)]))
    refine own_aloadN K25 d_jdk_68_m9_27 rfl rfl rfl ?_
    refine own_getF K25 (host := "") (Or.inl (wd118 hw)) Via.refl Bcoder d_jdk_68_m9_28 rfl ?_
    intro T26 K26
    refine own_ishl K26 d_jdk_68_m9_31 rfl ?_
    rw [own_shlU u (by omega)]
    have hb1 := own_bn_2 u (own_cap N mm)
    have hcg := own_cap_ge N mm
    have hb2 : own_bn u N < own_bn u (own_cap N mm) := by cases u <;> simp only [own_bn, cond] <;> omega
    refine own_callS K26 (wd165 hw) (wd166 hw) (rm_copyOfA hw hs (cap := cap) K26.O BV (by rw [own_bs_len]; exact own_bn_le u hcN) ⟨hb2, by omega⟩ hcap (by omega)) (wd168 hw) (wd167 hw) (by decide) (argsL := [(.ref b), (.int (Int32.ofNat (own_bn u (own_cap N mm))))]) (rest := [(.ref x)]) rfl pd_285bBI295bB rfl rfl (W := 1) rfl (by first | decide | omega | (dsimp only; omega)) (by first | decide | omega | (dsimp only; omega)) (by first | decide | omega | (dsimp only; omega)) (by first | decide | omega | (dsimp only; omega)) d_jdk_68_m9_32 rfl ?_
    intro T27 h27 L27 v27 K27 q27
    obtain ⟨c27, kc27, rfl, gc27, X27, V27, XB27⟩ := q27
    show G (T27.setTop (mkF m 35 #[.val (.ref x), .val (.int (Int32.ofNat mm)), .val (.int (Int32.ofNat N))] [(.ref c27), (.ref x)]))
    have hxc : x ≠ c27 := Nat.ne_of_lt (Nat.lt_of_lt_of_le BE.lt (Nat.le_of_eq gc27.symm))
    have gcz : Z.heap.size ≤ c27 := by rw [gc27]; exact K0.O.1
    have value_28 := Bvalue.ext X27
    have coder_28 := Bcoder.ext X27
    have count_28 := Bcount.ext X27
    have E_28 := BE.ext X27
    have V_28 := BV.ext X27
    have X_28 := BX.ext X27
    refine own_putF K27 (host := "") (Or.inl (wd116 hw)) Via.refl value_28 E_28 (Or.inl (wd117 hw)) (wd103 hw) (ty := (.array .byte)) (by decide) rfl rfl ga d_jdk_68_m9_35 rfl ?_
    intro T29 h29 K29 W29
    have value_30 := value_28.same W29
    have coder_30 := coder_28.other W29 (Or.inr (slot_ne (Or.inl (wd119 hw)) (Or.inl (wd117 hw)) (by decide) (t := .byte) (t' := (.array .byte)) (by decide) (by decide)))
    have count_30 := count_28.other W29 (Or.inr (slot_ne (Or.inl (wd144 hw)) (Or.inl (wd117 hw)) (by decide) (t := .int) (t' := (.array .byte)) (by decide) (by decide)))
    have E_30 := E_28.wr W29
    have X_30 := XB27.wr W29
    have V_30 := V27.other W29 (Ne.symm hxc)
    exact own_ret0 K29 d_jdk_68_m9_38 rfl (by first | decide | omega | (dsimp only; omega)) (by first | decide | omega | (dsimp only; omega)) ⟨rfl, (own_ext_of_keep' X27 [x]).wr W29 (Or.inl (List.mem_singleton.mpr rfl)), c27, kc27, Or.inr (Nat.le_of_eq gc27.symm), ⟨E_30, value_30, coder_30, count_30, V_30, X_30, hxc, ga, gcz, by omega, hm.2, hnc⟩⟩
theorem d_jdk_68_m71_0 : decode jdk_68_method_71_code 0 = .ok (.getstatic 18, 3) := by decide +kernel
theorem wd115 {a0 : Array Value} {Z : State} (hw : ∀ d ∈ tables_1, d.before a0 Z = true) : (Jvm.Cond.fieldLink "java/lang/AbstractStringBuilder" (18 : Nat) "java/lang/String" "COMPACT_STRINGS" "Z").before a0 Z = true := hw _ (List.mem_of_getElem? (i := 115) rfl)
theorem d_jdk_68_m71_3 : decode jdk_68_method_71_code 3 = .ok (.ifCond .eq 18, 3) := by decide +kernel
theorem d_jdk_68_m71_6 : decode jdk_68_method_71_code 6 = .ok (.aload_n 0, 1) := by decide +kernel
theorem d_jdk_68_m71_7 : decode jdk_68_method_71_code 7 = .ok (.getfield 22, 3) := by decide +kernel
theorem d_jdk_68_m71_10 : decode jdk_68_method_71_code 10 = .ok (.aload_n 1, 1) := by decide +kernel
theorem d_jdk_68_m71_11 : decode jdk_68_method_71_code 11 = .ok (.invokevirtual 40, 3) := by decide +kernel
theorem wd186 {a0 : Array Value} {Z : State} (hw : ∀ d ∈ tables_1, d.before a0 Z = true) : (Jvm.Cond.methodLink "java/lang/AbstractStringBuilder" (40 : Nat) ({ cls := "java/lang/String", name := "coder", desc := "()B" } : Jvm.MethodName)).before a0 Z = true := hw _ (List.mem_of_getElem? (i := 186) rfl)
theorem d_jdk_68_m71_14 : decode jdk_68_method_71_code 14 = .ok (.if_icmp .eq 7, 3) := by decide +kernel
theorem d_jdk_68_m71_21 : decode jdk_68_method_71_code 21 = .ok (.return_, 1) := by decide +kernel
set_option maxRecDepth 65536 in
set_option maxHeartbeats 40000000 in
theorem rm_inflateIf {l : Launch} {Z : State} {a0 : Array Value} (hw : ∀ d ∈ tables_1, d.before a0 Z = true) (hs : ∀ d ∈ jdkStatics_1, d.before a0 Z = true) {x : Addr} {cs : List Int32} {b : Addr} {kb : ClassId} {N : Nat} {cap : Nat} {st : Addr} {ds : List Int32} {h0 : Heap} (O0 : Ext Z.heap h0) (B : own_SB Z h0 x u cs.length cs b kb N) (hok : own_ok u cs) (hcap : 2 * N ≤ cap) (hcap2 : cap ≤ 4000) (S : own_StrG Z h0 st us ds) (hlen : ds.length ≤ 4000) :
    own_Ct l Z (⟨"java/lang/AbstractStringBuilder", "inflateIfNeededFor", "(Ljava/lang/String;)V"⟩ : MethodName) jdk_68_method_71_code 2 none [] ({ frames := 1, locals := 13, cells := 1, slots := cap } : Room) #[(.ref x), (.ref st)] h0 (fun v h => v = none ∧ Keep h0 h [x] ∧ ∃ (b' : Addr) (kb' : ClassId), (b' = b ∨ h0.size ≤ b') ∧ own_SB Z h x (u || us) cs.length cs b' kb' N) := by
  obtain ⟨zc, SC, hzc⟩ := own_compact hs
  have B' := B
  obtain ⟨BE, Bvalue, Bcoder, Bcount, BV, BX, hab, ga, gb, hcN, hN, hnc⟩ := B'
  refine own_body (Ls := #[.val (.ref x), .val (.ref st)]) (plainFor_of_name pn_java_lang_AbstractStringBuilder) (fun m => by first | (simp [entryFrame, mkF, argsToLocals, Value.category]; done) | rfl) O0 ?_
  intro p e s m below meth c T0 G K0
  refine own_getS K0 (wd115 hw) Via.refl (SC.ext K0.O) d_jdk_68_m71_0 rfl ?_
  intro T31 K31
  refine own_ifNo K31 d_jdk_68_m71_3 rfl ((if0 _ _).trans (feq hzc).1) ?_
  refine own_aloadN K31 d_jdk_68_m71_6 rfl rfl rfl ?_
  refine own_getF K31 (host := "") (Or.inl (wd118 hw)) Via.refl Bcoder d_jdk_68_m71_7 rfl ?_
  intro T32 K32
  refine own_aloadN K32 d_jdk_68_m71_10 rfl rfl rfl ?_
  refine own_callV K32 (a := st) (x0 := (⟨"java/lang/String", "coder", "()B"⟩ : MethodName)) (wd186 hw) (wd139 hw) (fun q => own_nfS (args := #[]) (mvT q (wd136 hw)) rfl) (wd141 hw) (wd140 hw) (rm_coder hw hs K32.O S hlen) (wd142 hw) (wd4 hw) (by decide) S.exa (argsL := []) (rest := [(.int (own_cd u))]) rfl pd_2829B rfl rfl (W := 1) rfl (by first | decide | omega | (dsimp only; omega)) (by first | decide | omega | (dsimp only; omega)) (by first | decide | omega | (dsimp only; omega)) (by first | decide | omega | (dsimp only; omega)) d_jdk_68_m71_11 rfl ?_
  intro T33 h33 L33 v33 K33 q33
  obtain ⟨rfl, e33⟩ := q33
  have f33 := e33.symm
  subst f33
  show G (T33.setTop (mkF m 14 #[.val (.ref x), .val (.ref st)] [(.int (own_cd us)), (.int (own_cd u))]))
  · skip
    · skip
      refine own_icmpYes K33 d_jdk_68_m71_14 (pc' := 21) (by decide) (by decide) (teq rfl).1 ?_
      exact own_ret0 K33 d_jdk_68_m71_21 rfl (by first | decide | omega | (dsimp only; omega)) (by first | decide | omega | (dsimp only; omega)) ⟨rfl, Keep.refl _ _, b, kb, Or.inl rfl, B⟩
theorem d_jdk_42_m147_0 : decode jdk_42_method_147_code 0 = .ok (.aload_n 0, 1) := by decide +kernel
theorem d_jdk_42_m147_1 : decode jdk_42_method_147_code 1 = .ok (.invokevirtual 335, 3) := by decide +kernel
theorem d_jdk_42_m147_4 : decode jdk_42_method_147_code 4 = .ok (.iload_n 3, 1) := by decide +kernel
theorem d_jdk_42_m147_5 : decode jdk_42_method_147_code 5 = .ok (.if_icmp .ne 23, 3) := by decide +kernel
theorem d_jdk_42_m147_8 : decode jdk_42_method_147_code 8 = .ok (.aload_n 0, 1) := by decide +kernel
theorem d_jdk_42_m147_9 : decode jdk_42_method_147_code 9 = .ok (.getfield 9, 3) := by decide +kernel
theorem d_jdk_42_m147_12 : decode jdk_42_method_147_code 12 = .ok (.iconst 0, 1) := by decide +kernel
theorem d_jdk_42_m147_13 : decode jdk_42_method_147_code 13 = .ok (.aload_n 1, 1) := by decide +kernel
theorem d_jdk_42_m147_14 : decode jdk_42_method_147_code 14 = .ok (.iload_n 2, 1) := by decide +kernel
theorem d_jdk_42_m147_15 : decode jdk_42_method_147_code 15 = .ok (.iload_n 3, 1) := by decide +kernel
theorem d_jdk_42_m147_16 : decode jdk_42_method_147_code 16 = .ok (.ishl, 1) := by decide +kernel
theorem d_jdk_42_m147_17 : decode jdk_42_method_147_code 17 = .ok (.aload_n 0, 1) := by decide +kernel
theorem d_jdk_42_m147_18 : decode jdk_42_method_147_code 18 = .ok (.getfield 9, 3) := by decide +kernel
theorem d_jdk_42_m147_21 : decode jdk_42_method_147_code 21 = .ok (.arraylength, 1) := by decide +kernel
theorem d_jdk_42_m147_22 : decode jdk_42_method_147_code 22 = .ok (.invokestatic 212, 3) := by decide +kernel
theorem wd192 {a0 : Array Value} {Z : State} (hw : ∀ d ∈ tables_1, d.before a0 Z = true) : (Jvm.Cond.methodLink "java/lang/String" (212 : Nat) ({ cls := "java/lang/System", name := "arraycopy", desc := "(Ljava/lang/Object;ILjava/lang/Object;II)V" } : Jvm.MethodName)).before a0 Z = true := hw _ (List.mem_of_getElem? (i := 192) rfl)
theorem d_jdk_42_m147_25 : decode jdk_42_method_147_code 25 = .ok (.goto 18, 3) := by decide +kernel
theorem d_jdk_42_m147_43 : decode jdk_42_method_147_code 43 = .ok (.return_, 1) := by decide +kernel
theorem own_bn_add (u : Bool) (i j : Nat) : own_bn u (i + j) = own_bn u i + own_bn u j := by cases u <;> simp only [own_bn, cond] <;> omega
set_option maxRecDepth 65536 in
set_option maxHeartbeats 40000000 in
theorem rm_getBytes {l : Launch} {Z : State} {a0 : Array Value} (hw : ∀ d ∈ tables_1, d.before a0 Z = true) (hs : ∀ d ∈ jdkStatics_1, d.before a0 Z = true) {st : Addr} {ds : List Int32} {sb : Addr} {ks : ClassId} {b : Addr} {kb : ClassId} {cs : List Int32} {N : Nat} {h0 : Heap} (O0 : Ext Z.heap h0) (Es : Exa Z h0 st "java/lang/String") (Fs : Fld Z h0 st "java/lang/String" "coder" "B" (.int (own_cd us))) (Fb : Fld Z h0 st "java/lang/String" "value" "[B" (.ref sb)) (Vs : Arv Z h0 sb ks .byte (Int32.ofNat (own_bn us ds.length)) (own_bs us ds) (.int 0)) (hds : ds.length ≤ 2000) (hods : own_ok us ds) (V : Arv Z h0 b kb .byte (Int32.ofNat (own_bn u N)) (own_bs u cs) (.int 0)) (hN : cs.length + ds.length ≤ N ∧ N ≤ 2000) (hu : us = true → u = true) (hsb : sb ≠ b) (gb : Z.heap.size ≤ b) :
    own_Ct l Z (⟨"java/lang/String", "getBytes", "([BIB)V"⟩ : MethodName) jdk_42_method_147_code 4 none [] ({ frames := 1, locals := 40, cells := 0, slots := 0 } : Room) #[(.ref st), (.ref b), (.int (Int32.ofNat cs.length)), (.int (own_cd u))] h0 (fun v h => v = none ∧ Keep h0 h [b] ∧ Arv Z h b kb .byte (Int32.ofNat (own_bn u N)) (own_bs u (cs ++ ds)) (.int 0)) := by
  refine own_body (Ls := #[.val (.ref st), .val (.ref b), .val (.int (Int32.ofNat cs.length)), .val (.int (own_cd u))]) (plainFor_of_name pn_java_lang_String) (fun m => by first | (simp [entryFrame, mkF, argsToLocals, Value.category]; done) | rfl) O0 ?_
  intro p e s m below meth c T0 G K0
  refine own_aloadN K0 d_jdk_42_m147_0 rfl rfl rfl ?_
  refine own_callV K0 (a := st) (x0 := (⟨"java/lang/String", "coder", "()B"⟩ : MethodName)) (wd138 hw) (wd139 hw) (fun q => own_nfS (args := #[]) (mvT q (wd136 hw)) rfl) (wd141 hw) (wd140 hw) (rm_coder hw hs K0.O ⟨Es, Fs, sb, ks, Fb, Vs⟩ (by omega)) (wd142 hw) (wd4 hw) (by decide) Es (argsL := []) (rest := []) rfl pd_2829B rfl rfl (W := 0) rfl (by decide) (by decide) (by decide) (by decide) d_jdk_42_m147_1 rfl ?_
  intro T34 h34 L34 v34 K34 q34
  obtain ⟨rfl, e34⟩ := q34
  have f34 := e34.symm
  subst f34
  show G (T34.setTop (mkF m 4 #[.val (.ref st), .val (.ref b), .val (.int (Int32.ofNat cs.length)), .val (.int (own_cd u))] [(.int (own_cd us))]))
  refine own_iloadN K34 d_jdk_42_m147_4 rfl rfl ?_
  refine own_icmpNo K34 d_jdk_42_m147_5 rfl (teq rfl).2 ?_
  refine own_aloadN K34 d_jdk_42_m147_8 rfl rfl rfl ?_
  refine own_getF K34 (host := "") (Or.inl (wd29 hw)) Via.refl Fb d_jdk_42_m147_9 rfl ?_
  intro T35 K35
  refine own_iconst K35 (v := (0 : Int32)) d_jdk_42_m147_12 rfl rfl ?_
  refine own_aloadN K35 d_jdk_42_m147_13 rfl rfl rfl ?_
  refine own_iloadN K35 d_jdk_42_m147_14 rfl rfl ?_
  refine own_iloadN K35 d_jdk_42_m147_15 rfl rfl ?_
  refine own_ishl K35 d_jdk_42_m147_16 rfl ?_
  refine own_aloadN K35 d_jdk_42_m147_17 rfl rfl rfl ?_
  refine own_getF K35 (host := "") (Or.inl (wd29 hw)) Via.refl Fb d_jdk_42_m147_18 rfl ?_
  intro T36 K36
  refine own_arraylength K36 Vs d_jdk_42_m147_21 rfl ?_
  rw [own_shlU u (by omega)]
  have hb1 := own_bn_2 u cs.length
  have hb2 := own_bn_2 u ds.length
  have hb3 : own_bn us ds.length = own_bn u ds.length := rfl
  refine own_arraycopy K36 (W := 0) (sp := 0) (dp := (own_bn u cs.length)) (nn := (own_bn u ds.length)) (us := (own_bs u ds)) (wd192 hw) (wd175 hw) (wd173 hw) (wd174 hw) Vs (V.pad (pad_rep (own_bs u cs) _ (own_bn u ds.length))) (by omega) (by omega) (by omega) (by rw [own_clamp (by have := own_bn_2 u ds.length; omega)]; omega) (by rw [own_clamp (by have := own_bn_2 u N; omega), ← own_bn_add]; exact own_bn_le u hN.1) (own_rng _ _ _ (own_bs_len u ds).symm) (by rw [List.length_append, own_bs_len, List.length_replicate]; exact Nat.le_refl _) gb rfl rfl (by decide) (by first | decide | (have := own_acw; dsimp only; omega)) d_jdk_42_m147_22 rfl ?_
  intro T37 h37 L37 K37 Kp37 V37
  refine own_goto K37 d_jdk_42_m147_25 (pc' := 43) (by decide) (by decide) ?_
  exact own_ret0 K37 d_jdk_42_m147_43 rfl (by decide) (by decide) ⟨rfl, Kp37, by have q := V37; rw [← own_bs_len, own_acp] at q; rw [own_bs_app]; exact q⟩
theorem d_jdk_68_m73_0 : decode jdk_68_method_73_code 0 = .ok (.aload_n 0, 1) := by decide +kernel
theorem d_jdk_68_m73_1 : decode jdk_68_method_73_code 1 = .ok (.aload_n 2, 1) := by decide +kernel
theorem d_jdk_68_m73_2 : decode jdk_68_method_73_code 2 = .ok (.invokevirtual 397, 3) := by decide +kernel
theorem wd185 {a0 : Array Value} {Z : State} (hw : ∀ d ∈ tables_1, d.before a0 Z = true) : (Jvm.Cond.code ({ cls := "java/lang/AbstractStringBuilder", name := "inflateIfNeededFor", desc := "(Ljava/lang/String;)V" } : Jvm.MethodName) jdk_68_method_71_code (2 : Nat) (Option.none : Option Jvm.ClassFile.FieldType)).before a0 Z = true := hw _ (List.mem_of_getElem? (i := 185) rfl)
theorem pd_28Ljava2flang2fString3b29V : parseMethodDescriptor "(Ljava/lang/String;)V" = some ⟨[(.object "java/lang/String")], none⟩ := by decide +kernel
theorem wd181 {a0 : Array Value} {Z : State} (hw : ∀ d ∈ tables_1, d.before a0 Z = true) : (Jvm.Cond.methodLink "java/lang/AbstractStringBuilder" (397 : Nat) ({ cls := "java/lang/AbstractStringBuilder", name := "inflateIfNeededFor", desc := "(Ljava/lang/String;)V" } : Jvm.MethodName)).before a0 Z = true := hw _ (List.mem_of_getElem? (i := 181) rfl)
theorem wd182 {a0 : Array Value} {Z : State} (hw : ∀ d ∈ tables_1, d.before a0 Z = true) : (Jvm.Cond.instanceMethod ({ cls := "java/lang/AbstractStringBuilder", name := "inflateIfNeededFor", desc := "(Ljava/lang/String;)V" } : Jvm.MethodName)).before a0 Z = true := hw _ (List.mem_of_getElem? (i := 182) rfl)
theorem wd183 {a0 : Array Value} {Z : State} (hw : ∀ d ∈ tables_1, d.before a0 Z = true) : (Jvm.Cond.privateMethod ({ cls := "java/lang/AbstractStringBuilder", name := "inflateIfNeededFor", desc := "(Ljava/lang/String;)V" } : Jvm.MethodName)).before a0 Z = true := hw _ (List.mem_of_getElem? (i := 183) rfl)
theorem d_jdk_68_m73_5 : decode jdk_68_method_73_code 5 = .ok (.aload_n 2, 1) := by decide +kernel
theorem d_jdk_68_m73_6 : decode jdk_68_method_73_code 6 = .ok (.aload_n 0, 1) := by decide +kernel
theorem d_jdk_68_m73_7 : decode jdk_68_method_73_code 7 = .ok (.getfield 15, 3) := by decide +kernel
theorem d_jdk_68_m73_10 : decode jdk_68_method_73_code 10 = .ok (.iload_n 1, 1) := by decide +kernel
theorem d_jdk_68_m73_11 : decode jdk_68_method_73_code 11 = .ok (.aload_n 0, 1) := by decide +kernel
theorem d_jdk_68_m73_12 : decode jdk_68_method_73_code 12 = .ok (.getfield 22, 3) := by decide +kernel
theorem d_jdk_68_m73_15 : decode jdk_68_method_73_code 15 = .ok (.invokevirtual 399, 3) := by decide +kernel
theorem wd191 {a0 : Array Value} {Z : State} (hw : ∀ d ∈ tables_1, d.before a0 Z = true) : (Jvm.Cond.code ({ cls := "java/lang/String", name := "getBytes", desc := "([BIB)V" } : Jvm.MethodName) jdk_42_method_147_code (4 : Nat) (Option.none : Option Jvm.ClassFile.FieldType)).before a0 Z = true := hw _ (List.mem_of_getElem? (i := 191) rfl)
theorem pd_285bBIB29V : parseMethodDescriptor "([BIB)V" = some ⟨[(.array .byte), .int, .byte], none⟩ := by decide +kernel
theorem wd187 {a0 : Array Value} {Z : State} (hw : ∀ d ∈ tables_1, d.before a0 Z = true) : (Jvm.Cond.methodLink "java/lang/AbstractStringBuilder" (399 : Nat) ({ cls := "java/lang/String", name := "getBytes", desc := "([BIB)V" } : Jvm.MethodName)).before a0 Z = true := hw _ (List.mem_of_getElem? (i := 187) rfl)
theorem wd188 {a0 : Array Value} {Z : State} (hw : ∀ d ∈ tables_1, d.before a0 Z = true) : (Jvm.Cond.declares ({ cls := "java/lang/String", name := "getBytes", desc := "([BIB)V" } : Jvm.MethodName)).before a0 Z = true := hw _ (List.mem_of_getElem? (i := 188) rfl)
theorem wd190 {a0 : Array Value} {Z : State} (hw : ∀ d ∈ tables_1, d.before a0 Z = true) : (Jvm.Cond.selects "java/lang/String" ({ cls := "java/lang/String", name := "getBytes", desc := "([BIB)V" } : Jvm.MethodName) ({ cls := "java/lang/String", name := "getBytes", desc := "([BIB)V" } : Jvm.MethodName)).before a0 Z = true := hw _ (List.mem_of_getElem? (i := 190) rfl)
theorem wd189 {a0 : Array Value} {Z : State} (hw : ∀ d ∈ tables_1, d.before a0 Z = true) : (Jvm.Cond.instanceMethod ({ cls := "java/lang/String", name := "getBytes", desc := "([BIB)V" } : Jvm.MethodName)).before a0 Z = true := hw _ (List.mem_of_getElem? (i := 189) rfl)
theorem d_jdk_68_m73_18 : decode jdk_68_method_73_code 18 = .ok (.return_, 1) := by decide +kernel
set_option maxRecDepth 65536 in
set_option maxHeartbeats 40000000 in
theorem rm_putStr {l : Launch} {Z : State} {a0 : Array Value} (hw : ∀ d ∈ tables_1, d.before a0 Z = true) (hs : ∀ d ∈ jdkStatics_1, d.before a0 Z = true) {x : Addr} {cs : List Int32} {b : Addr} {kb : ClassId} {N : Nat} {st : Addr} {ds : List Int32} {sb : Addr} {ks : ClassId} {cap : Nat} {h0 : Heap} (O0 : Ext Z.heap h0) (B : own_SB Z h0 x u cs.length cs b kb N) (Es : Exa Z h0 st "java/lang/String") (Fs : Fld Z h0 st "java/lang/String" "coder" "B" (.int (own_cd us))) (Fb : Fld Z h0 st "java/lang/String" "value" "[B" (.ref sb)) (Vs : Arv Z h0 sb ks .byte (Int32.ofNat (own_bn us ds.length)) (own_bs us ds) (.int 0)) (hds : ds.length ≤ 2000) (hods : own_ok us ds) (hst : st ≠ x ∧ st ≠ b ∧ sb ≠ x ∧ sb ≠ b) (hok : own_ok u cs) (hcap : 2 * N ≤ cap) (hcap2 : cap ≤ 4000) (hfit : cs.length + ds.length ≤ N) :
    own_Ct l Z (⟨"java/lang/AbstractStringBuilder", "putStringAt", "(ILjava/lang/String;)V"⟩ : MethodName) jdk_68_method_73_code 3 none [] ({ frames := 2, locals := 55, cells := 1, slots := cap } : Room) #[(.ref x), (.int (Int32.ofNat cs.length)), (.ref st)] h0 (fun v h => v = none ∧ Keep h0 h [x, b] ∧ ∃ (b' : Addr) (kb' : ClassId), (b' = b ∨ h0.size ≤ b') ∧ own_SB Z h x (u || us) cs.length (cs ++ ds) b' kb' N) := by
  refine own_body (Ls := #[.val (.ref x), .val (.int (Int32.ofNat cs.length)), .val (.ref st)]) (plainFor_of_name pn_java_lang_AbstractStringBuilder) (fun m => by first | (simp [entryFrame, mkF, argsToLocals, Value.category]; done) | rfl) O0 ?_
  intro p e s m below meth c T0 G K0
  refine own_aloadN K0 d_jdk_68_m73_0 rfl rfl rfl ?_
  refine own_aloadN K0 d_jdk_68_m73_1 rfl rfl rfl ?_
  refine own_callP K0 (a := x) (wd181 hw) (wd182 hw) (own_selfSel (wd182 hw) (wd183 hw) (own_nfS (wd148 hw) rfl) (by decide)) (wd183 hw) (rm_inflateIf hw hs (cap := cap) K0.O B hok hcap hcap2 ⟨Es, Fs, sb, ks, Fb, Vs⟩ (by omega)) (wd185 hw) (wd112 hw) (by decide) B.exa (argsL := [(.ref st)]) (rest := []) rfl pd_28Ljava2flang2fString3b29V rfl rfl (W := 0) rfl (by first | decide | omega | (dsimp only; omega)) (by first | decide | omega | (dsimp only; omega)) (by first | decide | omega | (dsimp only; omega)) (by first | decide | omega | (dsimp only; omega)) d_jdk_68_m73_2 rfl ?_
  intro T38 h38 L38 v38 K38 q38
  obtain ⟨rfl, Kp38, b38, kb38, nb38, B38⟩ := q38
  show G (T38.setTop (mkF m 5 #[.val (.ref x), .val (.int (Int32.ofNat cs.length)), .val (.ref st)] []))
  obtain ⟨BE, Bvalue, Bcoder, Bcount, BV, BX, hab, ga, gb, hcN, hN, hnc⟩ := B38
  refine own_aloadN K38 d_jdk_68_m73_5 rfl rfl rfl ?_
  refine own_aloadN K38 d_jdk_68_m73_6 rfl rfl rfl ?_
  refine own_getF K38 (host := "") (Or.inl (wd116 hw)) Via.refl Bvalue d_jdk_68_m73_7 rfl ?_
  intro T39 K39
  refine own_iloadN K39 d_jdk_68_m73_10 rfl rfl ?_
  refine own_aloadN K39 d_jdk_68_m73_11 rfl rfl rfl ?_
  refine own_getF K39 (host := "") (Or.inl (wd118 hw)) Via.refl Bcoder d_jdk_68_m73_12 rfl ?_
  intro T40 K40
  have hx1 : st ∉ [x] := fun q => hst.1 (List.mem_singleton.mp q)
  have hx2 : sb ∉ [x] := fun q => hst.2.2.1 (List.mem_singleton.mp q)
  have hsb1 : sb ≠ b38 := nb38.elim (fun q => q ▸ hst.2.2.2) (fun q => Nat.ne_of_lt (Nat.lt_of_lt_of_le Vs.lt q))
  refine own_callV K40 (a := st) (x0 := (⟨"java/lang/String", "getBytes", "([BIB)V"⟩ : MethodName)) (wd187 hw) (wd188 hw) (fun q => own_nfS (args := #[]) (mvT q (wd136 hw)) rfl) (wd190 hw) (wd189 hw) (rm_getBytes hw hs K40.O (Es.keep Kp38) (Fs.keep Kp38 hx1) (Fb.keep Kp38 hx1) (Vs.keep Kp38 hx2) hds hods BV ⟨hfit, hN⟩ (fun q => by first | (rw [q, Bool.or_true]; done) | exact absurd q (by decide)) hsb1 gb) (wd191 hw) (wd4 hw) (by decide) (Es.keep Kp38) (argsL := [(.ref b38), (.int (Int32.ofNat cs.length)), (.int (own_cd (u || us)))]) (rest := []) rfl pd_285bBIB29V rfl rfl (W := 0) rfl (by first | decide | omega | (dsimp only; omega)) (by first | decide | omega | (dsimp only; omega)) (by first | decide | omega | (dsimp only; omega)) (by first | decide | omega | (dsimp only; omega)) d_jdk_68_m73_15 rfl ?_
  intro T41 h41 L41 v41 K41 q41
  obtain ⟨rfl, Kp41, V41⟩ := q41
  show G (T41.setTop (mkF m 18 #[.val (.ref x), .val (.int (Int32.ofNat cs.length)), .val (.ref st)] []))
  have hx3 : x ∉ [b38] := fun q => hab (List.mem_singleton.mp q)
  have value_42 := Bvalue.keep Kp41 hx3
  have coder_42 := Bcoder.keep Kp41 hx3
  have count_42 := Bcount.keep Kp41 hx3
  have E_42 := BE.keep Kp41
  have X_42 := BX.keep Kp41
  exact own_ret0 K41 d_jdk_68_m73_18 rfl (by first | decide | omega | (dsimp only; omega)) (by first | decide | omega | (dsimp only; omega)) ⟨rfl, own_keep2 Kp38 Kp41 nb38, b38, kb38, nb38, ⟨E_42, value_42, coder_42, count_42, V41, X_42, hab, ga, gb, by rw [List.length_append]; exact hfit, hN, by rw [List.length_append]; omega⟩⟩
theorem d_jdk_68_m22_0 : decode jdk_68_method_22_code 0 = .ok (.aload_n 1, 1) := by decide +kernel
theorem d_jdk_68_m22_1 : decode jdk_68_method_22_code 1 = .ok (.ifnonnull 8, 3) := by decide +kernel
theorem d_jdk_68_m22_9 : decode jdk_68_method_22_code 9 = .ok (.aload_n 1, 1) := by decide +kernel
theorem d_jdk_68_m22_10 : decode jdk_68_method_22_code 10 = .ok (.invokevirtual 32, 3) := by decide +kernel
theorem wd137 {a0 : Array Value} {Z : State} (hw : ∀ d ∈ tables_1, d.before a0 Z = true) : (Jvm.Cond.code ({ cls := "java/lang/String", name := "length", desc := "()I" } : Jvm.MethodName) jdk_42_method_54_code (1 : Nat) (Option.some Jvm.ClassFile.FieldType.int)).before a0 Z = true := hw _ (List.mem_of_getElem? (i := 137) rfl)
theorem pd_2829I : parseMethodDescriptor "()I" = some ⟨[], some .int⟩ := by decide +kernel
theorem wd133 {a0 : Array Value} {Z : State} (hw : ∀ d ∈ tables_1, d.before a0 Z = true) : (Jvm.Cond.methodLink "java/lang/AbstractStringBuilder" (32 : Nat) ({ cls := "java/lang/String", name := "length", desc := "()I" } : Jvm.MethodName)).before a0 Z = true := hw _ (List.mem_of_getElem? (i := 133) rfl)
theorem wd134 {a0 : Array Value} {Z : State} (hw : ∀ d ∈ tables_1, d.before a0 Z = true) : (Jvm.Cond.declares ({ cls := "java/lang/String", name := "length", desc := "()I" } : Jvm.MethodName)).before a0 Z = true := hw _ (List.mem_of_getElem? (i := 134) rfl)
theorem wd135 {a0 : Array Value} {Z : State} (hw : ∀ d ∈ tables_1, d.before a0 Z = true) : (Jvm.Cond.instanceMethod ({ cls := "java/lang/String", name := "length", desc := "()I" } : Jvm.MethodName)).before a0 Z = true := hw _ (List.mem_of_getElem? (i := 135) rfl)
theorem d_jdk_68_m22_13 : decode jdk_68_method_22_code 13 = .ok (.istore_n 2, 1) := by decide +kernel
theorem d_jdk_68_m22_14 : decode jdk_68_method_22_code 14 = .ok (.aload_n 0, 1) := by decide +kernel
theorem d_jdk_68_m22_15 : decode jdk_68_method_22_code 15 = .ok (.aload_n 0, 1) := by decide +kernel
theorem wd143 {a0 : Array Value} {Z : State} (hw : ∀ d ∈ tables_1, d.before a0 Z = true) : (Jvm.Cond.fieldLink "java/lang/AbstractStringBuilder" (79 : Nat) "java/lang/AbstractStringBuilder" "count" "I").before a0 Z = true := hw _ (List.mem_of_getElem? (i := 143) rfl)
theorem d_jdk_68_m22_16 : decode jdk_68_method_22_code 16 = .ok (.getfield 79, 3) := by decide +kernel
theorem d_jdk_68_m22_19 : decode jdk_68_method_22_code 19 = .ok (.iload_n 2, 1) := by decide +kernel
theorem d_jdk_68_m22_20 : decode jdk_68_method_22_code 20 = .ok (.iadd, 1) := by decide +kernel
theorem d_jdk_68_m22_21 : decode jdk_68_method_22_code 21 = .ok (.invokevirtual 100, 3) := by decide +kernel
theorem wd149 {a0 : Array Value} {Z : State} (hw : ∀ d ∈ tables_1, d.before a0 Z = true) : (Jvm.Cond.code ({ cls := "java/lang/AbstractStringBuilder", name := "ensureCapacityInternal", desc := "(I)V" } : Jvm.MethodName) jdk_68_method_9_code (3 : Nat) (Option.none : Option Jvm.ClassFile.FieldType)).before a0 Z = true := hw _ (List.mem_of_getElem? (i := 149) rfl)
theorem pd_28I29V : parseMethodDescriptor "(I)V" = some ⟨[.int], none⟩ := by decide +kernel
theorem wd145 {a0 : Array Value} {Z : State} (hw : ∀ d ∈ tables_1, d.before a0 Z = true) : (Jvm.Cond.methodLink "java/lang/AbstractStringBuilder" (100 : Nat) ({ cls := "java/lang/AbstractStringBuilder", name := "ensureCapacityInternal", desc := "(I)V" } : Jvm.MethodName)).before a0 Z = true := hw _ (List.mem_of_getElem? (i := 145) rfl)
theorem wd146 {a0 : Array Value} {Z : State} (hw : ∀ d ∈ tables_1, d.before a0 Z = true) : (Jvm.Cond.instanceMethod ({ cls := "java/lang/AbstractStringBuilder", name := "ensureCapacityInternal", desc := "(I)V" } : Jvm.MethodName)).before a0 Z = true := hw _ (List.mem_of_getElem? (i := 146) rfl)
theorem wd147 {a0 : Array Value} {Z : State} (hw : ∀ d ∈ tables_1, d.before a0 Z = true) : (Jvm.Cond.privateMethod ({ cls := "java/lang/AbstractStringBuilder", name := "ensureCapacityInternal", desc := "(I)V" } : Jvm.MethodName)).before a0 Z = true := hw _ (List.mem_of_getElem? (i := 147) rfl)
theorem d_jdk_68_m22_24 : decode jdk_68_method_22_code 24 = .ok (.aload_n 0, 1) := by decide +kernel
theorem d_jdk_68_m22_25 : decode jdk_68_method_22_code 25 = .ok (.aload_n 0, 1) := by decide +kernel
theorem d_jdk_68_m22_26 : decode jdk_68_method_22_code 26 = .ok (.getfield 79, 3) := by decide +kernel
theorem d_jdk_68_m22_29 : decode jdk_68_method_22_code 29 = .ok (.aload_n 1, 1) := by decide +kernel
theorem d_jdk_68_m22_30 : decode jdk_68_method_22_code 30 = .ok (.invokevirtual 208, 3) := by decide +kernel
theorem wd180 {a0 : Array Value} {Z : State} (hw : ∀ d ∈ tables_1, d.before a0 Z = true) : (Jvm.Cond.code ({ cls := "java/lang/AbstractStringBuilder", name := "putStringAt", desc := "(ILjava/lang/String;)V" } : Jvm.MethodName) jdk_68_method_73_code (3 : Nat) (Option.none : Option Jvm.ClassFile.FieldType)).before a0 Z = true := hw _ (List.mem_of_getElem? (i := 180) rfl)
theorem pd_28ILjava2flang2fString3b29V : parseMethodDescriptor "(ILjava/lang/String;)V" = some ⟨[.int, (.object "java/lang/String")], none⟩ := by decide +kernel
theorem wd176 {a0 : Array Value} {Z : State} (hw : ∀ d ∈ tables_1, d.before a0 Z = true) : (Jvm.Cond.methodLink "java/lang/AbstractStringBuilder" (208 : Nat) ({ cls := "java/lang/AbstractStringBuilder", name := "putStringAt", desc := "(ILjava/lang/String;)V" } : Jvm.MethodName)).before a0 Z = true := hw _ (List.mem_of_getElem? (i := 176) rfl)
theorem wd177 {a0 : Array Value} {Z : State} (hw : ∀ d ∈ tables_1, d.before a0 Z = true) : (Jvm.Cond.instanceMethod ({ cls := "java/lang/AbstractStringBuilder", name := "putStringAt", desc := "(ILjava/lang/String;)V" } : Jvm.MethodName)).before a0 Z = true := hw _ (List.mem_of_getElem? (i := 177) rfl)
theorem wd178 {a0 : Array Value} {Z : State} (hw : ∀ d ∈ tables_1, d.before a0 Z = true) : (Jvm.Cond.privateMethod ({ cls := "java/lang/AbstractStringBuilder", name := "putStringAt", desc := "(ILjava/lang/String;)V" } : Jvm.MethodName)).before a0 Z = true := hw _ (List.mem_of_getElem? (i := 178) rfl)
theorem d_jdk_68_m22_33 : decode jdk_68_method_22_code 33 = .ok (.aload_n 0, 1) := by decide +kernel
theorem d_jdk_68_m22_34 : decode jdk_68_method_22_code 34 = .ok (.dup, 1) := by decide +kernel
theorem d_jdk_68_m22_35 : decode jdk_68_method_22_code 35 = .ok (.getfield 79, 3) := by decide +kernel
theorem d_jdk_68_m22_38 : decode jdk_68_method_22_code 38 = .ok (.iload_n 2, 1) := by decide +kernel
theorem d_jdk_68_m22_39 : decode jdk_68_method_22_code 39 = .ok (.iadd, 1) := by decide +kernel
theorem d_jdk_68_m22_40 : decode jdk_68_method_22_code 40 = .ok (.putfield 79, 3) := by decide +kernel
theorem d_jdk_68_m22_43 : decode jdk_68_method_22_code 43 = .ok (.aload_n 0, 1) := by decide +kernel
theorem d_jdk_68_m22_44 : decode jdk_68_method_22_code 44 = .ok (.areturn, 1) := by decide +kernel
set_option maxRecDepth 65536 in
set_option maxHeartbeats 40000000 in
theorem rm_asbAppendSG {l : Launch} {Z : State} {a0 : Array Value} (hw : ∀ d ∈ tables_1, d.before a0 Z = true) (hs : ∀ d ∈ jdkStatics_1, d.before a0 Z = true) {x : Addr} {cs : List Int32} {b : Addr} {kb : ClassId} {N : Nat} {st : Addr} {ds : List Int32} {sb : Addr} {ks : ClassId} {cap : Nat} {h0 : Heap} (O0 : Ext Z.heap h0) (B : own_SB Z h0 x u cs.length cs b kb N) (Es : Exa Z h0 st "java/lang/String") (Fs : Fld Z h0 st "java/lang/String" "coder" "B" (.int (own_cd us))) (Fb : Fld Z h0 st "java/lang/String" "value" "[B" (.ref sb)) (Vs : Arv Z h0 sb ks .byte (Int32.ofNat (own_bn us ds.length)) (own_bs us ds) (.int 0)) (hds : ds.length ≤ 2000) (hods : own_ok us ds) (hst : st ≠ x ∧ st ≠ b ∧ sb ≠ x ∧ sb ≠ b) (hok : own_ok u cs) (hcap : 2 * (own_cap N (cs.length + ds.length)) ≤ cap) (hcap2 : cap ≤ 4000) :
    own_Ct l Z (⟨"java/lang/AbstractStringBuilder", "append", "(Ljava/lang/String;)Ljava/lang/AbstractStringBuilder;"⟩ : MethodName) jdk_68_method_22_code 3 (some (.object "java/lang/AbstractStringBuilder")) [] ({ frames := 4, locals := 69, cells := 2, slots := 2 * cap } : Room) #[(.ref x), (.ref st)] h0 (fun v h => v = some (.ref x) ∧ Keep h0 h [x, b] ∧ ∃ (b' : Addr) (kb' : ClassId), (b' = b ∨ h0.size ≤ b') ∧ own_SB Z h x (u || us) (cs ++ ds).length (cs ++ ds) b' kb' (own_cap N (cs.length + ds.length))) := by
  have B' := B
  obtain ⟨BE, Bvalue, Bcoder, Bcount, BV, BX, hab, ga, gb, hcN, hN, hnc⟩ := B'
  refine own_body (Ls := #[.val (.ref x), .val (.ref st), .unset]) (plainFor_of_name pn_java_lang_AbstractStringBuilder) (fun m => by first | (simp [entryFrame, mkF, argsToLocals, Value.category]; done) | rfl) O0 ?_
  intro p e s m below meth c T0 G K0
  have hcg := own_cap_ge N (cs.length + ds.length)
  have hb0 := own_bn_2 u (own_cap N (cs.length + ds.length))
  refine own_aloadN K0 d_jdk_68_m22_0 rfl rfl rfl ?_
  refine own_ifnonnullYes K0 d_jdk_68_m22_1 (pc' := 9) (by decide) (by decide) ?_
  refine own_aloadN K0 d_jdk_68_m22_9 rfl rfl rfl ?_
  refine own_callV K0 (a := st) (x0 := (⟨"java/lang/String", "length", "()I"⟩ : MethodName)) (wd133 hw) (wd134 hw) (fun q => own_nfS (args := #[]) (mvT q (wd136 hw)) rfl) (wd136 hw) (wd135 hw) (rm_lengthS hw hs K0.O ⟨Es, Fs, sb, ks, Fb, Vs⟩ (by omega)) (wd137 hw) (wd4 hw) (by decide) Es (argsL := []) (rest := []) rfl pd_2829I rfl rfl (W := 0) rfl (by first | decide | omega | (dsimp only; omega)) (by first | decide | omega | (dsimp only; omega)) (by first | decide | omega | (dsimp only; omega)) (by first | decide | omega | (dsimp only; omega)) d_jdk_68_m22_10 rfl ?_
  intro T43 h43 L43 v43 K43 q43
  obtain ⟨rfl, e43⟩ := q43
  have f43 := e43.symm
  subst f43
  show G (T43.setTop (mkF m 13 #[.val (.ref x), .val (.ref st), .unset] [(.int (Int32.ofNat ds.length))]))
  refine own_istoreN K43 (Ls' := #[.val (.ref x), .val (.ref st), .val (.int (Int32.ofNat ds.length))]) d_jdk_68_m22_13 rfl rfl ?_
  refine own_aloadN K43 d_jdk_68_m22_14 rfl rfl rfl ?_
  refine own_aloadN K43 d_jdk_68_m22_15 rfl rfl rfl ?_
  refine own_getF K43 (host := "") (Or.inl (wd143 hw)) Via.refl Bcount d_jdk_68_m22_16 rfl ?_
  intro T44 K44
  refine own_iloadN K44 d_jdk_68_m22_19 rfl rfl ?_
  refine own_iadd K44 d_jdk_68_m22_20 rfl ?_
  rw [own_addN]
  refine own_callP K44 (a := x) (wd145 hw) (wd146 hw) (own_selfSel (wd146 hw) (wd147 hw) (own_nfS (wd148 hw) rfl) (by decide)) (wd147 hw) (rm_ensureG hw hs (mm := cs.length + ds.length) (cap := cap) K44.O B ⟨by omega, by omega⟩ (by omega) hcap2) (wd149 hw) (wd112 hw) (by decide) BE (argsL := [(.int (Int32.ofNat (cs.length + ds.length)))]) (rest := []) rfl pd_28I29V rfl rfl (W := 0) rfl (by first | decide | omega | (dsimp only; omega)) (by first | decide | omega | (dsimp only; omega)) (by first | decide | omega | (dsimp only; omega)) (by first | decide | omega | (dsimp only; omega)) d_jdk_68_m22_21 rfl ?_
  intro T45 h45 L45 v45 K45 q45
  obtain ⟨rfl, Kq45, b45, kb45, nb45, B45⟩ := q45
  show G (T45.setTop (mkF m 24 #[.val (.ref x), .val (.ref st), .val (.int (Int32.ofNat ds.length))] []))
  obtain ⟨CE, Cvalue, Ccoder, Ccount, CV, CX, hab1, ga1, gb1, hcN1, hN1, hnc1⟩ := (id B45)
  refine own_aloadN K45 d_jdk_68_m22_24 rfl rfl rfl ?_
  refine own_aloadN K45 d_jdk_68_m22_25 rfl rfl rfl ?_
  refine own_getF K45 (host := "") (Or.inl (wd143 hw)) Via.refl Ccount d_jdk_68_m22_26 rfl ?_
  intro T46 K46
  refine own_aloadN K46 d_jdk_68_m22_29 rfl rfl rfl ?_
  have hx1 : st ∉ [x] := fun q => hst.1 (List.mem_singleton.mp q)
  have hx2 : sb ∉ [x] := fun q => hst.2.2.1 (List.mem_singleton.mp q)
  have hd1 : st ≠ b45 := nb45.elim (fun q => q ▸ hst.2.1) (fun q => Nat.ne_of_lt (Nat.lt_of_lt_of_le Es.lt q))
  have hd2 : sb ≠ b45 := nb45.elim (fun q => q ▸ hst.2.2.2) (fun q => Nat.ne_of_lt (Nat.lt_of_lt_of_le Vs.lt q))
  refine own_callP K46 (a := x) (wd176 hw) (wd177 hw) (own_selfSel (wd177 hw) (wd178 hw) (own_nfS (wd148 hw) rfl) (by decide)) (wd178 hw) (rm_putStr hw hs (cap := cap) K46.O B45 (Es.keep Kq45) (Fs.keep Kq45 hx1) (Fb.keep Kq45 hx1) (Vs.keep Kq45 hx2) hds hods ⟨hst.1, hd1, hst.2.2.1, hd2⟩ hok hcap hcap2 hcg.2) (wd180 hw) (wd112 hw) (by decide) CE (argsL := [(.int (Int32.ofNat cs.length)), (.ref st)]) (rest := []) rfl pd_28ILjava2flang2fString3b29V rfl rfl (W := 0) rfl (by first | decide | omega | (dsimp only; omega)) (by first | decide | omega | (dsimp only; omega)) (by first | decide | omega | (dsimp only; omega)) (by first | decide | omega | (dsimp only; omega)) d_jdk_68_m22_30 rfl ?_
  intro T47 h47 L47 v47 K47 q47
  obtain ⟨rfl, Kp47, b47, kb47, nb47, B47⟩ := q47
  show G (T47.setTop (mkF m 33 #[.val (.ref x), .val (.ref st), .val (.int (Int32.ofNat ds.length))] []))
  obtain ⟨DE, Dvalue, Dcoder, Dcount, DV, DX, hab2, ga2, gb2, hcN2, hN2, hnc2⟩ := B47
  refine own_aloadN K47 d_jdk_68_m22_33 rfl rfl rfl ?_
  refine own_dup K47 d_jdk_68_m22_34 rfl rfl ?_
  refine own_getF K47 (host := "") (Or.inl (wd143 hw)) Via.refl Dcount d_jdk_68_m22_35 rfl ?_
  intro T48 K48
  refine own_iloadN K48 d_jdk_68_m22_38 rfl rfl ?_
  refine own_iadd K48 d_jdk_68_m22_39 rfl ?_
  rw [own_addN, ← List.length_append]
  refine own_putF K48 (host := "") (Or.inl (wd143 hw)) Via.refl Dcount DE (Or.inl (wd144 hw)) (wd103 hw) (ty := .int) (by decide) rfl rfl ga2 d_jdk_68_m22_40 rfl ?_
  intro T49 h49 K49 W49
  have value_50 := Dvalue.other W49 (Or.inr (slot_ne (Or.inl (wd117 hw)) (Or.inl (wd144 hw)) (by decide) (t := (.array .byte)) (t' := .int) (by decide) (by decide)))
  have coder_50 := Dcoder.other W49 (Or.inr (slot_ne (Or.inl (wd119 hw)) (Or.inl (wd144 hw)) (by decide) (t := .byte) (t' := .int) (by decide) (by decide)))
  have count_50 := Dcount.same W49
  have E_50 := DE.wr W49
  have X_50 := DX.wr W49
  have V_50 := DV.other W49 (Ne.symm hab2)
  refine own_aloadN K49 d_jdk_68_m22_43 rfl rfl rfl ?_
  exact own_retA K49 d_jdk_68_m22_44 rfl rfl rfl rfl (by first | decide | omega | (dsimp only; omega)) (by first | decide | omega | (dsimp only; omega)) ⟨rfl, (own_keep3 Kq45 Kp47 nb45).wr W49 (Or.inl (List.mem_cons_self ..)), b47, kb47, nb47.elim (fun q => q ▸ nb45) (fun q => Or.inr (Nat.le_trans Kq45.1 q)), ⟨E_50, value_50, coder_50, count_50, V_50, X_50, hab2, ga2, gb2, hcN2, hN2, Nat.le_refl _⟩⟩
theorem d_jdk_67_m7_0 : decode jdk_67_method_7_code 0 = .ok (.aload_n 0, 1) := by decide +kernel
theorem d_jdk_67_m7_1 : decode jdk_67_method_7_code 1 = .ok (.aload_n 1, 1) := by decide +kernel
theorem d_jdk_67_m7_2 : decode jdk_67_method_7_code 2 = .ok (.invokespecial 29, 3) := by decide +kernel
theorem wd132 {a0 : Array Value} {Z : State} (hw : ∀ d ∈ tables_1, d.before a0 Z = true) : (Jvm.Cond.code ({ cls := "java/lang/AbstractStringBuilder", name := "append", desc := "(Ljava/lang/String;)Ljava/lang/AbstractStringBuilder;" } : Jvm.MethodName) jdk_68_method_22_code (3 : Nat) (Option.some (Jvm.ClassFile.FieldType.object "java/lang/AbstractStringBuilder"))).before a0 Z = true := hw _ (List.mem_of_getElem? (i := 132) rfl)
theorem pd_28Ljava2flang2fString3b29Ljava2flang2fAbstractStringBuilder3b : parseMethodDescriptor "(Ljava/lang/String;)Ljava/lang/AbstractStringBuilder;" = some ⟨[(.object "java/lang/String")], some (.object "java/lang/AbstractStringBuilder")⟩ := by decide +kernel
theorem wd128 {a0 : Array Value} {Z : State} (hw : ∀ d ∈ tables_1, d.before a0 Z = true) : (Jvm.Cond.methodLink "java/lang/StringBuilder" (29 : Nat) ({ cls := "java/lang/AbstractStringBuilder", name := "append", desc := "(Ljava/lang/String;)Ljava/lang/AbstractStringBuilder;" } : Jvm.MethodName)).before a0 Z = true := hw _ (List.mem_of_getElem? (i := 128) rfl)
theorem wd129 {a0 : Array Value} {Z : State} (hw : ∀ d ∈ tables_1, d.before a0 Z = true) : (Jvm.Cond.instanceMethod ({ cls := "java/lang/AbstractStringBuilder", name := "append", desc := "(Ljava/lang/String;)Ljava/lang/AbstractStringBuilder;" } : Jvm.MethodName)).before a0 Z = true := hw _ (List.mem_of_getElem? (i := 129) rfl)
theorem wd130 {a0 : Array Value} {Z : State} (hw : ∀ d ∈ tables_1, d.before a0 Z = true) : (Jvm.Cond.superclass "java/lang/StringBuilder" "java/lang/AbstractStringBuilder").before a0 Z = true := hw _ (List.mem_of_getElem? (i := 130) rfl)
theorem d_jdk_67_m7_5 : decode jdk_67_method_7_code 5 = .ok (.pop, 1) := by decide +kernel
theorem d_jdk_67_m7_6 : decode jdk_67_method_7_code 6 = .ok (.aload_n 0, 1) := by decide +kernel
theorem d_jdk_67_m7_7 : decode jdk_67_method_7_code 7 = .ok (.areturn, 1) := by decide +kernel
theorem pn_java_lang_StringBuilder : plainName "java/lang/StringBuilder" = true := by first | (simp [plainName, overriddenIn]; done) | decide +kernel
set_option maxRecDepth 65536 in
set_option maxHeartbeats 40000000 in
theorem rm_appendSG {l : Launch} {Z : State} {a0 : Array Value} (hw : ∀ d ∈ tables_1, d.before a0 Z = true) (hs : ∀ d ∈ jdkStatics_1, d.before a0 Z = true) {x : Addr} {cs : List Int32} {b : Addr} {kb : ClassId} {N : Nat} {st : Addr} {ds : List Int32} {sb : Addr} {ks : ClassId} {cap : Nat} {h0 : Heap} (O0 : Ext Z.heap h0) (B : own_SB Z h0 x u cs.length cs b kb N) (Es : Exa Z h0 st "java/lang/String") (Fs : Fld Z h0 st "java/lang/String" "coder" "B" (.int (own_cd us))) (Fb : Fld Z h0 st "java/lang/String" "value" "[B" (.ref sb)) (Vs : Arv Z h0 sb ks .byte (Int32.ofNat (own_bn us ds.length)) (own_bs us ds) (.int 0)) (hds : ds.length ≤ 2000) (hods : own_ok us ds) (hst : st ≠ x ∧ st ≠ b ∧ sb ≠ x ∧ sb ≠ b) (hok : own_ok u cs) (hcap : 2 * (own_cap N (cs.length + ds.length)) ≤ cap) (hcap2 : cap ≤ 4000) :
    own_Ct l Z (⟨"java/lang/StringBuilder", "append", "(Ljava/lang/String;)Ljava/lang/StringBuilder;"⟩ : MethodName) jdk_67_method_7_code 2 (some (.object "java/lang/StringBuilder")) [] ({ frames := 5, locals := 83, cells := 2, slots := 2 * cap } : Room) #[(.ref x), (.ref st)] h0 (fun v h => v = some (.ref x) ∧ Keep h0 h [x, b] ∧ ∃ (b' : Addr) (kb' : ClassId), (b' = b ∨ h0.size ≤ b') ∧ own_SB Z h x (u || us) (cs ++ ds).length (cs ++ ds) b' kb' (own_cap N (cs.length + ds.length))) := by
  refine own_body (Ls := #[.val (.ref x), .val (.ref st)]) (plainFor_of_name pn_java_lang_StringBuilder) (fun m => by first | (simp [entryFrame, mkF, argsToLocals, Value.category]; done) | rfl) O0 ?_
  intro p e s m below meth c T0 G K0
  refine own_aloadN K0 d_jdk_67_m7_0 rfl rfl rfl ?_
  refine own_aloadN K0 d_jdk_67_m7_1 rfl rfl rfl ?_
  refine own_callSup K0 (a := x) (wd128 hw) (own_sameSelf (wd129 hw) (own_nfS (wd148 hw) rfl) (by decide)) (wd129 hw) (wd130 hw) (rm_asbAppendSG hw hs (cap := cap) K0.O B Es Fs Fb Vs hds hods hst hok hcap hcap2) (wd132 hw) (wd112 hw) (by decide) B.exa (argsL := [(.ref st)]) (rest := []) rfl pd_28Ljava2flang2fString3b29Ljava2flang2fAbstractStringBuilder3b rfl rfl (W := 0) rfl (by first | decide | omega | (dsimp only; omega)) (by first | decide | omega | (dsimp only; omega)) (by first | decide | omega | (dsimp only; omega)) (by first | decide | omega | (dsimp only; omega)) d_jdk_67_m7_2 rfl ?_
  intro T51 h51 L51 v51 K51 q51
  obtain ⟨rfl, q51⟩ := q51
  show G (T51.setTop (mkF m 5 #[.val (.ref x), .val (.ref st)] [(.ref x)]))
  refine own_pop K51 d_jdk_67_m7_5 rfl rfl ?_
  refine own_aloadN K51 d_jdk_67_m7_6 rfl rfl rfl ?_
  exact own_retA K51 d_jdk_67_m7_7 rfl rfl rfl rfl (by first | decide | omega | (dsimp only; omega)) (by first | decide | omega | (dsimp only; omega)) ⟨rfl, q51⟩
theorem own_p10 {i : Nat} (h : i ≤ 18) : (Int64.ofInt (-((10 ^ i : Nat) : Int))).toInt = -((10 ^ i : Nat) : Int) := by
  have h1 : 10 ^ i ≤ 10 ^ 18 := Nat.pow_le_pow_right (by decide) h
  generalize 10 ^ i = x at h1 ⊢
  exact Int64.toInt_ofInt_of_le (by omega) (by omega)
theorem own_p10s (i : Nat) : (10 : Int64) * Int64.ofInt (-((10 ^ i : Nat) : Int)) = Int64.ofInt (-((10 ^ (i + 1) : Nat) : Int)) := by
  rw [show (10 : Int64) = Int64.ofInt 10 from rfl, ← Int64.ofInt_mul]
  congr 1
  rw [Nat.pow_succ]; push_cast; omega
theorem own_lcN {n : Nat} (h : n < 9223372036854775808) : ¬ lcmpW (Int64.ofNat n) 0 < 0 := fun q => by
  have := (lw_lt _ _).mp q
  rw [Int64.lt_iff_toInt_lt, own_J h] at this
  have e : (0 : Int64).toInt = 0 := rfl
  omega
theorem own_lcp {n i : Nat} (h : n < 9223372036854775808) (hi : i ≤ 18) : 0 < lcmpW (-(Int64.ofNat n)) (Int64.ofInt (-((10 ^ i : Nat) : Int))) ↔ n < 10 ^ i := by
  have h1 := c_lcmp (-(Int64.ofNat n)) (Int64.ofInt (-((10 ^ i : Nat) : Int)))
  rw [own_negJ h, own_p10 hi] at h1
  rw [Int32.lt_iff_toInt_lt, show (0 : Int32).toInt = 0 from rfl]
  omega
theorem d_jdk_35_m15_20 : decode jdk_35_method_15_code 20 = .ok (.iload 5, 2) := by decide +kernel
theorem d_jdk_35_m15_22 : decode jdk_35_method_15_code 22 = .ok (.bipush 19, 2) := by decide +kernel
theorem d_jdk_35_m15_24 : decode jdk_35_method_15_code 24 = .ok (.if_icmp .ge 26, 3) := by decide +kernel
theorem d_jdk_35_m15_50 : decode jdk_35_method_15_code 50 = .ok (.bipush 19, 2) := by decide +kernel
theorem d_jdk_35_m15_52 : decode jdk_35_method_15_code 52 = .ok (.iload_n 2, 1) := by decide +kernel
theorem d_jdk_35_m15_53 : decode jdk_35_method_15_code 53 = .ok (.iadd, 1) := by decide +kernel
theorem d_jdk_35_m15_54 : decode jdk_35_method_15_code 54 = .ok (.ireturn, 1) := by decide +kernel
theorem d_jdk_35_m15_27 : decode jdk_35_method_15_code 27 = .ok (.lload_n 0, 1) := by decide +kernel
theorem d_jdk_35_m15_28 : decode jdk_35_method_15_code 28 = .ok (.lload_n 3, 1) := by decide +kernel
theorem d_jdk_35_m15_29 : decode jdk_35_method_15_code 29 = .ok (.lcmp, 1) := by decide +kernel
theorem d_jdk_35_m15_30 : decode jdk_35_method_15_code 30 = .ok (.ifCond .le 8, 3) := by decide +kernel
theorem d_jdk_35_m15_33 : decode jdk_35_method_15_code 33 = .ok (.iload 5, 2) := by decide +kernel
theorem d_jdk_35_m15_35 : decode jdk_35_method_15_code 35 = .ok (.iload_n 2, 1) := by decide +kernel
theorem d_jdk_35_m15_36 : decode jdk_35_method_15_code 36 = .ok (.iadd, 1) := by decide +kernel
theorem d_jdk_35_m15_37 : decode jdk_35_method_15_code 37 = .ok (.ireturn, 1) := by decide +kernel
theorem wd310 {a0 : Array Value} {Z : State} (hw : ∀ d ∈ tables_1, d.before a0 Z = true) : (Jvm.Cond.constantLong "java/lang/Long" (53 : Nat) (10 : Int64)).before a0 Z = true := hw _ (List.mem_of_getElem? (i := 310) rfl)
theorem d_jdk_35_m15_38 : decode jdk_35_method_15_code 38 = .ok (.ldc2_w 53, 3) := by decide +kernel
theorem d_jdk_35_m15_41 : decode jdk_35_method_15_code 41 = .ok (.lload_n 3, 1) := by decide +kernel
theorem d_jdk_35_m15_42 : decode jdk_35_method_15_code 42 = .ok (.lmul, 1) := by decide +kernel
theorem d_jdk_35_m15_43 : decode jdk_35_method_15_code 43 = .ok (.lstore_n 3, 1) := by decide +kernel
theorem d_jdk_35_m15_44 : decode jdk_35_method_15_code 44 = .ok (.iinc 5 1, 3) := by decide +kernel
theorem d_jdk_35_m15_47 : decode jdk_35_method_15_code 47 = .ok (.goto (-27), 3) := by decide +kernel
section Lp
variable {p : Program} {l : Launch} {e : Env} {R : Room} {s : State} {m : MethodId} {args : Array Value} {below : List Frame} {meth : Method} {c : Code} {nm : String} {Q : Option Value → Heap → Prop} {G : State → Prop} {Z T : State} {L : List Loc} {k n : Nat} {h h0 : Heap} {a0 : Array Value}
set_option maxRecDepth 65536 in
set_option maxHeartbeats 40000000 in
theorem lp_stringSize (hw : ∀ d ∈ tables_1, d.before a0 Z = true) (hs : ∀ d ∈ jdkStatics_1, d.before a0 Z = true) (hRf : 0 ≤ R.frames) (hRl : 0 ≤ R.locals) (hRc : k ≤ R.cells) (hRs : n ≤ R.slots) {vn : Nat} (hn63 : vn < 9223372036854775808) (hq : ∀ i, i ≤ 18 → vn < 10 ^ (i + 1) → (i = 0 ∨ 10 ^ i ≤ vn) → Q (some (.int (Int32.ofNat (i + 1)))) h0)
    (j : Nat) : ∀ (i : Nat), i + j = 19 → ∀ {T : State} {L : List Loc} {h : Heap}, own_K p l e R s m args below meth c jdk_35_method_15_code "java/lang/Long" nm 6 (some .int) Q G Z T L k n h → 1 ≤ i → (i = 1 ∨ 10 ^ (i - 1) ≤ vn) → h = h0 → G (T.setTop (mkF m 20 #[.val (.long (-(Int64.ofNat vn))), .second, .val (.int (0 : Int32)), .val (.long (Int64.ofInt (-((10 ^ i : Nat) : Int)))), .second, .val (.int (Int32.ofNat i))] [])) := by
  induction j with
  | zero =>
    intro i hij T L h K h1 hlo Kh
    subst Kh
    refine own_iload K d_jdk_35_m15_20 rfl rfl ?_
    refine own_bipush K (v := (19 : Int32)) d_jdk_35_m15_22 rfl rfl ?_
    refine own_icmpYes K d_jdk_35_m15_24 (pc' := 50) (by decide) (by decide) (flt (own_nlt (n := 19) (by omega) (by omega))).2.1 ?_
    refine own_bipush K (v := (19 : Int32)) d_jdk_35_m15_50 rfl rfl ?_
    refine own_iloadN K d_jdk_35_m15_52 rfl rfl ?_
    refine own_iadd K d_jdk_35_m15_53 rfl ?_
    exact own_retI K d_jdk_35_m15_54 rfl (by first | decide | omega | (dsimp only; omega)) (by first | decide | omega | (dsimp only; omega)) (by have := hq 18 (by omega) (by omega) (by right; rw [show i = 19 by omega] at hlo; exact hlo.resolve_left (by omega)); exact this)
  | succ j ih =>
    intro i hij T L h K h1 hlo Kh
    subst Kh
    refine own_iload K d_jdk_35_m15_20 rfl rfl ?_
    refine own_bipush K (v := (19 : Int32)) d_jdk_35_m15_22 rfl rfl ?_
    refine own_icmpNo K d_jdk_35_m15_24 rfl (tlt (own_lt (n := 19) (by omega) (by decide))).2.1 ?_
    refine own_lloadN K d_jdk_35_m15_27 rfl rfl ?_
    refine own_lloadN K d_jdk_35_m15_28 rfl rfl ?_
    refine own_lcmp K d_jdk_35_m15_29 rfl ?_
    by_cases hc : vn < 10 ^ i
    · skip
      refine own_ifNo K d_jdk_35_m15_30 rfl ((if0 _ _).trans (tlt ((own_lcp hn63 (by omega)).mpr hc)).2.2.2) ?_
      refine own_iload K d_jdk_35_m15_33 rfl rfl ?_
      refine own_iloadN K d_jdk_35_m15_35 rfl rfl ?_
      refine own_iadd K d_jdk_35_m15_36 rfl ?_
      have e : i - 1 + 1 = i := by omega
      have q := hq (i - 1) (by omega) (by rw [e]; exact hc) (hlo.imp (fun z => by omega) id)
      rw [e] at q
      rw [Int32.add_zero]
      exact own_retI K d_jdk_35_m15_37 rfl (by first | decide | omega | (dsimp only; omega)) (by first | decide | omega | (dsimp only; omega)) q
    · skip
      refine own_ifYes K d_jdk_35_m15_30 (pc' := 38) (by decide) (by decide) ((if0 _ _).trans (flt (fun q => hc ((own_lcp hn63 (by omega)).mp q))).2.2.2) ?_
      refine own_ldc2Long K (wd310 hw) d_jdk_35_m15_38 rfl ?_
      refine own_lloadN K d_jdk_35_m15_41 rfl rfl ?_
      refine own_lmul K d_jdk_35_m15_42 rfl ?_
      refine own_lstoreN K (Ls' := #[.val (.long (-(Int64.ofNat vn))), .second, .val (.int (0 : Int32)), .val (.long ((10 : Int64) * (Int64.ofInt (-((10 ^ i : Nat) : Int))))), .second, .val (.int (Int32.ofNat i))]) d_jdk_35_m15_43 rfl rfl ?_
      refine own_iinc K (Ls' := #[.val (.long (-(Int64.ofNat vn))), .second, .val (.int (0 : Int32)), .val (.long ((10 : Int64) * (Int64.ofInt (-((10 ^ i : Nat) : Int))))), .second, .val (.int ((Int32.ofNat i) + (1 : Int32)))]) (x := (Int32.ofNat i)) (v := (Int32.ofNat i)) d_jdk_35_m15_44 rfl rfl rfl ?_
      refine own_goto K d_jdk_35_m15_47 (pc' := 20) (by decide) (by decide) ?_
      rw [own_p10s, own_one]
      exact ih (i + 1) (by omega) K (by omega) (Or.inr (by rw [Nat.add_sub_cancel]; omega)) rfl
end Lp
theorem d_jdk_35_m15_0 : decode jdk_35_method_15_code 0 = .ok (.iconst 1, 1) := by decide +kernel
theorem d_jdk_35_m15_1 : decode jdk_35_method_15_code 1 = .ok (.istore_n 2, 1) := by decide +kernel
theorem d_jdk_35_m15_2 : decode jdk_35_method_15_code 2 = .ok (.lload_n 0, 1) := by decide +kernel
theorem d_jdk_35_m15_3 : decode jdk_35_method_15_code 3 = .ok (.lconst 0, 1) := by decide +kernel
theorem d_jdk_35_m15_4 : decode jdk_35_method_15_code 4 = .ok (.lcmp, 1) := by decide +kernel
theorem d_jdk_35_m15_5 : decode jdk_35_method_15_code 5 = .ok (.ifCond .lt 8, 3) := by decide +kernel
theorem d_jdk_35_m15_8 : decode jdk_35_method_15_code 8 = .ok (.iconst 0, 1) := by decide +kernel
theorem d_jdk_35_m15_9 : decode jdk_35_method_15_code 9 = .ok (.istore_n 2, 1) := by decide +kernel
theorem d_jdk_35_m15_10 : decode jdk_35_method_15_code 10 = .ok (.lload_n 0, 1) := by decide +kernel
theorem d_jdk_35_m15_11 : decode jdk_35_method_15_code 11 = .ok (.lneg, 1) := by decide +kernel
theorem d_jdk_35_m15_12 : decode jdk_35_method_15_code 12 = .ok (.lstore_n 0, 1) := by decide +kernel
theorem wd207 {a0 : Array Value} {Z : State} (hw : ∀ d ∈ tables_1, d.before a0 Z = true) : (Jvm.Cond.constantLong "java/lang/Long" (140 : Nat) (-10 : Int64)).before a0 Z = true := hw _ (List.mem_of_getElem? (i := 207) rfl)
theorem d_jdk_35_m15_13 : decode jdk_35_method_15_code 13 = .ok (.ldc2_w 140, 3) := by decide +kernel
theorem d_jdk_35_m15_16 : decode jdk_35_method_15_code 16 = .ok (.lstore_n 3, 1) := by decide +kernel
theorem d_jdk_35_m15_17 : decode jdk_35_method_15_code 17 = .ok (.iconst 1, 1) := by decide +kernel
theorem d_jdk_35_m15_18 : decode jdk_35_method_15_code 18 = .ok (.istore 5, 2) := by decide +kernel
theorem pn_java_lang_Long : plainName "java/lang/Long" = true := by first | (simp [plainName, overriddenIn]; done) | decide +kernel
set_option maxRecDepth 65536 in
set_option maxHeartbeats 40000000 in
theorem rm_stringSize {l : Launch} {Z : State} {a0 : Array Value} (hw : ∀ d ∈ tables_1, d.before a0 Z = true) (hs : ∀ d ∈ jdkStatics_1, d.before a0 Z = true) {vn : Nat} {h0 : Heap} (O0 : Ext Z.heap h0) (hn63 : vn < 9223372036854775808) :
    own_Ct l Z (⟨"java/lang/Long", "stringSize", "(J)I"⟩ : MethodName) jdk_35_method_15_code 6 (some .int) [] ({ frames := 0, locals := 0, cells := 0, slots := 0 } : Room) #[(.long (Int64.ofNat vn))] h0 (fun v h => v = some (.int (Int32.ofNat (own_dg vn).length)) ∧ h = h0) := by
  refine own_body (Ls := #[.val (.long (Int64.ofNat vn)), .second, .unset, .unset, .unset, .unset]) (plainFor_of_name pn_java_lang_Long) (fun m => by first | (simp [entryFrame, mkF, argsToLocals, Value.category]; done) | rfl) O0 ?_
  intro p e s m below meth c T0 G K0
  refine own_iconst K0 (v := (1 : Int32)) d_jdk_35_m15_0 rfl rfl ?_
  refine own_istoreN K0 (Ls' := #[.val (.long (Int64.ofNat vn)), .second, .val (.int (1 : Int32)), .unset, .unset, .unset]) d_jdk_35_m15_1 rfl rfl ?_
  refine own_lloadN K0 d_jdk_35_m15_2 rfl rfl ?_
  refine own_lconst K0 (v := (0 : Int64)) d_jdk_35_m15_3 rfl rfl ?_
  refine own_lcmp K0 d_jdk_35_m15_4 rfl ?_
  refine own_ifNo K0 d_jdk_35_m15_5 rfl ((if0 _ _).trans (flt (own_lcN hn63)).1) ?_
  refine own_iconst K0 (v := (0 : Int32)) d_jdk_35_m15_8 rfl rfl ?_
  refine own_istoreN K0 (Ls' := #[.val (.long (Int64.ofNat vn)), .second, .val (.int (0 : Int32)), .unset, .unset, .unset]) d_jdk_35_m15_9 rfl rfl ?_
  refine own_lloadN K0 d_jdk_35_m15_10 rfl rfl ?_
  refine own_lneg K0 d_jdk_35_m15_11 rfl ?_
  refine own_lstoreN K0 (Ls' := #[.val (.long ((-(Int64.ofNat vn)))), .second, .val (.int (0 : Int32)), .unset, .unset, .unset]) d_jdk_35_m15_12 rfl rfl ?_
  refine own_ldc2Long K0 (wd207 hw) d_jdk_35_m15_13 rfl ?_
  refine own_lstoreN K0 (Ls' := #[.val (.long ((-(Int64.ofNat vn)))), .second, .val (.int (0 : Int32)), .val (.long (-10 : Int64)), .second, .unset]) d_jdk_35_m15_16 rfl rfl ?_
  refine own_iconst K0 (v := (1 : Int32)) d_jdk_35_m15_17 rfl rfl ?_
  refine own_istore K0 (Ls' := #[.val (.long ((-(Int64.ofNat vn)))), .second, .val (.int (0 : Int32)), .val (.long (-10 : Int64)), .second, .val (.int (1 : Int32))]) d_jdk_35_m15_18 rfl rfl ?_
  rw [show (-10 : Int64) = Int64.ofInt (-((10 ^ 1 : Nat) : Int)) from by decide]
  exact lp_stringSize hw hs (by first | decide | omega | (dsimp only; omega)) (by first | decide | omega | (dsimp only; omega)) (by first | decide | omega | (dsimp only; omega)) (by first | decide | omega | (dsimp only; omega)) hn63 (fun i hi h1 h2 => ⟨by rw [own_dg_len i vn h1 h2], rfl⟩) 18 1 rfl K0 (Nat.le_refl _) (Or.inl rfl) rfl
theorem own_r64 (y : Int64) : -9223372036854775808 ≤ y.toInt ∧ y.toInt < 9223372036854775808 := ⟨Int64.le_toInt y, Int64.toInt_lt y⟩
theorem own_r32 (y : Int32) : -2147483648 ≤ y.toInt ∧ y.toInt < 2147483648 := ⟨Int32.le_toInt y, Int32.toInt_lt y⟩
theorem own_negI {n : Nat} (h : n < 2147483648) : (-(Int32.ofNat n)).toInt = -(n : Int) := by
  have := c_ineg (Int32.ofNat n)
  have r1 := own_r32 (-(Int32.ofNat n))
  rw [Int32.toInt_ofNat_of_lt h] at this; omega
theorem own_divJ {n : Nat} (h : n < 9223372036854775808) : -(Int64.ofNat n) / (100 : Int64) = -(Int64.ofNat (n / 100)) := by
  have h1 := c_ldiv (-(Int64.ofNat n)) 100 100 rfl (by decide)
  rw [own_negJ h] at h1
  apply Int64.toInt_inj.mp
  rw [own_negJ (by omega)]
  by_cases hz : n = 0
  · rw [h1.1 (by omega)]; subst hz; rfl
  · rw [h1.2 (by omega)]; omega
theorem own_remJ {n : Nat} (h : n < 9223372036854775808) : (-(Int64.ofNat (n / 100)) * (100 : Int64) - -(Int64.ofNat n)).toInt32 = Int32.ofNat (n % 100) := by
  have h1 := c_lmul (-(Int64.ofNat (n / 100))) 100
  have h2 := c_lsub (-(Int64.ofNat (n / 100)) * (100 : Int64)) (-(Int64.ofNat n))
  have h3 := c_l2i (-(Int64.ofNat (n / 100)) * (100 : Int64) - -(Int64.ofNat n))
  have r1 := own_r64 (-(Int64.ofNat (n / 100)) * (100 : Int64))
  have r2 := own_r64 (-(Int64.ofNat (n / 100)) * (100 : Int64) - -(Int64.ofNat n))
  have r3 := own_r32 (-(Int64.ofNat (n / 100)) * (100 : Int64) - -(Int64.ofNat n)).toInt32
  rw [own_negJ (by omega), show (100 : Int64).toInt = 100 from rfl] at h1
  rw [own_negJ h] at h2
  apply Int32.toInt_inj.mp
  rw [Int32.toInt_ofNat_of_lt (by omega)]; omega
theorem own_divI {n : Nat} (h : n < 2147483648) : -(Int32.ofNat n) / (100 : Int32) = -(Int32.ofNat (n / 100)) := by
  have h1 := c_idiv (-(Int32.ofNat n)) 100 100 rfl (by decide)
  rw [own_negI h] at h1
  apply Int32.toInt_inj.mp
  rw [own_negI (by omega)]
  by_cases hz : n = 0
  · rw [h1.1 (by omega)]; subst hz; rfl
  · rw [h1.2 (by omega)]; omega
theorem own_remI {n : Nat} (h : n < 2147483648) : -(Int32.ofNat (n / 100)) * (100 : Int32) - -(Int32.ofNat n) = Int32.ofNat (n % 100) := by
  have h1 := c_imul (-(Int32.ofNat (n / 100))) 100
  have h2 := c_isub (-(Int32.ofNat (n / 100)) * (100 : Int32)) (-(Int32.ofNat n))
  have r1 := own_r32 (-(Int32.ofNat (n / 100)) * (100 : Int32))
  have r2 := own_r32 (-(Int32.ofNat (n / 100)) * (100 : Int32) - -(Int32.ofNat n))
  rw [own_negI (by omega), show (100 : Int32).toInt = 100 from rfl] at h1
  rw [own_negI h] at h2
  apply Int32.toInt_inj.mp
  rw [Int32.toInt_ofNat_of_lt (by omega)]; omega
theorem own_l2in {n : Nat} (h : n < 2147483648) : (-(Int64.ofNat n)).toInt32 = -(Int32.ofNat n) := by
  have h3 := c_l2i (-(Int64.ofNat n))
  have r3 := own_r32 (-(Int64.ofNat n)).toInt32
  rw [own_negJ (by omega)] at h3
  apply Int32.toInt_inj.mp
  rw [own_negI h]; omega
theorem own_lcM {n : Nat} (h : n < 9223372036854775808) : 0 < lcmpW (-(Int64.ofNat n)) (-2147483648) ↔ n < 2147483648 := by
  have h1 := c_lcmp (-(Int64.ofNat n)) (-2147483648)
  rw [own_negJ h, show (-2147483648 : Int64).toInt = -2147483648 from by decide] at h1
  rw [Int32.lt_iff_toInt_lt, show (0 : Int32).toInt = 0 from rfl]
  omega
theorem own_ltN {n : Nat} (h : n < 2147483648) : (-100 : Int32) < -(Int32.ofNat n) ↔ n < 100 := by
  rw [Int32.lt_iff_toInt_lt, own_negI h, show (-100 : Int32).toInt = -100 from by decide]; omega
theorem own_lt9 {n : Nat} (h : n < 2147483648) : -(Int32.ofNat n) < (-9 : Int32) ↔ 9 < n := by
  rw [Int32.lt_iff_toInt_lt, own_negI h, show (-9 : Int32).toInt = -9 from by decide]; omega
theorem own_dec {n : Nat} (h : 0 < n) : Int32.ofNat n + (-1 : Int32) = Int32.ofNat (n - 1) := by
  obtain ⟨k, rfl⟩ : ∃ k, n = k + 1 := ⟨n - 1, by omega⟩
  rw [← own_one, Int32.add_assoc, show (1 : Int32) + (-1) = 0 from by decide, Int32.add_zero, Nat.add_sub_cancel]
theorem own_bycons (c : Int32) (S : List Int32) : Value.int c.toInt8.toInt32 :: own_by S = own_by (c :: S) := rfl
theorem own_midset {cs S : List Int32} {k : Nat} {c : Int32} (hk : 0 < k) : (own_by cs ++ List.replicate k (Value.int 0) ++ own_by S).set (cs.length + k - 1) (.int c.toInt8.toInt32) = own_by cs ++ List.replicate (k - 1) (Value.int 0) ++ own_by (c :: S) := by
  have := own_setm (own_by cs) (own_by S) k (.int c.toInt8.toInt32) (.int 0) hk
  rw [own_by_len] at this; exact this
theorem st30 {a0 : Array Value} {Z : State} (hs : ∀ d ∈ jdkStatics_1, d.before a0 Z = true) : (Jvm.Cond.laysStatic "java/lang/Integer" "DigitOnes" "[B").before a0 Z = true := hs _ (List.mem_of_getElem? (i := 30) rfl)
theorem st32 {a0 : Array Value} {Z : State} (hs : ∀ d ∈ jdkStatics_1, d.before a0 Z = true) : (Jvm.Cond.exactly (Jvm.Term.static "java/lang/Integer" "DigitOnes" "[B") "[B").before a0 Z = true := hs _ (List.mem_of_getElem? (i := 32) rfl)
theorem st33 {a0 : Array Value} {Z : State} (hs : ∀ d ∈ jdkStatics_1, d.before a0 Z = true) : (Jvm.Cond.eq (Jvm.Term.length (Jvm.Term.static "java/lang/Integer" "DigitOnes" "[B")) (Jvm.Term.int (100 : Int32))).before a0 Z = true := hs _ (List.mem_of_getElem? (i := 33) rfl)
theorem st29 {a0 : Array Value} {Z : State} (hs : ∀ d ∈ jdkStatics_1, d.before a0 Z = true) : (Jvm.Cond.initialized "java/lang/Integer").before a0 Z = true := hs _ (List.mem_of_getElem? (i := 29) rfl)
theorem st34 {a0 : Array Value} {Z : State} (hs : ∀ d ∈ jdkStatics_1, d.before a0 Z = true) : (Jvm.Cond.all (Jvm.Term.static "java/lang/Integer" "DigitOnes" "[B") (Jvm.Cond.eq (Jvm.Term.elem (Jvm.Term.static "java/lang/Integer" "DigitOnes" "[B") (Jvm.Term.index (0 : Nat))) (Jvm.Term.add (Jvm.Term.int (48 : Int32)) (Jvm.Term.rem (Jvm.Term.index (0 : Nat)) (Jvm.Term.int (10 : Int32)))))).before a0 Z = true := hs _ (List.mem_of_getElem? (i := 34) rfl)
theorem own_DigitOnes {a0 : Array Value} {Z : State} (hw : ∀ d ∈ tables_1, d.before a0 Z = true) (hs : ∀ d ∈ jdkStatics_1, d.before a0 Z = true) : ∃ (o : Addr) (ko : ClassId), Sta Z Z.heap "java/lang/Integer" "DigitOnes" "[B" (.ref o) ∧ Arv Z Z.heap o ko .byte 100 ((List.range 100).map fun r => Value.int (Int32.ofNat (48 + r % 10))) (.int 0) := by
  exact own_tblB (F := fun r => 48 + r % 10) (fun r hr => by omega) (st32 hs) (st33 hs) (st29 hs) (st30 hs) (wd20 hw) (fun r hr => by rw [← Jvm.Free.SBG.ones_num r hr]; rfl) (st34 hs)
theorem st35 {a0 : Array Value} {Z : State} (hs : ∀ d ∈ jdkStatics_1, d.before a0 Z = true) : (Jvm.Cond.laysStatic "java/lang/Integer" "DigitTens" "[B").before a0 Z = true := hs _ (List.mem_of_getElem? (i := 35) rfl)
theorem st37 {a0 : Array Value} {Z : State} (hs : ∀ d ∈ jdkStatics_1, d.before a0 Z = true) : (Jvm.Cond.exactly (Jvm.Term.static "java/lang/Integer" "DigitTens" "[B") "[B").before a0 Z = true := hs _ (List.mem_of_getElem? (i := 37) rfl)
theorem st38 {a0 : Array Value} {Z : State} (hs : ∀ d ∈ jdkStatics_1, d.before a0 Z = true) : (Jvm.Cond.eq (Jvm.Term.length (Jvm.Term.static "java/lang/Integer" "DigitTens" "[B")) (Jvm.Term.int (100 : Int32))).before a0 Z = true := hs _ (List.mem_of_getElem? (i := 38) rfl)
theorem st39 {a0 : Array Value} {Z : State} (hs : ∀ d ∈ jdkStatics_1, d.before a0 Z = true) : (Jvm.Cond.all (Jvm.Term.static "java/lang/Integer" "DigitTens" "[B") (Jvm.Cond.eq (Jvm.Term.elem (Jvm.Term.static "java/lang/Integer" "DigitTens" "[B") (Jvm.Term.index (0 : Nat))) (Jvm.Term.add (Jvm.Term.int (48 : Int32)) (Jvm.Term.div (Jvm.Term.index (0 : Nat)) (Jvm.Term.int (10 : Int32)))))).before a0 Z = true := hs _ (List.mem_of_getElem? (i := 39) rfl)
theorem own_DigitTens {a0 : Array Value} {Z : State} (hw : ∀ d ∈ tables_1, d.before a0 Z = true) (hs : ∀ d ∈ jdkStatics_1, d.before a0 Z = true) : ∃ (o : Addr) (ko : ClassId), Sta Z Z.heap "java/lang/Integer" "DigitTens" "[B" (.ref o) ∧ Arv Z Z.heap o ko .byte 100 ((List.range 100).map fun r => Value.int (Int32.ofNat (48 + r / 10))) (.int 0) := by
  exact own_tblB (F := fun r => 48 + r / 10) (fun r hr => by omega) (st37 hs) (st38 hs) (st29 hs) (st35 hs) (wd20 hw) (fun r hr => by rw [← Jvm.Free.SBG.tens_num r hr]; rfl) (st39 hs)
theorem d_jdk_35_m14_24 : decode jdk_35_method_14_code 24 = .ok (.lload_n 0, 1) := by decide +kernel
theorem wd216 {a0 : Array Value} {Z : State} (hw : ∀ d ∈ tables_1, d.before a0 Z = true) : (Jvm.Cond.constantLong "java/lang/Long" (129 : Nat) (-2147483648 : Int64)).before a0 Z = true := hw _ (List.mem_of_getElem? (i := 216) rfl)
theorem d_jdk_35_m14_25 : decode jdk_35_method_14_code 25 = .ok (.ldc2_w 129, 3) := by decide +kernel
theorem d_jdk_35_m14_28 : decode jdk_35_method_14_code 28 = .ok (.lcmp, 1) := by decide +kernel
theorem d_jdk_35_m14_29 : decode jdk_35_method_14_code 29 = .ok (.ifCond .gt 53, 3) := by decide +kernel
theorem d_jdk_35_m14_32 : decode jdk_35_method_14_code 32 = .ok (.lload_n 0, 1) := by decide +kernel
theorem wd312 {a0 : Array Value} {Z : State} (hw : ∀ d ∈ tables_1, d.before a0 Z = true) : (Jvm.Cond.constantLong "java/lang/Long" (131 : Nat) (100 : Int64)).before a0 Z = true := hw _ (List.mem_of_getElem? (i := 312) rfl)
theorem d_jdk_35_m14_33 : decode jdk_35_method_14_code 33 = .ok (.ldc2_w 131, 3) := by decide +kernel
theorem d_jdk_35_m14_36 : decode jdk_35_method_14_code 36 = .ok (.ldiv, 1) := by decide +kernel
theorem d_jdk_35_m14_37 : decode jdk_35_method_14_code 37 = .ok (.lstore 4, 2) := by decide +kernel
theorem d_jdk_35_m14_39 : decode jdk_35_method_14_code 39 = .ok (.lload 4, 2) := by decide +kernel
theorem d_jdk_35_m14_41 : decode jdk_35_method_14_code 41 = .ok (.ldc2_w 131, 3) := by decide +kernel
theorem d_jdk_35_m14_44 : decode jdk_35_method_14_code 44 = .ok (.lmul, 1) := by decide +kernel
theorem d_jdk_35_m14_45 : decode jdk_35_method_14_code 45 = .ok (.lload_n 0, 1) := by decide +kernel
theorem d_jdk_35_m14_46 : decode jdk_35_method_14_code 46 = .ok (.lsub, 1) := by decide +kernel
theorem d_jdk_35_m14_47 : decode jdk_35_method_14_code 47 = .ok (.l2i, 1) := by decide +kernel
theorem d_jdk_35_m14_48 : decode jdk_35_method_14_code 48 = .ok (.istore 6, 2) := by decide +kernel
theorem d_jdk_35_m14_50 : decode jdk_35_method_14_code 50 = .ok (.lload 4, 2) := by decide +kernel
theorem d_jdk_35_m14_52 : decode jdk_35_method_14_code 52 = .ok (.lstore_n 0, 1) := by decide +kernel
theorem d_jdk_35_m14_53 : decode jdk_35_method_14_code 53 = .ok (.aload_n 3, 1) := by decide +kernel
theorem d_jdk_35_m14_54 : decode jdk_35_method_14_code 54 = .ok (.iinc 7 (-1), 3) := by decide +kernel
theorem d_jdk_35_m14_57 : decode jdk_35_method_14_code 57 = .ok (.iload 7, 2) := by decide +kernel
theorem d_jdk_35_m14_59 : decode jdk_35_method_14_code 59 = .ok (.getstatic 133, 3) := by decide +kernel
theorem wd217 {a0 : Array Value} {Z : State} (hw : ∀ d ∈ tables_1, d.before a0 Z = true) : (Jvm.Cond.fieldLink "java/lang/Long" (133 : Nat) "java/lang/Integer" "DigitOnes" "[B").before a0 Z = true := hw _ (List.mem_of_getElem? (i := 217) rfl)
theorem d_jdk_35_m14_62 : decode jdk_35_method_14_code 62 = .ok (.iload 6, 2) := by decide +kernel
theorem d_jdk_35_m14_64 : decode jdk_35_method_14_code 64 = .ok (.baload, 1) := by decide +kernel
theorem d_jdk_35_m14_65 : decode jdk_35_method_14_code 65 = .ok (.bastore, 1) := by decide +kernel
theorem d_jdk_35_m14_66 : decode jdk_35_method_14_code 66 = .ok (.aload_n 3, 1) := by decide +kernel
theorem d_jdk_35_m14_67 : decode jdk_35_method_14_code 67 = .ok (.iinc 7 (-1), 3) := by decide +kernel
theorem d_jdk_35_m14_70 : decode jdk_35_method_14_code 70 = .ok (.iload 7, 2) := by decide +kernel
theorem d_jdk_35_m14_72 : decode jdk_35_method_14_code 72 = .ok (.getstatic 137, 3) := by decide +kernel
theorem wd311 {a0 : Array Value} {Z : State} (hw : ∀ d ∈ tables_1, d.before a0 Z = true) : (Jvm.Cond.fieldLink "java/lang/Long" (137 : Nat) "java/lang/Integer" "DigitTens" "[B").before a0 Z = true := hw _ (List.mem_of_getElem? (i := 311) rfl)
theorem d_jdk_35_m14_75 : decode jdk_35_method_14_code 75 = .ok (.iload 6, 2) := by decide +kernel
theorem d_jdk_35_m14_77 : decode jdk_35_method_14_code 77 = .ok (.baload, 1) := by decide +kernel
theorem d_jdk_35_m14_78 : decode jdk_35_method_14_code 78 = .ok (.bastore, 1) := by decide +kernel
theorem d_jdk_35_m14_79 : decode jdk_35_method_14_code 79 = .ok (.goto (-55), 3) := by decide +kernel
section Lp
variable {p : Program} {l : Launch} {e : Env} {R : Room} {s : State} {m : MethodId} {args : Array Value} {below : List Frame} {meth : Method} {c : Code} {nm : String} {Q : Option Value → Heap → Prop} {G : State → Prop} {Z T : State} {L : List Loc} {k n : Nat} {h h0 : Heap} {a0 : Array Value}
set_option maxRecDepth 65536 in
set_option maxHeartbeats 40000000 in
theorem lp_gc1 (hw : ∀ d ∈ tables_1, d.before a0 Z = true) (hs : ∀ d ∈ jdkStatics_1, d.before a0 Z = true) {b : Addr} {kb : ClassId} {cs : List Int32} {vn M ix : Nat} {o1 o2 : Addr} {ko1 ko2 : ClassId} (SO1 : Sta Z Z.heap "java/lang/Integer" "DigitOnes" "[B" (.ref o1)) (SO2 : Sta Z Z.heap "java/lang/Integer" "DigitTens" "[B" (.ref o2)) (DT1 : Arv Z Z.heap o1 ko1 .byte 100 ((List.range 100).map fun r => Value.int (Int32.ofNat (48 + r % 10))) (.int 0)) (DT2 : Arv Z Z.heap o2 ko2 .byte 100 ((List.range 100).map fun r => Value.int (Int32.ofNat (48 + r / 10))) (.int 0)) (gb : Z.heap.size ≤ b) (hM : cs.length + (own_dg vn).length ≤ M ∧ M ≤ 4000)
    (ex : ∀ (T' : State) (L' : List Loc) (h' : Heap) (mm : Nat) (S : List Int32) (s4 s5 s6 : Slot), own_K p l e R s m args below meth c jdk_35_method_14_code "java/lang/Long" nm 11 (some .int) Q G Z T' L' k n h' → Keep h0 h' [b] → Arv Z h' b kb .byte (Int32.ofNat M) (own_by cs ++ List.replicate (own_dg mm).length (Value.int 0) ++ own_by S) (.int 0) → own_dg vn = own_dg mm ++ S → mm < 2147483648 → One s6 → G (T'.setTop (mkF m 82 #[.val (.long (-(Int64.ofNat mm))), .second, .val (.int (Int32.ofNat ix)), .val (.ref b), s4, s5, s6, .val (.int (Int32.ofNat (cs.length + (own_dg mm).length))), .val (.int (0 : Int32)), .unset, .unset] [])))
    (mm : Nat) : ∀ {T : State} {L : List Loc} {h : Heap} {S : List Int32} {s4 s5 s6 : Slot}, own_K p l e R s m args below meth c jdk_35_method_14_code "java/lang/Long" nm 11 (some .int) Q G Z T L k n h → mm < 9223372036854775808 → Keep h0 h [b] → Arv Z h b kb .byte (Int32.ofNat M) (own_by cs ++ List.replicate (own_dg mm).length (Value.int 0) ++ own_by S) (.int 0) → own_dg vn = own_dg mm ++ S → ((s4 = .unset ∧ s5 = .unset ∧ s6 = .unset) ∨ ∃ (q : Int64) (r : Int32), s4 = .val (.long q) ∧ s5 = .second ∧ s6 = .val (.int r)) → G (T.setTop (mkF m 24 #[.val (.long (-(Int64.ofNat mm))), .second, .val (.int (Int32.ofNat ix)), .val (.ref b), s4, s5, s6, .val (.int (Int32.ofNat (cs.length + (own_dg mm).length))), .val (.int (0 : Int32)), .unset, .unset] [])) := by
  induction mm using Nat.strongRecOn with
  | ind mm ih =>
    intro T L h S s4 s5 s6 K hm Kp V hdg h456
    have hpos := own_dg_pos mm
    have hln : (own_dg mm).length ≤ (own_dg vn).length := by rw [hdg, List.length_append]; omega
    refine own_lloadN K d_jdk_35_m14_24 rfl rfl ?_
    refine own_ldc2Long K (wd216 hw) d_jdk_35_m14_25 rfl ?_
    refine own_lcmp K d_jdk_35_m14_28 rfl ?_
    by_cases hlt : mm < 2147483648
    · skip
      refine own_ifYes K d_jdk_35_m14_29 (pc' := 82) (by decide) (by decide) ((if0 _ _).trans (tlt ((own_lcM hm).mpr hlt)).2.2.1) ?_
      exact ex _ _ _ _ _ _ _ _ K Kp V hdg hlt (h456.elim (fun q => by rw [q.2.2]; exact One.u) (fun ⟨q, r, z⟩ => by rw [z.2.2]; exact One.val rfl))
    · skip
      rcases h456 with ⟨rfl, rfl, rfl⟩ | ⟨q4, r6, rfl, rfl, rfl⟩
      · skip
        refine own_ifNo K d_jdk_35_m14_29 rfl ((if0 _ _).trans (flt (fun q => hlt ((own_lcM hm).mp q))).2.2.1) ?_
        refine own_lloadN K d_jdk_35_m14_32 rfl rfl ?_
        refine own_ldc2Long K (wd312 hw) d_jdk_35_m14_33 rfl ?_
        refine own_ldiv K d_jdk_35_m14_36 rfl (by decide) ?_
        rw [own_divJ hm]
        refine own_lstore K (Ls' := #[.val (.long (-(Int64.ofNat mm))), .second, .val (.int (Int32.ofNat ix)), .val (.ref b), .val (.long (-(Int64.ofNat (mm / 100)))), .second, .unset, .val (.int (Int32.ofNat (cs.length + (own_dg mm).length))), .val (.int (0 : Int32)), .unset, .unset]) d_jdk_35_m14_37 rfl rfl ?_
        refine own_lload K d_jdk_35_m14_39 rfl rfl ?_
        refine own_ldc2Long K (wd312 hw) d_jdk_35_m14_41 rfl ?_
        refine own_lmul K d_jdk_35_m14_44 rfl ?_
        refine own_lloadN K d_jdk_35_m14_45 rfl rfl ?_
        refine own_lsub K d_jdk_35_m14_46 rfl ?_
        refine own_l2i K d_jdk_35_m14_47 rfl ?_
        rw [own_remJ hm]
        have h100 := own_dg_100 (n := mm) (by omega)
        have hl : (own_dg mm).length = (own_dg (mm / 100)).length + 2 := by rw [h100, List.length_append]; rfl
        refine own_istore K (Ls' := #[.val (.long (-(Int64.ofNat mm))), .second, .val (.int (Int32.ofNat ix)), .val (.ref b), .val (.long (-(Int64.ofNat (mm / 100)))), .second, .val (.int (Int32.ofNat (mm % 100))), .val (.int (Int32.ofNat (cs.length + (own_dg mm).length))), .val (.int (0 : Int32)), .unset, .unset]) d_jdk_35_m14_48 rfl rfl ?_
        refine own_lload K d_jdk_35_m14_50 rfl rfl ?_
        refine own_lstoreN K (Ls' := #[.val (.long (-(Int64.ofNat (mm / 100)))), .second, .val (.int (Int32.ofNat ix)), .val (.ref b), .val (.long (-(Int64.ofNat (mm / 100)))), .second, .val (.int (Int32.ofNat (mm % 100))), .val (.int (Int32.ofNat (cs.length + (own_dg mm).length))), .val (.int (0 : Int32)), .unset, .unset]) d_jdk_35_m14_52 rfl rfl ?_
        refine own_aloadN K d_jdk_35_m14_53 rfl rfl rfl ?_
        refine own_iinc K (Ls' := #[.val (.long (-(Int64.ofNat (mm / 100)))), .second, .val (.int (Int32.ofNat ix)), .val (.ref b), .val (.long (-(Int64.ofNat (mm / 100)))), .second, .val (.int (Int32.ofNat (mm % 100))), .val (.int ((Int32.ofNat (cs.length + (own_dg mm).length)) + (-1 : Int32))), .val (.int (0 : Int32)), .unset, .unset]) (x := (Int32.ofNat (cs.length + (own_dg mm).length))) (v := (Int32.ofNat (cs.length + (own_dg mm).length))) d_jdk_35_m14_54 rfl rfl rfl ?_
        refine own_iload K d_jdk_35_m14_57 rfl rfl ?_
        rw [own_dec (by omega)]
        refine own_getS K (wd217 hw) Via.refl (SO1.ext K.O) d_jdk_35_m14_59 rfl ?_
        intro T52 K52
        refine own_iload K52 d_jdk_35_m14_62 rfl rfl ?_
        refine own_baload K52 (x := (Int32.ofNat (48 + (mm % 100) % 10))) (DT1.ext K52.O) ⟨own_nn (by omega), own_lt (n := 100) (by omega) (by decide)⟩ (by rw [own_clamp (by omega)]; exact own_rget _ (by omega) _) d_jdk_35_m14_64 rfl ?_
        refine own_bastore K52 V ⟨own_nn (by omega), own_lt (by omega) (by omega)⟩ (cs.length + (own_dg mm).length - 1) (own_clamp (by omega)) (by simp only [List.length_append, List.length_replicate, own_by_len]; omega) (x' := (Int32.ofNat (48 + (mm % 100) % 10)).toInt8.toInt32) rfl gb d_jdk_35_m14_65 rfl ?_
        intro T53 h53 K53 W53 V53
        have Y53 := V53
        rw [own_midset (by omega)] at Y53
        rw [show cs.length + (own_dg mm).length - 1 = cs.length + ((own_dg mm).length - 1) by omega]
        refine own_aloadN K53 d_jdk_35_m14_66 rfl rfl rfl ?_
        refine own_iinc K53 (Ls' := #[.val (.long (-(Int64.ofNat (mm / 100)))), .second, .val (.int (Int32.ofNat ix)), .val (.ref b), .val (.long (-(Int64.ofNat (mm / 100)))), .second, .val (.int (Int32.ofNat (mm % 100))), .val (.int ((Int32.ofNat (cs.length + ((own_dg mm).length - 1))) + (-1 : Int32))), .val (.int (0 : Int32)), .unset, .unset]) (x := (Int32.ofNat (cs.length + ((own_dg mm).length - 1)))) (v := (Int32.ofNat (cs.length + ((own_dg mm).length - 1)))) d_jdk_35_m14_67 rfl rfl rfl ?_
        refine own_iload K53 d_jdk_35_m14_70 rfl rfl ?_
        rw [own_dec (by omega)]
        refine own_getS K53 (wd311 hw) Via.refl (SO2.ext K53.O) d_jdk_35_m14_72 rfl ?_
        intro T54 K54
        refine own_iload K54 d_jdk_35_m14_75 rfl rfl ?_
        refine own_baload K54 (x := (Int32.ofNat (48 + (mm % 100) / 10))) (DT2.ext K54.O) ⟨own_nn (by omega), own_lt (n := 100) (by omega) (by decide)⟩ (by rw [own_clamp (by omega)]; exact own_rget _ (by omega) _) d_jdk_35_m14_77 rfl ?_
        refine own_bastore K54 Y53 ⟨own_nn (by omega), own_lt (by omega) (by omega)⟩ (cs.length + ((own_dg mm).length - 1) - 1) (own_clamp (by omega)) (by simp only [List.length_append, List.length_replicate, own_by_len]; omega) (x' := (Int32.ofNat (48 + (mm % 100) / 10)).toInt8.toInt32) rfl gb d_jdk_35_m14_78 rfl ?_
        intro T55 h55 K55 W55 V55
        have Y55 := V55
        rw [own_midset (by omega)] at Y55
        refine own_goto K55 d_jdk_35_m14_79 (pc' := 24) (by decide) (by decide) ?_
        rw [show cs.length + ((own_dg mm).length - 1) - 1 = cs.length + (own_dg (mm / 100)).length by omega]
        refine ih (mm / 100) (by omega) K55 (by omega) ((Kp.wr W53 (Or.inl (List.mem_singleton.mpr rfl))).wr W55 (Or.inl (List.mem_singleton.mpr rfl))) (S := Int32.ofNat (48 + mm % 100 / 10) :: Int32.ofNat (48 + mm % 100 % 10) :: S) ?_ (by rw [hdg, h100, List.append_assoc]; rfl) (Or.inr ⟨_, _, rfl, rfl, rfl⟩)
        rw [show (own_dg (mm / 100)).length = (own_dg mm).length - 1 - 1 by omega]
        exact Y55
      · skip
        refine own_ifNo K d_jdk_35_m14_29 rfl ((if0 _ _).trans (flt (fun q => hlt ((own_lcM hm).mp q))).2.2.1) ?_
        refine own_lloadN K d_jdk_35_m14_32 rfl rfl ?_
        refine own_ldc2Long K (wd312 hw) d_jdk_35_m14_33 rfl ?_
        refine own_ldiv K d_jdk_35_m14_36 rfl (by decide) ?_
        rw [own_divJ hm]
        refine own_lstore K (Ls' := #[.val (.long (-(Int64.ofNat mm))), .second, .val (.int (Int32.ofNat ix)), .val (.ref b), .val (.long (-(Int64.ofNat (mm / 100)))), .second, .val (.int r6), .val (.int (Int32.ofNat (cs.length + (own_dg mm).length))), .val (.int (0 : Int32)), .unset, .unset]) d_jdk_35_m14_37 rfl rfl ?_
        refine own_lload K d_jdk_35_m14_39 rfl rfl ?_
        refine own_ldc2Long K (wd312 hw) d_jdk_35_m14_41 rfl ?_
        refine own_lmul K d_jdk_35_m14_44 rfl ?_
        refine own_lloadN K d_jdk_35_m14_45 rfl rfl ?_
        refine own_lsub K d_jdk_35_m14_46 rfl ?_
        refine own_l2i K d_jdk_35_m14_47 rfl ?_
        rw [own_remJ hm]
        have h100 := own_dg_100 (n := mm) (by omega)
        have hl : (own_dg mm).length = (own_dg (mm / 100)).length + 2 := by rw [h100, List.length_append]; rfl
        refine own_istore K (Ls' := #[.val (.long (-(Int64.ofNat mm))), .second, .val (.int (Int32.ofNat ix)), .val (.ref b), .val (.long (-(Int64.ofNat (mm / 100)))), .second, .val (.int (Int32.ofNat (mm % 100))), .val (.int (Int32.ofNat (cs.length + (own_dg mm).length))), .val (.int (0 : Int32)), .unset, .unset]) d_jdk_35_m14_48 rfl rfl ?_
        refine own_lload K d_jdk_35_m14_50 rfl rfl ?_
        refine own_lstoreN K (Ls' := #[.val (.long (-(Int64.ofNat (mm / 100)))), .second, .val (.int (Int32.ofNat ix)), .val (.ref b), .val (.long (-(Int64.ofNat (mm / 100)))), .second, .val (.int (Int32.ofNat (mm % 100))), .val (.int (Int32.ofNat (cs.length + (own_dg mm).length))), .val (.int (0 : Int32)), .unset, .unset]) d_jdk_35_m14_52 rfl rfl ?_
        refine own_aloadN K d_jdk_35_m14_53 rfl rfl rfl ?_
        refine own_iinc K (Ls' := #[.val (.long (-(Int64.ofNat (mm / 100)))), .second, .val (.int (Int32.ofNat ix)), .val (.ref b), .val (.long (-(Int64.ofNat (mm / 100)))), .second, .val (.int (Int32.ofNat (mm % 100))), .val (.int ((Int32.ofNat (cs.length + (own_dg mm).length)) + (-1 : Int32))), .val (.int (0 : Int32)), .unset, .unset]) (x := (Int32.ofNat (cs.length + (own_dg mm).length))) (v := (Int32.ofNat (cs.length + (own_dg mm).length))) d_jdk_35_m14_54 rfl rfl rfl ?_
        refine own_iload K d_jdk_35_m14_57 rfl rfl ?_
        rw [own_dec (by omega)]
        refine own_getS K (wd217 hw) Via.refl (SO1.ext K.O) d_jdk_35_m14_59 rfl ?_
        intro T56 K56
        refine own_iload K56 d_jdk_35_m14_62 rfl rfl ?_
        refine own_baload K56 (x := (Int32.ofNat (48 + (mm % 100) % 10))) (DT1.ext K56.O) ⟨own_nn (by omega), own_lt (n := 100) (by omega) (by decide)⟩ (by rw [own_clamp (by omega)]; exact own_rget _ (by omega) _) d_jdk_35_m14_64 rfl ?_
        refine own_bastore K56 V ⟨own_nn (by omega), own_lt (by omega) (by omega)⟩ (cs.length + (own_dg mm).length - 1) (own_clamp (by omega)) (by simp only [List.length_append, List.length_replicate, own_by_len]; omega) (x' := (Int32.ofNat (48 + (mm % 100) % 10)).toInt8.toInt32) rfl gb d_jdk_35_m14_65 rfl ?_
        intro T57 h57 K57 W57 V57
        have Y57 := V57
        rw [own_midset (by omega)] at Y57
        rw [show cs.length + (own_dg mm).length - 1 = cs.length + ((own_dg mm).length - 1) by omega]
        refine own_aloadN K57 d_jdk_35_m14_66 rfl rfl rfl ?_
        refine own_iinc K57 (Ls' := #[.val (.long (-(Int64.ofNat (mm / 100)))), .second, .val (.int (Int32.ofNat ix)), .val (.ref b), .val (.long (-(Int64.ofNat (mm / 100)))), .second, .val (.int (Int32.ofNat (mm % 100))), .val (.int ((Int32.ofNat (cs.length + ((own_dg mm).length - 1))) + (-1 : Int32))), .val (.int (0 : Int32)), .unset, .unset]) (x := (Int32.ofNat (cs.length + ((own_dg mm).length - 1)))) (v := (Int32.ofNat (cs.length + ((own_dg mm).length - 1)))) d_jdk_35_m14_67 rfl rfl rfl ?_
        refine own_iload K57 d_jdk_35_m14_70 rfl rfl ?_
        rw [own_dec (by omega)]
        refine own_getS K57 (wd311 hw) Via.refl (SO2.ext K57.O) d_jdk_35_m14_72 rfl ?_
        intro T58 K58
        refine own_iload K58 d_jdk_35_m14_75 rfl rfl ?_
        refine own_baload K58 (x := (Int32.ofNat (48 + (mm % 100) / 10))) (DT2.ext K58.O) ⟨own_nn (by omega), own_lt (n := 100) (by omega) (by decide)⟩ (by rw [own_clamp (by omega)]; exact own_rget _ (by omega) _) d_jdk_35_m14_77 rfl ?_
        refine own_bastore K58 Y57 ⟨own_nn (by omega), own_lt (by omega) (by omega)⟩ (cs.length + ((own_dg mm).length - 1) - 1) (own_clamp (by omega)) (by simp only [List.length_append, List.length_replicate, own_by_len]; omega) (x' := (Int32.ofNat (48 + (mm % 100) / 10)).toInt8.toInt32) rfl gb d_jdk_35_m14_78 rfl ?_
        intro T59 h59 K59 W59 V59
        have Y59 := V59
        rw [own_midset (by omega)] at Y59
        refine own_goto K59 d_jdk_35_m14_79 (pc' := 24) (by decide) (by decide) ?_
        rw [show cs.length + ((own_dg mm).length - 1) - 1 = cs.length + (own_dg (mm / 100)).length by omega]
        refine ih (mm / 100) (by omega) K59 (by omega) ((Kp.wr W57 (Or.inl (List.mem_singleton.mpr rfl))).wr W59 (Or.inl (List.mem_singleton.mpr rfl))) (S := Int32.ofNat (48 + mm % 100 / 10) :: Int32.ofNat (48 + mm % 100 % 10) :: S) ?_ (by rw [hdg, h100, List.append_assoc]; rfl) (Or.inr ⟨_, _, rfl, rfl, rfl⟩)
        rw [show (own_dg (mm / 100)).length = (own_dg mm).length - 1 - 1 by omega]
        exact Y59
end Lp
theorem d_jdk_35_m14_86 : decode jdk_35_method_14_code 86 = .ok (.iload 10, 2) := by decide +kernel
theorem d_jdk_35_m14_88 : decode jdk_35_method_14_code 88 = .ok (.bipush (-100), 2) := by decide +kernel
theorem d_jdk_35_m14_90 : decode jdk_35_method_14_code 90 = .ok (.if_icmp .gt 53, 3) := by decide +kernel
theorem d_jdk_35_m14_93 : decode jdk_35_method_14_code 93 = .ok (.iload 10, 2) := by decide +kernel
theorem d_jdk_35_m14_95 : decode jdk_35_method_14_code 95 = .ok (.bipush 100, 2) := by decide +kernel
theorem d_jdk_35_m14_97 : decode jdk_35_method_14_code 97 = .ok (.idiv, 1) := by decide +kernel
theorem d_jdk_35_m14_98 : decode jdk_35_method_14_code 98 = .ok (.istore 9, 2) := by decide +kernel
theorem d_jdk_35_m14_100 : decode jdk_35_method_14_code 100 = .ok (.iload 9, 2) := by decide +kernel
theorem d_jdk_35_m14_102 : decode jdk_35_method_14_code 102 = .ok (.bipush 100, 2) := by decide +kernel
theorem d_jdk_35_m14_104 : decode jdk_35_method_14_code 104 = .ok (.imul, 1) := by decide +kernel
theorem d_jdk_35_m14_105 : decode jdk_35_method_14_code 105 = .ok (.iload 10, 2) := by decide +kernel
theorem d_jdk_35_m14_107 : decode jdk_35_method_14_code 107 = .ok (.isub, 1) := by decide +kernel
theorem d_jdk_35_m14_108 : decode jdk_35_method_14_code 108 = .ok (.istore 6, 2) := by decide +kernel
theorem d_jdk_35_m14_110 : decode jdk_35_method_14_code 110 = .ok (.iload 9, 2) := by decide +kernel
theorem d_jdk_35_m14_112 : decode jdk_35_method_14_code 112 = .ok (.istore 10, 2) := by decide +kernel
theorem d_jdk_35_m14_114 : decode jdk_35_method_14_code 114 = .ok (.aload_n 3, 1) := by decide +kernel
theorem d_jdk_35_m14_115 : decode jdk_35_method_14_code 115 = .ok (.iinc 7 (-1), 3) := by decide +kernel
theorem d_jdk_35_m14_118 : decode jdk_35_method_14_code 118 = .ok (.iload 7, 2) := by decide +kernel
theorem d_jdk_35_m14_120 : decode jdk_35_method_14_code 120 = .ok (.getstatic 133, 3) := by decide +kernel
theorem d_jdk_35_m14_123 : decode jdk_35_method_14_code 123 = .ok (.iload 6, 2) := by decide +kernel
theorem d_jdk_35_m14_125 : decode jdk_35_method_14_code 125 = .ok (.baload, 1) := by decide +kernel
theorem d_jdk_35_m14_126 : decode jdk_35_method_14_code 126 = .ok (.bastore, 1) := by decide +kernel
theorem d_jdk_35_m14_127 : decode jdk_35_method_14_code 127 = .ok (.aload_n 3, 1) := by decide +kernel
theorem d_jdk_35_m14_128 : decode jdk_35_method_14_code 128 = .ok (.iinc 7 (-1), 3) := by decide +kernel
theorem d_jdk_35_m14_131 : decode jdk_35_method_14_code 131 = .ok (.iload 7, 2) := by decide +kernel
theorem d_jdk_35_m14_133 : decode jdk_35_method_14_code 133 = .ok (.getstatic 137, 3) := by decide +kernel
theorem d_jdk_35_m14_136 : decode jdk_35_method_14_code 136 = .ok (.iload 6, 2) := by decide +kernel
theorem d_jdk_35_m14_138 : decode jdk_35_method_14_code 138 = .ok (.baload, 1) := by decide +kernel
theorem d_jdk_35_m14_139 : decode jdk_35_method_14_code 139 = .ok (.bastore, 1) := by decide +kernel
theorem d_jdk_35_m14_140 : decode jdk_35_method_14_code 140 = .ok (.goto (-54), 3) := by decide +kernel
section Lp
variable {p : Program} {l : Launch} {e : Env} {R : Room} {s : State} {m : MethodId} {args : Array Value} {below : List Frame} {meth : Method} {c : Code} {nm : String} {Q : Option Value → Heap → Prop} {G : State → Prop} {Z T : State} {L : List Loc} {k n : Nat} {h h0 : Heap} {a0 : Array Value}
set_option maxRecDepth 65536 in
set_option maxHeartbeats 40000000 in
theorem lp_gc2 (hw : ∀ d ∈ tables_1, d.before a0 Z = true) (hs : ∀ d ∈ jdkStatics_1, d.before a0 Z = true) {b : Addr} {kb : ClassId} {cs : List Int32} {vn M ix : Nat} {o1 o2 : Addr} {ko1 ko2 : ClassId} (SO1 : Sta Z Z.heap "java/lang/Integer" "DigitOnes" "[B" (.ref o1)) (SO2 : Sta Z Z.heap "java/lang/Integer" "DigitTens" "[B" (.ref o2)) (DT1 : Arv Z Z.heap o1 ko1 .byte 100 ((List.range 100).map fun r => Value.int (Int32.ofNat (48 + r % 10))) (.int 0)) (DT2 : Arv Z Z.heap o2 ko2 .byte 100 ((List.range 100).map fun r => Value.int (Int32.ofNat (48 + r / 10))) (.int 0)) (gb : Z.heap.size ≤ b) (hM : cs.length + (own_dg vn).length ≤ M ∧ M ≤ 4000) {j0 : Int64} {s4 s5 : Slot}
    (ex : ∀ (T' : State) (L' : List Loc) (h' : Heap) (mm : Nat) (S : List Int32) (s6 s9 : Slot), own_K p l e R s m args below meth c jdk_35_method_14_code "java/lang/Long" nm 11 (some .int) Q G Z T' L' k n h' → Keep h0 h' [b] → Arv Z h' b kb .byte (Int32.ofNat M) (own_by cs ++ List.replicate (own_dg mm).length (Value.int 0) ++ own_by S) (.int 0) → own_dg vn = own_dg mm ++ S → mm < 100 → G (T'.setTop (mkF m 143 #[.val (.long j0), .second, .val (.int (Int32.ofNat ix)), .val (.ref b), s4, s5, s6, .val (.int (Int32.ofNat (cs.length + (own_dg mm).length))), .val (.int (0 : Int32)), s9, .val (.int (-(Int32.ofNat mm)))] [])))
    (mm : Nat) : ∀ {T : State} {L : List Loc} {h : Heap} {S : List Int32} {s6 s9 : Slot}, own_K p l e R s m args below meth c jdk_35_method_14_code "java/lang/Long" nm 11 (some .int) Q G Z T L k n h → mm < 2147483648 → Keep h0 h [b] → Arv Z h b kb .byte (Int32.ofNat M) (own_by cs ++ List.replicate (own_dg mm).length (Value.int 0) ++ own_by S) (.int 0) → own_dg vn = own_dg mm ++ S → One s6 → One s9 → G (T.setTop (mkF m 86 #[.val (.long j0), .second, .val (.int (Int32.ofNat ix)), .val (.ref b), s4, s5, s6, .val (.int (Int32.ofNat (cs.length + (own_dg mm).length))), .val (.int (0 : Int32)), s9, .val (.int (-(Int32.ofNat mm)))] [])) := by
  induction mm using Nat.strongRecOn with
  | ind mm ih =>
    intro T L h S s6 s9 K hm Kp V hdg hs6 hs9
    have hpos := own_dg_pos mm
    have hln : (own_dg mm).length ≤ (own_dg vn).length := by rw [hdg, List.length_append]; omega
    refine own_iload K d_jdk_35_m14_86 rfl rfl ?_
    refine own_bipush K (v := (-100 : Int32)) d_jdk_35_m14_88 rfl rfl ?_
    by_cases hlt : mm < 100
    · skip
      refine own_icmpYes K d_jdk_35_m14_90 (pc' := 143) (by decide) (by decide) (tlt ((own_ltN hm).mpr hlt)).2.2.1 ?_
      exact ex _ _ _ _ _ _ _ K Kp V hdg hlt
    · skip
      refine own_icmpNo K d_jdk_35_m14_90 rfl (flt (fun q => hlt ((own_ltN hm).mp q))).2.2.1 ?_
      refine own_iload K d_jdk_35_m14_93 rfl rfl ?_
      refine own_bipush K (v := (100 : Int32)) d_jdk_35_m14_95 rfl rfl ?_
      refine own_idiv K d_jdk_35_m14_97 rfl (by decide) ?_
      rw [own_divI hm]
      refine own_istore K (Ls' := #[.val (.long j0), .second, .val (.int (Int32.ofNat ix)), .val (.ref b), s4, s5, s6, .val (.int (Int32.ofNat (cs.length + (own_dg mm).length))), .val (.int (0 : Int32)), .val (.int (-(Int32.ofNat (mm / 100)))), .val (.int (-(Int32.ofNat mm)))]) d_jdk_35_m14_98 rfl (XS.store1 rfl hs9 rfl) ?_
      refine own_iload K d_jdk_35_m14_100 rfl rfl ?_
      refine own_bipush K (v := (100 : Int32)) d_jdk_35_m14_102 rfl rfl ?_
      refine own_imul K d_jdk_35_m14_104 rfl ?_
      refine own_iload K d_jdk_35_m14_105 rfl rfl ?_
      refine own_isub K d_jdk_35_m14_107 rfl ?_
      rw [own_remI hm]
      have h100 := own_dg_100 (n := mm) (by omega)
      have hl : (own_dg mm).length = (own_dg (mm / 100)).length + 2 := by rw [h100, List.length_append]; rfl
      refine own_istore K (Ls' := #[.val (.long j0), .second, .val (.int (Int32.ofNat ix)), .val (.ref b), s4, s5, .val (.int (Int32.ofNat (mm % 100))), .val (.int (Int32.ofNat (cs.length + (own_dg mm).length))), .val (.int (0 : Int32)), .val (.int (-(Int32.ofNat (mm / 100)))), .val (.int (-(Int32.ofNat mm)))]) d_jdk_35_m14_108 rfl (XS.store1 rfl hs6 rfl) ?_
      refine own_iload K d_jdk_35_m14_110 rfl rfl ?_
      refine own_istore K (Ls' := #[.val (.long j0), .second, .val (.int (Int32.ofNat ix)), .val (.ref b), s4, s5, .val (.int (Int32.ofNat (mm % 100))), .val (.int (Int32.ofNat (cs.length + (own_dg mm).length))), .val (.int (0 : Int32)), .val (.int (-(Int32.ofNat (mm / 100)))), .val (.int (-(Int32.ofNat (mm / 100))))]) d_jdk_35_m14_112 rfl rfl ?_
      refine own_aloadN K d_jdk_35_m14_114 rfl rfl rfl ?_
      refine own_iinc K (Ls' := #[.val (.long j0), .second, .val (.int (Int32.ofNat ix)), .val (.ref b), s4, s5, .val (.int (Int32.ofNat (mm % 100))), .val (.int ((Int32.ofNat (cs.length + (own_dg mm).length)) + (-1 : Int32))), .val (.int (0 : Int32)), .val (.int (-(Int32.ofNat (mm / 100)))), .val (.int (-(Int32.ofNat (mm / 100))))]) (x := (Int32.ofNat (cs.length + (own_dg mm).length))) (v := (Int32.ofNat (cs.length + (own_dg mm).length))) d_jdk_35_m14_115 rfl rfl rfl ?_
      refine own_iload K d_jdk_35_m14_118 rfl rfl ?_
      rw [own_dec (by omega)]
      refine own_getS K (wd217 hw) Via.refl (SO1.ext K.O) d_jdk_35_m14_120 rfl ?_
      intro T60 K60
      refine own_iload K60 d_jdk_35_m14_123 rfl rfl ?_
      refine own_baload K60 (x := (Int32.ofNat (48 + (mm % 100) % 10))) (DT1.ext K60.O) ⟨own_nn (by omega), own_lt (n := 100) (by omega) (by decide)⟩ (by rw [own_clamp (by omega)]; exact own_rget _ (by omega) _) d_jdk_35_m14_125 rfl ?_
      refine own_bastore K60 V ⟨own_nn (by omega), own_lt (by omega) (by omega)⟩ (cs.length + (own_dg mm).length - 1) (own_clamp (by omega)) (by simp only [List.length_append, List.length_replicate, own_by_len]; omega) (x' := (Int32.ofNat (48 + (mm % 100) % 10)).toInt8.toInt32) rfl gb d_jdk_35_m14_126 rfl ?_
      intro T61 h61 K61 W61 V61
      have Y61 := V61
      rw [own_midset (by omega)] at Y61
      rw [show cs.length + (own_dg mm).length - 1 = cs.length + ((own_dg mm).length - 1) by omega]
      refine own_aloadN K61 d_jdk_35_m14_127 rfl rfl rfl ?_
      refine own_iinc K61 (Ls' := #[.val (.long j0), .second, .val (.int (Int32.ofNat ix)), .val (.ref b), s4, s5, .val (.int (Int32.ofNat (mm % 100))), .val (.int ((Int32.ofNat (cs.length + ((own_dg mm).length - 1))) + (-1 : Int32))), .val (.int (0 : Int32)), .val (.int (-(Int32.ofNat (mm / 100)))), .val (.int (-(Int32.ofNat (mm / 100))))]) (x := (Int32.ofNat (cs.length + ((own_dg mm).length - 1)))) (v := (Int32.ofNat (cs.length + ((own_dg mm).length - 1)))) d_jdk_35_m14_128 rfl rfl rfl ?_
      refine own_iload K61 d_jdk_35_m14_131 rfl rfl ?_
      rw [own_dec (by omega)]
      refine own_getS K61 (wd311 hw) Via.refl (SO2.ext K61.O) d_jdk_35_m14_133 rfl ?_
      intro T62 K62
      refine own_iload K62 d_jdk_35_m14_136 rfl rfl ?_
      refine own_baload K62 (x := (Int32.ofNat (48 + (mm % 100) / 10))) (DT2.ext K62.O) ⟨own_nn (by omega), own_lt (n := 100) (by omega) (by decide)⟩ (by rw [own_clamp (by omega)]; exact own_rget _ (by omega) _) d_jdk_35_m14_138 rfl ?_
      refine own_bastore K62 Y61 ⟨own_nn (by omega), own_lt (by omega) (by omega)⟩ (cs.length + ((own_dg mm).length - 1) - 1) (own_clamp (by omega)) (by simp only [List.length_append, List.length_replicate, own_by_len]; omega) (x' := (Int32.ofNat (48 + (mm % 100) / 10)).toInt8.toInt32) rfl gb d_jdk_35_m14_139 rfl ?_
      intro T63 h63 K63 W63 V63
      have Y63 := V63
      rw [own_midset (by omega)] at Y63
      refine own_goto K63 d_jdk_35_m14_140 (pc' := 86) (by decide) (by decide) ?_
      rw [show cs.length + ((own_dg mm).length - 1) - 1 = cs.length + (own_dg (mm / 100)).length by omega]
      refine ih (mm / 100) (by omega) K63 (by omega) ((Kp.wr W61 (Or.inl (List.mem_singleton.mpr rfl))).wr W63 (Or.inl (List.mem_singleton.mpr rfl))) (S := Int32.ofNat (48 + mm % 100 / 10) :: Int32.ofNat (48 + mm % 100 % 10) :: S) ?_ (by rw [hdg, h100, List.append_assoc]; rfl) (One.val rfl) (One.val rfl)
      rw [show (own_dg (mm / 100)).length = (own_dg mm).length - 1 - 1 by omega]
      exact Y63
end Lp
theorem d_jdk_35_m14_0 : decode jdk_35_method_14_code 0 = .ok (.iload_n 2, 1) := by decide +kernel
theorem d_jdk_35_m14_1 : decode jdk_35_method_14_code 1 = .ok (.istore 7, 2) := by decide +kernel
theorem d_jdk_35_m14_3 : decode jdk_35_method_14_code 3 = .ok (.lload_n 0, 1) := by decide +kernel
theorem d_jdk_35_m14_4 : decode jdk_35_method_14_code 4 = .ok (.lconst 0, 1) := by decide +kernel
theorem d_jdk_35_m14_5 : decode jdk_35_method_14_code 5 = .ok (.lcmp, 1) := by decide +kernel
theorem d_jdk_35_m14_6 : decode jdk_35_method_14_code 6 = .ok (.ifCond .ge 7, 3) := by decide +kernel
theorem d_jdk_35_m14_13 : decode jdk_35_method_14_code 13 = .ok (.iconst 0, 1) := by decide +kernel
theorem d_jdk_35_m14_14 : decode jdk_35_method_14_code 14 = .ok (.istore 8, 2) := by decide +kernel
theorem d_jdk_35_m14_16 : decode jdk_35_method_14_code 16 = .ok (.iload 8, 2) := by decide +kernel
theorem d_jdk_35_m14_18 : decode jdk_35_method_14_code 18 = .ok (.ifCond .ne 6, 3) := by decide +kernel
theorem d_jdk_35_m14_21 : decode jdk_35_method_14_code 21 = .ok (.lload_n 0, 1) := by decide +kernel
theorem d_jdk_35_m14_22 : decode jdk_35_method_14_code 22 = .ok (.lneg, 1) := by decide +kernel
theorem d_jdk_35_m14_23 : decode jdk_35_method_14_code 23 = .ok (.lstore_n 0, 1) := by decide +kernel
theorem d_jdk_35_m14_82 : decode jdk_35_method_14_code 82 = .ok (.lload_n 0, 1) := by decide +kernel
theorem d_jdk_35_m14_83 : decode jdk_35_method_14_code 83 = .ok (.l2i, 1) := by decide +kernel
theorem d_jdk_35_m14_84 : decode jdk_35_method_14_code 84 = .ok (.istore 10, 2) := by decide +kernel
theorem d_jdk_35_m14_143 : decode jdk_35_method_14_code 143 = .ok (.aload_n 3, 1) := by decide +kernel
theorem d_jdk_35_m14_144 : decode jdk_35_method_14_code 144 = .ok (.iinc 7 (-1), 3) := by decide +kernel
theorem d_jdk_35_m14_147 : decode jdk_35_method_14_code 147 = .ok (.iload 7, 2) := by decide +kernel
theorem d_jdk_35_m14_149 : decode jdk_35_method_14_code 149 = .ok (.getstatic 133, 3) := by decide +kernel
theorem d_jdk_35_m14_152 : decode jdk_35_method_14_code 152 = .ok (.iload 10, 2) := by decide +kernel
theorem d_jdk_35_m14_154 : decode jdk_35_method_14_code 154 = .ok (.ineg, 1) := by decide +kernel
theorem d_jdk_35_m14_155 : decode jdk_35_method_14_code 155 = .ok (.baload, 1) := by decide +kernel
theorem d_jdk_35_m14_156 : decode jdk_35_method_14_code 156 = .ok (.bastore, 1) := by decide +kernel
theorem d_jdk_35_m14_157 : decode jdk_35_method_14_code 157 = .ok (.iload 10, 2) := by decide +kernel
theorem d_jdk_35_m14_159 : decode jdk_35_method_14_code 159 = .ok (.bipush (-9), 2) := by decide +kernel
theorem d_jdk_35_m14_161 : decode jdk_35_method_14_code 161 = .ok (.if_icmp .ge 17, 3) := by decide +kernel
theorem d_jdk_35_m14_164 : decode jdk_35_method_14_code 164 = .ok (.aload_n 3, 1) := by decide +kernel
theorem d_jdk_35_m14_165 : decode jdk_35_method_14_code 165 = .ok (.iinc 7 (-1), 3) := by decide +kernel
theorem d_jdk_35_m14_168 : decode jdk_35_method_14_code 168 = .ok (.iload 7, 2) := by decide +kernel
theorem d_jdk_35_m14_170 : decode jdk_35_method_14_code 170 = .ok (.getstatic 137, 3) := by decide +kernel
theorem d_jdk_35_m14_173 : decode jdk_35_method_14_code 173 = .ok (.iload 10, 2) := by decide +kernel
theorem d_jdk_35_m14_175 : decode jdk_35_method_14_code 175 = .ok (.ineg, 1) := by decide +kernel
theorem d_jdk_35_m14_176 : decode jdk_35_method_14_code 176 = .ok (.baload, 1) := by decide +kernel
theorem d_jdk_35_m14_177 : decode jdk_35_method_14_code 177 = .ok (.bastore, 1) := by decide +kernel
theorem d_jdk_35_m14_178 : decode jdk_35_method_14_code 178 = .ok (.iload 8, 2) := by decide +kernel
theorem d_jdk_35_m14_180 : decode jdk_35_method_14_code 180 = .ok (.ifCond .eq 12, 3) := by decide +kernel
theorem d_jdk_35_m14_192 : decode jdk_35_method_14_code 192 = .ok (.iload 7, 2) := by decide +kernel
theorem d_jdk_35_m14_194 : decode jdk_35_method_14_code 194 = .ok (.ireturn, 1) := by decide +kernel
set_option maxRecDepth 65536 in
set_option maxHeartbeats 40000000 in
theorem rm_getChars {l : Launch} {Z : State} {a0 : Array Value} (hw : ∀ d ∈ tables_1, d.before a0 Z = true) (hs : ∀ d ∈ jdkStatics_1, d.before a0 Z = true) {b : Addr} {kb : ClassId} {cs : List Int32} {vn : Nat} {M : Nat} {h0 : Heap} (O0 : Ext Z.heap h0) (V : Arv Z h0 b kb .byte (Int32.ofNat M) (own_by cs) (.int 0)) (hn63 : vn < 9223372036854775808) (gb : Z.heap.size ≤ b) (hM : cs.length + (own_dg vn).length ≤ M ∧ M ≤ 4000) :
    own_Ct l Z (⟨"java/lang/Long", "getChars", "(JI[B)I"⟩ : MethodName) jdk_35_method_14_code 11 (some .int) [] ({ frames := 0, locals := 0, cells := 0, slots := 0 } : Room) #[(.long (Int64.ofNat vn)), (.int (Int32.ofNat (cs.length + (own_dg vn).length))), (.ref b)] h0 (fun v h => (∃ z : Int32, v = some (.int z)) ∧ Keep h0 h [b] ∧ Arv Z h b kb .byte (Int32.ofNat M) (own_by (cs ++ own_dg vn)) (.int 0)) := by
  obtain ⟨o1, ko1, SO1, DT1⟩ := own_DigitOnes hw hs
  obtain ⟨o2, ko2, SO2, DT2⟩ := own_DigitTens hw hs
  refine own_body (Ls := #[.val (.long (Int64.ofNat vn)), .second, .val (.int (Int32.ofNat (cs.length + (own_dg vn).length))), .val (.ref b), .unset, .unset, .unset, .unset, .unset, .unset, .unset]) (plainFor_of_name pn_java_lang_Long) (fun m => by first | (simp [entryFrame, mkF, argsToLocals, Value.category]; done) | rfl) O0 ?_
  intro p e s m below meth c T0 G K0
  refine own_iloadN K0 d_jdk_35_m14_0 rfl rfl ?_
  refine own_istore K0 (Ls' := #[.val (.long (Int64.ofNat vn)), .second, .val (.int (Int32.ofNat (cs.length + (own_dg vn).length))), .val (.ref b), .unset, .unset, .unset, .val (.int (Int32.ofNat (cs.length + (own_dg vn).length))), .unset, .unset, .unset]) d_jdk_35_m14_1 rfl rfl ?_
  refine own_lloadN K0 d_jdk_35_m14_3 rfl rfl ?_
  refine own_lconst K0 (v := (0 : Int64)) d_jdk_35_m14_4 rfl rfl ?_
  refine own_lcmp K0 d_jdk_35_m14_5 rfl ?_
  refine own_ifYes K0 d_jdk_35_m14_6 (pc' := 13) (by decide) (by decide) ((if0 _ _).trans (flt (own_lcN hn63)).2.1) ?_
  refine own_iconst K0 (v := (0 : Int32)) d_jdk_35_m14_13 rfl rfl ?_
  refine own_istore K0 (Ls' := #[.val (.long (Int64.ofNat vn)), .second, .val (.int (Int32.ofNat (cs.length + (own_dg vn).length))), .val (.ref b), .unset, .unset, .unset, .val (.int (Int32.ofNat (cs.length + (own_dg vn).length))), .val (.int (0 : Int32)), .unset, .unset]) d_jdk_35_m14_14 rfl rfl ?_
  refine own_iload K0 d_jdk_35_m14_16 rfl rfl ?_
  refine own_ifNo K0 d_jdk_35_m14_18 rfl ((if0 _ _).trans (teq rfl).2) ?_
  refine own_lloadN K0 d_jdk_35_m14_21 rfl rfl ?_
  refine own_lneg K0 d_jdk_35_m14_22 rfl ?_
  refine own_lstoreN K0 (Ls' := #[.val (.long ((-(Int64.ofNat vn)))), .second, .val (.int (Int32.ofNat (cs.length + (own_dg vn).length))), .val (.ref b), .unset, .unset, .unset, .val (.int (Int32.ofNat (cs.length + (own_dg vn).length))), .val (.int (0 : Int32)), .unset, .unset]) d_jdk_35_m14_23 rfl rfl ?_
  refine lp_gc1 hw hs SO1 SO2 DT1 DT2 gb hM (fun Ta La ha ma Sa s4 s5 s6 Ka Kpa Va hda hlta hs6 => ?_) vn K0 hn63 (Keep.refl _ _) (S := []) (by have q := V.pad (pad_rep (own_by cs) _ (own_dg vn).length); rw [show own_by ([] : List Int32) = [] from rfl, List.append_nil]; exact q) (List.append_nil _).symm (Or.inl ⟨rfl, rfl, rfl⟩)
  refine own_lloadN Ka d_jdk_35_m14_82 rfl rfl ?_
  refine own_l2i Ka d_jdk_35_m14_83 rfl ?_
  rw [own_l2in hlta]
  refine own_istore Ka (Ls' := #[.val (.long (-(Int64.ofNat ma))), .second, .val (.int (Int32.ofNat (cs.length + (own_dg vn).length))), .val (.ref b), s4, s5, s6, .val (.int (Int32.ofNat (cs.length + (own_dg ma).length))), .val (.int (0 : Int32)), .unset, .val (.int (-(Int32.ofNat ma)))]) d_jdk_35_m14_84 rfl rfl ?_
  refine lp_gc2 hw hs SO1 SO2 DT1 DT2 gb hM (fun Tb Lb hb mb Sb s6 s9 Kb Kpb Vb hdb hltb => ?_) ma Ka hlta Kpa Va hda hs6 One.u
  have hpos := own_dg_pos mb
  have hln : (own_dg mb).length ≤ (own_dg vn).length := by rw [hdb, List.length_append]; omega
  refine own_aloadN Kb d_jdk_35_m14_143 rfl rfl rfl ?_
  refine own_iinc Kb (Ls' := #[.val (.long (-(Int64.ofNat ma))), .second, .val (.int (Int32.ofNat (cs.length + (own_dg vn).length))), .val (.ref b), s4, s5, s6, .val (.int ((Int32.ofNat (cs.length + (own_dg mb).length)) + (-1 : Int32))), .val (.int (0 : Int32)), s9, .val (.int (-(Int32.ofNat mb)))]) (x := (Int32.ofNat (cs.length + (own_dg mb).length))) (v := (Int32.ofNat (cs.length + (own_dg mb).length))) d_jdk_35_m14_144 rfl rfl rfl ?_
  refine own_iload Kb d_jdk_35_m14_147 rfl rfl ?_
  rw [own_dec (by omega)]
  refine own_getS Kb (wd217 hw) Via.refl (SO1.ext Kb.O) d_jdk_35_m14_149 rfl ?_
  intro T64 K64
  refine own_iload K64 d_jdk_35_m14_152 rfl rfl ?_
  refine own_ineg K64 d_jdk_35_m14_154 rfl ?_
  rw [Int32.neg_neg]
  refine own_baload K64 (x := (Int32.ofNat (48 + mb % 10))) (DT1.ext K64.O) ⟨own_nn (by omega), own_lt (n := 100) (by omega) (by decide)⟩ (by rw [own_clamp (by omega)]; exact own_rget _ (by omega) _) d_jdk_35_m14_155 rfl ?_
  refine own_bastore K64 Vb ⟨own_nn (by omega), own_lt (by omega) (by omega)⟩ (cs.length + (own_dg mb).length - 1) (own_clamp (by omega)) (by simp only [List.length_append, List.length_replicate, own_by_len]; omega) (x' := (Int32.ofNat (48 + mb % 10)).toInt8.toInt32) rfl gb d_jdk_35_m14_156 rfl ?_
  intro T65 h65 K65 W65 V65
  have Y65 := V65
  rw [own_midset (by omega)] at Y65
  refine own_iload K65 d_jdk_35_m14_157 rfl rfl ?_
  refine own_bipush K65 (v := (-9 : Int32)) d_jdk_35_m14_159 rfl rfl ?_
  by_cases h9 : 9 < mb
  · skip
    refine own_icmpNo K65 d_jdk_35_m14_161 rfl (tlt ((own_lt9 (by omega)).mpr h9)).2.1 ?_
    have h2 := own_dg_2 (n := mb) (by omega) hltb
    have hl : (own_dg mb).length = 2 := by rw [h2]; rfl
    rw [show cs.length + (own_dg mb).length - 1 = cs.length + ((own_dg mb).length - 1) by omega]
    refine own_aloadN K65 d_jdk_35_m14_164 rfl rfl rfl ?_
    refine own_iinc K65 (Ls' := #[.val (.long (-(Int64.ofNat ma))), .second, .val (.int (Int32.ofNat (cs.length + (own_dg vn).length))), .val (.ref b), s4, s5, s6, .val (.int ((Int32.ofNat (cs.length + ((own_dg mb).length - 1))) + (-1 : Int32))), .val (.int (0 : Int32)), s9, .val (.int (-(Int32.ofNat mb)))]) (x := (Int32.ofNat (cs.length + ((own_dg mb).length - 1)))) (v := (Int32.ofNat (cs.length + ((own_dg mb).length - 1)))) d_jdk_35_m14_165 rfl rfl rfl ?_
    refine own_iload K65 d_jdk_35_m14_168 rfl rfl ?_
    rw [own_dec (by omega)]
    refine own_getS K65 (wd311 hw) Via.refl (SO2.ext K65.O) d_jdk_35_m14_170 rfl ?_
    intro T66 K66
    refine own_iload K66 d_jdk_35_m14_173 rfl rfl ?_
    refine own_ineg K66 d_jdk_35_m14_175 rfl ?_
    rw [Int32.neg_neg]
    refine own_baload K66 (x := (Int32.ofNat (48 + mb / 10))) (DT2.ext K66.O) ⟨own_nn (by omega), own_lt (n := 100) (by omega) (by decide)⟩ (by rw [own_clamp (by omega)]; exact own_rget _ (by omega) _) d_jdk_35_m14_176 rfl ?_
    refine own_bastore K66 Y65 ⟨own_nn (by omega), own_lt (by omega) (by omega)⟩ (cs.length + ((own_dg mb).length - 1) - 1) (own_clamp (by omega)) (by simp only [List.length_append, List.length_replicate, own_by_len]; omega) (x' := (Int32.ofNat (48 + mb / 10)).toInt8.toInt32) rfl gb d_jdk_35_m14_177 rfl ?_
    intro T67 h67 K67 W67 V67
    have Y67 := V67
    rw [own_midset (by omega)] at Y67
    refine own_iload K67 d_jdk_35_m14_178 rfl rfl ?_
    refine own_ifYes K67 d_jdk_35_m14_180 (pc' := 192) (by decide) (by decide) ((if0 _ _).trans (teq rfl).1) ?_
    refine own_iload K67 d_jdk_35_m14_192 rfl rfl ?_
    exact own_retI K67 d_jdk_35_m14_194 rfl (by decide) (by decide) ⟨⟨_, rfl⟩, (Kpb.wr W65 (Or.inl (List.mem_singleton.mpr rfl))).wr W67 (Or.inl (List.mem_singleton.mpr rfl)), by have q := Y67; rw [show (own_dg mb).length - 1 - 1 = 0 by omega, List.replicate_zero, List.append_nil, ← own_by_app] at q; rw [hdb, h2]; exact q⟩
  · skip
    refine own_icmpYes K65 d_jdk_35_m14_161 (pc' := 178) (by decide) (by decide) (flt (fun q => h9 ((own_lt9 (by omega)).mp q))).2.1 ?_
    have h1 := own_dg_lt (n := mb) (by omega)
    have hl : (own_dg mb).length = 1 := by rw [h1]; rfl
    refine own_iload K65 d_jdk_35_m14_178 rfl rfl ?_
    refine own_ifYes K65 d_jdk_35_m14_180 (pc' := 192) (by decide) (by decide) ((if0 _ _).trans (teq rfl).1) ?_
    refine own_iload K65 d_jdk_35_m14_192 rfl rfl ?_
    exact own_retI K65 d_jdk_35_m14_194 rfl (by decide) (by decide) ⟨⟨_, rfl⟩, Kpb.wr W65 (Or.inl (List.mem_singleton.mpr rfl)), by have q := Y65; rw [show (own_dg mb).length - 1 = 0 by omega, List.replicate_zero, List.append_nil, ← own_by_app, show 48 + mb % 10 = 48 + mb by omega] at q; rw [hdb, h1]; exact q⟩
theorem d_jdk_68_m68_0 : decode jdk_68_method_68_code 0 = .ok (.getstatic 18, 3) := by decide +kernel
theorem d_jdk_68_m68_3 : decode jdk_68_method_68_code 3 = .ok (.ifCond .eq 14, 3) := by decide +kernel
theorem d_jdk_68_m68_6 : decode jdk_68_method_68_code 6 = .ok (.aload_n 0, 1) := by decide +kernel
theorem d_jdk_68_m68_7 : decode jdk_68_method_68_code 7 = .ok (.getfield 22, 3) := by decide +kernel
theorem d_jdk_68_m68_10 : decode jdk_68_method_68_code 10 = .ok (.ifCond .ne 7, 3) := by decide +kernel
theorem d_jdk_68_m68_13 : decode jdk_68_method_68_code 13 = .ok (.iconst 1, 1) := by decide +kernel
theorem d_jdk_68_m68_14 : decode jdk_68_method_68_code 14 = .ok (.goto 4, 3) := by decide +kernel
theorem d_jdk_68_m68_18 : decode jdk_68_method_68_code 18 = .ok (.ireturn, 1) := by decide +kernel
set_option maxRecDepth 65536 in
set_option maxHeartbeats 40000000 in
theorem rm_isLatin1B {l : Launch} {Z : State} {a0 : Array Value} (hw : ∀ d ∈ tables_1, d.before a0 Z = true) (hs : ∀ d ∈ jdkStatics_1, d.before a0 Z = true) {x : Addr} {h0 : Heap} (O0 : Ext Z.heap h0) (F : Fld Z h0 x "java/lang/AbstractStringBuilder" "coder" "B" (.int (own_cd u))) :
    own_Ct l Z (⟨"java/lang/AbstractStringBuilder", "isLatin1", "()Z"⟩ : MethodName) jdk_68_method_68_code 1 (some .boolean) [] ({ frames := 0, locals := 0, cells := 0, slots := 0 } : Room) #[(.ref x)] h0 (fun v h => v = some (.int (cond u 0 1)) ∧ h = h0) := by
  obtain ⟨zc, SC, hzc⟩ := own_compact hs
  refine own_body (Ls := #[.val (.ref x)]) (plainFor_of_name pn_java_lang_AbstractStringBuilder) (fun m => by first | (simp [entryFrame, mkF, argsToLocals, Value.category]; done) | rfl) O0 ?_
  intro p e s m below meth c T0 G K0
  refine own_getS K0 (wd115 hw) Via.refl (SC.ext K0.O) d_jdk_68_m68_0 rfl ?_
  intro T68 K68
  refine own_ifNo K68 d_jdk_68_m68_3 rfl ((if0 _ _).trans (feq hzc).1) ?_
  refine own_aloadN K68 d_jdk_68_m68_6 rfl rfl rfl ?_
  refine own_getF K68 (host := "") (Or.inl (wd118 hw)) Via.refl F d_jdk_68_m68_7 rfl ?_
  intro T69 K69
  · skip
    refine own_ifNo K69 d_jdk_68_m68_10 rfl ((if0 _ _).trans (teq rfl).2) ?_
    refine own_iconst K69 (v := (1 : Int32)) d_jdk_68_m68_13 rfl rfl ?_
    refine own_goto K69 d_jdk_68_m68_14 (pc' := 18) (by decide) (by decide) ?_
    exact own_retN K69 (z' := (1 : Int32)) d_jdk_68_m68_18 rfl (by simp) (by decide) (by decide) (by decide) ⟨rfl, rfl⟩
theorem d_jdk_68_m33_0 : decode jdk_68_method_33_code 0 = .ok (.aload_n 0, 1) := by decide +kernel
theorem d_jdk_68_m33_1 : decode jdk_68_method_33_code 1 = .ok (.getfield 79, 3) := by decide +kernel
theorem d_jdk_68_m33_4 : decode jdk_68_method_33_code 4 = .ok (.istore_n 3, 1) := by decide +kernel
theorem d_jdk_68_m33_5 : decode jdk_68_method_33_code 5 = .ok (.iload_n 3, 1) := by decide +kernel
theorem d_jdk_68_m33_6 : decode jdk_68_method_33_code 6 = .ok (.lload_n 1, 1) := by decide +kernel
theorem d_jdk_68_m33_7 : decode jdk_68_method_33_code 7 = .ok (.invokestatic 254, 3) := by decide +kernel
theorem wd206 {a0 : Array Value} {Z : State} (hw : ∀ d ∈ tables_1, d.before a0 Z = true) : (Jvm.Cond.code ({ cls := "java/lang/Long", name := "stringSize", desc := "(J)I" } : Jvm.MethodName) jdk_35_method_15_code (6 : Nat) (Option.some Jvm.ClassFile.FieldType.int)).before a0 Z = true := hw _ (List.mem_of_getElem? (i := 206) rfl)
theorem wd205 {a0 : Array Value} {Z : State} (hw : ∀ d ∈ tables_1, d.before a0 Z = true) : (Jvm.Cond.initialized "java/lang/Long").before a0 Z = true := hw _ (List.mem_of_getElem? (i := 205) rfl)
theorem pd_28J29I : parseMethodDescriptor "(J)I" = some ⟨[.long], some .int⟩ := by decide +kernel
theorem wd203 {a0 : Array Value} {Z : State} (hw : ∀ d ∈ tables_1, d.before a0 Z = true) : (Jvm.Cond.methodLink "java/lang/AbstractStringBuilder" (254 : Nat) ({ cls := "java/lang/Long", name := "stringSize", desc := "(J)I" } : Jvm.MethodName)).before a0 Z = true := hw _ (List.mem_of_getElem? (i := 203) rfl)
theorem wd204 {a0 : Array Value} {Z : State} (hw : ∀ d ∈ tables_1, d.before a0 Z = true) : (Jvm.Cond.static ({ cls := "java/lang/Long", name := "stringSize", desc := "(J)I" } : Jvm.MethodName)).before a0 Z = true := hw _ (List.mem_of_getElem? (i := 204) rfl)
theorem d_jdk_68_m33_10 : decode jdk_68_method_33_code 10 = .ok (.iadd, 1) := by decide +kernel
theorem d_jdk_68_m33_11 : decode jdk_68_method_33_code 11 = .ok (.istore 4, 2) := by decide +kernel
theorem d_jdk_68_m33_13 : decode jdk_68_method_33_code 13 = .ok (.aload_n 0, 1) := by decide +kernel
theorem d_jdk_68_m33_14 : decode jdk_68_method_33_code 14 = .ok (.iload 4, 2) := by decide +kernel
theorem d_jdk_68_m33_16 : decode jdk_68_method_33_code 16 = .ok (.invokevirtual 100, 3) := by decide +kernel
theorem d_jdk_68_m33_19 : decode jdk_68_method_33_code 19 = .ok (.aload_n 0, 1) := by decide +kernel
theorem d_jdk_68_m33_20 : decode jdk_68_method_33_code 20 = .ok (.invokevirtual 83, 3) := by decide +kernel
theorem wd212 {a0 : Array Value} {Z : State} (hw : ∀ d ∈ tables_1, d.before a0 Z = true) : (Jvm.Cond.code ({ cls := "java/lang/AbstractStringBuilder", name := "isLatin1", desc := "()Z" } : Jvm.MethodName) jdk_68_method_68_code (1 : Nat) (Option.some Jvm.ClassFile.FieldType.boolean)).before a0 Z = true := hw _ (List.mem_of_getElem? (i := 212) rfl)
theorem wd208 {a0 : Array Value} {Z : State} (hw : ∀ d ∈ tables_1, d.before a0 Z = true) : (Jvm.Cond.methodLink "java/lang/AbstractStringBuilder" (83 : Nat) ({ cls := "java/lang/AbstractStringBuilder", name := "isLatin1", desc := "()Z" } : Jvm.MethodName)).before a0 Z = true := hw _ (List.mem_of_getElem? (i := 208) rfl)
theorem wd209 {a0 : Array Value} {Z : State} (hw : ∀ d ∈ tables_1, d.before a0 Z = true) : (Jvm.Cond.declares ({ cls := "java/lang/AbstractStringBuilder", name := "isLatin1", desc := "()Z" } : Jvm.MethodName)).before a0 Z = true := hw _ (List.mem_of_getElem? (i := 209) rfl)
theorem wd211 {a0 : Array Value} {Z : State} (hw : ∀ d ∈ tables_1, d.before a0 Z = true) : (Jvm.Cond.selects "java/lang/StringBuilder" ({ cls := "java/lang/AbstractStringBuilder", name := "isLatin1", desc := "()Z" } : Jvm.MethodName) ({ cls := "java/lang/AbstractStringBuilder", name := "isLatin1", desc := "()Z" } : Jvm.MethodName)).before a0 Z = true := hw _ (List.mem_of_getElem? (i := 211) rfl)
theorem wd210 {a0 : Array Value} {Z : State} (hw : ∀ d ∈ tables_1, d.before a0 Z = true) : (Jvm.Cond.instanceMethod ({ cls := "java/lang/AbstractStringBuilder", name := "isLatin1", desc := "()Z" } : Jvm.MethodName)).before a0 Z = true := hw _ (List.mem_of_getElem? (i := 210) rfl)
theorem d_jdk_68_m33_23 : decode jdk_68_method_33_code 23 = .ok (.ifCond .eq 17, 3) := by decide +kernel
theorem d_jdk_68_m33_26 : decode jdk_68_method_33_code 26 = .ok (.lload_n 1, 1) := by decide +kernel
theorem d_jdk_68_m33_27 : decode jdk_68_method_33_code 27 = .ok (.iload 4, 2) := by decide +kernel
theorem d_jdk_68_m33_29 : decode jdk_68_method_33_code 29 = .ok (.aload_n 0, 1) := by decide +kernel
theorem d_jdk_68_m33_30 : decode jdk_68_method_33_code 30 = .ok (.getfield 15, 3) := by decide +kernel
theorem d_jdk_68_m33_33 : decode jdk_68_method_33_code 33 = .ok (.invokestatic 259, 3) := by decide +kernel
theorem wd215 {a0 : Array Value} {Z : State} (hw : ∀ d ∈ tables_1, d.before a0 Z = true) : (Jvm.Cond.code ({ cls := "java/lang/Long", name := "getChars", desc := "(JI[B)I" } : Jvm.MethodName) jdk_35_method_14_code (11 : Nat) (Option.some Jvm.ClassFile.FieldType.int)).before a0 Z = true := hw _ (List.mem_of_getElem? (i := 215) rfl)
theorem pd_28JI5bB29I : parseMethodDescriptor "(JI[B)I" = some ⟨[.long, .int, (.array .byte)], some .int⟩ := by decide +kernel
theorem wd213 {a0 : Array Value} {Z : State} (hw : ∀ d ∈ tables_1, d.before a0 Z = true) : (Jvm.Cond.methodLink "java/lang/AbstractStringBuilder" (259 : Nat) ({ cls := "java/lang/Long", name := "getChars", desc := "(JI[B)I" } : Jvm.MethodName)).before a0 Z = true := hw _ (List.mem_of_getElem? (i := 213) rfl)
theorem wd214 {a0 : Array Value} {Z : State} (hw : ∀ d ∈ tables_1, d.before a0 Z = true) : (Jvm.Cond.static ({ cls := "java/lang/Long", name := "getChars", desc := "(JI[B)I" } : Jvm.MethodName)).before a0 Z = true := hw _ (List.mem_of_getElem? (i := 214) rfl)
theorem d_jdk_68_m33_36 : decode jdk_68_method_33_code 36 = .ok (.pop, 1) := by decide +kernel
theorem d_jdk_68_m33_37 : decode jdk_68_method_33_code 37 = .ok (.goto 15, 3) := by decide +kernel
theorem d_jdk_68_m33_52 : decode jdk_68_method_33_code 52 = .ok (.aload_n 0, 1) := by decide +kernel
theorem d_jdk_68_m33_53 : decode jdk_68_method_33_code 53 = .ok (.iload 4, 2) := by decide +kernel
theorem d_jdk_68_m33_55 : decode jdk_68_method_33_code 55 = .ok (.putfield 79, 3) := by decide +kernel
theorem d_jdk_68_m33_58 : decode jdk_68_method_33_code 58 = .ok (.aload_n 0, 1) := by decide +kernel
theorem d_jdk_68_m33_59 : decode jdk_68_method_33_code 59 = .ok (.areturn, 1) := by decide +kernel
set_option maxRecDepth 65536 in
set_option maxHeartbeats 40000000 in
theorem rm_asbAppendJ {l : Launch} {Z : State} {a0 : Array Value} (hw : ∀ d ∈ tables_1, d.before a0 Z = true) (hs : ∀ d ∈ jdkStatics_1, d.before a0 Z = true) {x : Addr} {cs : List Int32} {b : Addr} {kb : ClassId} {N : Nat} {vn : Nat} {cap : Nat} {h0 : Heap} (O0 : Ext Z.heap h0) (B : own_SB Z h0 x u cs.length cs b kb N) (hu : u = false) (hn63 : vn < 9223372036854775808) (hcap : 2 * (own_cap N (cs.length + (own_dg vn).length)) ≤ cap) (hcap2 : cap ≤ 4000) :
    own_Ct l Z (⟨"java/lang/AbstractStringBuilder", "append", "(J)Ljava/lang/AbstractStringBuilder;"⟩ : MethodName) jdk_68_method_33_code 5 (some (.object "java/lang/AbstractStringBuilder")) [] ({ frames := 4, locals := 69, cells := 1, slots := cap } : Room) #[(.ref x), (.long (Int64.ofNat vn))] h0 (fun v h => v = some (.ref x) ∧ Keep h0 h [x, b] ∧ ∃ (b' : Addr) (kb' : ClassId), (b' = b ∨ h0.size ≤ b') ∧ own_SB Z h x u (cs ++ own_dg vn).length (cs ++ own_dg vn) b' kb' (own_cap N (cs.length + (own_dg vn).length))) := by
  have B' := B
  obtain ⟨BE, Bvalue, Bcoder, Bcount, BV, BX, hab, ga, gb, hcN, hN, hnc⟩ := B'
  refine own_body (Ls := #[.val (.ref x), .val (.long (Int64.ofNat vn)), .second, .unset, .unset]) (plainFor_of_name pn_java_lang_AbstractStringBuilder) (fun m => by first | (simp [entryFrame, mkF, argsToLocals, Value.category]; done) | rfl) O0 ?_
  intro p e s m below meth c T0 G K0
  have hcg := own_cap_ge N (cs.length + (own_dg vn).length)
  have hb0 := own_bn_2 u (own_cap N (cs.length + (own_dg vn).length))
  refine own_aloadN K0 d_jdk_68_m33_0 rfl rfl rfl ?_
  refine own_getF K0 (host := "") (Or.inl (wd143 hw)) Via.refl Bcount d_jdk_68_m33_1 rfl ?_
  intro T70 K70
  refine own_istoreN K70 (Ls' := #[.val (.ref x), .val (.long (Int64.ofNat vn)), .second, .val (.int (Int32.ofNat cs.length)), .unset]) d_jdk_68_m33_4 rfl rfl ?_
  refine own_iloadN K70 d_jdk_68_m33_5 rfl rfl ?_
  refine own_lloadN K70 d_jdk_68_m33_6 rfl rfl ?_
  refine own_callS K70 (wd203 hw) (wd204 hw) (rm_stringSize hw hs K70.O hn63) (wd206 hw) (wd205 hw) (by decide) (argsL := [(.long (Int64.ofNat vn))]) (rest := [(.int (Int32.ofNat cs.length))]) rfl pd_28J29I rfl rfl (W := 1) rfl (by first | decide | omega | (dsimp only; omega)) (by first | decide | omega | (dsimp only; omega)) (by first | decide | omega | (dsimp only; omega)) (by first | decide | omega | (dsimp only; omega)) d_jdk_68_m33_7 rfl ?_
  intro T71 h71 L71 v71 K71 q71
  obtain ⟨rfl, e71⟩ := q71
  have f71 := e71.symm
  subst f71
  show G (T71.setTop (mkF m 10 #[.val (.ref x), .val (.long (Int64.ofNat vn)), .second, .val (.int (Int32.ofNat cs.length)), .unset] [(.int (Int32.ofNat (own_dg vn).length)), (.int (Int32.ofNat cs.length))]))
  refine own_iadd K71 d_jdk_68_m33_10 rfl ?_
  rw [own_addN]
  refine own_istore K71 (Ls' := #[.val (.ref x), .val (.long (Int64.ofNat vn)), .second, .val (.int (Int32.ofNat cs.length)), .val (.int (Int32.ofNat (cs.length + (own_dg vn).length)))]) d_jdk_68_m33_11 rfl rfl ?_
  refine own_aloadN K71 d_jdk_68_m33_13 rfl rfl rfl ?_
  refine own_iload K71 d_jdk_68_m33_14 rfl rfl ?_
  refine own_callP K71 (a := x) (wd145 hw) (wd146 hw) (own_selfSel (wd146 hw) (wd147 hw) (own_nfS (wd148 hw) rfl) (by decide)) (wd147 hw) (rm_ensureG hw hs (mm := (cs.length + (own_dg vn).length)) (cap := cap) K71.O B ⟨by omega, by omega⟩ (by omega) hcap2) (wd149 hw) (wd112 hw) (by decide) BE (argsL := [(.int (Int32.ofNat (cs.length + (own_dg vn).length)))]) (rest := []) rfl pd_28I29V rfl rfl (W := 0) rfl (by first | decide | omega | (dsimp only; omega)) (by first | decide | omega | (dsimp only; omega)) (by first | decide | omega | (dsimp only; omega)) (by first | decide | omega | (dsimp only; omega)) d_jdk_68_m33_16 rfl ?_
  intro T72 h72 L72 v72 K72 q72
  obtain ⟨rfl, Kq72, b72, kb72, nb72, B72⟩ := q72
  show G (T72.setTop (mkF m 19 #[.val (.ref x), .val (.long (Int64.ofNat vn)), .second, .val (.int (Int32.ofNat cs.length)), .val (.int (Int32.ofNat (cs.length + (own_dg vn).length)))] []))
  obtain ⟨CE, Cvalue, Ccoder, Ccount, CV, CX, hab1, ga1, gb1, hcN1, hN1, hnc1⟩ := B72
  refine own_aloadN K72 d_jdk_68_m33_19 rfl rfl rfl ?_
  refine own_callV K72 (a := x) (x0 := (⟨"java/lang/AbstractStringBuilder", "isLatin1", "()Z"⟩ : MethodName)) (wd208 hw) (wd209 hw) (fun q => own_nfS (args := #[]) (mvT q (wd148 hw)) rfl) (wd211 hw) (wd210 hw) (rm_isLatin1B hw hs K72.O Ccoder) (wd212 hw) (wd112 hw) (by decide) CE (argsL := []) (rest := []) rfl pd_2829Z rfl rfl (W := 0) rfl (by first | decide | omega | (dsimp only; omega)) (by first | decide | omega | (dsimp only; omega)) (by first | decide | omega | (dsimp only; omega)) (by first | decide | omega | (dsimp only; omega)) d_jdk_68_m33_20 rfl ?_
  intro T73 h73 L73 v73 K73 q73
  obtain ⟨rfl, e73⟩ := q73
  have f73 := e73.symm
  subst f73
  show G (T73.setTop (mkF m 23 #[.val (.ref x), .val (.long (Int64.ofNat vn)), .second, .val (.int (Int32.ofNat cs.length)), .val (.int (Int32.ofNat (cs.length + (own_dg vn).length)))] [(.int (cond u 0 1))]))
  refine own_ifNo K73 d_jdk_68_m33_23 rfl ((if0 _ _).trans (feq (by rw [hu]; decide)).1) ?_
  refine own_lloadN K73 d_jdk_68_m33_26 rfl rfl ?_
  refine own_iload K73 d_jdk_68_m33_27 rfl rfl ?_
  refine own_aloadN K73 d_jdk_68_m33_29 rfl rfl rfl ?_
  refine own_getF K73 (host := "") (Or.inl (wd116 hw)) Via.refl Cvalue d_jdk_68_m33_30 rfl ?_
  intro T74 K74
  have VL : Arv Z h72 b72 kb72 .byte (Int32.ofNat (own_cap N (cs.length + (own_dg vn).length))) (own_by cs) (.int 0) := by have q := CV; rw [hu] at q; exact q
  refine own_callS K74 (wd213 hw) (wd214 hw) (rm_getChars hw hs (M := (own_cap N (cs.length + (own_dg vn).length))) K74.O VL hn63 gb1 ⟨hcg.2, by omega⟩) (wd215 hw) (wd205 hw) (by decide) (argsL := [(.long (Int64.ofNat vn)), (.int (Int32.ofNat (cs.length + (own_dg vn).length))), (.ref b72)]) (rest := []) rfl pd_28JI5bB29I rfl rfl (W := 0) rfl (by first | decide | omega | (dsimp only; omega)) (by first | decide | omega | (dsimp only; omega)) (by first | decide | omega | (dsimp only; omega)) (by first | decide | omega | (dsimp only; omega)) d_jdk_68_m33_33 rfl ?_
  intro T75 h75 L75 v75 K75 q75
  obtain ⟨⟨z75, rfl⟩, Kp75, V75⟩ := q75
  show G (T75.setTop (mkF m 36 #[.val (.ref x), .val (.long (Int64.ofNat vn)), .second, .val (.int (Int32.ofNat cs.length)), .val (.int (Int32.ofNat (cs.length + (own_dg vn).length)))] [(.int z75)]))
  refine own_pop K75 d_jdk_68_m33_36 rfl rfl ?_
  refine own_goto K75 d_jdk_68_m33_37 (pc' := 52) (by decide) (by decide) ?_
  refine own_aloadN K75 d_jdk_68_m33_52 rfl rfl rfl ?_
  refine own_iload K75 d_jdk_68_m33_53 rfl rfl ?_
  have hx3 : x ∉ [b72] := fun q => hab1 (List.mem_singleton.mp q)
  have value_76 := Cvalue.keep Kp75 hx3
  have coder_76 := Ccoder.keep Kp75 hx3
  have count_76 := Ccount.keep Kp75 hx3
  have E_76 := CE.keep Kp75
  have X_76 := CX.keep Kp75
  have VU : Arv Z h75 b72 kb72 .byte (Int32.ofNat (own_bn u (own_cap N (cs.length + (own_dg vn).length)))) (own_bs u (cs ++ own_dg vn)) (.int 0) := by rw [hu]; exact V75
  refine own_putF K75 (host := "") (Or.inl (wd143 hw)) Via.refl count_76 E_76 (Or.inl (wd144 hw)) (wd103 hw) (ty := .int) (by decide) rfl rfl ga1 d_jdk_68_m33_55 rfl ?_
  intro T77 h77 K77 W77
  have value_78 := value_76.other W77 (Or.inr (slot_ne (Or.inl (wd117 hw)) (Or.inl (wd144 hw)) (by decide) (t := (.array .byte)) (t' := .int) (by decide) (by decide)))
  have coder_78 := coder_76.other W77 (Or.inr (slot_ne (Or.inl (wd119 hw)) (Or.inl (wd144 hw)) (by decide) (t := .byte) (t' := .int) (by decide) (by decide)))
  have count_78 := count_76.same W77
  have E_78 := E_76.wr W77
  have X_78 := X_76.wr W77
  have V_78 := VU.other W77 (Ne.symm hab1)
  refine own_aloadN K77 d_jdk_68_m33_58 rfl rfl rfl ?_
  exact own_retA K77 d_jdk_68_m33_59 rfl rfl rfl rfl (by first | decide | omega | (dsimp only; omega)) (by first | decide | omega | (dsimp only; omega)) ⟨rfl, (own_keep2 Kq72 Kp75 nb72).wr W77 (Or.inl (List.mem_cons_self ..)), b72, kb72, nb72, by have e : (cs ++ own_dg vn).length = (cs.length + (own_dg vn).length) := List.length_append; rw [e]; exact ⟨E_78, value_78, coder_78, count_78, V_78, X_78, hab1, ga1, gb1, by rw [e]; exact hcg.2, hN1, by rw [e]; exact Nat.le_refl _⟩⟩
theorem d_jdk_67_m16_0 : decode jdk_67_method_16_code 0 = .ok (.aload_n 0, 1) := by decide +kernel
theorem d_jdk_67_m16_1 : decode jdk_67_method_16_code 1 = .ok (.lload_n 1, 1) := by decide +kernel
theorem d_jdk_67_m16_2 : decode jdk_67_method_16_code 2 = .ok (.invokespecial 56, 3) := by decide +kernel
theorem wd202 {a0 : Array Value} {Z : State} (hw : ∀ d ∈ tables_1, d.before a0 Z = true) : (Jvm.Cond.code ({ cls := "java/lang/AbstractStringBuilder", name := "append", desc := "(J)Ljava/lang/AbstractStringBuilder;" } : Jvm.MethodName) jdk_68_method_33_code (5 : Nat) (Option.some (Jvm.ClassFile.FieldType.object "java/lang/AbstractStringBuilder"))).before a0 Z = true := hw _ (List.mem_of_getElem? (i := 202) rfl)
theorem pd_28J29Ljava2flang2fAbstractStringBuilder3b : parseMethodDescriptor "(J)Ljava/lang/AbstractStringBuilder;" = some ⟨[.long], some (.object "java/lang/AbstractStringBuilder")⟩ := by decide +kernel
theorem wd199 {a0 : Array Value} {Z : State} (hw : ∀ d ∈ tables_1, d.before a0 Z = true) : (Jvm.Cond.methodLink "java/lang/StringBuilder" (56 : Nat) ({ cls := "java/lang/AbstractStringBuilder", name := "append", desc := "(J)Ljava/lang/AbstractStringBuilder;" } : Jvm.MethodName)).before a0 Z = true := hw _ (List.mem_of_getElem? (i := 199) rfl)
theorem wd200 {a0 : Array Value} {Z : State} (hw : ∀ d ∈ tables_1, d.before a0 Z = true) : (Jvm.Cond.instanceMethod ({ cls := "java/lang/AbstractStringBuilder", name := "append", desc := "(J)Ljava/lang/AbstractStringBuilder;" } : Jvm.MethodName)).before a0 Z = true := hw _ (List.mem_of_getElem? (i := 200) rfl)
theorem d_jdk_67_m16_5 : decode jdk_67_method_16_code 5 = .ok (.pop, 1) := by decide +kernel
theorem d_jdk_67_m16_6 : decode jdk_67_method_16_code 6 = .ok (.aload_n 0, 1) := by decide +kernel
theorem d_jdk_67_m16_7 : decode jdk_67_method_16_code 7 = .ok (.areturn, 1) := by decide +kernel
set_option maxRecDepth 65536 in
set_option maxHeartbeats 40000000 in
theorem rm_appendJ {l : Launch} {Z : State} {a0 : Array Value} (hw : ∀ d ∈ tables_1, d.before a0 Z = true) (hs : ∀ d ∈ jdkStatics_1, d.before a0 Z = true) {x : Addr} {cs : List Int32} {b : Addr} {kb : ClassId} {N : Nat} {vn : Nat} {cap : Nat} {h0 : Heap} (O0 : Ext Z.heap h0) (B : own_SB Z h0 x u cs.length cs b kb N) (hu : u = false) (hn63 : vn < 9223372036854775808) (hcap : 2 * (own_cap N (cs.length + (own_dg vn).length)) ≤ cap) (hcap2 : cap ≤ 4000) :
    own_Ct l Z (⟨"java/lang/StringBuilder", "append", "(J)Ljava/lang/StringBuilder;"⟩ : MethodName) jdk_67_method_16_code 3 (some (.object "java/lang/StringBuilder")) [] ({ frames := 5, locals := 85, cells := 1, slots := cap } : Room) #[(.ref x), (.long (Int64.ofNat vn))] h0 (fun v h => v = some (.ref x) ∧ Keep h0 h [x, b] ∧ ∃ (b' : Addr) (kb' : ClassId), (b' = b ∨ h0.size ≤ b') ∧ own_SB Z h x u (cs ++ own_dg vn).length (cs ++ own_dg vn) b' kb' (own_cap N (cs.length + (own_dg vn).length))) := by
  refine own_body (Ls := #[.val (.ref x), .val (.long (Int64.ofNat vn)), .second]) (plainFor_of_name pn_java_lang_StringBuilder) (fun m => by first | (simp [entryFrame, mkF, argsToLocals, Value.category]; done) | rfl) O0 ?_
  intro p e s m below meth c T0 G K0
  refine own_aloadN K0 d_jdk_67_m16_0 rfl rfl rfl ?_
  refine own_lloadN K0 d_jdk_67_m16_1 rfl rfl ?_
  refine own_callSup K0 (a := x) (wd199 hw) (own_sameSelf (wd200 hw) (own_nfS (wd148 hw) rfl) (by decide)) (wd200 hw) (wd130 hw) (rm_asbAppendJ hw hs (cap := cap) K0.O B hu hn63 hcap hcap2) (wd202 hw) (wd112 hw) (by decide) B.exa (argsL := [(.long (Int64.ofNat vn))]) (rest := []) rfl pd_28J29Ljava2flang2fAbstractStringBuilder3b rfl rfl (W := 0) rfl (by first | decide | omega | (dsimp only; omega)) (by first | decide | omega | (dsimp only; omega)) (by first | decide | omega | (dsimp only; omega)) (by first | decide | omega | (dsimp only; omega)) d_jdk_67_m16_2 rfl ?_
  intro T79 h79 L79 v79 K79 q79
  obtain ⟨rfl, q79⟩ := q79
  show G (T79.setTop (mkF m 5 #[.val (.ref x), .val (.long (Int64.ofNat vn)), .second] [(.ref x)]))
  refine own_pop K79 d_jdk_67_m16_5 rfl rfl ?_
  refine own_aloadN K79 d_jdk_67_m16_6 rfl rfl rfl ?_
  exact own_retA K79 d_jdk_67_m16_7 rfl rfl rfl rfl (by first | decide | omega | (dsimp only; omega)) (by first | decide | omega | (dsimp only; omega)) ⟨rfl, q79⟩
theorem d_jdk_68_m6_0 : decode jdk_68_method_6_code 0 = .ok (.aload_n 0, 1) := by decide +kernel
theorem d_jdk_68_m6_1 : decode jdk_68_method_6_code 1 = .ok (.getfield 79, 3) := by decide +kernel
theorem d_jdk_68_m6_4 : decode jdk_68_method_6_code 4 = .ok (.ireturn, 1) := by decide +kernel
set_option maxRecDepth 65536 in
set_option maxHeartbeats 40000000 in
theorem rm_asbLen {l : Launch} {Z : State} {a0 : Array Value} (hw : ∀ d ∈ tables_1, d.before a0 Z = true) (hs : ∀ d ∈ jdkStatics_1, d.before a0 Z = true) {x : Addr} {z : Int32} {h0 : Heap} (O0 : Ext Z.heap h0) (F : Fld Z h0 x "java/lang/AbstractStringBuilder" "count" "I" (.int z)) (E : Exa Z h0 x "java/lang/StringBuilder") :
    own_Ct l Z (⟨"java/lang/AbstractStringBuilder", "length", "()I"⟩ : MethodName) jdk_68_method_6_code 1 (some .int) [] ({ frames := 0, locals := 0, cells := 0, slots := 0 } : Room) #[(.ref x)] h0 (fun v h => v = some (.int z) ∧ h = h0) := by
  refine own_body (Ls := #[.val (.ref x)]) (plainFor_of_name pn_java_lang_AbstractStringBuilder) (fun m => by first | (simp [entryFrame, mkF, argsToLocals, Value.category]; done) | rfl) O0 ?_
  intro p e s m below meth c T0 G K0
  refine own_aloadN K0 d_jdk_68_m6_0 rfl rfl rfl ?_
  refine own_getF K0 (host := "") (Or.inl (wd143 hw)) Via.refl F d_jdk_68_m6_1 rfl ?_
  intro T80 K80
  exact own_retI K80 d_jdk_68_m6_4 rfl (by decide) (by decide) ⟨rfl, rfl⟩
theorem d_jdk_67_m93_0 : decode jdk_67_method_93_code 0 = .ok (.aload_n 0, 1) := by decide +kernel
theorem d_jdk_67_m93_1 : decode jdk_67_method_93_code 1 = .ok (.invokespecial 343, 3) := by decide +kernel
theorem wd243 {a0 : Array Value} {Z : State} (hw : ∀ d ∈ tables_1, d.before a0 Z = true) : (Jvm.Cond.code ({ cls := "java/lang/AbstractStringBuilder", name := "length", desc := "()I" } : Jvm.MethodName) jdk_68_method_6_code (1 : Nat) (Option.some Jvm.ClassFile.FieldType.int)).before a0 Z = true := hw _ (List.mem_of_getElem? (i := 243) rfl)
theorem wd242 {a0 : Array Value} {Z : State} (hw : ∀ d ∈ tables_1, d.before a0 Z = true) : (Jvm.Cond.methodLink "java/lang/StringBuilder" (343 : Nat) ({ cls := "java/lang/AbstractStringBuilder", name := "length", desc := "()I" } : Jvm.MethodName)).before a0 Z = true := hw _ (List.mem_of_getElem? (i := 242) rfl)
theorem wd238 {a0 : Array Value} {Z : State} (hw : ∀ d ∈ tables_1, d.before a0 Z = true) : (Jvm.Cond.instanceMethod ({ cls := "java/lang/AbstractStringBuilder", name := "length", desc := "()I" } : Jvm.MethodName)).before a0 Z = true := hw _ (List.mem_of_getElem? (i := 238) rfl)
theorem d_jdk_67_m93_4 : decode jdk_67_method_93_code 4 = .ok (.ireturn, 1) := by decide +kernel
set_option maxRecDepth 65536 in
set_option maxHeartbeats 40000000 in
theorem rm_sbLen {l : Launch} {Z : State} {a0 : Array Value} (hw : ∀ d ∈ tables_1, d.before a0 Z = true) (hs : ∀ d ∈ jdkStatics_1, d.before a0 Z = true) {x : Addr} {z : Int32} {h0 : Heap} (O0 : Ext Z.heap h0) (F : Fld Z h0 x "java/lang/AbstractStringBuilder" "count" "I" (.int z)) (E : Exa Z h0 x "java/lang/StringBuilder") :
    own_Ct l Z (⟨"java/lang/StringBuilder", "length", "()I"⟩ : MethodName) jdk_67_method_93_code 1 (some .int) [] ({ frames := 1, locals := 12, cells := 0, slots := 0 } : Room) #[(.ref x)] h0 (fun v h => v = some (.int z) ∧ h = h0) := by
  refine own_body (Ls := #[.val (.ref x)]) (plainFor_of_name pn_java_lang_StringBuilder) (fun m => by first | (simp [entryFrame, mkF, argsToLocals, Value.category]; done) | rfl) O0 ?_
  intro p e s m below meth c T0 G K0
  refine own_aloadN K0 d_jdk_67_m93_0 rfl rfl rfl ?_
  refine own_callSup K0 (a := x) (wd242 hw) (own_sameSelf (wd238 hw) (own_nfS (wd148 hw) rfl) (by decide)) (wd238 hw) (wd130 hw) (rm_asbLen hw hs K0.O F E) (wd243 hw) (wd112 hw) (by decide) E (argsL := []) (rest := []) rfl pd_2829I rfl rfl (W := 0) rfl (by decide) (by decide) (by decide) (by decide) d_jdk_67_m93_1 rfl ?_
  intro T81 h81 L81 v81 K81 q81
  obtain ⟨rfl, e81⟩ := q81
  have f81 := e81.symm
  subst f81
  show G (T81.setTop (mkF m 4 #[.val (.ref x)] [(.int z)]))
  exact own_retI K81 d_jdk_67_m93_4 rfl (by decide) (by decide) ⟨rfl, rfl⟩
theorem d_jdk_65_m131_0 : decode jdk_65_method_131_code 0 = .ok (.iload_n 1, 1) := by decide +kernel
theorem d_jdk_65_m131_1 : decode jdk_65_method_131_code 1 = .ok (.iload_n 0, 1) := by decide +kernel
theorem d_jdk_65_m131_2 : decode jdk_65_method_131_code 2 = .ok (.if_icmp .ge 35, 3) := by decide +kernel
theorem d_jdk_65_m131_37 : decode jdk_65_method_131_code 37 = .ok (.return_, 1) := by decide +kernel
set_option maxRecDepth 65536 in
set_option maxHeartbeats 40000000 in
theorem rm_checkLength {l : Launch} {Z : State} {a0 : Array Value} (hw : ∀ d ∈ tables_1, d.before a0 Z = true) (hs : ∀ d ∈ jdkStatics_1, d.before a0 Z = true) {nn : Nat} {h0 : Heap} (O0 : Ext Z.heap h0) (hn : nn ≤ 8000) :
    own_Ct l Z (⟨"java/util/Arrays", "checkLength", "(II)V"⟩ : MethodName) jdk_65_method_131_code 2 none [] ({ frames := 0, locals := 0, cells := 0, slots := 0 } : Room) #[(.int 0), (.int (Int32.ofNat nn))] h0 (fun v h => v = none ∧ h = h0) := by
  refine own_body (Ls := #[.val (.int 0), .val (.int (Int32.ofNat nn))]) (plainFor_of_name pn_java_util_Arrays) (fun m => by first | (simp [entryFrame, mkF, argsToLocals, Value.category]; done) | rfl) O0 ?_
  intro p e s m below meth c T0 G K0
  refine own_iloadN K0 d_jdk_65_m131_0 rfl rfl ?_
  refine own_iloadN K0 d_jdk_65_m131_1 rfl rfl ?_
  refine own_icmpYes K0 d_jdk_65_m131_2 (pc' := 37) (by decide) (by decide) (flt (own_nn (by omega))).2.1 ?_
  exact own_ret0 K0 d_jdk_65_m131_37 rfl (by decide) (by decide) ⟨rfl, rfl⟩
theorem d_jdk_29_m69_9 : decode jdk_29_method_69_code 9 = .ok (.iload_n 1, 1) := by decide +kernel
set_option maxRecDepth 65536 in
set_option maxHeartbeats 40000000 in
theorem rm_min {l : Launch} {Z : State} {a0 : Array Value} (hw : ∀ d ∈ tables_1, d.before a0 Z = true) (hs : ∀ d ∈ jdkStatics_1, d.before a0 Z = true) {i : Nat} {nn : Nat} {h0 : Heap} (O0 : Ext Z.heap h0) (hn : nn < i ∧ i ≤ 8000) :
    own_Ct l Z (⟨"java/lang/Math", "min", "(II)I"⟩ : MethodName) jdk_29_method_69_code 2 (some .int) [] ({ frames := 0, locals := 0, cells := 0, slots := 0 } : Room) #[(.int (Int32.ofNat i)), (.int (Int32.ofNat nn))] h0 (fun v h => v = some (.int (Int32.ofNat nn)) ∧ h = h0) := by
  refine own_body (Ls := #[.val (.int (Int32.ofNat i)), .val (.int (Int32.ofNat nn))]) (Jvm.Free.JP.mathPlain rfl (by decide +kernel)) (fun m => by first | (simp [entryFrame, mkF, argsToLocals, Value.category]; done) | rfl) O0 ?_
  intro p e s m below meth c T0 G K0
  refine own_iloadN K0 d_jdk_29_m69_0 rfl rfl ?_
  refine own_iloadN K0 d_jdk_29_m69_1 rfl rfl ?_
  refine own_icmpYes K0 d_jdk_29_m69_2 (pc' := 9) (by decide) (by decide) (tlt (own_lt hn.1 (by omega))).2.2.1 ?_
  refine own_iloadN K0 d_jdk_29_m69_9 rfl rfl ?_
  exact own_retI K0 d_jdk_29_m69_10 rfl (by decide) (by decide) ⟨rfl, rfl⟩
theorem d_jdk_65_m133_0 : decode jdk_65_method_133_code 0 = .ok (.iload_n 1, 1) := by decide +kernel
theorem d_jdk_65_m133_1 : decode jdk_65_method_133_code 1 = .ok (.iload_n 2, 1) := by decide +kernel
theorem d_jdk_65_m133_2 : decode jdk_65_method_133_code 2 = .ok (.invokestatic 343, 3) := by decide +kernel
theorem wd253 {a0 : Array Value} {Z : State} (hw : ∀ d ∈ tables_1, d.before a0 Z = true) : (Jvm.Cond.code ({ cls := "java/util/Arrays", name := "checkLength", desc := "(II)V" } : Jvm.MethodName) jdk_65_method_131_code (2 : Nat) (Option.none : Option Jvm.ClassFile.FieldType)).before a0 Z = true := hw _ (List.mem_of_getElem? (i := 253) rfl)
theorem wd251 {a0 : Array Value} {Z : State} (hw : ∀ d ∈ tables_1, d.before a0 Z = true) : (Jvm.Cond.methodLink "java/util/Arrays" (343 : Nat) ({ cls := "java/util/Arrays", name := "checkLength", desc := "(II)V" } : Jvm.MethodName)).before a0 Z = true := hw _ (List.mem_of_getElem? (i := 251) rfl)
theorem wd252 {a0 : Array Value} {Z : State} (hw : ∀ d ∈ tables_1, d.before a0 Z = true) : (Jvm.Cond.static ({ cls := "java/util/Arrays", name := "checkLength", desc := "(II)V" } : Jvm.MethodName)).before a0 Z = true := hw _ (List.mem_of_getElem? (i := 252) rfl)
theorem d_jdk_65_m133_5 : decode jdk_65_method_133_code 5 = .ok (.iload_n 2, 1) := by decide +kernel
theorem d_jdk_65_m133_6 : decode jdk_65_method_133_code 6 = .ok (.iload_n 1, 1) := by decide +kernel
theorem d_jdk_65_m133_7 : decode jdk_65_method_133_code 7 = .ok (.isub, 1) := by decide +kernel
theorem d_jdk_65_m133_8 : decode jdk_65_method_133_code 8 = .ok (.istore_n 3, 1) := by decide +kernel
theorem d_jdk_65_m133_9 : decode jdk_65_method_133_code 9 = .ok (.iload_n 3, 1) := by decide +kernel
theorem d_jdk_65_m133_10 : decode jdk_65_method_133_code 10 = .ok (.newarray .byte, 2) := by decide +kernel
theorem d_jdk_65_m133_12 : decode jdk_65_method_133_code 12 = .ok (.astore 4, 2) := by decide +kernel
theorem d_jdk_65_m133_14 : decode jdk_65_method_133_code 14 = .ok (.aload_n 0, 1) := by decide +kernel
theorem d_jdk_65_m133_15 : decode jdk_65_method_133_code 15 = .ok (.iload_n 1, 1) := by decide +kernel
theorem d_jdk_65_m133_16 : decode jdk_65_method_133_code 16 = .ok (.aload 4, 2) := by decide +kernel
theorem d_jdk_65_m133_18 : decode jdk_65_method_133_code 18 = .ok (.iconst 0, 1) := by decide +kernel
theorem d_jdk_65_m133_19 : decode jdk_65_method_133_code 19 = .ok (.aload_n 0, 1) := by decide +kernel
theorem d_jdk_65_m133_20 : decode jdk_65_method_133_code 20 = .ok (.arraylength, 1) := by decide +kernel
theorem d_jdk_65_m133_21 : decode jdk_65_method_133_code 21 = .ok (.iload_n 1, 1) := by decide +kernel
theorem d_jdk_65_m133_22 : decode jdk_65_method_133_code 22 = .ok (.isub, 1) := by decide +kernel
theorem d_jdk_65_m133_23 : decode jdk_65_method_133_code 23 = .ok (.iload_n 3, 1) := by decide +kernel
theorem d_jdk_65_m133_24 : decode jdk_65_method_133_code 24 = .ok (.invokestatic 304, 3) := by decide +kernel
theorem d_jdk_65_m133_27 : decode jdk_65_method_133_code 27 = .ok (.invokestatic 150, 3) := by decide +kernel
theorem d_jdk_65_m133_30 : decode jdk_65_method_133_code 30 = .ok (.aload 4, 2) := by decide +kernel
theorem d_jdk_65_m133_32 : decode jdk_65_method_133_code 32 = .ok (.areturn, 1) := by decide +kernel
set_option maxRecDepth 65536 in
set_option maxHeartbeats 40000000 in
theorem rm_copyOfB {l : Launch} {Z : State} {a0 : Array Value} (hw : ∀ d ∈ tables_1, d.before a0 Z = true) (hs : ∀ d ∈ jdkStatics_1, d.before a0 Z = true) {b : Addr} {kb : ClassId} {M : Nat} {vs : List Value} {nn : Nat} {cap : Nat} {h0 : Heap} (O0 : Ext Z.heap h0) (V : Arv Z h0 b kb .byte (Int32.ofNat M) vs (.int 0)) (hv : vs.length = nn) (hM : nn < M ∧ M ≤ 8000) (hcap : nn ≤ cap) (hcap2 : cap ≤ 8000) :
    own_Ct l Z (⟨"java/util/Arrays", "copyOfRangeByte", "([BII)[B"⟩ : MethodName) jdk_65_method_133_code 5 (some (.array .byte)) [] ({ frames := 1, locals := 40, cells := 1, slots := 0 + cap } : Room) #[(.ref b), (.int 0), (.int (Int32.ofNat nn))] h0 (fun v h => ∃ (b' : Addr) (kb' : ClassId), v = some (.ref b') ∧ b' = h0.size ∧ Ext h0 h ∧ Arv Z h b' kb' .byte (Int32.ofNat nn) vs (.int 0)) := by
  refine own_body (Ls := #[.val (.ref b), .val (.int 0), .val (.int (Int32.ofNat nn)), .unset, .unset]) (plainFor_of_name pn_java_util_Arrays) (fun m => by first | (simp [entryFrame, mkF, argsToLocals, Value.category]; done) | rfl) O0 ?_
  intro p e s m below meth c T0 G K0
  refine own_iloadN K0 d_jdk_65_m133_0 rfl rfl ?_
  refine own_iloadN K0 d_jdk_65_m133_1 rfl rfl ?_
  refine own_callS K0 (wd251 hw) (wd252 hw) (rm_checkLength hw hs K0.O (by omega)) (wd253 hw) (wd167 hw) (by decide) (argsL := [(.int 0), (.int (Int32.ofNat nn))]) (rest := []) rfl pd_28II29V rfl rfl (W := 0) rfl (by first | decide | omega | (dsimp only; omega)) (by first | decide | omega | (dsimp only; omega)) (by first | decide | omega | (dsimp only; omega)) (by first | decide | omega | (dsimp only; omega)) d_jdk_65_m133_2 rfl ?_
  intro T82 h82 L82 v82 K82 q82
  obtain ⟨rfl, e82⟩ := q82
  have f82 := e82.symm
  subst f82
  show G (T82.setTop (mkF m 5 #[.val (.ref b), .val (.int 0), .val (.int (Int32.ofNat nn)), .unset, .unset] []))
  refine own_iloadN K82 d_jdk_65_m133_5 rfl rfl ?_
  refine own_iloadN K82 d_jdk_65_m133_6 rfl rfl ?_
  refine own_isub K82 d_jdk_65_m133_7 rfl ?_
  refine own_istoreN K82 (Ls' := #[.val (.ref b), .val (.int 0), .val (.int (Int32.ofNat nn)), .val (.int ((Int32.ofNat nn) - 0)), .unset]) d_jdk_65_m133_8 rfl rfl ?_
  refine own_iloadN K82 d_jdk_65_m133_9 rfl rfl ?_
  rw [Int32.sub_zero]
  refine own_newP K82 (aty := .byte) (wd20 hw) d_jdk_65_m133_10 (own_nn (by omega)) (cap := cap) (by rw [own_clamp (by omega)]; exact hcap) (by omega) (by first | decide | omega | (dsimp only; omega)) (by first | decide | omega | (dsimp only; omega)) rfl ?_
  intro T83 h83 a83 c83 K83 g83 E83 V83
  refine own_astore K83 (Ls' := #[.val (.ref b), .val (.int 0), .val (.int (Int32.ofNat nn)), .val (.int (Int32.ofNat nn)), .val (.ref a83)]) d_jdk_65_m133_12 rfl rfl rfl ?_
  refine own_aloadN K83 d_jdk_65_m133_14 rfl rfl rfl ?_
  refine own_iloadN K83 d_jdk_65_m133_15 rfl rfl ?_
  refine own_aload K83 d_jdk_65_m133_16 rfl rfl rfl ?_
  refine own_iconst K83 (v := (0 : Int32)) d_jdk_65_m133_18 rfl rfl ?_
  refine own_aloadN K83 d_jdk_65_m133_19 rfl rfl rfl ?_
  refine own_arraylength K83 (V.ext E83) d_jdk_65_m133_20 rfl ?_
  refine own_iloadN K83 d_jdk_65_m133_21 rfl rfl ?_
  refine own_isub K83 d_jdk_65_m133_22 rfl ?_
  refine own_iloadN K83 d_jdk_65_m133_23 rfl rfl ?_
  rw [Int32.sub_zero]
  refine own_callS K83 (wd169 hw) (wd170 hw) (rm_min hw hs K83.O hM) (wd171 hw) (wd161 hw) (by decide) (argsL := [(.int (Int32.ofNat M)), (.int (Int32.ofNat nn))]) (rest := [(.int (0 : Int32)), (.ref a83), (.int 0), (.ref b)]) rfl pd_28II29I rfl rfl (W := 4) rfl (by first | decide | omega | (dsimp only; omega)) (by first | decide | omega | (dsimp only; omega)) (by first | decide | omega | (dsimp only; omega)) (by first | decide | omega | (dsimp only; omega)) d_jdk_65_m133_24 rfl ?_
  intro T84 h84 L84 v84 K84 q84
  obtain ⟨rfl, e84⟩ := q84
  have f84 := e84.symm
  subst f84
  show G (T84.setTop (mkF m 27 #[.val (.ref b), .val (.int 0), .val (.int (Int32.ofNat nn)), .val (.int (Int32.ofNat nn)), .val (.ref a83)] [(.int (Int32.ofNat nn)), (.int (0 : Int32)), (.ref a83), (.int 0), (.ref b)]))
  have gz : Z.heap.size ≤ a83 := by rw [g83]; exact K0.O.1
  refine own_arraycopy K84 (W := 0) (sp := 0) (dp := 0) (nn := nn) (us := vs) (wd172 hw) (wd175 hw) (wd173 hw) (wd174 hw) (V.ext E83) (V83.pad (pad_rep [] _ nn)) (by omega) (by omega) (by omega) (by rw [own_clamp (by omega)]; omega) (by rw [own_clamp (by omega)]; omega) (own_rng _ _ _ hv.symm) (by simp) gz rfl rfl (by first | decide | omega | (dsimp only; omega)) (by first | decide | (have := own_acw; dsimp only; omega)) d_jdk_65_m133_27 rfl ?_
  intro T85 h85 L85 K85 Kp85 V85
  refine own_aload K85 d_jdk_65_m133_30 rfl rfl rfl ?_
  exact own_retA K85 d_jdk_65_m133_32 rfl rfl rfl rfl (by first | decide | omega | (dsimp only; omega)) (by first | decide | omega | (dsimp only; omega)) ⟨a83, c83, rfl, g83, own_ext_keep E83 Kp85 (fun y q => by cases List.mem_singleton.mp q; exact Nat.le_of_eq g83.symm), (congrArg (fun z => Arv Z h85 a83 c83 .byte (Int32.ofNat nn) z (.int 0)) (own_acp [] vs (.int 0) nn)).mp V85⟩
theorem d_jdk_65_m132_0 : decode jdk_65_method_132_code 0 = .ok (.iload_n 1, 1) := by decide +kernel
theorem d_jdk_65_m132_1 : decode jdk_65_method_132_code 1 = .ok (.ifCond .ne 9, 3) := by decide +kernel
theorem d_jdk_65_m132_4 : decode jdk_65_method_132_code 4 = .ok (.iload_n 2, 1) := by decide +kernel
theorem d_jdk_65_m132_5 : decode jdk_65_method_132_code 5 = .ok (.aload_n 0, 1) := by decide +kernel
theorem d_jdk_65_m132_6 : decode jdk_65_method_132_code 6 = .ok (.arraylength, 1) := by decide +kernel
theorem d_jdk_65_m132_7 : decode jdk_65_method_132_code 7 = .ok (.if_icmp .eq 10, 3) := by decide +kernel
theorem d_jdk_65_m132_10 : decode jdk_65_method_132_code 10 = .ok (.aload_n 0, 1) := by decide +kernel
theorem d_jdk_65_m132_11 : decode jdk_65_method_132_code 11 = .ok (.iload_n 1, 1) := by decide +kernel
theorem d_jdk_65_m132_12 : decode jdk_65_method_132_code 12 = .ok (.iload_n 2, 1) := by decide +kernel
theorem d_jdk_65_m132_13 : decode jdk_65_method_132_code 13 = .ok (.invokestatic 339, 3) := by decide +kernel
theorem wd250 {a0 : Array Value} {Z : State} (hw : ∀ d ∈ tables_1, d.before a0 Z = true) : (Jvm.Cond.code ({ cls := "java/util/Arrays", name := "copyOfRangeByte", desc := "([BII)[B" } : Jvm.MethodName) jdk_65_method_133_code (5 : Nat) (Option.some (Jvm.ClassFile.FieldType.array Jvm.ClassFile.FieldType.byte))).before a0 Z = true := hw _ (List.mem_of_getElem? (i := 250) rfl)
theorem pd_285bBII295bB : parseMethodDescriptor "([BII)[B" = some ⟨[(.array .byte), .int, .int], some (.array .byte)⟩ := by decide +kernel
theorem wd248 {a0 : Array Value} {Z : State} (hw : ∀ d ∈ tables_1, d.before a0 Z = true) : (Jvm.Cond.methodLink "java/util/Arrays" (339 : Nat) ({ cls := "java/util/Arrays", name := "copyOfRangeByte", desc := "([BII)[B" } : Jvm.MethodName)).before a0 Z = true := hw _ (List.mem_of_getElem? (i := 248) rfl)
theorem wd249 {a0 : Array Value} {Z : State} (hw : ∀ d ∈ tables_1, d.before a0 Z = true) : (Jvm.Cond.static ({ cls := "java/util/Arrays", name := "copyOfRangeByte", desc := "([BII)[B" } : Jvm.MethodName)).before a0 Z = true := hw _ (List.mem_of_getElem? (i := 249) rfl)
theorem d_jdk_65_m132_16 : decode jdk_65_method_132_code 16 = .ok (.areturn, 1) := by decide +kernel
theorem d_jdk_65_m132_17 : decode jdk_65_method_132_code 17 = .ok (.aload_n 0, 1) := by decide +kernel
theorem d_jdk_65_m132_18 : decode jdk_65_method_132_code 18 = .ok (.invokevirtual 310, 3) := by decide +kernel
theorem wd314 {a0 : Array Value} {Z : State} (hw : ∀ d ∈ tables_1, d.before a0 Z = true) : (Jvm.Cond.methodLink "java/util/Arrays" (310 : Nat) ({ cls := "[B", name := "clone", desc := "()Ljava/lang/Object;" } : Jvm.MethodName)).before a0 Z = true := hw _ (List.mem_of_getElem? (i := 314) rfl)
theorem wd315 {a0 : Array Value} {Z : State} (hw : ∀ d ∈ tables_1, d.before a0 Z = true) : (Jvm.Cond.sameMethod "[B" "java/lang/Object" "clone" "()Ljava/lang/Object;").before a0 Z = true := hw _ (List.mem_of_getElem? (i := 315) rfl)
theorem wd319 {a0 : Array Value} {Z : State} (hw : ∀ d ∈ tables_1, d.before a0 Z = true) : (Jvm.Cond.native ({ cls := "java/lang/Object", name := "clone", desc := "()Ljava/lang/Object;" } : Jvm.MethodName)).before a0 Z = true := hw _ (List.mem_of_getElem? (i := 319) rfl)
theorem wd317 {a0 : Array Value} {Z : State} (hw : ∀ d ∈ tables_1, d.before a0 Z = true) : (Jvm.Cond.instanceMethod ({ cls := "java/lang/Object", name := "clone", desc := "()Ljava/lang/Object;" } : Jvm.MethodName)).before a0 Z = true := hw _ (List.mem_of_getElem? (i := 317) rfl)
theorem wd318 {a0 : Array Value} {Z : State} (hw : ∀ d ∈ tables_1, d.before a0 Z = true) : (Jvm.Cond.selects "[B" ({ cls := "[B", name := "clone", desc := "()Ljava/lang/Object;" } : Jvm.MethodName) ({ cls := "java/lang/Object", name := "clone", desc := "()Ljava/lang/Object;" } : Jvm.MethodName)).before a0 Z = true := hw _ (List.mem_of_getElem? (i := 318) rfl)
theorem wd320 {a0 : Array Value} {Z : State} (hw : ∀ d ∈ tables_1, d.before a0 Z = true) : (Jvm.Cond.castable "[B" "java/lang/Cloneable").before a0 Z = true := hw _ (List.mem_of_getElem? (i := 320) rfl)
theorem d_jdk_65_m132_21 : decode jdk_65_method_132_code 21 = .ok (.checkcast 311, 3) := by decide +kernel
theorem wd321 {a0 : Array Value} {Z : State} (hw : ∀ d ∈ tables_1, d.before a0 Z = true) : (Jvm.Cond.classLink "java/util/Arrays" (311 : Nat) "[B").before a0 Z = true := hw _ (List.mem_of_getElem? (i := 321) rfl)
theorem d_jdk_65_m132_24 : decode jdk_65_method_132_code 24 = .ok (.areturn, 1) := by decide +kernel
set_option maxRecDepth 65536 in
set_option maxHeartbeats 40000000 in
theorem rm_copyOf {l : Launch} {Z : State} {a0 : Array Value} (hw : ∀ d ∈ tables_1, d.before a0 Z = true) (hs : ∀ d ∈ jdkStatics_1, d.before a0 Z = true) {b : Addr} {kb : ClassId} {M : Nat} {vs : List Value} {nn : Nat} {cap : Nat} {h0 : Heap} (O0 : Ext Z.heap h0) (V : Arv Z h0 b kb .byte (Int32.ofNat M) vs (.int 0)) (XB : Exa Z h0 b "[B") (hv : vs.length = nn) (hM : nn ≤ M ∧ M ≤ 8000) (hcap : nn ≤ cap) (hcap2 : cap ≤ 8000) :
    own_Ct l Z (⟨"java/util/Arrays", "copyOfRange", "([BII)[B"⟩ : MethodName) jdk_65_method_132_code 3 (some (.array .byte)) [] ({ frames := 2, locals := 56, cells := 1, slots := cap } : Room) #[(.ref b), (.int 0), (.int (Int32.ofNat nn))] h0 (fun v h => ∃ (b' : Addr) (kb' : ClassId), v = some (.ref b') ∧ b' = h0.size ∧ Ext h0 h ∧ Arv Z h b' kb' .byte (Int32.ofNat nn) vs (.int 0)) := by
  refine own_body (Ls := #[.val (.ref b), .val (.int 0), .val (.int (Int32.ofNat nn))]) (plainFor_of_name pn_java_util_Arrays) (fun m => by first | (simp [entryFrame, mkF, argsToLocals, Value.category]; done) | rfl) O0 ?_
  intro p e s m below meth c T0 G K0
  refine own_iloadN K0 d_jdk_65_m132_0 rfl rfl ?_
  refine own_ifNo K0 d_jdk_65_m132_1 rfl ((if0 _ _).trans (teq rfl).2) ?_
  refine own_iloadN K0 d_jdk_65_m132_4 rfl rfl ?_
  refine own_aloadN K0 d_jdk_65_m132_5 rfl rfl rfl ?_
  refine own_arraylength K0 V d_jdk_65_m132_6 rfl ?_
  by_cases hq : M = nn
  · skip
    subst hq
    refine own_icmpYes K0 d_jdk_65_m132_7 (pc' := 17) (by decide) (by decide) (teq rfl).1 ?_
    refine own_aloadN K0 d_jdk_65_m132_17 rfl rfl rfl ?_
    refine own_clone K0 (W := 0) (cap := cap) (wd314 hw) (wd315 hw) (wd319 hw) (wd317 hw) (wd318 hw) (wd320 hw) V XB rfl rfl (by first | decide | omega | (dsimp only; omega)) (by first | decide | omega | (dsimp only; omega)) (by rw [own_clamp (by omega)]; exact hcap) (by first | decide | omega | (dsimp only; omega)) (by first | decide | omega | (dsimp only; omega)) d_jdk_65_m132_18 rfl ?_
    intro T87 h87 a87 K87 g87 E87 V87 X87
    refine own_castY K87 (wd321 hw) (Ins.self X87) d_jdk_65_m132_21 rfl ?_
    intro T88 K88
    exact own_retA K88 d_jdk_65_m132_24 rfl rfl rfl rfl (by first | decide | omega | (dsimp only; omega)) (by first | decide | omega | (dsimp only; omega)) ⟨a87, kb, rfl, g87, E87, V87⟩
  · skip
    refine own_icmpNo K0 d_jdk_65_m132_7 rfl (feq (fun q => by have := own_ofNat_inj (by omega) (by omega) q; omega)).1 ?_
    refine own_aloadN K0 d_jdk_65_m132_10 rfl rfl rfl ?_
    refine own_iloadN K0 d_jdk_65_m132_11 rfl rfl ?_
    refine own_iloadN K0 d_jdk_65_m132_12 rfl rfl ?_
    refine own_callS K0 (wd248 hw) (wd249 hw) (rm_copyOfB hw hs (cap := cap) K0.O V hv ⟨by omega, hM.2⟩ hcap hcap2) (wd250 hw) (wd167 hw) (by decide) (argsL := [(.ref b), (.int 0), (.int (Int32.ofNat nn))]) (rest := []) rfl pd_285bBII295bB rfl rfl (W := 0) rfl (by first | decide | omega | (dsimp only; omega)) (by first | decide | omega | (dsimp only; omega)) (by first | decide | omega | (dsimp only; omega)) (by first | decide | omega | (dsimp only; omega)) d_jdk_65_m132_13 rfl ?_
    intro T86 h86 L86 v86 K86 q86
    obtain ⟨b86, kb86, rfl, q86⟩ := q86
    show G (T86.setTop (mkF m 16 #[.val (.ref b), .val (.int 0), .val (.int (Int32.ofNat nn))] [(.ref b86)]))
    exact own_retA K86 d_jdk_65_m132_16 rfl rfl rfl rfl (by first | decide | omega | (dsimp only; omega)) (by first | decide | omega | (dsimp only; omega)) ⟨b86, kb86, rfl, q86⟩
theorem d_jdk_68_m64_0 : decode jdk_68_method_64_code 0 = .ok (.aload_n 0, 1) := by decide +kernel
theorem d_jdk_68_m64_1 : decode jdk_68_method_64_code 1 = .ok (.getfield 15, 3) := by decide +kernel
theorem d_jdk_68_m64_4 : decode jdk_68_method_64_code 4 = .ok (.areturn, 1) := by decide +kernel
set_option maxRecDepth 65536 in
set_option maxHeartbeats 40000000 in
theorem rm_getValue {l : Launch} {Z : State} {a0 : Array Value} (hw : ∀ d ∈ tables_1, d.before a0 Z = true) (hs : ∀ d ∈ jdkStatics_1, d.before a0 Z = true) {x : Addr} {b : Addr} {h0 : Heap} (O0 : Ext Z.heap h0) (F : Fld Z h0 x "java/lang/AbstractStringBuilder" "value" "[B" (.ref b)) :
    own_Ct l Z (⟨"java/lang/AbstractStringBuilder", "getValue", "()[B"⟩ : MethodName) jdk_68_method_64_code 1 (some (.array .byte)) [] ({ frames := 0, locals := 0, cells := 0, slots := 0 } : Room) #[(.ref x)] h0 (fun v h => v = some (.ref b) ∧ h = h0) := by
  refine own_body (Ls := #[.val (.ref x)]) (plainFor_of_name pn_java_lang_AbstractStringBuilder) (fun m => by first | (simp [entryFrame, mkF, argsToLocals, Value.category]; done) | rfl) O0 ?_
  intro p e s m below meth c T0 G K0
  refine own_aloadN K0 d_jdk_68_m64_0 rfl rfl rfl ?_
  refine own_getF K0 (host := "") (Or.inl (wd116 hw)) Via.refl F d_jdk_68_m64_1 rfl ?_
  intro T89 K89
  exact own_retA K89 d_jdk_68_m64_4 rfl rfl rfl rfl (by decide) (by decide) ⟨rfl, rfl⟩
theorem d_jdk_42_m150_0 : decode jdk_42_method_150_code 0 = .ok (.aload_n 0, 1) := by decide +kernel
theorem d_jdk_42_m150_1 : decode jdk_42_method_150_code 1 = .ok (.invokespecial 1, 3) := by decide +kernel
theorem wd12 {a0 : Array Value} {Z : State} (hw : ∀ d ∈ tables_1, d.before a0 Z = true) : (Jvm.Cond.methodLink "java/lang/String" (1 : Nat) ({ cls := "java/lang/Object", name := "<init>", desc := "()V" } : Jvm.MethodName)).before a0 Z = true := hw _ (List.mem_of_getElem? (i := 12) rfl)
theorem wd13 {a0 : Array Value} {Z : State} (hw : ∀ d ∈ tables_1, d.before a0 Z = true) : (Jvm.Cond.instanceMethod ({ cls := "java/lang/Object", name := "<init>", desc := "()V" } : Jvm.MethodName)).before a0 Z = true := hw _ (List.mem_of_getElem? (i := 13) rfl)
theorem wd14 {a0 : Array Value} {Z : State} (hw : ∀ d ∈ tables_1, d.before a0 Z = true) : (Jvm.Cond.code ({ cls := "java/lang/Object", name := "<init>", desc := "()V" } : Jvm.MethodName) object_method_1_code (1 : Nat) (Option.none : Option Jvm.ClassFile.FieldType)).before a0 Z = true := hw _ (List.mem_of_getElem? (i := 14) rfl)
theorem d_jdk_42_m150_4 : decode jdk_42_method_150_code 4 = .ok (.aload_n 1, 1) := by decide +kernel
theorem d_jdk_42_m150_5 : decode jdk_42_method_150_code 5 = .ok (.invokevirtual 552, 3) := by decide +kernel
theorem wd235 {a0 : Array Value} {Z : State} (hw : ∀ d ∈ tables_1, d.before a0 Z = true) : (Jvm.Cond.code ({ cls := "java/lang/AbstractStringBuilder", name := "getValue", desc := "()[B" } : Jvm.MethodName) jdk_68_method_64_code (1 : Nat) (Option.some (Jvm.ClassFile.FieldType.array Jvm.ClassFile.FieldType.byte))).before a0 Z = true := hw _ (List.mem_of_getElem? (i := 235) rfl)
theorem pd_28295bB : parseMethodDescriptor "()[B" = some ⟨[], some (.array .byte)⟩ := by decide +kernel
theorem wd231 {a0 : Array Value} {Z : State} (hw : ∀ d ∈ tables_1, d.before a0 Z = true) : (Jvm.Cond.methodLink "java/lang/String" (552 : Nat) ({ cls := "java/lang/AbstractStringBuilder", name := "getValue", desc := "()[B" } : Jvm.MethodName)).before a0 Z = true := hw _ (List.mem_of_getElem? (i := 231) rfl)
theorem wd232 {a0 : Array Value} {Z : State} (hw : ∀ d ∈ tables_1, d.before a0 Z = true) : (Jvm.Cond.declares ({ cls := "java/lang/AbstractStringBuilder", name := "getValue", desc := "()[B" } : Jvm.MethodName)).before a0 Z = true := hw _ (List.mem_of_getElem? (i := 232) rfl)
theorem wd234 {a0 : Array Value} {Z : State} (hw : ∀ d ∈ tables_1, d.before a0 Z = true) : (Jvm.Cond.selects "java/lang/StringBuilder" ({ cls := "java/lang/AbstractStringBuilder", name := "getValue", desc := "()[B" } : Jvm.MethodName) ({ cls := "java/lang/AbstractStringBuilder", name := "getValue", desc := "()[B" } : Jvm.MethodName)).before a0 Z = true := hw _ (List.mem_of_getElem? (i := 234) rfl)
theorem wd233 {a0 : Array Value} {Z : State} (hw : ∀ d ∈ tables_1, d.before a0 Z = true) : (Jvm.Cond.instanceMethod ({ cls := "java/lang/AbstractStringBuilder", name := "getValue", desc := "()[B" } : Jvm.MethodName)).before a0 Z = true := hw _ (List.mem_of_getElem? (i := 233) rfl)
theorem d_jdk_42_m150_8 : decode jdk_42_method_150_code 8 = .ok (.astore_n 3, 1) := by decide +kernel
theorem d_jdk_42_m150_9 : decode jdk_42_method_150_code 9 = .ok (.aload_n 1, 1) := by decide +kernel
theorem d_jdk_42_m150_10 : decode jdk_42_method_150_code 10 = .ok (.invokevirtual 549, 3) := by decide +kernel
theorem wd241 {a0 : Array Value} {Z : State} (hw : ∀ d ∈ tables_1, d.before a0 Z = true) : (Jvm.Cond.code ({ cls := "java/lang/StringBuilder", name := "length", desc := "()I" } : Jvm.MethodName) jdk_67_method_93_code (1 : Nat) (Option.some Jvm.ClassFile.FieldType.int)).before a0 Z = true := hw _ (List.mem_of_getElem? (i := 241) rfl)
theorem wd104 {a0 : Array Value} {Z : State} (hw : ∀ d ∈ tables_1, d.before a0 Z = true) : (Jvm.Cond.initialized "java/lang/StringBuilder").before a0 Z = true := hw _ (List.mem_of_getElem? (i := 104) rfl)
theorem wd236 {a0 : Array Value} {Z : State} (hw : ∀ d ∈ tables_1, d.before a0 Z = true) : (Jvm.Cond.methodLink "java/lang/String" (549 : Nat) ({ cls := "java/lang/AbstractStringBuilder", name := "length", desc := "()I" } : Jvm.MethodName)).before a0 Z = true := hw _ (List.mem_of_getElem? (i := 236) rfl)
theorem wd237 {a0 : Array Value} {Z : State} (hw : ∀ d ∈ tables_1, d.before a0 Z = true) : (Jvm.Cond.declares ({ cls := "java/lang/AbstractStringBuilder", name := "length", desc := "()I" } : Jvm.MethodName)).before a0 Z = true := hw _ (List.mem_of_getElem? (i := 237) rfl)
theorem wd239 {a0 : Array Value} {Z : State} (hw : ∀ d ∈ tables_1, d.before a0 Z = true) : (Jvm.Cond.selects "java/lang/StringBuilder" ({ cls := "java/lang/AbstractStringBuilder", name := "length", desc := "()I" } : Jvm.MethodName) ({ cls := "java/lang/StringBuilder", name := "length", desc := "()I" } : Jvm.MethodName)).before a0 Z = true := hw _ (List.mem_of_getElem? (i := 239) rfl)
theorem wd240 {a0 : Array Value} {Z : State} (hw : ∀ d ∈ tables_1, d.before a0 Z = true) : (Jvm.Cond.instanceMethod ({ cls := "java/lang/StringBuilder", name := "length", desc := "()I" } : Jvm.MethodName)).before a0 Z = true := hw _ (List.mem_of_getElem? (i := 240) rfl)
theorem d_jdk_42_m150_13 : decode jdk_42_method_150_code 13 = .ok (.istore 4, 2) := by decide +kernel
theorem d_jdk_42_m150_15 : decode jdk_42_method_150_code 15 = .ok (.aload_n 1, 1) := by decide +kernel
theorem d_jdk_42_m150_16 : decode jdk_42_method_150_code 16 = .ok (.invokevirtual 1047, 3) := by decide +kernel
theorem wd244 {a0 : Array Value} {Z : State} (hw : ∀ d ∈ tables_1, d.before a0 Z = true) : (Jvm.Cond.methodLink "java/lang/String" (1047 : Nat) ({ cls := "java/lang/AbstractStringBuilder", name := "isLatin1", desc := "()Z" } : Jvm.MethodName)).before a0 Z = true := hw _ (List.mem_of_getElem? (i := 244) rfl)
theorem d_jdk_42_m150_19 : decode jdk_42_method_150_code 19 = .ok (.ifCond .eq 22, 3) := by decide +kernel
theorem d_jdk_42_m150_22 : decode jdk_42_method_150_code 22 = .ok (.aload_n 0, 1) := by decide +kernel
theorem d_jdk_42_m150_23 : decode jdk_42_method_150_code 23 = .ok (.iconst 0, 1) := by decide +kernel
theorem wd28 {a0 : Array Value} {Z : State} (hw : ∀ d ∈ tables_1, d.before a0 Z = true) : (Jvm.Cond.laysFinal "java/lang/String" "java/lang/String" "coder" "B").before a0 Z = true := hw _ (List.mem_of_getElem? (i := 28) rfl)
theorem d_jdk_42_m150_24 : decode jdk_42_method_150_code 24 = .ok (.putfield 15, 3) := by decide +kernel
theorem wd3 {a0 : Array Value} {Z : State} (hw : ∀ d ∈ tables_1, d.before a0 Z = true) : (Jvm.Cond.instantiable "java/lang/String" (4 : Nat)).before a0 Z = true := hw _ (List.mem_of_getElem? (i := 3) rfl)
theorem d_jdk_42_m150_27 : decode jdk_42_method_150_code 27 = .ok (.aload_n 0, 1) := by decide +kernel
theorem d_jdk_42_m150_28 : decode jdk_42_method_150_code 28 = .ok (.aload_n 3, 1) := by decide +kernel
theorem d_jdk_42_m150_29 : decode jdk_42_method_150_code 29 = .ok (.iconst 0, 1) := by decide +kernel
theorem d_jdk_42_m150_30 : decode jdk_42_method_150_code 30 = .ok (.iload 4, 2) := by decide +kernel
theorem d_jdk_42_m150_32 : decode jdk_42_method_150_code 32 = .ok (.invokestatic 54, 3) := by decide +kernel
theorem wd247 {a0 : Array Value} {Z : State} (hw : ∀ d ∈ tables_1, d.before a0 Z = true) : (Jvm.Cond.code ({ cls := "java/util/Arrays", name := "copyOfRange", desc := "([BII)[B" } : Jvm.MethodName) jdk_65_method_132_code (3 : Nat) (Option.some (Jvm.ClassFile.FieldType.array Jvm.ClassFile.FieldType.byte))).before a0 Z = true := hw _ (List.mem_of_getElem? (i := 247) rfl)
theorem wd245 {a0 : Array Value} {Z : State} (hw : ∀ d ∈ tables_1, d.before a0 Z = true) : (Jvm.Cond.methodLink "java/lang/String" (54 : Nat) ({ cls := "java/util/Arrays", name := "copyOfRange", desc := "([BII)[B" } : Jvm.MethodName)).before a0 Z = true := hw _ (List.mem_of_getElem? (i := 245) rfl)
theorem wd246 {a0 : Array Value} {Z : State} (hw : ∀ d ∈ tables_1, d.before a0 Z = true) : (Jvm.Cond.static ({ cls := "java/util/Arrays", name := "copyOfRange", desc := "([BII)[B" } : Jvm.MethodName)).before a0 Z = true := hw _ (List.mem_of_getElem? (i := 246) rfl)
theorem wd30 {a0 : Array Value} {Z : State} (hw : ∀ d ∈ tables_1, d.before a0 Z = true) : (Jvm.Cond.laysFinal "java/lang/String" "java/lang/String" "value" "[B").before a0 Z = true := hw _ (List.mem_of_getElem? (i := 30) rfl)
theorem d_jdk_42_m150_35 : decode jdk_42_method_150_code 35 = .ok (.putfield 9, 3) := by decide +kernel
theorem d_jdk_42_m150_38 : decode jdk_42_method_150_code 38 = .ok (.goto 59, 3) := by decide +kernel
theorem d_jdk_42_m150_97 : decode jdk_42_method_150_code 97 = .ok (.return_, 1) := by decide +kernel
set_option maxRecDepth 65536 in
set_option maxHeartbeats 40000000 in
theorem rm_strASB {l : Launch} {Z : State} {a0 : Array Value} (hw : ∀ d ∈ tables_1, d.before a0 Z = true) (hs : ∀ d ∈ jdkStatics_1, d.before a0 Z = true) {a : Addr} {u1 : Value} {u2 : Value} {x : Addr} {cs : List Int32} {b : Addr} {kb : ClassId} {N : Nat} {cap : Nat} {h0 : Heap} (O0 : Ext Z.heap h0) (E : Exa Z h0 a "java/lang/String") (F1 : Fld Z h0 a "java/lang/String" "value" "[B" u1) (F2 : Fld Z h0 a "java/lang/String" "coder" "B" u2) (gx : Z.heap.size ≤ a) (B : own_SB Z h0 x u cs.length cs b kb N) (hne : a ≠ b) (hlt : cs.length ≤ N) (hcap : 2 * cs.length ≤ cap) (hcap2 : cap ≤ 4000) :
    own_Ct l Z (⟨"java/lang/String", "<init>", "(Ljava/lang/AbstractStringBuilder;Ljava/lang/Void;)V"⟩ : MethodName) jdk_42_method_150_code 5 none [] ({ frames := 3, locals := 71, cells := 1, slots := cap } : Room) #[(.ref a), (.ref x), .null] h0 (fun v h => v = none ∧ Keep h0 h [a] ∧ own_StrG Z h a u cs) := by
  obtain ⟨zc, SC, hzc⟩ := own_compact hs
  have B' := B
  obtain ⟨BE, Bvalue, Bcoder, Bcount, BV, BX, hab, ga, gb, hcN, hN, hnc⟩ := B'
  refine own_body (Ls := #[.val (.ref a), .val (.ref x), .val .null, .unset, .unset]) (plainFor_of_name pn_java_lang_String) (fun m => by first | (simp [entryFrame, mkF, argsToLocals, Value.category]; done) | rfl) O0 ?_
  intro p e s m below meth c T0 G K0
  refine own_aloadN K0 d_jdk_42_m150_0 rfl rfl rfl ?_
  refine own_initO K0 (W := 0) (wd12 hw) (wd13 hw) (wd14 hw) rfl rfl (by first | decide | omega | (dsimp only; omega)) (by first | decide | omega | (dsimp only; omega)) d_jdk_42_m150_1 rfl ?_
  intro T90 K90
  refine own_aloadN K90 d_jdk_42_m150_4 rfl rfl rfl ?_
  refine own_callV K90 (a := x) (x0 := (⟨"java/lang/AbstractStringBuilder", "getValue", "()[B"⟩ : MethodName)) (wd231 hw) (wd232 hw) (fun q => own_nfS (args := #[]) (mvT q (wd148 hw)) rfl) (wd234 hw) (wd233 hw) (rm_getValue hw hs K90.O Bvalue) (wd235 hw) (wd112 hw) (by decide) BE (argsL := []) (rest := []) rfl pd_28295bB rfl rfl (W := 0) rfl (by first | decide | omega | (dsimp only; omega)) (by first | decide | omega | (dsimp only; omega)) (by first | decide | omega | (dsimp only; omega)) (by first | decide | omega | (dsimp only; omega)) d_jdk_42_m150_5 rfl ?_
  intro T91 h91 L91 v91 K91 q91
  obtain ⟨rfl, e91⟩ := q91
  have f91 := e91.symm
  subst f91
  show G (T91.setTop (mkF m 8 #[.val (.ref a), .val (.ref x), .val .null, .unset, .unset] [(.ref b)]))
  refine own_astoreN K91 (Ls' := #[.val (.ref a), .val (.ref x), .val .null, .val (.ref b), .unset]) d_jdk_42_m150_8 rfl rfl rfl ?_
  refine own_aloadN K91 d_jdk_42_m150_9 rfl rfl rfl ?_
  refine own_callV K91 (a := x) (x0 := (⟨"java/lang/AbstractStringBuilder", "length", "()I"⟩ : MethodName)) (wd236 hw) (wd237 hw) (fun q => own_nfS (args := #[]) (mvT q (wd148 hw)) rfl) (wd239 hw) (wd240 hw) (rm_sbLen hw hs K91.O Bcount BE) (wd241 hw) (wd104 hw) (by decide) BE (argsL := []) (rest := []) rfl pd_2829I rfl rfl (W := 0) rfl (by first | decide | omega | (dsimp only; omega)) (by first | decide | omega | (dsimp only; omega)) (by first | decide | omega | (dsimp only; omega)) (by first | decide | omega | (dsimp only; omega)) d_jdk_42_m150_10 rfl ?_
  intro T92 h92 L92 v92 K92 q92
  obtain ⟨rfl, e92⟩ := q92
  have f92 := e92.symm
  subst f92
  show G (T92.setTop (mkF m 13 #[.val (.ref a), .val (.ref x), .val .null, .val (.ref b), .unset] [(.int (Int32.ofNat cs.length))]))
  refine own_istore K92 (Ls' := #[.val (.ref a), .val (.ref x), .val .null, .val (.ref b), .val (.int (Int32.ofNat cs.length))]) d_jdk_42_m150_13 rfl rfl ?_
  refine own_aloadN K92 d_jdk_42_m150_15 rfl rfl rfl ?_
  refine own_callV K92 (a := x) (x0 := (⟨"java/lang/AbstractStringBuilder", "isLatin1", "()Z"⟩ : MethodName)) (wd244 hw) (wd209 hw) (fun q => own_nfS (args := #[]) (mvT q (wd148 hw)) rfl) (wd211 hw) (wd210 hw) (rm_isLatin1B hw hs K92.O Bcoder) (wd212 hw) (wd112 hw) (by decide) BE (argsL := []) (rest := []) rfl pd_2829Z rfl rfl (W := 0) rfl (by first | decide | omega | (dsimp only; omega)) (by first | decide | omega | (dsimp only; omega)) (by first | decide | omega | (dsimp only; omega)) (by first | decide | omega | (dsimp only; omega)) d_jdk_42_m150_16 rfl ?_
  intro T93 h93 L93 v93 K93 q93
  obtain ⟨rfl, e93⟩ := q93
  have f93 := e93.symm
  subst f93
  show G (T93.setTop (mkF m 19 #[.val (.ref a), .val (.ref x), .val .null, .val (.ref b), .val (.int (Int32.ofNat cs.length))] [(.int (cond u 0 1))]))
  · skip
    refine own_ifNo K93 d_jdk_42_m150_19 rfl ((if0 _ _).trans (feq (by decide)).1) ?_
    refine own_aloadN K93 d_jdk_42_m150_22 rfl rfl rfl ?_
    refine own_iconst K93 (v := (0 : Int32)) d_jdk_42_m150_23 rfl rfl ?_
    refine own_putFN K93 (wd27 hw) Via.refl F2 E (Or.inr ⟨(wd28 hw), rfl, rfl⟩) (wd3 hw) (ty := .byte) (v' := .int 0) (by decide) rfl rfl gx d_jdk_42_m150_24 rfl ?_
    intro T94 h94 K94 W94
    refine own_aloadN K94 d_jdk_42_m150_27 rfl rfl rfl ?_
    refine own_aloadN K94 d_jdk_42_m150_28 rfl rfl rfl ?_
    refine own_iconst K94 (v := (0 : Int32)) d_jdk_42_m150_29 rfl rfl ?_
    refine own_iload K94 d_jdk_42_m150_30 rfl rfl ?_
    have hba : b ≠ a := hne.symm
    refine own_callS K94 (wd245 hw) (wd246 hw) (rm_copyOf hw hs (M := N) (nn := cs.length) (cap := cap) K94.O (BV.other W94 hba) (BX.wr W94) (own_by_len cs) ⟨by omega, by omega⟩ (by omega) (by omega)) (wd247 hw) (wd167 hw) (by decide) (argsL := [(.ref b), (.int (0 : Int32)), (.int (Int32.ofNat cs.length))]) (rest := [(.ref a)]) rfl pd_285bBII295bB rfl rfl (W := 1) rfl (by first | decide | omega | (dsimp only; omega)) (by first | decide | omega | (dsimp only; omega)) (by first | decide | omega | (dsimp only; omega)) (by first | decide | omega | (dsimp only; omega)) d_jdk_42_m150_32 rfl ?_
    intro T95 h95 L95 v95 K95 q95
    obtain ⟨c95, kc95, rfl, gc95, X95, V95⟩ := q95
    show G (T95.setTop (mkF m 35 #[.val (.ref a), .val (.ref x), .val .null, .val (.ref b), .val (.int (Int32.ofNat cs.length))] [(.ref c95), (.ref a)]))
    refine own_putF K95 (host := "") (Or.inl (wd29 hw)) Via.refl ((F1.other W94 (Or.inr (slot_ne (Or.inr (wd30 hw)) (Or.inr (wd28 hw)) (by decide) (t := (.array .byte)) (t' := .byte) (by decide) (by decide)))).ext X95) ((E.wr W94).ext X95) (Or.inr ⟨(wd30 hw), rfl, rfl⟩) (wd3 hw) (ty := (.array .byte)) (by decide) rfl rfl gx d_jdk_42_m150_35 rfl ?_
    intro T96 h96 K96 W96
    refine own_goto K96 d_jdk_42_m150_38 (pc' := 97) (by decide) (by decide) ?_
    have hca : c95 ≠ a := Nat.ne_of_gt (Nat.lt_of_lt_of_le (E.wr W94).lt (Nat.le_of_eq gc95.symm))
    exact own_ret0 K96 d_jdk_42_m150_97 rfl (by first | decide | omega | (dsimp only; omega)) (by first | decide | omega | (dsimp only; omega)) ⟨rfl, (((Keep.refl h0 [a]).wr W94 (Or.inl (List.mem_singleton.mpr rfl))).ext X95).wr W96 (Or.inl (List.mem_singleton.mpr rfl)), ((E.wr W94).ext X95).wr W96, ((F2.same W94).ext X95).other W96 (Or.inr (slot_ne (Or.inr (wd28 hw)) (Or.inr (wd30 hw)) (by decide) (t := .byte) (t' := (.array .byte)) (by decide) (by decide))), c95, kc95, ((F1.other W94 (Or.inr (slot_ne (Or.inr (wd30 hw)) (Or.inr (wd28 hw)) (by decide) (t := (.array .byte)) (t' := .byte) (by decide) (by decide)))).ext X95).same W96, V95.other W96 hca⟩
theorem d_jdk_42_m53_0 : decode jdk_42_method_53_code 0 = .ok (.aload_n 0, 1) := by decide +kernel
theorem d_jdk_42_m53_1 : decode jdk_42_method_53_code 1 = .ok (.aload_n 1, 1) := by decide +kernel
theorem d_jdk_42_m53_2 : decode jdk_42_method_53_code 2 = .ok (.aconst_null, 1) := by decide +kernel
theorem d_jdk_42_m53_3 : decode jdk_42_method_53_code 3 = .ok (.invokespecial 489, 3) := by decide +kernel
theorem wd230 {a0 : Array Value} {Z : State} (hw : ∀ d ∈ tables_1, d.before a0 Z = true) : (Jvm.Cond.code ({ cls := "java/lang/String", name := "<init>", desc := "(Ljava/lang/AbstractStringBuilder;Ljava/lang/Void;)V" } : Jvm.MethodName) jdk_42_method_150_code (5 : Nat) (Option.none : Option Jvm.ClassFile.FieldType)).before a0 Z = true := hw _ (List.mem_of_getElem? (i := 230) rfl)
theorem pd_28Ljava2flang2fAbstractStringBuilder3bLjava2flang2fVoid3b29V : parseMethodDescriptor "(Ljava/lang/AbstractStringBuilder;Ljava/lang/Void;)V" = some ⟨[(.object "java/lang/AbstractStringBuilder"), (.object "java/lang/Void")], none⟩ := by decide +kernel
theorem wd228 {a0 : Array Value} {Z : State} (hw : ∀ d ∈ tables_1, d.before a0 Z = true) : (Jvm.Cond.methodLink "java/lang/String" (489 : Nat) ({ cls := "java/lang/String", name := "<init>", desc := "(Ljava/lang/AbstractStringBuilder;Ljava/lang/Void;)V" } : Jvm.MethodName)).before a0 Z = true := hw _ (List.mem_of_getElem? (i := 228) rfl)
theorem wd229 {a0 : Array Value} {Z : State} (hw : ∀ d ∈ tables_1, d.before a0 Z = true) : (Jvm.Cond.instanceMethod ({ cls := "java/lang/String", name := "<init>", desc := "(Ljava/lang/AbstractStringBuilder;Ljava/lang/Void;)V" } : Jvm.MethodName)).before a0 Z = true := hw _ (List.mem_of_getElem? (i := 229) rfl)
theorem d_jdk_42_m53_6 : decode jdk_42_method_53_code 6 = .ok (.return_, 1) := by decide +kernel
set_option maxRecDepth 65536 in
set_option maxHeartbeats 40000000 in
theorem rm_strSB {l : Launch} {Z : State} {a0 : Array Value} (hw : ∀ d ∈ tables_1, d.before a0 Z = true) (hs : ∀ d ∈ jdkStatics_1, d.before a0 Z = true) {a : Addr} {u1 : Value} {u2 : Value} {x : Addr} {cs : List Int32} {b : Addr} {kb : ClassId} {N : Nat} {cap : Nat} {h0 : Heap} (O0 : Ext Z.heap h0) (E : Exa Z h0 a "java/lang/String") (F1 : Fld Z h0 a "java/lang/String" "value" "[B" u1) (F2 : Fld Z h0 a "java/lang/String" "coder" "B" u2) (gx : Z.heap.size ≤ a) (B : own_SB Z h0 x u cs.length cs b kb N) (hne : a ≠ b) (hlt : cs.length ≤ N) (hcap : 2 * cs.length ≤ cap) (hcap2 : cap ≤ 4000) :
    own_Ct l Z (⟨"java/lang/String", "<init>", "(Ljava/lang/StringBuilder;)V"⟩ : MethodName) jdk_42_method_53_code 2 none [] ({ frames := 4, locals := 87, cells := 1, slots := cap } : Room) #[(.ref a), (.ref x)] h0 (fun v h => v = none ∧ Keep h0 h [a] ∧ own_StrG Z h a u cs) := by
  refine own_body (Ls := #[.val (.ref a), .val (.ref x)]) (plainFor_of_name pn_java_lang_String) (fun m => by first | (simp [entryFrame, mkF, argsToLocals, Value.category]; done) | rfl) O0 ?_
  intro p e s m below meth c T0 G K0
  refine own_aloadN K0 d_jdk_42_m53_0 rfl rfl rfl ?_
  refine own_aloadN K0 d_jdk_42_m53_1 rfl rfl rfl ?_
  refine own_aconstNull K0 d_jdk_42_m53_2 rfl ?_
  refine own_callI K0 (a := a) (wd228 hw) (wd229 hw) (rm_strASB hw hs (cap := cap) K0.O E F1 F2 gx B hne hlt hcap hcap2) (wd230 hw) (wd4 hw) (by decide) rfl (argsL := [(.ref x), .null]) (rest := []) rfl pd_28Ljava2flang2fAbstractStringBuilder3bLjava2flang2fVoid3b29V rfl rfl (W := 0) rfl (by first | decide | omega | (dsimp only; omega)) (by first | decide | omega | (dsimp only; omega)) (by first | decide | omega | (dsimp only; omega)) (by first | decide | omega | (dsimp only; omega)) d_jdk_42_m53_3 rfl ?_
  intro T97 h97 L97 v97 K97 q97
  obtain ⟨rfl, q97⟩ := q97
  show G (T97.setTop (mkF m 6 #[.val (.ref a), .val (.ref x)] []))
  exact own_ret0 K97 d_jdk_42_m53_6 rfl (by first | decide | omega | (dsimp only; omega)) (by first | decide | omega | (dsimp only; omega)) ⟨rfl, q97⟩
theorem d_jdk_67_m42_0 : decode jdk_67_method_42_code 0 = .ok (.new 18, 3) := by decide +kernel
theorem wd224 {a0 : Array Value} {Z : State} (hw : ∀ d ∈ tables_1, d.before a0 Z = true) : (Jvm.Cond.classLink "java/lang/StringBuilder" (18 : Nat) "java/lang/String").before a0 Z = true := hw _ (List.mem_of_getElem? (i := 224) rfl)
theorem d_jdk_67_m42_3 : decode jdk_67_method_42_code 3 = .ok (.dup, 1) := by decide +kernel
theorem d_jdk_67_m42_4 : decode jdk_67_method_42_code 4 = .ok (.aload_n 0, 1) := by decide +kernel
theorem d_jdk_67_m42_5 : decode jdk_67_method_42_code 5 = .ok (.invokespecial 137, 3) := by decide +kernel
theorem wd227 {a0 : Array Value} {Z : State} (hw : ∀ d ∈ tables_1, d.before a0 Z = true) : (Jvm.Cond.code ({ cls := "java/lang/String", name := "<init>", desc := "(Ljava/lang/StringBuilder;)V" } : Jvm.MethodName) jdk_42_method_53_code (2 : Nat) (Option.none : Option Jvm.ClassFile.FieldType)).before a0 Z = true := hw _ (List.mem_of_getElem? (i := 227) rfl)
theorem pd_28Ljava2flang2fStringBuilder3b29V : parseMethodDescriptor "(Ljava/lang/StringBuilder;)V" = some ⟨[(.object "java/lang/StringBuilder")], none⟩ := by decide +kernel
theorem wd225 {a0 : Array Value} {Z : State} (hw : ∀ d ∈ tables_1, d.before a0 Z = true) : (Jvm.Cond.methodLink "java/lang/StringBuilder" (137 : Nat) ({ cls := "java/lang/String", name := "<init>", desc := "(Ljava/lang/StringBuilder;)V" } : Jvm.MethodName)).before a0 Z = true := hw _ (List.mem_of_getElem? (i := 225) rfl)
theorem wd226 {a0 : Array Value} {Z : State} (hw : ∀ d ∈ tables_1, d.before a0 Z = true) : (Jvm.Cond.instanceMethod ({ cls := "java/lang/String", name := "<init>", desc := "(Ljava/lang/StringBuilder;)V" } : Jvm.MethodName)).before a0 Z = true := hw _ (List.mem_of_getElem? (i := 226) rfl)
theorem d_jdk_67_m42_8 : decode jdk_67_method_42_code 8 = .ok (.areturn, 1) := by decide +kernel
set_option maxRecDepth 65536 in
set_option maxHeartbeats 40000000 in
theorem rm_toString {l : Launch} {Z : State} {a0 : Array Value} (hw : ∀ d ∈ tables_1, d.before a0 Z = true) (hs : ∀ d ∈ jdkStatics_1, d.before a0 Z = true) {x : Addr} {cs : List Int32} {b : Addr} {kb : ClassId} {N : Nat} {cap : Nat} {h0 : Heap} (O0 : Ext Z.heap h0) (B : own_SB Z h0 x u cs.length cs b kb N) (hlt : cs.length ≤ N) (hcap : 2 * cs.length ≤ cap) (hcap2 : cap ≤ 4000) :
    own_Ct l Z (⟨"java/lang/StringBuilder", "toString", "()Ljava/lang/String;"⟩ : MethodName) jdk_67_method_42_code 1 (some (.object "java/lang/String")) [] ({ frames := 5, locals := 101, cells := 2, slots := 4 + cap } : Room) #[(.ref x)] h0 (fun v h => ∃ a : Addr, v = some (.ref a) ∧ a = h0.size ∧ Ext h0 h ∧ own_StrG Z h a u cs) := by
  refine own_body (Ls := #[.val (.ref x)]) (plainFor_of_name pn_java_lang_StringBuilder) (fun m => by first | (simp [entryFrame, mkF, argsToLocals, Value.category]; done) | rfl) O0 ?_
  intro p e s m below meth c T0 G K0
  refine own_newO K0 (wd224 hw) (wd3 hw) (wd4 hw) d_jdk_67_m42_0 (by first | decide | omega | (dsimp only; omega)) (by first | decide | omega | (dsimp only; omega)) rfl ?_
  intro T98 h98 a98 K98 g98 E98 A98 D98 U98
  have F_coder_98 : Fld Z h98 a98 "java/lang/String" "coder" "B" (.int (0 : Int32)) := D98 (Or.inr (wd28 hw)) (ty := .byte) (by decide)
  have F_value_98 : Fld Z h98 a98 "java/lang/String" "value" "[B" .null := D98 (Or.inr (wd30 hw)) (ty := (.array .byte)) (by decide)
  refine own_dup K98 d_jdk_67_m42_3 rfl rfl ?_
  refine own_aloadN K98 d_jdk_67_m42_4 rfl rfl rfl ?_
  have gy : Z.heap.size ≤ a98 := by rw [g98]; exact K0.O.1
  have hne : a98 ≠ b := Nat.ne_of_gt (Nat.lt_of_lt_of_le B.lt.2 (Nat.le_of_eq g98.symm))
  refine own_callI K98 (a := a98) (wd225 hw) (wd226 hw) (rm_strSB hw hs (cap := cap) K98.O A98 F_value_98 F_coder_98 gy (B.ext E98) hne hlt hcap hcap2) (wd227 hw) (wd4 hw) (by decide) rfl (argsL := [(.ref x)]) (rest := [(.ref a98)]) rfl pd_28Ljava2flang2fStringBuilder3b29V rfl rfl (W := 1) rfl (by first | decide | omega | (dsimp only; omega)) (by first | decide | omega | (dsimp only; omega)) (by first | decide | omega | (dsimp only; omega)) (by first | decide | omega | (dsimp only; omega)) d_jdk_67_m42_5 rfl ?_
  intro T99 h99 L99 v99 K99 q99
  obtain ⟨rfl, Kp99, S99⟩ := q99
  show G (T99.setTop (mkF m 8 #[.val (.ref x)] [(.ref a98)]))
  exact own_retA K99 d_jdk_67_m42_8 rfl rfl rfl rfl (by first | decide | omega | (dsimp only; omega)) (by first | decide | omega | (dsimp only; omega)) ⟨a98, rfl, g98, own_ext_keep E98 Kp99 (fun y q => by cases List.mem_singleton.mp q; exact Nat.le_of_eq g98.symm), S99⟩
theorem d_jdk_68_m2_0 : decode jdk_68_method_2_code 0 = .ok (.aload_n 0, 1) := by decide +kernel
theorem d_jdk_68_m2_1 : decode jdk_68_method_2_code 1 = .ok (.invokespecial 3, 3) := by decide +kernel
theorem wd114 {a0 : Array Value} {Z : State} (hw : ∀ d ∈ tables_1, d.before a0 Z = true) : (Jvm.Cond.methodLink "java/lang/AbstractStringBuilder" (3 : Nat) ({ cls := "java/lang/Object", name := "<init>", desc := "()V" } : Jvm.MethodName)).before a0 Z = true := hw _ (List.mem_of_getElem? (i := 114) rfl)
theorem d_jdk_68_m2_4 : decode jdk_68_method_2_code 4 = .ok (.getstatic 18, 3) := by decide +kernel
theorem d_jdk_68_m2_7 : decode jdk_68_method_2_code 7 = .ok (.ifCond .eq 18, 3) := by decide +kernel
theorem d_jdk_68_m2_10 : decode jdk_68_method_2_code 10 = .ok (.aload_n 0, 1) := by decide +kernel
theorem d_jdk_68_m2_11 : decode jdk_68_method_2_code 11 = .ok (.iload_n 1, 1) := by decide +kernel
theorem d_jdk_68_m2_12 : decode jdk_68_method_2_code 12 = .ok (.newarray .byte, 2) := by decide +kernel
theorem d_jdk_68_m2_14 : decode jdk_68_method_2_code 14 = .ok (.putfield 15, 3) := by decide +kernel
theorem d_jdk_68_m2_17 : decode jdk_68_method_2_code 17 = .ok (.aload_n 0, 1) := by decide +kernel
theorem d_jdk_68_m2_18 : decode jdk_68_method_2_code 18 = .ok (.iconst 0, 1) := by decide +kernel
theorem d_jdk_68_m2_19 : decode jdk_68_method_2_code 19 = .ok (.putfield 22, 3) := by decide +kernel
theorem d_jdk_68_m2_22 : decode jdk_68_method_2_code 22 = .ok (.goto 16, 3) := by decide +kernel
theorem d_jdk_68_m2_38 : decode jdk_68_method_2_code 38 = .ok (.return_, 1) := by decide +kernel
set_option maxRecDepth 65536 in
set_option maxHeartbeats 40000000 in
theorem rm_asbInit {l : Launch} {Z : State} {a0 : Array Value} (hw : ∀ d ∈ tables_1, d.before a0 Z = true) (hs : ∀ d ∈ jdkStatics_1, d.before a0 Z = true) {x : Addr} {cap : Nat} {h0 : Heap} (O0 : Ext Z.heap h0) (E : Exa Z h0 x "java/lang/StringBuilder") (Fvalue : Fld Z h0 x "java/lang/AbstractStringBuilder" "value" "[B" .null) (Fcoder : Fld Z h0 x "java/lang/AbstractStringBuilder" "coder" "B" (.int 0)) (Fcount : Fld Z h0 x "java/lang/AbstractStringBuilder" "count" "I" (.int 0)) (gx : Z.heap.size ≤ x) (hcap2 : cap ≤ 2000) :
    own_Ct l Z (⟨"java/lang/AbstractStringBuilder", "<init>", "(I)V"⟩ : MethodName) jdk_68_method_2_code 2 none [] ({ frames := 1, locals := 12, cells := 1, slots := 0 + cap } : Room) #[(.ref x), (.int (Int32.ofNat cap))] h0 (fun v h => v = none ∧ Keep h0 h [x] ∧ ∃ (b : Addr) (kb : ClassId), h0.size ≤ b ∧ own_SB Z h x false 0 [] b kb cap) := by
  obtain ⟨zc, SC, hzc⟩ := own_compact hs
  refine own_body (Ls := #[.val (.ref x), .val (.int (Int32.ofNat cap))]) (plainFor_of_name pn_java_lang_AbstractStringBuilder) (fun m => by first | (simp [entryFrame, mkF, argsToLocals, Value.category]; done) | rfl) O0 ?_
  intro p e s m below meth c T0 G K0
  refine own_aloadN K0 d_jdk_68_m2_0 rfl rfl rfl ?_
  refine own_initO K0 (W := 0) (wd114 hw) (wd13 hw) (wd14 hw) rfl rfl (by first | decide | omega | (dsimp only; omega)) (by first | decide | omega | (dsimp only; omega)) d_jdk_68_m2_1 rfl ?_
  intro T100 K100
  refine own_getS K100 (wd115 hw) Via.refl (SC.ext K100.O) d_jdk_68_m2_4 rfl ?_
  intro T101 K101
  refine own_ifNo K101 d_jdk_68_m2_7 rfl ((if0 _ _).trans (feq hzc).1) ?_
  refine own_aloadN K101 d_jdk_68_m2_10 rfl rfl rfl ?_
  refine own_iloadN K101 d_jdk_68_m2_11 rfl rfl ?_
  refine own_newPB K101 (wd20 hw) d_jdk_68_m2_12 (own_nn (by omega)) (cap := cap) (by rw [own_clamp (by omega)]; exact Nat.le_refl _) (by omega) (by first | decide | omega | (dsimp only; omega)) (by first | decide | omega | (dsimp only; omega)) rfl ?_
  intro T102 h102 a102 c102 K102 g102 E102 V102 X102
  have hab : x ≠ a102 := Nat.ne_of_lt (Nat.lt_of_lt_of_le E.lt (Nat.le_of_eq g102.symm))
  have gb : Z.heap.size ≤ a102 := by rw [g102]; exact K0.O.1
  have Xvalue := Fvalue.ext E102
  have Xcoder := Fcoder.ext E102
  have Xcount := Fcount.ext E102
  have XE := E.ext E102
  refine own_putF K102 (host := "") (Or.inl (wd116 hw)) Via.refl Xvalue XE (Or.inl (wd117 hw)) (wd103 hw) (ty := (.array .byte)) (by decide) rfl rfl gx d_jdk_68_m2_14 rfl ?_
  intro T103 h103 K103 W103
  have value_104 := Xvalue.same W103
  have coder_104 := Xcoder.other W103 (Or.inr (slot_ne (Or.inl (wd119 hw)) (Or.inl (wd117 hw)) (by decide) (t := .byte) (t' := (.array .byte)) (by decide) (by decide)))
  have count_104 := Xcount.other W103 (Or.inr (slot_ne (Or.inl (wd144 hw)) (Or.inl (wd117 hw)) (by decide) (t := .int) (t' := (.array .byte)) (by decide) (by decide)))
  have E_104 := XE.wr W103
  have X_104 := X102.wr W103
  have V_104 := V102.other W103 (Ne.symm hab)
  refine own_aloadN K103 d_jdk_68_m2_17 rfl rfl rfl ?_
  refine own_iconst K103 (v := (0 : Int32)) d_jdk_68_m2_18 rfl rfl ?_
  refine own_putFN K103 (wd118 hw) Via.refl coder_104 E_104 (Or.inl (wd119 hw)) (wd103 hw) (ty := .byte) (v' := .int 0) (by decide) rfl rfl gx d_jdk_68_m2_19 rfl ?_
  intro T105 h105 K105 W105
  have value_106 := value_104.other W105 (Or.inr (slot_ne (Or.inl (wd117 hw)) (Or.inl (wd119 hw)) (by decide) (t := (.array .byte)) (t' := .byte) (by decide) (by decide)))
  have coder_106 := coder_104.same W105
  have count_106 := count_104.other W105 (Or.inr (slot_ne (Or.inl (wd144 hw)) (Or.inl (wd119 hw)) (by decide) (t := .int) (t' := .byte) (by decide) (by decide)))
  have E_106 := E_104.wr W105
  have X_106 := X_104.wr W105
  have V_106 := V_104.other W105 (Ne.symm hab)
  refine own_goto K105 d_jdk_68_m2_22 (pc' := 38) (by decide) (by decide) ?_
  exact own_ret0 K105 d_jdk_68_m2_38 rfl (by first | decide | omega | (dsimp only; omega)) (by first | decide | omega | (dsimp only; omega)) ⟨rfl, (((Keep.refl h0 [x]).ext E102).wr W103 (Or.inl (List.mem_singleton.mpr rfl))).wr W105 (Or.inl (List.mem_singleton.mpr rfl)), a102, c102, Nat.le_of_eq g102.symm, ⟨E_106, value_106, coder_106, count_106, V_106, X_106, hab, gx, gb, Nat.zero_le _, hcap2, Nat.le_refl _⟩⟩
theorem d_jdk_67_m1_0 : decode jdk_67_method_1_code 0 = .ok (.aload_n 0, 1) := by decide +kernel
theorem d_jdk_67_m1_1 : decode jdk_67_method_1_code 1 = .ok (.bipush 16, 2) := by decide +kernel
theorem d_jdk_67_m1_3 : decode jdk_67_method_1_code 3 = .ok (.invokespecial 1, 3) := by decide +kernel
theorem wd113 {a0 : Array Value} {Z : State} (hw : ∀ d ∈ tables_1, d.before a0 Z = true) : (Jvm.Cond.code ({ cls := "java/lang/AbstractStringBuilder", name := "<init>", desc := "(I)V" } : Jvm.MethodName) jdk_68_method_2_code (2 : Nat) (Option.none : Option Jvm.ClassFile.FieldType)).before a0 Z = true := hw _ (List.mem_of_getElem? (i := 113) rfl)
theorem wd108 {a0 : Array Value} {Z : State} (hw : ∀ d ∈ tables_1, d.before a0 Z = true) : (Jvm.Cond.methodLink "java/lang/StringBuilder" (1 : Nat) ({ cls := "java/lang/AbstractStringBuilder", name := "<init>", desc := "(I)V" } : Jvm.MethodName)).before a0 Z = true := hw _ (List.mem_of_getElem? (i := 108) rfl)
theorem wd109 {a0 : Array Value} {Z : State} (hw : ∀ d ∈ tables_1, d.before a0 Z = true) : (Jvm.Cond.instanceMethod ({ cls := "java/lang/AbstractStringBuilder", name := "<init>", desc := "(I)V" } : Jvm.MethodName)).before a0 Z = true := hw _ (List.mem_of_getElem? (i := 109) rfl)
theorem d_jdk_67_m1_6 : decode jdk_67_method_1_code 6 = .ok (.return_, 1) := by decide +kernel
set_option maxRecDepth 65536 in
set_option maxHeartbeats 40000000 in
theorem rm_sbInit0 {l : Launch} {Z : State} {a0 : Array Value} (hw : ∀ d ∈ tables_1, d.before a0 Z = true) (hs : ∀ d ∈ jdkStatics_1, d.before a0 Z = true) {x : Addr} {h0 : Heap} (O0 : Ext Z.heap h0) (E : Exa Z h0 x "java/lang/StringBuilder") (Fvalue : Fld Z h0 x "java/lang/AbstractStringBuilder" "value" "[B" .null) (Fcoder : Fld Z h0 x "java/lang/AbstractStringBuilder" "coder" "B" (.int 0)) (Fcount : Fld Z h0 x "java/lang/AbstractStringBuilder" "count" "I" (.int 0)) (gx : Z.heap.size ≤ x) :
    own_Ct l Z (⟨"java/lang/StringBuilder", "<init>", "()V"⟩ : MethodName) jdk_67_method_1_code 1 none [] ({ frames := 2, locals := 25, cells := 1, slots := 16 } : Room) #[(.ref x)] h0 (fun v h => v = none ∧ Keep h0 h [x] ∧ ∃ (b : Addr) (kb : ClassId), h0.size ≤ b ∧ own_SB Z h x false 0 [] b kb 16) := by
  refine own_body (Ls := #[.val (.ref x)]) (plainFor_of_name pn_java_lang_StringBuilder) (fun m => by first | (simp [entryFrame, mkF, argsToLocals, Value.category]; done) | rfl) O0 ?_
  intro p e s m below meth c T0 G K0
  refine own_aloadN K0 d_jdk_67_m1_0 rfl rfl rfl ?_
  refine own_bipush K0 (v := (16 : Int32)) d_jdk_67_m1_1 rfl rfl ?_
  refine own_callI K0 (a := x) (wd108 hw) (wd109 hw) (rm_asbInit hw hs (cap := 16) K0.O E Fvalue Fcoder Fcount gx (by decide)) (wd113 hw) (wd112 hw) (by decide) rfl (argsL := [(.int (16 : Int32))]) (rest := []) rfl pd_28I29V rfl rfl (W := 0) rfl (by decide) (by decide) (by decide) (by decide) d_jdk_67_m1_3 rfl ?_
  intro T107 h107 L107 v107 K107 q107
  obtain ⟨rfl, Kp107, q107⟩ := q107
  show G (T107.setTop (mkF m 6 #[.val (.ref x)] []))
  exact own_ret0 K107 d_jdk_67_m1_6 rfl (by decide) (by decide) ⟨rfl, Kp107, q107⟩
theorem wd313 {a0 : Array Value} {Z : State} (hw : ∀ d ∈ tables_1, d.before a0 Z = true) : (Jvm.Cond.stringLink "java/lang/String" (7 : Nat) "").before a0 Z = true := hw _ (List.mem_of_getElem? (i := 313) rfl)
theorem wd255 {a0 : Array Value} {Z : State} (hw : ∀ d ∈ tables_1, d.before a0 Z = true) : (Jvm.Cond.stringLink "com/example/tallymark/tallymark/MalformedTextExceptionGetMessagePinLaw" (27 : Nat) " text on line ").before a0 Z = true := hw _ (List.mem_of_getElem? (i := 255) rfl)
theorem wd254 {a0 : Array Value} {Z : State} (hw : ∀ d ∈ tables_1, d.before a0 Z = true) : (Jvm.Cond.stringLink "com/example/tallymark/tallymark/MalformedTextExceptionGetMessagePinLaw" (25 : Nat) "bytes that are not ").before a0 Z = true := hw _ (List.mem_of_getElem? (i := 254) rfl)
theorem wd193 {a0 : Array Value} {Z : State} (hw : ∀ d ∈ tables_1, d.before a0 Z = true) : (Jvm.Cond.stringLink "com/example/tallymark/tallymark/MalformedTextException" (26 : Nat) " text on line ").before a0 Z = true := hw _ (List.mem_of_getElem? (i := 193) rfl)
theorem wd120 {a0 : Array Value} {Z : State} (hw : ∀ d ∈ tables_1, d.before a0 Z = true) : (Jvm.Cond.stringLink "com/example/tallymark/tallymark/MalformedTextException" (20 : Nat) "bytes that are not ").before a0 Z = true := hw _ (List.mem_of_getElem? (i := 120) rfl)
theorem own_EL {a0 : Array Value} {Z : State} (hw : ∀ d ∈ tables_1, d.before a0 Z = true) : EW Z a0 consts_1 := (EW.cons (wd120 hw) (by decide +kernel) (EW.cons (wd193 hw) (by decide +kernel) (EW.cons (wd254 hw) (by decide +kernel) (EW.cons (wd255 hw) (by decide +kernel) (EW.cons (wd313 hw) (by decide +kernel) EW.nil)))))
theorem own_strA {a0 : Array Value} {Z : State} (hw : ∀ d ∈ tables_1, d.before a0 Z = true) : ∀ a ∈ Bundle.stringAtoms, a.before a0 Z = true := by
  have q : ∀ a ∈ Bundle.stringAtoms, a ∈ tables_1 := by decide +kernel
  exact fun a ha => hw a (q a ha)
theorem d_jdk_42_m149_0 : decode jdk_42_method_149_code 0 = .ok (.aload_n 0, 1) := by decide +kernel
theorem d_jdk_42_m149_1 : decode jdk_42_method_149_code 1 = .ok (.invokespecial 1, 3) := by decide +kernel
theorem d_jdk_42_m149_4 : decode jdk_42_method_149_code 4 = .ok (.iload_n 3, 1) := by decide +kernel
theorem d_jdk_42_m149_5 : decode jdk_42_method_149_code 5 = .ok (.ifCond .ne 22, 3) := by decide +kernel
theorem d_jdk_42_m149_8 : decode jdk_42_method_149_code 8 = .ok (.aload_n 0, 1) := by decide +kernel
theorem own_mem_java_lang_String_7 : (("java/lang/String", 7) : String × Nat) ∈ consts_1 := by decide +kernel
theorem d_jdk_42_m149_9 : decode jdk_42_method_149_code 9 = .ok (.ldc 7, 2) := by decide +kernel
theorem d_jdk_42_m149_11 : decode jdk_42_method_149_code 11 = .ok (.getfield 9, 3) := by decide +kernel
theorem d_jdk_42_m149_14 : decode jdk_42_method_149_code 14 = .ok (.putfield 9, 3) := by decide +kernel
theorem d_jdk_42_m149_17 : decode jdk_42_method_149_code 17 = .ok (.aload_n 0, 1) := by decide +kernel
theorem d_jdk_42_m149_18 : decode jdk_42_method_149_code 18 = .ok (.ldc 7, 2) := by decide +kernel
theorem d_jdk_42_m149_20 : decode jdk_42_method_149_code 20 = .ok (.getfield 15, 3) := by decide +kernel
theorem d_jdk_42_m149_23 : decode jdk_42_method_149_code 23 = .ok (.putfield 15, 3) := by decide +kernel
theorem d_jdk_42_m149_26 : decode jdk_42_method_149_code 26 = .ok (.return_, 1) := by decide +kernel
set_option maxRecDepth 65536 in
set_option maxHeartbeats 40000000 in
theorem rm_initC4E {l : Launch} {Z : State} {a0 : Array Value} (hw : ∀ d ∈ tables_1, d.before a0 Z = true) (hs : ∀ d ∈ jdkStatics_1, d.before a0 Z = true) {x : Addr} {a : Addr} {h0 : Heap} (O0 : Ext Z.heap h0) (E : Exa Z h0 x "java/lang/String") (F1 : Fld Z h0 x "java/lang/String" "value" "[B" .null) (F2 : Fld Z h0 x "java/lang/String" "coder" "B" (.int 0)) (gx : Z.heap.size ≤ x) :
    own_CtW l Z consts_1 true false (⟨"java/lang/String", "<init>", "([CIILjava/lang/Void;)V"⟩ : MethodName) jdk_42_method_149_code 6 none [] ({ frames := 1, locals := 12, cells := 4, slots := 8 } : Room) #[(.ref x), (.ref a), (.int 0), (.int 0), .null] h0 (fun v h => v = none ∧ Keep h0 h [x] ∧ own_StrG Z h x false []) := by
  refine own_bodyW (Ls := #[.val (.ref x), .val (.ref a), .val (.int 0), .val (.int 0), .val .null, .unset]) (own_EL hw) (plainFor_of_name pn_java_lang_String) (fun m => by first | (simp [entryFrame, mkF, argsToLocals, Value.category]; done) | rfl) O0 ?_
  intro p e s m below meth c T0 G hkn hs0 W0
  refine own_aloadN W0.K d_jdk_42_m149_0 rfl rfl rfl ?_
  refine own_initO W0.K (W := 0) (wd12 hw) (wd13 hw) (wd14 hw) rfl rfl (by decide) (by decide) d_jdk_42_m149_1 rfl ?_
  intro T108 K108
  refine own_iloadN K108 d_jdk_42_m149_4 rfl rfl ?_
  refine own_ifNo K108 d_jdk_42_m149_5 rfl ((if0 _ _).trans (teq rfl).2) ?_
  refine own_aloadN K108 d_jdk_42_m149_8 rfl rfl rfl ?_
  have W109 := W0.same K108
  have s0 : Safe Z consts_1 _ h0 x := own_safe_null W109.hZ.alike E F1
  refine own_ldcC W109 (own_EL hw) (vs := own_by ([] : List Int32)) (z := Int32.ofNat ([] : List Int32).length) (nn := 0) own_mem_java_lang_String_7 (wd313 hw) (own_strA hw) ⟨by decide +kernel, by decide +kernel⟩ (by decide) (by decide) (by decide) (by decide) (by decide) (by decide) d_jdk_42_m149_9 rfl ?_
  intro T110 h110 k1_110 a110 b110 kb110 W110 E110 C110 ES110 FC110 FV110 VS110 sf110
  refine own_getF W110.K (host := "") (Or.inl (wd29 hw)) Via.refl FV110 d_jdk_42_m149_11 rfl ?_
  intro T111 K111
  have W112 := W110.same K111
  have s1 := C110.safe E.lt s0
  refine own_putF W112.K (host := "") (Or.inl (wd29 hw)) Via.refl (F1.ext E110) (E.ext E110) (Or.inr ⟨(wd30 hw), rfl, rfl⟩) (wd3 hw) (ty := (.array .byte)) (by decide) rfl rfl gx d_jdk_42_m149_14 rfl ?_
  intro T113 h113 K113 W113
  have W114 := W112.wr K113 W113 s1
  have s2 := Safe.wr W113 s1 W112.C.1 s1
  refine own_aloadN W114.K d_jdk_42_m149_17 rfl rfl rfl ?_
  refine own_ldcC W114 (own_EL hw) (vs := own_by ([] : List Int32)) (z := Int32.ofNat ([] : List Int32).length) (nn := 0) own_mem_java_lang_String_7 (wd313 hw) (own_strA hw) ⟨by decide +kernel, by decide +kernel⟩ (by decide) (by decide) (by decide) (by decide) (by decide) (by decide) d_jdk_42_m149_18 rfl ?_
  intro T115 h115 k1_115 a115 b115 kb115 W115 E115 C115 ES115 FC115 FV115 VS115 sf115
  refine own_getF W115.K (host := "") (Or.inl (wd27 hw)) Via.refl FC115 d_jdk_42_m149_20 rfl ?_
  intro T116 K116
  have W117 := W115.same K116
  have s3 := C115.safe ((E.ext E110).wr W113).lt s2
  have F3 := ((F2.ext E110).other W113 (Or.inr (slot_ne (Or.inr (wd28 hw)) (Or.inr (wd30 hw)) (by decide) (t := .byte) (t' := (.array .byte)) (by decide) (by decide)))).ext E115
  have E3 := ((E.ext E110).wr W113).ext E115
  refine own_putFN W117.K (wd27 hw) Via.refl F3 E3 (Or.inr ⟨(wd28 hw), rfl, rfl⟩) (wd3 hw) (ty := .byte) (v' := .int 0) (by decide) rfl rfl gx d_jdk_42_m149_23 rfl ?_
  intro T118 h118 K118 W118
  have W119 := W117.wr K118 W118 s3
  have hbx : x ≠ b110 := (sf110 x s1).2
  exact own_ret0 W119.K d_jdk_42_m149_26 rfl (by decide) (by decide) ⟨⟨⟨rfl, ((((Keep.refl h0 [x]).ext E110).wr W113 (Or.inl (List.mem_singleton.mpr rfl))).ext E115).wr W118 (Or.inl (List.mem_singleton.mpr rfl)), E3.wr W118, F3.same W118, b110, kb110, ((((F1.ext E110).same W113).ext E115)).other W118 (Or.inr (slot_ne (Or.inr (wd30 hw)) (Or.inr (wd28 hw)) (by decide) (t := (.array .byte)) (t' := .byte) (by decide) (by decide))), ((VS110.other W113 hbx.symm).ext E115).other W118 hbx.symm⟩, W119.le⟩, fun _ => W119.C⟩
theorem d_jdk_42_m3_0 : decode jdk_42_method_3_code 0 = .ok (.aload_n 0, 1) := by decide +kernel
theorem d_jdk_42_m3_1 : decode jdk_42_method_3_code 1 = .ok (.aload_n 1, 1) := by decide +kernel
theorem d_jdk_42_m3_2 : decode jdk_42_method_3_code 2 = .ok (.iconst 0, 1) := by decide +kernel
theorem d_jdk_42_m3_3 : decode jdk_42_method_3_code 3 = .ok (.aload_n 1, 1) := by decide +kernel
theorem d_jdk_42_m3_4 : decode jdk_42_method_3_code 4 = .ok (.arraylength, 1) := by decide +kernel
theorem d_jdk_42_m3_5 : decode jdk_42_method_3_code 5 = .ok (.aconst_null, 1) := by decide +kernel
theorem d_jdk_42_m3_6 : decode jdk_42_method_3_code 6 = .ok (.invokespecial 27, 3) := by decide +kernel
theorem wd11 {a0 : Array Value} {Z : State} (hw : ∀ d ∈ tables_1, d.before a0 Z = true) : (Jvm.Cond.code ({ cls := "java/lang/String", name := "<init>", desc := "([CIILjava/lang/Void;)V" } : Jvm.MethodName) jdk_42_method_149_code (6 : Nat) (Option.none : Option Jvm.ClassFile.FieldType)).before a0 Z = true := hw _ (List.mem_of_getElem? (i := 11) rfl)
theorem pd_285bCIILjava2flang2fVoid3b29V : parseMethodDescriptor "([CIILjava/lang/Void;)V" = some ⟨[(.array .char), .int, .int, (.object "java/lang/Void")], none⟩ := by decide +kernel
theorem wd8 {a0 : Array Value} {Z : State} (hw : ∀ d ∈ tables_1, d.before a0 Z = true) : (Jvm.Cond.methodLink "java/lang/String" (27 : Nat) ({ cls := "java/lang/String", name := "<init>", desc := "([CIILjava/lang/Void;)V" } : Jvm.MethodName)).before a0 Z = true := hw _ (List.mem_of_getElem? (i := 8) rfl)
theorem wd9 {a0 : Array Value} {Z : State} (hw : ∀ d ∈ tables_1, d.before a0 Z = true) : (Jvm.Cond.instanceMethod ({ cls := "java/lang/String", name := "<init>", desc := "([CIILjava/lang/Void;)V" } : Jvm.MethodName)).before a0 Z = true := hw _ (List.mem_of_getElem? (i := 9) rfl)
theorem d_jdk_42_m3_9 : decode jdk_42_method_3_code 9 = .ok (.return_, 1) := by decide +kernel
set_option maxRecDepth 65536 in
set_option maxHeartbeats 40000000 in
theorem rm_initCE {l : Launch} {Z : State} {a0 : Array Value} (hw : ∀ d ∈ tables_1, d.before a0 Z = true) (hs : ∀ d ∈ jdkStatics_1, d.before a0 Z = true) {x : Addr} {a : Addr} {ka : ClassId} {vs : List Value} {dv : Value} {h0 : Heap} (O0 : Ext Z.heap h0) (E : Exa Z h0 x "java/lang/String") (F1 : Fld Z h0 x "java/lang/String" "value" "[B" .null) (F2 : Fld Z h0 x "java/lang/String" "coder" "B" (.int 0)) (gx : Z.heap.size ≤ x) (A : Arv Z h0 a ka .char 0 vs dv) :
    own_CtW l Z consts_1 true false (⟨"java/lang/String", "<init>", "([C)V"⟩ : MethodName) jdk_42_method_3_code 2 none [] ({ frames := 2, locals := 29, cells := 4, slots := 8 } : Room) #[(.ref x), (.ref a)] h0 (fun v h => v = none ∧ Keep h0 h [x] ∧ own_StrG Z h x false []) := by
  refine own_bodyW (Ls := #[.val (.ref x), .val (.ref a)]) (own_EL hw) (plainFor_of_name pn_java_lang_String) (fun m => by first | (simp [entryFrame, mkF, argsToLocals, Value.category]; done) | rfl) O0 ?_
  intro p e s m below meth c T0 G hkn hs0 W0
  refine own_aloadN W0.K d_jdk_42_m3_0 rfl rfl rfl ?_
  refine own_aloadN W0.K d_jdk_42_m3_1 rfl rfl rfl ?_
  refine own_iconst W0.K (v := (0 : Int32)) d_jdk_42_m3_2 rfl rfl ?_
  refine own_aloadN W0.K d_jdk_42_m3_3 rfl rfl rfl ?_
  refine own_arraylength W0.K A d_jdk_42_m3_4 rfl ?_
  refine own_aconstNull W0.K d_jdk_42_m3_5 rfl ?_
  refine own_callIW W0 (own_EL hw) (kn := false) (fun q => nomatch q) (a := x) (wd8 hw) (wd9 hw) (rm_initC4E hw hs W0.K.O E F1 F2 gx) (wd11 hw) (wd4 hw) (by decide) rfl (argsL := [(.ref a), (.int (0 : Int32)), (.int (0 : Int32)), .null]) (rest := []) rfl pd_285bCIILjava2flang2fVoid3b29V rfl rfl (Wd := 0) rfl (by decide) (by decide) (by decide) (by decide) d_jdk_42_m3_6 rfl ?_
  intro T120 h120 L120 v120 k1_120 W120 C120 q120
  obtain ⟨rfl, q120⟩ := q120
  show G (T120.setTop (mkF m 9 #[.val (.ref x), .val (.ref a)] []))
  exact own_ret0 W120.K d_jdk_42_m3_9 rfl (by decide) (by decide) ⟨⟨⟨rfl, q120⟩, W120.le⟩, fun _ => W120.C⟩
theorem rm_charAtE {l : Launch} {Z : State} {a0 : Array Value} (hw : ∀ d ∈ tables_1, d.before a0 Z = true) (hs : ∀ d ∈ jdkStatics_1, d.before a0 Z = true) {x : Addr} {cs : List Int32} {i : Nat} {y : Int32} {h0 : Heap} (O0 : Ext Z.heap h0) (S : own_StrG Z h0 x u cs) (hlen : cs.length ≤ 4000) (hok : own_ok u cs) (hy : cs[i]? = some y) : own_Ct l Z (⟨"java/lang/String", "charAt", "(I)C"⟩ : MethodName) jdk_42_method_56_code 2 (some .char) [] ({ frames := 3, locals := 40, cells := 0, slots := 0 } : Room) #[.ref x, .int (Int32.ofNat i)] h0 (fun v h => v = some (.int y) ∧ h = h0) := by
  obtain ⟨hi, rfl⟩ := List.getElem?_eq_some_iff.mp hy
  exact rm_charAt hw hs O0 S hlen hok hi
theorem d_jdk_52_m21_3 : decode jdk_52_method_21_code 3 = .ok (.iload 5, 2) := by decide +kernel
theorem d_jdk_52_m21_5 : decode jdk_52_method_21_code 5 = .ok (.iload 4, 2) := by decide +kernel
theorem d_jdk_52_m21_7 : decode jdk_52_method_21_code 7 = .ok (.if_icmp .ge 37, 3) := by decide +kernel
theorem d_jdk_52_m21_10 : decode jdk_52_method_21_code 10 = .ok (.aload_n 0, 1) := by decide +kernel
theorem d_jdk_52_m21_11 : decode jdk_52_method_21_code 11 = .ok (.iload_n 1, 1) := by decide +kernel
theorem d_jdk_52_m21_12 : decode jdk_52_method_21_code 12 = .ok (.caload, 1) := by decide +kernel
theorem d_jdk_52_m21_13 : decode jdk_52_method_21_code 13 = .ok (.istore 6, 2) := by decide +kernel
theorem d_jdk_52_m21_15 : decode jdk_52_method_21_code 15 = .ok (.iload 6, 2) := by decide +kernel
theorem d_jdk_52_m21_17 : decode jdk_52_method_21_code 17 = .ok (.sipush 255, 3) := by decide +kernel
theorem d_jdk_52_m21_20 : decode jdk_52_method_21_code 20 = .ok (.if_icmp .le 6, 3) := by decide +kernel
theorem d_jdk_52_m21_26 : decode jdk_52_method_21_code 26 = .ok (.aload_n 2, 1) := by decide +kernel
theorem d_jdk_52_m21_27 : decode jdk_52_method_21_code 27 = .ok (.iload_n 3, 1) := by decide +kernel
theorem d_jdk_52_m21_28 : decode jdk_52_method_21_code 28 = .ok (.iload 6, 2) := by decide +kernel
theorem d_jdk_52_m21_30 : decode jdk_52_method_21_code 30 = .ok (.i2b, 1) := by decide +kernel
theorem d_jdk_52_m21_31 : decode jdk_52_method_21_code 31 = .ok (.bastore, 1) := by decide +kernel
theorem d_jdk_52_m21_32 : decode jdk_52_method_21_code 32 = .ok (.iinc 1 1, 3) := by decide +kernel
theorem d_jdk_52_m21_35 : decode jdk_52_method_21_code 35 = .ok (.iinc 3 1, 3) := by decide +kernel
theorem d_jdk_52_m21_38 : decode jdk_52_method_21_code 38 = .ok (.iinc 5 1, 3) := by decide +kernel
theorem d_jdk_52_m21_41 : decode jdk_52_method_21_code 41 = .ok (.goto (-38), 3) := by decide +kernel
section Lp
variable {p : Program} {l : Launch} {e : Env} {R : Room} {s : State} {m : MethodId} {args : Array Value} {below : List Frame} {meth : Method} {c : Code} {own nm : String} {mx : Nat} {ret : Option FieldType} {Q : Option Value → Heap → Prop} {G : State → Prop} {Z T : State} {L : List Loc} {k n : Nat} {h h0 : Heap} {a0 : Array Value}
set_option maxRecDepth 65536 in
set_option maxHeartbeats 40000000 in
theorem lp_compress5 {a b : Addr} {ka kb : ClassId} {cs : List Int32} (A : Arv Z h0 a ka .char (Int32.ofNat cs.length) (cs.map Value.int) (.int 0)) (hab : a ∉ [b]) (gb : Z.heap.size ≤ b) (hlat : ∀ c ∈ cs, ¬ c < 0 ∧ c < 256) (hlen : cs.length ≤ 4000)
    (ex : ∀ (T' : State) (L' : List Loc) (h' : Heap), own_K p l e R s m args below meth c jdk_52_method_21_code own nm mx ret Q G Z T' L' k n h' → Keep h0 h' [b] → Arv Z h' b kb .byte (Int32.ofNat cs.length) (own_by cs) (.int 0) → ∀ (x1 x3 x5 : Int32) (s6 : Slot), G (T'.setTop (mkF m 44 #[.val (.ref a), .val (.int x1), .val (.ref b), .val (.int x3), .val (.int (Int32.ofNat cs.length)), .val (.int x5), s6] [])))
    (j : Nat) : ∀ (i : Nat), i + j = cs.length → ∀ {T : State} {L : List Loc} {h : Heap} {s6 : Slot}, own_K p l e R s m args below meth c jdk_52_method_21_code own nm mx ret Q G Z T L k n h → Keep h0 h [b] → Arv Z h b kb .byte (Int32.ofNat cs.length) (own_by (cs.take i) ++ List.replicate (cs.length - i) (Value.int 0)) (.int 0) → One s6 → G (T.setTop (mkF m 3 #[.val (.ref a), .val (.int (Int32.ofNat i)), .val (.ref b), .val (.int (Int32.ofNat i)), .val (.int (Int32.ofNat cs.length)), .val (.int (Int32.ofNat i)), s6] [])) := by
  induction j with
  | zero =>
    intro i hij T L h s6 K Kp V hs6
    refine own_iload K d_jdk_52_m21_3 rfl rfl ?_
    refine own_iload K d_jdk_52_m21_5 rfl rfl ?_
    refine own_icmpYes K d_jdk_52_m21_7 (pc' := 44) (by decide) (by decide) (flt (own_nlt (by omega) (by omega))).2.1 ?_
    exact ex _ _ _ K Kp (by rw [List.take_of_length_le (by omega), Nat.sub_eq_zero_of_le (by omega), List.replicate_zero, List.append_nil] at V; exact V) _ _ _ _
  | succ j ih =>
    intro i hij T L h s6 K Kp V hs6
    have hin : i < cs.length := by omega
    refine own_iload K d_jdk_52_m21_3 rfl rfl ?_
    refine own_iload K d_jdk_52_m21_5 rfl rfl ?_
    refine own_icmpNo K d_jdk_52_m21_7 rfl (tlt (own_lt hin (by omega))).2.1 ?_
    refine own_aloadN K d_jdk_52_m21_10 rfl rfl rfl ?_
    refine own_iloadN K d_jdk_52_m21_11 rfl rfl ?_
    refine own_caload K (x := cs[i]) (A.keep Kp hab) ⟨own_nn (by omega), own_lt hin (by omega)⟩ (by rw [own_clamp (by omega)]; simp [hin]) d_jdk_52_m21_12 rfl ?_
    refine own_istore K (Ls' := #[.val (.ref a), .val (.int (Int32.ofNat i)), .val (.ref b), .val (.int (Int32.ofNat i)), .val (.int (Int32.ofNat cs.length)), .val (.int (Int32.ofNat i)), .val (.int cs[i])]) d_jdk_52_m21_13 rfl (XS.store1 rfl hs6 rfl) ?_
    refine own_iload K d_jdk_52_m21_15 rfl rfl ?_
    refine own_sipush K (v := (255 : Int32)) d_jdk_52_m21_17 rfl rfl ?_
    refine own_icmpYes K d_jdk_52_m21_20 (pc' := 26) (by decide) (by decide) (flt (own_n255 (hlat _ (List.getElem_mem hin)))).2.2.2 ?_
    refine own_aloadN K d_jdk_52_m21_26 rfl rfl rfl ?_
    refine own_iloadN K d_jdk_52_m21_27 rfl rfl ?_
    refine own_iload K d_jdk_52_m21_28 rfl rfl ?_
    refine own_i2b K d_jdk_52_m21_30 rfl ?_
    refine own_bastore K V ⟨own_nn (by omega), own_lt hin (by omega)⟩ i (own_clamp (by omega)) (by rw [List.length_append, own_by_len, List.length_take, List.length_replicate]; omega) (x' := (cs[i]).toInt8.toInt32) (own_nar_byte _) gb d_jdk_52_m21_31 rfl ?_
    intro T121 h121 K121 W121 V121
    refine own_iinc K121 (Ls' := #[.val (.ref a), .val (.int ((Int32.ofNat i) + (1 : Int32))), .val (.ref b), .val (.int (Int32.ofNat i)), .val (.int (Int32.ofNat cs.length)), .val (.int (Int32.ofNat i)), .val (.int cs[i])]) (x := (Int32.ofNat i)) (v := (Int32.ofNat i)) d_jdk_52_m21_32 rfl rfl rfl ?_
    refine own_iinc K121 (Ls' := #[.val (.ref a), .val (.int ((Int32.ofNat i) + (1 : Int32))), .val (.ref b), .val (.int ((Int32.ofNat i) + (1 : Int32))), .val (.int (Int32.ofNat cs.length)), .val (.int (Int32.ofNat i)), .val (.int cs[i])]) (x := (Int32.ofNat i)) (v := (Int32.ofNat i)) d_jdk_52_m21_35 rfl rfl rfl ?_
    refine own_iinc K121 (Ls' := #[.val (.ref a), .val (.int ((Int32.ofNat i) + (1 : Int32))), .val (.ref b), .val (.int ((Int32.ofNat i) + (1 : Int32))), .val (.int (Int32.ofNat cs.length)), .val (.int ((Int32.ofNat i) + (1 : Int32))), .val (.int cs[i])]) (x := (Int32.ofNat i)) (v := (Int32.ofNat i)) d_jdk_52_m21_38 rfl rfl rfl ?_
    refine own_goto K121 d_jdk_52_m21_41 (pc' := 3) (by decide) (by decide) ?_
    rw [own_one]
    exact ih (i + 1) (by omega) K121 (Kp.wr W121 (Or.inl (List.mem_singleton.mpr rfl))) (by rw [← own_fill hin]; exact V121) (One.val rfl)
end Lp
theorem d_jdk_52_m21_0 : decode jdk_52_method_21_code 0 = .ok (.iconst 0, 1) := by decide +kernel
theorem d_jdk_52_m21_1 : decode jdk_52_method_21_code 1 = .ok (.istore 5, 2) := by decide +kernel
theorem d_jdk_52_m21_44 : decode jdk_52_method_21_code 44 = .ok (.iload 4, 2) := by decide +kernel
theorem d_jdk_52_m21_46 : decode jdk_52_method_21_code 46 = .ok (.ireturn, 1) := by decide +kernel
theorem pn_java_lang_StringUTF16 : plainName "java/lang/StringUTF16" = true := by first | (simp [plainName, overriddenIn]; done) | decide +kernel
set_option maxRecDepth 65536 in
set_option maxHeartbeats 40000000 in
theorem rm_compress5 {l : Launch} {Z : State} {a0 : Array Value} (hw : ∀ d ∈ tables_1, d.before a0 Z = true) (hs : ∀ d ∈ jdkStatics_1, d.before a0 Z = true) {a : Addr} {b : Addr} {ka : ClassId} {kb : ClassId} {cs : List Int32} {h0 : Heap} (O0 : Ext Z.heap h0) (A : Arv Z h0 a ka .char (Int32.ofNat cs.length) (cs.map Value.int) (.int 0)) (B : Arv Z h0 b kb .byte (Int32.ofNat cs.length) (List.replicate cs.length (Value.int 0)) (.int 0)) (hab : a ∉ [b]) (gb : Z.heap.size ≤ b) (hlat : ∀ c ∈ cs, ¬ c < 0 ∧ c < 256) (hlen : cs.length ≤ 4000) :
    own_Ct l Z (⟨"java/lang/StringUTF16", "compress", "([CI[BII)I"⟩ : MethodName) jdk_52_method_21_code 7 (some .int) [] ({ frames := 0, locals := 0, cells := 0, slots := 0 } : Room) #[(.ref a), (.int 0), (.ref b), (.int 0), (.int (Int32.ofNat cs.length))] h0 (fun v h => v = some (.int (Int32.ofNat cs.length)) ∧ Keep h0 h [b] ∧ Arv Z h b kb .byte (Int32.ofNat cs.length) (own_by cs) (.int 0)) := by
  refine own_body (Ls := #[.val (.ref a), .val (.int 0), .val (.ref b), .val (.int 0), .val (.int (Int32.ofNat cs.length)), .unset, .unset]) (plainFor_of_name pn_java_lang_StringUTF16) (fun m => by first | (simp [entryFrame, mkF, argsToLocals, Value.category]; done) | rfl) O0 ?_
  intro p e s m below meth c T0 G K0
  refine own_iconst K0 (v := (0 : Int32)) d_jdk_52_m21_0 rfl rfl ?_
  refine own_istore K0 (Ls' := #[.val (.ref a), .val (.int 0), .val (.ref b), .val (.int 0), .val (.int (Int32.ofNat cs.length)), .val (.int (0 : Int32)), .unset]) d_jdk_52_m21_1 rfl rfl ?_
  refine lp_compress5 A hab gb hlat hlen (fun T1 L1 h1 K1 Kp1 V1 x1 x3 x5 s6 => ?_) cs.length 0 (Nat.zero_add _) K0 (Keep.refl _ _) B One.u
  refine own_iload K1 d_jdk_52_m21_44 rfl rfl ?_
  exact own_retI K1 d_jdk_52_m21_46 rfl (by decide) (by decide) ⟨rfl, Kp1, V1⟩
theorem d_jdk_52_m16_0 : decode jdk_52_method_16_code 0 = .ok (.iload_n 2, 1) := by decide +kernel
theorem d_jdk_52_m16_1 : decode jdk_52_method_16_code 1 = .ok (.newarray .byte, 2) := by decide +kernel
theorem d_jdk_52_m16_3 : decode jdk_52_method_16_code 3 = .ok (.astore_n 3, 1) := by decide +kernel
theorem d_jdk_52_m16_4 : decode jdk_52_method_16_code 4 = .ok (.aload_n 0, 1) := by decide +kernel
theorem d_jdk_52_m16_5 : decode jdk_52_method_16_code 5 = .ok (.iload_n 1, 1) := by decide +kernel
theorem d_jdk_52_m16_6 : decode jdk_52_method_16_code 6 = .ok (.aload_n 3, 1) := by decide +kernel
theorem d_jdk_52_m16_7 : decode jdk_52_method_16_code 7 = .ok (.iconst 0, 1) := by decide +kernel
theorem d_jdk_52_m16_8 : decode jdk_52_method_16_code 8 = .ok (.iload_n 2, 1) := by decide +kernel
theorem d_jdk_52_m16_9 : decode jdk_52_method_16_code 9 = .ok (.invokestatic 115, 3) := by decide +kernel
theorem wd23 {a0 : Array Value} {Z : State} (hw : ∀ d ∈ tables_1, d.before a0 Z = true) : (Jvm.Cond.code ({ cls := "java/lang/StringUTF16", name := "compress", desc := "([CI[BII)I" } : Jvm.MethodName) jdk_52_method_21_code (7 : Nat) (Option.some Jvm.ClassFile.FieldType.int)).before a0 Z = true := hw _ (List.mem_of_getElem? (i := 23) rfl)
theorem wd18 {a0 : Array Value} {Z : State} (hw : ∀ d ∈ tables_1, d.before a0 Z = true) : (Jvm.Cond.initialized "java/lang/StringUTF16").before a0 Z = true := hw _ (List.mem_of_getElem? (i := 18) rfl)
theorem pd_285bCI5bBII29I : parseMethodDescriptor "([CI[BII)I" = some ⟨[(.array .char), .int, (.array .byte), .int, .int], some .int⟩ := by decide +kernel
theorem wd21 {a0 : Array Value} {Z : State} (hw : ∀ d ∈ tables_1, d.before a0 Z = true) : (Jvm.Cond.methodLink "java/lang/StringUTF16" (115 : Nat) ({ cls := "java/lang/StringUTF16", name := "compress", desc := "([CI[BII)I" } : Jvm.MethodName)).before a0 Z = true := hw _ (List.mem_of_getElem? (i := 21) rfl)
theorem wd22 {a0 : Array Value} {Z : State} (hw : ∀ d ∈ tables_1, d.before a0 Z = true) : (Jvm.Cond.static ({ cls := "java/lang/StringUTF16", name := "compress", desc := "([CI[BII)I" } : Jvm.MethodName)).before a0 Z = true := hw _ (List.mem_of_getElem? (i := 22) rfl)
theorem d_jdk_52_m16_12 : decode jdk_52_method_16_code 12 = .ok (.istore 4, 2) := by decide +kernel
theorem d_jdk_52_m16_14 : decode jdk_52_method_16_code 14 = .ok (.iload 4, 2) := by decide +kernel
theorem d_jdk_52_m16_16 : decode jdk_52_method_16_code 16 = .ok (.iload_n 2, 1) := by decide +kernel
theorem d_jdk_52_m16_17 : decode jdk_52_method_16_code 17 = .ok (.if_icmp .eq 40, 3) := by decide +kernel
theorem d_jdk_52_m16_57 : decode jdk_52_method_16_code 57 = .ok (.aload_n 3, 1) := by decide +kernel
theorem d_jdk_52_m16_58 : decode jdk_52_method_16_code 58 = .ok (.areturn, 1) := by decide +kernel
set_option maxRecDepth 65536 in
set_option maxHeartbeats 40000000 in
theorem rm_compress3 {l : Launch} {Z : State} {a0 : Array Value} (hw : ∀ d ∈ tables_1, d.before a0 Z = true) (hs : ∀ d ∈ jdkStatics_1, d.before a0 Z = true) {a : Addr} {ka : ClassId} {cs : List Int32} {cap : Nat} {h0 : Heap} (O0 : Ext Z.heap h0) (A : Arv Z h0 a ka .char (Int32.ofNat cs.length) (cs.map Value.int) (.int 0)) (hlat : ∀ c ∈ cs, ¬ c < 0 ∧ c < 256) (hlen : cs.length ≤ 4000) (hcap : cs.length ≤ cap) (hcap2 : cap ≤ 4000) :
    own_Ct l Z (⟨"java/lang/StringUTF16", "compress", "([CII)[B"⟩ : MethodName) jdk_52_method_16_code 6 (some (.array .byte)) [] ({ frames := 1, locals := 18, cells := 1, slots := 0 + cap } : Room) #[(.ref a), (.int 0), (.int (Int32.ofNat cs.length))] h0 (fun v h => ∃ (b : Addr) (kb : ClassId), v = some (.ref b) ∧ h0.size ≤ b ∧ Ext h0 h ∧ Arv Z h b kb .byte (Int32.ofNat cs.length) (own_by cs) (.int 0)) := by
  refine own_body (Ls := #[.val (.ref a), .val (.int 0), .val (.int (Int32.ofNat cs.length)), .unset, .unset, .unset]) (plainFor_of_name pn_java_lang_StringUTF16) (fun m => by first | (simp [entryFrame, mkF, argsToLocals, Value.category]; done) | rfl) O0 ?_
  intro p e s m below meth c T0 G K0
  refine own_iloadN K0 d_jdk_52_m16_0 rfl rfl ?_
  refine own_newP K0 (aty := .byte) (wd20 hw) d_jdk_52_m16_1 (own_nn (by omega)) (cap := cap) (by rw [own_clamp (by omega)]; exact hcap) (by omega) (by first | decide | omega | (dsimp only; omega)) (by first | decide | omega | (dsimp only; omega)) rfl ?_
  intro T122 h122 a122 c122 K122 g122 E122 V122
  refine own_astoreN K122 (Ls' := #[.val (.ref a), .val (.int 0), .val (.int (Int32.ofNat cs.length)), .val (.ref a122), .unset, .unset]) d_jdk_52_m16_3 rfl rfl rfl ?_
  refine own_aloadN K122 d_jdk_52_m16_4 rfl rfl rfl ?_
  refine own_iloadN K122 d_jdk_52_m16_5 rfl rfl ?_
  refine own_aloadN K122 d_jdk_52_m16_6 rfl rfl rfl ?_
  refine own_iconst K122 (v := (0 : Int32)) d_jdk_52_m16_7 rfl rfl ?_
  refine own_iloadN K122 d_jdk_52_m16_8 rfl rfl ?_
  have gb122 : Z.heap.size ≤ a122 := by rw [g122]; exact K0.O.1
  have hab122 : a ∉ [a122] := fun q => Nat.ne_of_lt (Nat.lt_of_lt_of_le A.lt (Nat.le_of_eq g122.symm)) (List.mem_singleton.mp q)
  refine own_callS K122 (wd21 hw) (wd22 hw) (rm_compress5 hw hs K122.O (A.ext E122) (V122.pad (pad_rep [] _ cs.length)) hab122 gb122 hlat hlen) (wd23 hw) (wd18 hw) (by decide) (argsL := [(.ref a), (.int 0), (.ref a122), (.int (0 : Int32)), (.int (Int32.ofNat cs.length))]) (rest := []) rfl pd_285bCI5bBII29I rfl rfl (W := 0) rfl (by first | decide | omega | (dsimp only; omega)) (by first | decide | omega | (dsimp only; omega)) (by first | decide | omega | (dsimp only; omega)) (by first | decide | omega | (dsimp only; omega)) d_jdk_52_m16_9 rfl ?_
  intro T123 h123 L123 v123 K123 q123
  obtain ⟨rfl, Kp123, V123⟩ := q123
  show G (T123.setTop (mkF m 12 #[.val (.ref a), .val (.int 0), .val (.int (Int32.ofNat cs.length)), .val (.ref a122), .unset, .unset] [(.int (Int32.ofNat cs.length))]))
  refine own_istore K123 (Ls' := #[.val (.ref a), .val (.int 0), .val (.int (Int32.ofNat cs.length)), .val (.ref a122), .val (.int (Int32.ofNat cs.length)), .unset]) d_jdk_52_m16_12 rfl rfl ?_
  refine own_iload K123 d_jdk_52_m16_14 rfl rfl ?_
  refine own_iloadN K123 d_jdk_52_m16_16 rfl rfl ?_
  refine own_icmpYes K123 d_jdk_52_m16_17 (pc' := 57) (by decide) (by decide) (teq rfl).1 ?_
  refine own_aloadN K123 d_jdk_52_m16_57 rfl rfl rfl ?_
  exact own_retA K123 d_jdk_52_m16_58 rfl rfl rfl rfl (by first | decide | (dsimp only; omega)) (by first | decide | (dsimp only; omega)) ⟨a122, c122, rfl, Nat.le_of_eq g122.symm, own_ext_keep E122 Kp123 (fun y q => by cases List.mem_singleton.mp q; exact Nat.le_of_eq g122.symm), V123⟩
theorem d_jdk_52_m15_0 : decode jdk_52_method_15_code 0 = .ok (.iload_n 1, 1) := by decide +kernel
theorem d_jdk_52_m15_1 : decode jdk_52_method_15_code 1 = .ok (.aload_n 0, 1) := by decide +kernel
theorem d_jdk_52_m15_2 : decode jdk_52_method_15_code 2 = .ok (.arraylength, 1) := by decide +kernel
theorem d_jdk_52_m15_3 : decode jdk_52_method_15_code 3 = .ok (.isub, 1) := by decide +kernel
theorem d_jdk_52_m15_4 : decode jdk_52_method_15_code 4 = .ok (.bipush 31, 2) := by decide +kernel
theorem d_jdk_52_m15_6 : decode jdk_52_method_15_code 6 = .ok (.iushr, 1) := by decide +kernel
theorem d_jdk_52_m15_7 : decode jdk_52_method_15_code 7 = .ok (.i2b, 1) := by decide +kernel
theorem own_coder0 (x : Int32) : nar .byte ((((x - x).toUInt32 >>> ((31 : Int32) &&& 31).toUInt32).toInt32).toInt8.toInt32) = 0 := by
  rw [Int32.sub_self]; decide
theorem d_jdk_52_m15_8 : decode jdk_52_method_15_code 8 = .ok (.ireturn, 1) := by decide +kernel
set_option maxRecDepth 65536 in
set_option maxHeartbeats 40000000 in
theorem rm_coderFrom {l : Launch} {Z : State} {a0 : Array Value} (hw : ∀ d ∈ tables_1, d.before a0 Z = true) (hs : ∀ d ∈ jdkStatics_1, d.before a0 Z = true) {b : Addr} {kb : ClassId} {nn : Nat} {vs : List Value} {dv : Value} {h0 : Heap} (O0 : Ext Z.heap h0) (B : Arv Z h0 b kb .byte (Int32.ofNat nn) vs dv) :
    own_Ct l Z (⟨"java/lang/StringUTF16", "coderFromArrayLen", "([BI)B"⟩ : MethodName) jdk_52_method_15_code 2 (some .byte) [] ({ frames := 0, locals := 0, cells := 0, slots := 0 } : Room) #[(.ref b), (.int (Int32.ofNat nn))] h0 (fun v h => v = some (.int 0) ∧ h = h0) := by
  refine own_body (Ls := #[.val (.ref b), .val (.int (Int32.ofNat nn))]) (plainFor_of_name pn_java_lang_StringUTF16) (fun m => by first | (simp [entryFrame, mkF, argsToLocals, Value.category]; done) | rfl) O0 ?_
  intro p e s m below meth c T0 G K0
  refine own_iloadN K0 d_jdk_52_m15_0 rfl rfl ?_
  refine own_aloadN K0 d_jdk_52_m15_1 rfl rfl rfl ?_
  refine own_arraylength K0 B d_jdk_52_m15_2 rfl ?_
  refine own_isub K0 d_jdk_52_m15_3 rfl ?_
  refine own_bipush K0 (v := (31 : Int32)) d_jdk_52_m15_4 rfl rfl ?_
  refine own_iushr K0 d_jdk_52_m15_6 rfl ?_
  refine own_i2b K0 d_jdk_52_m15_7 rfl ?_
  exact own_retN K0 (z' := 0) d_jdk_52_m15_8 rfl (by simp) (own_coder0 _) (by decide) (by decide) ⟨rfl, rfl⟩
theorem d_jdk_42_m149_27 : decode jdk_42_method_149_code 27 = .ok (.getstatic 38, 3) := by decide +kernel
theorem d_jdk_42_m149_30 : decode jdk_42_method_149_code 30 = .ok (.ifCond .eq 28, 3) := by decide +kernel
theorem d_jdk_42_m149_33 : decode jdk_42_method_149_code 33 = .ok (.aload_n 1, 1) := by decide +kernel
theorem d_jdk_42_m149_34 : decode jdk_42_method_149_code 34 = .ok (.iload_n 2, 1) := by decide +kernel
theorem d_jdk_42_m149_35 : decode jdk_42_method_149_code 35 = .ok (.iload_n 3, 1) := by decide +kernel
theorem d_jdk_42_m149_36 : decode jdk_42_method_149_code 36 = .ok (.invokestatic 177, 3) := by decide +kernel
theorem wd19 {a0 : Array Value} {Z : State} (hw : ∀ d ∈ tables_1, d.before a0 Z = true) : (Jvm.Cond.code ({ cls := "java/lang/StringUTF16", name := "compress", desc := "([CII)[B" } : Jvm.MethodName) jdk_52_method_16_code (6 : Nat) (Option.some (Jvm.ClassFile.FieldType.array Jvm.ClassFile.FieldType.byte))).before a0 Z = true := hw _ (List.mem_of_getElem? (i := 19) rfl)
theorem pd_285bCII295bB : parseMethodDescriptor "([CII)[B" = some ⟨[(.array .char), .int, .int], some (.array .byte)⟩ := by decide +kernel
theorem wd16 {a0 : Array Value} {Z : State} (hw : ∀ d ∈ tables_1, d.before a0 Z = true) : (Jvm.Cond.methodLink "java/lang/String" (177 : Nat) ({ cls := "java/lang/StringUTF16", name := "compress", desc := "([CII)[B" } : Jvm.MethodName)).before a0 Z = true := hw _ (List.mem_of_getElem? (i := 16) rfl)
theorem wd17 {a0 : Array Value} {Z : State} (hw : ∀ d ∈ tables_1, d.before a0 Z = true) : (Jvm.Cond.static ({ cls := "java/lang/StringUTF16", name := "compress", desc := "([CII)[B" } : Jvm.MethodName)).before a0 Z = true := hw _ (List.mem_of_getElem? (i := 17) rfl)
theorem d_jdk_42_m149_39 : decode jdk_42_method_149_code 39 = .ok (.astore 5, 2) := by decide +kernel
theorem d_jdk_42_m149_41 : decode jdk_42_method_149_code 41 = .ok (.aload_n 0, 1) := by decide +kernel
theorem d_jdk_42_m149_42 : decode jdk_42_method_149_code 42 = .ok (.aload 5, 2) := by decide +kernel
theorem d_jdk_42_m149_44 : decode jdk_42_method_149_code 44 = .ok (.iload_n 3, 1) := by decide +kernel
theorem d_jdk_42_m149_45 : decode jdk_42_method_149_code 45 = .ok (.invokestatic 47, 3) := by decide +kernel
theorem wd26 {a0 : Array Value} {Z : State} (hw : ∀ d ∈ tables_1, d.before a0 Z = true) : (Jvm.Cond.code ({ cls := "java/lang/StringUTF16", name := "coderFromArrayLen", desc := "([BI)B" } : Jvm.MethodName) jdk_52_method_15_code (2 : Nat) (Option.some Jvm.ClassFile.FieldType.byte)).before a0 Z = true := hw _ (List.mem_of_getElem? (i := 26) rfl)
theorem pd_285bBI29B : parseMethodDescriptor "([BI)B" = some ⟨[(.array .byte), .int], some .byte⟩ := by decide +kernel
theorem wd24 {a0 : Array Value} {Z : State} (hw : ∀ d ∈ tables_1, d.before a0 Z = true) : (Jvm.Cond.methodLink "java/lang/String" (47 : Nat) ({ cls := "java/lang/StringUTF16", name := "coderFromArrayLen", desc := "([BI)B" } : Jvm.MethodName)).before a0 Z = true := hw _ (List.mem_of_getElem? (i := 24) rfl)
theorem wd25 {a0 : Array Value} {Z : State} (hw : ∀ d ∈ tables_1, d.before a0 Z = true) : (Jvm.Cond.static ({ cls := "java/lang/StringUTF16", name := "coderFromArrayLen", desc := "([BI)B" } : Jvm.MethodName)).before a0 Z = true := hw _ (List.mem_of_getElem? (i := 25) rfl)
theorem d_jdk_42_m149_48 : decode jdk_42_method_149_code 48 = .ok (.putfield 15, 3) := by decide +kernel
theorem d_jdk_42_m149_51 : decode jdk_42_method_149_code 51 = .ok (.aload_n 0, 1) := by decide +kernel
theorem d_jdk_42_m149_52 : decode jdk_42_method_149_code 52 = .ok (.aload 5, 2) := by decide +kernel
theorem d_jdk_42_m149_54 : decode jdk_42_method_149_code 54 = .ok (.putfield 9, 3) := by decide +kernel
theorem d_jdk_42_m149_57 : decode jdk_42_method_149_code 57 = .ok (.return_, 1) := by decide +kernel
set_option maxRecDepth 65536 in
set_option maxHeartbeats 40000000 in
theorem rm_initC4 {l : Launch} {Z : State} {a0 : Array Value} (hw : ∀ d ∈ tables_1, d.before a0 Z = true) (hs : ∀ d ∈ jdkStatics_1, d.before a0 Z = true) {x : Addr} {a : Addr} {ka : ClassId} {cs : List Int32} {cap : Nat} {u1 : Value} {u2 : Value} {h0 : Heap} (O0 : Ext Z.heap h0) (E : Exa Z h0 x "java/lang/String") (F1 : Fld Z h0 x "java/lang/String" "value" "[B" u1) (F2 : Fld Z h0 x "java/lang/String" "coder" "B" u2) (gx : Z.heap.size ≤ x) (A : Arv Z h0 a ka .char (Int32.ofNat cs.length) (cs.map Value.int) (.int 0)) (hlat : ∀ c ∈ cs, ¬ c < 0 ∧ c < 256) (hpos : 0 < cs.length) (hlen : cs.length ≤ 4000) (hcap : cs.length ≤ cap) (hcap2 : cap ≤ 4000) :
    own_Ct l Z (⟨"java/lang/String", "<init>", "([CIILjava/lang/Void;)V"⟩ : MethodName) jdk_42_method_149_code 6 none [] ({ frames := 2, locals := 35, cells := 1, slots := 0 + 0 + cap } : Room) #[(.ref x), (.ref a), (.int 0), (.int (Int32.ofNat cs.length)), .null] h0 (fun v h => v = none ∧ Keep h0 h [x] ∧ own_Str Z h x cs) := by
  obtain ⟨zc, SC, hzc⟩ := own_compact hs
  refine own_body (Ls := #[.val (.ref x), .val (.ref a), .val (.int 0), .val (.int (Int32.ofNat cs.length)), .val .null, .unset]) (plainFor_of_name pn_java_lang_String) (fun m => by first | (simp [entryFrame, mkF, argsToLocals, Value.category]; done) | rfl) O0 ?_
  intro p e s m below meth c T0 G K0
  refine own_aloadN K0 d_jdk_42_m149_0 rfl rfl rfl ?_
  refine own_initO K0 (W := 0) (wd12 hw) (wd13 hw) (wd14 hw) rfl rfl (by first | decide | omega | (dsimp only; omega)) (by first | decide | omega | (dsimp only; omega)) d_jdk_42_m149_1 rfl ?_
  intro T124 K124
  refine own_iloadN K124 d_jdk_42_m149_4 rfl rfl ?_
  refine own_ifYes K124 d_jdk_42_m149_5 (pc' := 27) (by decide) (by decide) ((if0 _ _).trans (feq (own_ne0 hpos (by omega))).2) ?_
  refine own_getS K124 (wd15 hw) Via.refl (SC.ext K124.O) d_jdk_42_m149_27 rfl ?_
  intro T125 K125
  refine own_ifNo K125 d_jdk_42_m149_30 rfl ((if0 _ _).trans (feq hzc).1) ?_
  refine own_aloadN K125 d_jdk_42_m149_33 rfl rfl rfl ?_
  refine own_iloadN K125 d_jdk_42_m149_34 rfl rfl ?_
  refine own_iloadN K125 d_jdk_42_m149_35 rfl rfl ?_
  refine own_callS K125 (wd16 hw) (wd17 hw) (rm_compress3 hw hs K125.O A hlat hlen hcap hcap2) (wd19 hw) (wd18 hw) (by decide) (argsL := [(.ref a), (.int 0), (.int (Int32.ofNat cs.length))]) (rest := []) rfl pd_285bCII295bB rfl rfl (W := 0) rfl (by first | decide | omega | (dsimp only; omega)) (by first | decide | omega | (dsimp only; omega)) (by first | decide | omega | (dsimp only; omega)) (by first | decide | omega | (dsimp only; omega)) d_jdk_42_m149_36 rfl ?_
  intro T126 h126 L126 v126 K126 q126
  obtain ⟨b126, kb126, rfl, gb126, E126, V126⟩ := q126
  show G (T126.setTop (mkF m 39 #[.val (.ref x), .val (.ref a), .val (.int 0), .val (.int (Int32.ofNat cs.length)), .val .null, .unset] [(.ref b126)]))
  refine own_astore K126 (Ls' := #[.val (.ref x), .val (.ref a), .val (.int 0), .val (.int (Int32.ofNat cs.length)), .val .null, .val (.ref b126)]) d_jdk_42_m149_39 rfl rfl rfl ?_
  refine own_aloadN K126 d_jdk_42_m149_41 rfl rfl rfl ?_
  refine own_aload K126 d_jdk_42_m149_42 rfl rfl rfl ?_
  refine own_iloadN K126 d_jdk_42_m149_44 rfl rfl ?_
  refine own_callS K126 (wd24 hw) (wd25 hw) (rm_coderFrom hw hs (nn := cs.length) K126.O V126) (wd26 hw) (wd18 hw) (by decide) (argsL := [(.ref b126), (.int (Int32.ofNat cs.length))]) (rest := [(.ref x)]) rfl pd_285bBI29B rfl rfl (W := 1) rfl (by first | decide | omega | (dsimp only; omega)) (by first | decide | omega | (dsimp only; omega)) (by first | decide | omega | (dsimp only; omega)) (by first | decide | omega | (dsimp only; omega)) d_jdk_42_m149_45 rfl ?_
  intro T127 h127 L127 v127 K127 q127
  obtain ⟨rfl, e127⟩ := q127
  have f127 := e127.symm
  subst f127
  show G (T127.setTop (mkF m 48 #[.val (.ref x), .val (.ref a), .val (.int 0), .val (.int (Int32.ofNat cs.length)), .val .null, .val (.ref b126)] [(.int (0 : Int32)), (.ref x)]))
  refine own_putFN K127 (wd27 hw) Via.refl (F2.ext E126) (E.ext E126) (Or.inr ⟨(wd28 hw), rfl, rfl⟩) (wd3 hw) (ty := .byte) (v' := .int 0) (by decide) rfl rfl gx d_jdk_42_m149_48 rfl ?_
  intro T128 h128 K128 W128
  refine own_aloadN K128 d_jdk_42_m149_51 rfl rfl rfl ?_
  refine own_aload K128 d_jdk_42_m149_52 rfl rfl rfl ?_
  refine own_putF K128 (host := "") (Or.inl (wd29 hw)) Via.refl ((F1.ext E126).other W128 (Or.inr (slot_ne (Or.inr (wd30 hw)) (Or.inr (wd28 hw)) (by decide) (t := (.array .byte)) (t' := .byte) (by decide) (by decide)))) ((E.ext E126).wr W128) (Or.inr ⟨(wd30 hw), rfl, rfl⟩) (wd3 hw) (ty := (.array .byte)) (by decide) rfl rfl gx d_jdk_42_m149_54 rfl ?_
  intro T129 h129 K129 W129
  have hne126 : b126 ≠ x := Nat.ne_of_gt (Nat.lt_of_lt_of_le E.lt gb126)
  exact own_ret0 K129 d_jdk_42_m149_57 rfl (by first | decide | omega | (dsimp only; omega)) (by first | decide | omega | (dsimp only; omega)) ⟨rfl, (((Keep.refl h0 [x]).ext E126).wr W128 (Or.inl (List.mem_singleton.mpr rfl))).wr W129 (Or.inl (List.mem_singleton.mpr rfl)), ((E.ext E126).wr W128).wr W129, ((F2.ext E126).same W128).other W129 (Or.inr (slot_ne (Or.inr (wd28 hw)) (Or.inr (wd30 hw)) (by decide) (t := .byte) (t' := (.array .byte)) (by decide) (by decide))), b126, kb126, ((F1.ext E126).other W128 (Or.inr (slot_ne (Or.inr (wd30 hw)) (Or.inr (wd28 hw)) (by decide) (t := (.array .byte)) (t' := .byte) (by decide) (by decide)))).same W129, (V126.other W128 hne126).other W129 hne126⟩
set_option maxRecDepth 65536 in
set_option maxHeartbeats 40000000 in
theorem rm_initC {l : Launch} {Z : State} {a0 : Array Value} (hw : ∀ d ∈ tables_1, d.before a0 Z = true) (hs : ∀ d ∈ jdkStatics_1, d.before a0 Z = true) {x : Addr} {a : Addr} {ka : ClassId} {cs : List Int32} {cap : Nat} {u1 : Value} {u2 : Value} {h0 : Heap} (O0 : Ext Z.heap h0) (E : Exa Z h0 x "java/lang/String") (F1 : Fld Z h0 x "java/lang/String" "value" "[B" u1) (F2 : Fld Z h0 x "java/lang/String" "coder" "B" u2) (gx : Z.heap.size ≤ x) (A : Arv Z h0 a ka .char (Int32.ofNat cs.length) (cs.map Value.int) (.int 0)) (hlat : ∀ c ∈ cs, ¬ c < 0 ∧ c < 256) (hpos : 0 < cs.length) (hlen : cs.length ≤ 4000) (hcap : cs.length ≤ cap) (hcap2 : cap ≤ 4000) :
    own_Ct l Z (⟨"java/lang/String", "<init>", "([C)V"⟩ : MethodName) jdk_42_method_3_code 2 none [] ({ frames := 3, locals := 52, cells := 1, slots := 0 + 0 + 0 + cap } : Room) #[(.ref x), (.ref a)] h0 (fun v h => v = none ∧ Keep h0 h [x] ∧ own_Str Z h x cs) := by
  refine own_body (Ls := #[.val (.ref x), .val (.ref a)]) (plainFor_of_name pn_java_lang_String) (fun m => by first | (simp [entryFrame, mkF, argsToLocals, Value.category]; done) | rfl) O0 ?_
  intro p e s m below meth c T0 G K0
  refine own_aloadN K0 d_jdk_42_m3_0 rfl rfl rfl ?_
  refine own_aloadN K0 d_jdk_42_m3_1 rfl rfl rfl ?_
  refine own_iconst K0 (v := (0 : Int32)) d_jdk_42_m3_2 rfl rfl ?_
  refine own_aloadN K0 d_jdk_42_m3_3 rfl rfl rfl ?_
  refine own_arraylength K0 A d_jdk_42_m3_4 rfl ?_
  refine own_aconstNull K0 d_jdk_42_m3_5 rfl ?_
  refine own_callI K0 (a := x) (wd8 hw) (wd9 hw) (rm_initC4 hw hs K0.O E F1 F2 gx A hlat hpos hlen hcap hcap2) (wd11 hw) (wd4 hw) (by decide) rfl (argsL := [(.ref a), (.int (0 : Int32)), (.int (Int32.ofNat cs.length)), .null]) (rest := []) rfl pd_285bCIILjava2flang2fVoid3b29V rfl rfl (W := 0) rfl (by first | decide | omega | (dsimp only; omega)) (by first | decide | omega | (dsimp only; omega)) (by first | decide | omega | (dsimp only; omega)) (by first | decide | omega | (dsimp only; omega)) d_jdk_42_m3_6 rfl ?_
  intro T130 h130 L130 v130 K130 q130
  obtain ⟨rfl, Kp130, S130⟩ := q130
  show G (T130.setTop (mkF m 9 #[.val (.ref x), .val (.ref a)] []))
  exact own_ret0 K130 d_jdk_42_m3_9 rfl (by first | decide | omega | (dsimp only; omega)) (by first | decide | omega | (dsimp only; omega)) ⟨rfl, Kp130, S130⟩
theorem own_thIn {a0 : Array Value} {Z : State} (hw : ∀ d ∈ tables_1, d.before a0 Z = true) : ∀ d ∈ own_thW "com/example/tallymark/tallymark/MalformedTextException", d.before a0 Z = true := by
  have q : ∀ d ∈ own_thW "com/example/tallymark/tallymark/MalformedTextException", d ∈ tables_1 := by decide +kernel
  exact fun d hd => hw d (q d hd)
theorem wd58 {a0 : Array Value} {Z : State} (hw : ∀ d ∈ tables_1, d.before a0 Z = true) : (Jvm.Cond.initialized "java/lang/Throwable").before a0 Z = true := hw _ (List.mem_of_getElem? (i := 58) rfl)
theorem wd86 {a0 : Array Value} {Z : State} (hw : ∀ d ∈ tables_1, d.before a0 Z = true) : (Jvm.Cond.laysStatic "java/lang/Throwable" "UNASSIGNED_STACK" "[Ljava/lang/StackTraceElement;").before a0 Z = true := hw _ (List.mem_of_getElem? (i := 86) rfl)
theorem wd87 {a0 : Array Value} {Z : State} (hw : ∀ d ∈ tables_1, d.before a0 Z = true) : (Jvm.Cond.laysStatic "java/lang/Throwable" "SUPPRESSED_SENTINEL" "Ljava/util/List;").before a0 Z = true := hw _ (List.mem_of_getElem? (i := 87) rfl)
theorem d_jdk_78_m1_0 : decode jdk_78_method_1_code 0 = .ok (.aload_n 0, 1) := by decide +kernel
theorem d_jdk_78_m1_1 : decode jdk_78_method_1_code 1 = .ok (.invokespecial 1, 3) := by decide +kernel
theorem wd60 {a0 : Array Value} {Z : State} (hw : ∀ d ∈ tables_1, d.before a0 Z = true) : (Jvm.Cond.methodLink "java/lang/Throwable" (1 : Nat) ({ cls := "java/lang/Object", name := "<init>", desc := "()V" } : Jvm.MethodName)).before a0 Z = true := hw _ (List.mem_of_getElem? (i := 60) rfl)
theorem d_jdk_78_m1_4 : decode jdk_78_method_1_code 4 = .ok (.aload_n 0, 1) := by decide +kernel
theorem d_jdk_78_m1_5 : decode jdk_78_method_1_code 5 = .ok (.aload_n 0, 1) := by decide +kernel
theorem wd61 {a0 : Array Value} {Z : State} (hw : ∀ d ∈ tables_1, d.before a0 Z = true) : (Jvm.Cond.fieldLink "java/lang/Throwable" (7 : Nat) "java/lang/Throwable" "cause" "Ljava/lang/Throwable;").before a0 Z = true := hw _ (List.mem_of_getElem? (i := 61) rfl)
theorem wd62 {a0 : Array Value} {Z : State} (hw : ∀ d ∈ tables_1, d.before a0 Z = true) : (Jvm.Cond.lays "com/example/tallymark/tallymark/MalformedTextException" "java/lang/Throwable" "cause" "Ljava/lang/Throwable;").before a0 Z = true := hw _ (List.mem_of_getElem? (i := 62) rfl)
theorem d_jdk_78_m1_6 : decode jdk_78_method_1_code 6 = .ok (.putfield 7, 3) := by decide +kernel
theorem wd32 {a0 : Array Value} {Z : State} (hw : ∀ d ∈ tables_1, d.before a0 Z = true) : (Jvm.Cond.instantiable "com/example/tallymark/tallymark/MalformedTextException" (8 : Nat)).before a0 Z = true := hw _ (List.mem_of_getElem? (i := 32) rfl)
theorem wd65 {a0 : Array Value} {Z : State} (hw : ∀ d ∈ tables_1, d.before a0 Z = true) : (Jvm.Cond.lays "com/example/tallymark/tallymark/MalformedTextException" "java/lang/Throwable" "stackTrace" "[Ljava/lang/StackTraceElement;").before a0 Z = true := hw _ (List.mem_of_getElem? (i := 65) rfl)
theorem wd68 {a0 : Array Value} {Z : State} (hw : ∀ d ∈ tables_1, d.before a0 Z = true) : (Jvm.Cond.lays "com/example/tallymark/tallymark/MalformedTextException" "java/lang/Throwable" "suppressedExceptions" "Ljava/util/List;").before a0 Z = true := hw _ (List.mem_of_getElem? (i := 68) rfl)
theorem wd89 {a0 : Array Value} {Z : State} (hw : ∀ d ∈ tables_1, d.before a0 Z = true) : (Jvm.Cond.lays "com/example/tallymark/tallymark/MalformedTextException" "java/lang/Throwable" "detailMessage" "Ljava/lang/String;").before a0 Z = true := hw _ (List.mem_of_getElem? (i := 89) rfl)
theorem wd90 {a0 : Array Value} {Z : State} (hw : ∀ d ∈ tables_1, d.before a0 Z = true) : (Jvm.Cond.lays "com/example/tallymark/tallymark/MalformedTextException" "java/lang/Throwable" "backtrace" "Ljava/lang/Object;").before a0 Z = true := hw _ (List.mem_of_getElem? (i := 90) rfl)
theorem d_jdk_78_m1_9 : decode jdk_78_method_1_code 9 = .ok (.aload_n 0, 1) := by decide +kernel
theorem d_jdk_78_m1_10 : decode jdk_78_method_1_code 10 = .ok (.getstatic 13, 3) := by decide +kernel
theorem wd63 {a0 : Array Value} {Z : State} (hw : ∀ d ∈ tables_1, d.before a0 Z = true) : (Jvm.Cond.fieldLink "java/lang/Throwable" (13 : Nat) "java/lang/Throwable" "UNASSIGNED_STACK" "[Ljava/lang/StackTraceElement;").before a0 Z = true := hw _ (List.mem_of_getElem? (i := 63) rfl)
theorem wd64 {a0 : Array Value} {Z : State} (hw : ∀ d ∈ tables_1, d.before a0 Z = true) : (Jvm.Cond.fieldLink "java/lang/Throwable" (17 : Nat) "java/lang/Throwable" "stackTrace" "[Ljava/lang/StackTraceElement;").before a0 Z = true := hw _ (List.mem_of_getElem? (i := 64) rfl)
theorem d_jdk_78_m1_13 : decode jdk_78_method_1_code 13 = .ok (.putfield 17, 3) := by decide +kernel
theorem d_jdk_78_m1_16 : decode jdk_78_method_1_code 16 = .ok (.aload_n 0, 1) := by decide +kernel
theorem d_jdk_78_m1_17 : decode jdk_78_method_1_code 17 = .ok (.getstatic 20, 3) := by decide +kernel
theorem wd66 {a0 : Array Value} {Z : State} (hw : ∀ d ∈ tables_1, d.before a0 Z = true) : (Jvm.Cond.fieldLink "java/lang/Throwable" (20 : Nat) "java/lang/Throwable" "SUPPRESSED_SENTINEL" "Ljava/util/List;").before a0 Z = true := hw _ (List.mem_of_getElem? (i := 66) rfl)
theorem wd67 {a0 : Array Value} {Z : State} (hw : ∀ d ∈ tables_1, d.before a0 Z = true) : (Jvm.Cond.fieldLink "java/lang/Throwable" (24 : Nat) "java/lang/Throwable" "suppressedExceptions" "Ljava/util/List;").before a0 Z = true := hw _ (List.mem_of_getElem? (i := 67) rfl)
theorem d_jdk_78_m1_20 : decode jdk_78_method_1_code 20 = .ok (.putfield 24, 3) := by decide +kernel
theorem d_jdk_78_m1_23 : decode jdk_78_method_1_code 23 = .ok (.aload_n 0, 1) := by decide +kernel
theorem d_jdk_78_m1_24 : decode jdk_78_method_1_code 24 = .ok (.invokevirtual 27, 3) := by decide +kernel
theorem d_jdk_78_m1_27 : decode jdk_78_method_1_code 27 = .ok (.pop, 1) := by decide +kernel
theorem wd91 {a0 : Array Value} {Z : State} (hw : ∀ d ∈ tables_1, d.before a0 Z = true) : (Jvm.Cond.lays "com/example/tallymark/tallymark/MalformedTextException" "java/lang/Throwable" "depth" "I").before a0 Z = true := hw _ (List.mem_of_getElem? (i := 91) rfl)
theorem d_jdk_78_m1_28 : decode jdk_78_method_1_code 28 = .ok (.return_, 1) := by decide +kernel
theorem pn_java_lang_Throwable : plainName "java/lang/Throwable" = true := by first | (simp [plainName, overriddenIn]; done) | decide +kernel
set_option maxRecDepth 65536 in
set_option maxHeartbeats 40000000 in
theorem rm_th0 {l : Launch} {Z : State} {a0 : Array Value} (hw : ∀ d ∈ tables_1, d.before a0 Z = true) (hs : ∀ d ∈ jdkStatics_1, d.before a0 Z = true) {x : Addr} {h0 : Heap} (O0 : Ext Z.heap h0) (hl : l.stackTraces = true) (r2 : ∀ d ∈ twoRefs, d.before a0 Z = true) (E : Exa Z h0 x "com/example/tallymark/tallymark/MalformedTextException") (N0 : Unt h0 x) (F_cause : Fld Z h0 x "java/lang/Throwable" "cause" "Ljava/lang/Throwable;" .null) (F_stackTrace : Fld Z h0 x "java/lang/Throwable" "stackTrace" "[Ljava/lang/StackTraceElement;" .null) (F_suppressedExceptions : Fld Z h0 x "java/lang/Throwable" "suppressedExceptions" "Ljava/util/List;" .null) (F_detailMessage : Fld Z h0 x "java/lang/Throwable" "detailMessage" "Ljava/lang/String;" .null) (F_backtrace : Fld Z h0 x "java/lang/Throwable" "backtrace" "Ljava/lang/Object;" .null) (gx : Z.heap.size ≤ x) :
    own_CtK l Z (⟨"java/lang/Throwable", "<init>", "()V"⟩ : MethodName) jdk_78_method_1_code 1 none [] ({ frames := 3, locals := 42, cells := 1, slots := 2752 } : Room) #[(.ref x)] h0 (fun v h => v = none ∧ Kp Z h0 h x ∧ Fld Z h x "java/lang/Throwable" "detailMessage" "Ljava/lang/String;" .null) := by
  obtain ⟨uu, SU, huu⟩ := own_unassigned (r2 _ (List.mem_cons_self ..)) (wd58 hw) (wd86 hw)
  obtain ⟨us, SS, hus⟩ := own_unassigned (r2 _ (List.mem_cons_of_mem _ (List.mem_cons_self ..))) (wd58 hw) (wd87 hw)
  refine own_bodyK (Ls := #[.val (.ref x)]) (plainFor_of_name pn_java_lang_Throwable) (fun m => by first | (simp [entryFrame, mkF, argsToLocals, Value.category]; done) | rfl) O0 ?_
  intro p e s m below meth c T0 G hkn hs0 K0
  refine own_aloadN K0 d_jdk_78_m1_0 rfl rfl rfl ?_
  refine own_initO K0 (W := 0) (wd60 hw) (wd13 hw) (wd14 hw) rfl rfl (by decide) (by decide) d_jdk_78_m1_1 rfl ?_
  intro T131 K131
  refine own_aloadN K131 d_jdk_78_m1_4 rfl rfl rfl ?_
  refine own_aloadN K131 d_jdk_78_m1_5 rfl rfl rfl ?_
  refine own_putF K131 (host := "") (Or.inl (wd61 hw)) Via.refl F_cause E (Or.inl (wd62 hw)) (wd32 hw) (ty := (.object "java/lang/Throwable")) (by decide) rfl rfl gx d_jdk_78_m1_6 rfl ?_
  intro T132 h132 K132 W132
  have G_cause_W132 := F_cause.same W132
  have G_stackTrace_W132 := F_stackTrace.other W132 (Or.inr (slot_ne (Or.inl (wd65 hw)) (Or.inl (wd62 hw)) (by decide) (t := (.array (.object "java/lang/StackTraceElement"))) (t' := (.object "java/lang/Throwable")) (by decide) (by decide)))
  have G_suppressedExceptions_W132 := F_suppressedExceptions.other W132 (Or.inr (slot_ne (Or.inl (wd68 hw)) (Or.inl (wd62 hw)) (by decide) (t := (.object "java/util/List")) (t' := (.object "java/lang/Throwable")) (by decide) (by decide)))
  have G_detailMessage_W132 := F_detailMessage.other W132 (Or.inr (slot_ne (Or.inl (wd89 hw)) (Or.inl (wd62 hw)) (by decide) (t := (.object "java/lang/String")) (t' := (.object "java/lang/Throwable")) (by decide) (by decide)))
  have G_backtrace_W132 := F_backtrace.other W132 (Or.inr (slot_ne (Or.inl (wd90 hw)) (Or.inl (wd62 hw)) (by decide) (t := (.object "java/lang/Object")) (t' := (.object "java/lang/Throwable")) (by decide) (by decide)))
  have E_W132 := E.wr W132
  have U_W132 := N0.wr W132
  refine own_aloadN K132 d_jdk_78_m1_9 rfl rfl rfl ?_
  refine own_getS K132 (wd63 hw) Via.refl (SU.ext K132.O) d_jdk_78_m1_10 rfl ?_
  intro T133 K133
  refine own_putF K133 (host := "") (Or.inl (wd64 hw)) Via.refl G_stackTrace_W132 E_W132 (Or.inl (wd65 hw)) (wd32 hw) (ty := (.array (.object "java/lang/StackTraceElement"))) (by decide) (narrow_isRef _ huu) (fits_refV_array _ ⟨uu, huu⟩) gx d_jdk_78_m1_13 rfl ?_
  intro T134 h134 K134 W134
  have G_cause_W134 := G_cause_W132.other W134 (Or.inr (slot_ne (Or.inl (wd62 hw)) (Or.inl (wd65 hw)) (by decide) (t := (.object "java/lang/Throwable")) (t' := (.array (.object "java/lang/StackTraceElement"))) (by decide) (by decide)))
  have G_stackTrace_W134 := G_stackTrace_W132.same W134
  have G_suppressedExceptions_W134 := G_suppressedExceptions_W132.other W134 (Or.inr (slot_ne (Or.inl (wd68 hw)) (Or.inl (wd65 hw)) (by decide) (t := (.object "java/util/List")) (t' := (.array (.object "java/lang/StackTraceElement"))) (by decide) (by decide)))
  have G_detailMessage_W134 := G_detailMessage_W132.other W134 (Or.inr (slot_ne (Or.inl (wd89 hw)) (Or.inl (wd65 hw)) (by decide) (t := (.object "java/lang/String")) (t' := (.array (.object "java/lang/StackTraceElement"))) (by decide) (by decide)))
  have G_backtrace_W134 := G_backtrace_W132.other W134 (Or.inr (slot_ne (Or.inl (wd90 hw)) (Or.inl (wd65 hw)) (by decide) (t := (.object "java/lang/Object")) (t' := (.array (.object "java/lang/StackTraceElement"))) (by decide) (by decide)))
  have E_W134 := E_W132.wr W134
  have U_W134 := U_W132.wr W134
  refine own_aloadN K134 d_jdk_78_m1_16 rfl rfl rfl ?_
  refine own_getS K134 (wd66 hw) Via.refl (SS.ext K134.O) d_jdk_78_m1_17 rfl ?_
  intro T135 K135
  refine own_putF K135 (host := "") (Or.inl (wd67 hw)) Via.refl G_suppressedExceptions_W134 E_W134 (Or.inl (wd68 hw)) (wd32 hw) (ty := (.object "java/util/List")) (by decide) (narrow_isRef _ hus) (fits_refV_object _ ⟨us, hus⟩) gx d_jdk_78_m1_20 rfl ?_
  intro T136 h136 K136 W136
  have G_cause_W136 := G_cause_W134.other W136 (Or.inr (slot_ne (Or.inl (wd62 hw)) (Or.inl (wd68 hw)) (by decide) (t := (.object "java/lang/Throwable")) (t' := (.object "java/util/List")) (by decide) (by decide)))
  have G_stackTrace_W136 := G_stackTrace_W134.other W136 (Or.inr (slot_ne (Or.inl (wd65 hw)) (Or.inl (wd68 hw)) (by decide) (t := (.array (.object "java/lang/StackTraceElement"))) (t' := (.object "java/util/List")) (by decide) (by decide)))
  have G_suppressedExceptions_W136 := G_suppressedExceptions_W134.same W136
  have G_detailMessage_W136 := G_detailMessage_W134.other W136 (Or.inr (slot_ne (Or.inl (wd89 hw)) (Or.inl (wd68 hw)) (by decide) (t := (.object "java/lang/String")) (t' := (.object "java/util/List")) (by decide) (by decide)))
  have G_backtrace_W136 := G_backtrace_W134.other W136 (Or.inr (slot_ne (Or.inl (wd90 hw)) (Or.inl (wd68 hw)) (by decide) (t := (.object "java/lang/Object")) (t' := (.object "java/util/List")) (by decide) (by decide)))
  have E_W136 := E_W134.wr W136
  have U_W136 := U_W134.wr W136
  refine own_aloadN K136 d_jdk_78_m1_23 rfl rfl rfl ?_
  refine own_fillIn K136 hkn hl (by rw [hs0]; exact O0) (wd32 hw) (own_thIn hw) E_W136 U_W136 G_stackTrace_W136 huu SU G_backtrace_W136 gx rfl (by decide) (by decide) (by decide) (by decide) d_jdk_78_m1_24 rfl ?_
  intro T137 h137 L137 K137 X137 E137 tr137
  refine own_pop K137 d_jdk_78_m1_27 rfl rfl ?_
  have M137 := tr137 G_detailMessage_W136 (slot_ne (Or.inl (wd89 hw)) (Or.inl (wd90 hw)) (by decide) (t := (.object "java/lang/String")) (t' := (.object "java/lang/Object")) (by decide) (by decide)) (slot_ne (Or.inl (wd89 hw)) (Or.inl (wd91 hw)) (by decide) (t := (.object "java/lang/String")) (t' := .int) (by decide) (by decide)) (slot_ne (Or.inl (wd89 hw)) (Or.inl (wd65 hw)) (by decide) (t := (.object "java/lang/String")) (t' := (.array (.object "java/lang/StackTraceElement"))) (by decide) (by decide))
  exact own_ret0 K137 d_jdk_78_m1_28 rfl (by decide) (by decide) ⟨rfl, own_kp K137 hs0 (own_sixA (own_sixA (own_sixA (own_sixA own_six0 (own_six1 (by decide))) (own_six1 (by decide))) (own_six1 (by decide))) X137), M137⟩
theorem d_jdk_59_m1_0 : decode jdk_59_method_1_code 0 = .ok (.aload_n 0, 1) := by decide +kernel
theorem d_jdk_59_m1_1 : decode jdk_59_method_1_code 1 = .ok (.invokespecial 1, 3) := by decide +kernel
theorem wd59 {a0 : Array Value} {Z : State} (hw : ∀ d ∈ tables_1, d.before a0 Z = true) : (Jvm.Cond.code ({ cls := "java/lang/Throwable", name := "<init>", desc := "()V" } : Jvm.MethodName) jdk_78_method_1_code (1 : Nat) (Option.none : Option Jvm.ClassFile.FieldType)).before a0 Z = true := hw _ (List.mem_of_getElem? (i := 59) rfl)
theorem pd_2829V : parseMethodDescriptor "()V" = some ⟨[], none⟩ := by decide +kernel
theorem wd54 {a0 : Array Value} {Z : State} (hw : ∀ d ∈ tables_1, d.before a0 Z = true) : (Jvm.Cond.methodLink "java/lang/Exception" (1 : Nat) ({ cls := "java/lang/Throwable", name := "<init>", desc := "()V" } : Jvm.MethodName)).before a0 Z = true := hw _ (List.mem_of_getElem? (i := 54) rfl)
theorem wd55 {a0 : Array Value} {Z : State} (hw : ∀ d ∈ tables_1, d.before a0 Z = true) : (Jvm.Cond.instanceMethod ({ cls := "java/lang/Throwable", name := "<init>", desc := "()V" } : Jvm.MethodName)).before a0 Z = true := hw _ (List.mem_of_getElem? (i := 55) rfl)
theorem d_jdk_59_m1_4 : decode jdk_59_method_1_code 4 = .ok (.return_, 1) := by decide +kernel
theorem pn_java_lang_Exception : plainName "java/lang/Exception" = true := by first | (simp [plainName, overriddenIn]; done) | decide +kernel
set_option maxRecDepth 65536 in
set_option maxHeartbeats 40000000 in
theorem rm_Exception0 {l : Launch} {Z : State} {a0 : Array Value} (hw : ∀ d ∈ tables_1, d.before a0 Z = true) (hs : ∀ d ∈ jdkStatics_1, d.before a0 Z = true) {x : Addr} {h0 : Heap} (O0 : Ext Z.heap h0) (hl : l.stackTraces = true) (r2 : ∀ d ∈ twoRefs, d.before a0 Z = true) (E : Exa Z h0 x "com/example/tallymark/tallymark/MalformedTextException") (N0 : Unt h0 x) (F_cause : Fld Z h0 x "java/lang/Throwable" "cause" "Ljava/lang/Throwable;" .null) (F_stackTrace : Fld Z h0 x "java/lang/Throwable" "stackTrace" "[Ljava/lang/StackTraceElement;" .null) (F_suppressedExceptions : Fld Z h0 x "java/lang/Throwable" "suppressedExceptions" "Ljava/util/List;" .null) (F_detailMessage : Fld Z h0 x "java/lang/Throwable" "detailMessage" "Ljava/lang/String;" .null) (F_backtrace : Fld Z h0 x "java/lang/Throwable" "backtrace" "Ljava/lang/Object;" .null) (gx : Z.heap.size ≤ x) :
    own_CtK l Z (⟨"java/lang/Exception", "<init>", "()V"⟩ : MethodName) jdk_59_method_1_code 1 none [] ({ frames := 4, locals := 54, cells := 1, slots := 2752 } : Room) #[(.ref x)] h0 (fun v h => v = none ∧ Kp Z h0 h x ∧ Fld Z h x "java/lang/Throwable" "detailMessage" "Ljava/lang/String;" .null) := by
  refine own_bodyK (Ls := #[.val (.ref x)]) (plainFor_of_name pn_java_lang_Exception) (fun m => by first | (simp [entryFrame, mkF, argsToLocals, Value.category]; done) | rfl) O0 ?_
  intro p e s m below meth c T0 G hkn hs0 K0
  refine own_aloadN K0 d_jdk_59_m1_0 rfl rfl rfl ?_
  refine own_callIK K0 hkn (a := x) (wd54 hw) (wd55 hw) (rm_th0 hw hs K0.O hl r2 E N0 F_cause F_stackTrace F_suppressedExceptions F_detailMessage F_backtrace gx) (wd59 hw) (wd58 hw) (by decide) rfl (argsL := []) (rest := []) rfl pd_2829V rfl rfl (W := 0) rfl (by decide) (by decide) (by decide) (by decide) d_jdk_59_m1_1 rfl ?_
  intro T138 h138 L138 v138 K138 q138
  obtain ⟨rfl, P138, M138⟩ := q138
  show G (T138.setTop (mkF m 4 #[.val (.ref x)] []))
  exact own_ret0 K138 d_jdk_59_m1_4 rfl (by decide) (by decide) ⟨rfl, P138, M138⟩
theorem d_jdk_131_m1_0 : decode jdk_131_method_1_code 0 = .ok (.aload_n 0, 1) := by decide +kernel
theorem d_jdk_131_m1_1 : decode jdk_131_method_1_code 1 = .ok (.invokespecial 1, 3) := by decide +kernel
theorem wd53 {a0 : Array Value} {Z : State} (hw : ∀ d ∈ tables_1, d.before a0 Z = true) : (Jvm.Cond.code ({ cls := "java/lang/Exception", name := "<init>", desc := "()V" } : Jvm.MethodName) jdk_59_method_1_code (1 : Nat) (Option.none : Option Jvm.ClassFile.FieldType)).before a0 Z = true := hw _ (List.mem_of_getElem? (i := 53) rfl)
theorem wd52 {a0 : Array Value} {Z : State} (hw : ∀ d ∈ tables_1, d.before a0 Z = true) : (Jvm.Cond.initialized "java/lang/Exception").before a0 Z = true := hw _ (List.mem_of_getElem? (i := 52) rfl)
theorem wd48 {a0 : Array Value} {Z : State} (hw : ∀ d ∈ tables_1, d.before a0 Z = true) : (Jvm.Cond.methodLink "java/io/IOException" (1 : Nat) ({ cls := "java/lang/Exception", name := "<init>", desc := "()V" } : Jvm.MethodName)).before a0 Z = true := hw _ (List.mem_of_getElem? (i := 48) rfl)
theorem wd49 {a0 : Array Value} {Z : State} (hw : ∀ d ∈ tables_1, d.before a0 Z = true) : (Jvm.Cond.instanceMethod ({ cls := "java/lang/Exception", name := "<init>", desc := "()V" } : Jvm.MethodName)).before a0 Z = true := hw _ (List.mem_of_getElem? (i := 49) rfl)
theorem d_jdk_131_m1_4 : decode jdk_131_method_1_code 4 = .ok (.return_, 1) := by decide +kernel
theorem pn_java_io_IOException : plainName "java/io/IOException" = true := by first | (simp [plainName, overriddenIn]; done) | decide +kernel
set_option maxRecDepth 65536 in
set_option maxHeartbeats 40000000 in
theorem rm_IOException0 {l : Launch} {Z : State} {a0 : Array Value} (hw : ∀ d ∈ tables_1, d.before a0 Z = true) (hs : ∀ d ∈ jdkStatics_1, d.before a0 Z = true) {x : Addr} {h0 : Heap} (O0 : Ext Z.heap h0) (hl : l.stackTraces = true) (r2 : ∀ d ∈ twoRefs, d.before a0 Z = true) (E : Exa Z h0 x "com/example/tallymark/tallymark/MalformedTextException") (N0 : Unt h0 x) (F_cause : Fld Z h0 x "java/lang/Throwable" "cause" "Ljava/lang/Throwable;" .null) (F_stackTrace : Fld Z h0 x "java/lang/Throwable" "stackTrace" "[Ljava/lang/StackTraceElement;" .null) (F_suppressedExceptions : Fld Z h0 x "java/lang/Throwable" "suppressedExceptions" "Ljava/util/List;" .null) (F_detailMessage : Fld Z h0 x "java/lang/Throwable" "detailMessage" "Ljava/lang/String;" .null) (F_backtrace : Fld Z h0 x "java/lang/Throwable" "backtrace" "Ljava/lang/Object;" .null) (gx : Z.heap.size ≤ x) :
    own_CtK l Z (⟨"java/io/IOException", "<init>", "()V"⟩ : MethodName) jdk_131_method_1_code 1 none [] ({ frames := 5, locals := 66, cells := 1, slots := 2752 } : Room) #[(.ref x)] h0 (fun v h => v = none ∧ Kp Z h0 h x ∧ Fld Z h x "java/lang/Throwable" "detailMessage" "Ljava/lang/String;" .null) := by
  refine own_bodyK (Ls := #[.val (.ref x)]) (plainFor_of_name pn_java_io_IOException) (fun m => by first | (simp [entryFrame, mkF, argsToLocals, Value.category]; done) | rfl) O0 ?_
  intro p e s m below meth c T0 G hkn hs0 K0
  refine own_aloadN K0 d_jdk_131_m1_0 rfl rfl rfl ?_
  refine own_callIK K0 hkn (a := x) (wd48 hw) (wd49 hw) (rm_Exception0 hw hs K0.O hl r2 E N0 F_cause F_stackTrace F_suppressedExceptions F_detailMessage F_backtrace gx) (wd53 hw) (wd52 hw) (by decide) rfl (argsL := []) (rest := []) rfl pd_2829V rfl rfl (W := 0) rfl (by decide) (by decide) (by decide) (by decide) d_jdk_131_m1_1 rfl ?_
  intro T139 h139 L139 v139 K139 q139
  obtain ⟨rfl, P139, M139⟩ := q139
  show G (T139.setTop (mkF m 4 #[.val (.ref x)] []))
  exact own_ret0 K139 d_jdk_131_m1_4 rfl (by decide) (by decide) ⟨rfl, P139, M139⟩
theorem d_jdk_2189_m1_0 : decode jdk_2189_method_1_code 0 = .ok (.aload_n 0, 1) := by decide +kernel
theorem d_jdk_2189_m1_1 : decode jdk_2189_method_1_code 1 = .ok (.invokespecial 1, 3) := by decide +kernel
theorem wd47 {a0 : Array Value} {Z : State} (hw : ∀ d ∈ tables_1, d.before a0 Z = true) : (Jvm.Cond.code ({ cls := "java/io/IOException", name := "<init>", desc := "()V" } : Jvm.MethodName) jdk_131_method_1_code (1 : Nat) (Option.none : Option Jvm.ClassFile.FieldType)).before a0 Z = true := hw _ (List.mem_of_getElem? (i := 47) rfl)
theorem wd46 {a0 : Array Value} {Z : State} (hw : ∀ d ∈ tables_1, d.before a0 Z = true) : (Jvm.Cond.initialized "java/io/IOException").before a0 Z = true := hw _ (List.mem_of_getElem? (i := 46) rfl)
theorem wd42 {a0 : Array Value} {Z : State} (hw : ∀ d ∈ tables_1, d.before a0 Z = true) : (Jvm.Cond.methodLink "java/nio/charset/CharacterCodingException" (1 : Nat) ({ cls := "java/io/IOException", name := "<init>", desc := "()V" } : Jvm.MethodName)).before a0 Z = true := hw _ (List.mem_of_getElem? (i := 42) rfl)
theorem wd43 {a0 : Array Value} {Z : State} (hw : ∀ d ∈ tables_1, d.before a0 Z = true) : (Jvm.Cond.instanceMethod ({ cls := "java/io/IOException", name := "<init>", desc := "()V" } : Jvm.MethodName)).before a0 Z = true := hw _ (List.mem_of_getElem? (i := 43) rfl)
theorem d_jdk_2189_m1_4 : decode jdk_2189_method_1_code 4 = .ok (.return_, 1) := by decide +kernel
theorem pn_java_nio_charset_CharacterCodingException : plainName "java/nio/charset/CharacterCodingException" = true := by first | (simp [plainName, overriddenIn]; done) | decide +kernel
set_option maxRecDepth 65536 in
set_option maxHeartbeats 40000000 in
theorem rm_CharacterCodingException0 {l : Launch} {Z : State} {a0 : Array Value} (hw : ∀ d ∈ tables_1, d.before a0 Z = true) (hs : ∀ d ∈ jdkStatics_1, d.before a0 Z = true) {x : Addr} {h0 : Heap} (O0 : Ext Z.heap h0) (hl : l.stackTraces = true) (r2 : ∀ d ∈ twoRefs, d.before a0 Z = true) (E : Exa Z h0 x "com/example/tallymark/tallymark/MalformedTextException") (N0 : Unt h0 x) (F_cause : Fld Z h0 x "java/lang/Throwable" "cause" "Ljava/lang/Throwable;" .null) (F_stackTrace : Fld Z h0 x "java/lang/Throwable" "stackTrace" "[Ljava/lang/StackTraceElement;" .null) (F_suppressedExceptions : Fld Z h0 x "java/lang/Throwable" "suppressedExceptions" "Ljava/util/List;" .null) (F_detailMessage : Fld Z h0 x "java/lang/Throwable" "detailMessage" "Ljava/lang/String;" .null) (F_backtrace : Fld Z h0 x "java/lang/Throwable" "backtrace" "Ljava/lang/Object;" .null) (gx : Z.heap.size ≤ x) :
    own_CtK l Z (⟨"java/nio/charset/CharacterCodingException", "<init>", "()V"⟩ : MethodName) jdk_2189_method_1_code 1 none [] ({ frames := 6, locals := 78, cells := 1, slots := 2752 } : Room) #[(.ref x)] h0 (fun v h => v = none ∧ Kp Z h0 h x ∧ Fld Z h x "java/lang/Throwable" "detailMessage" "Ljava/lang/String;" .null) := by
  refine own_bodyK (Ls := #[.val (.ref x)]) (plainFor_of_name pn_java_nio_charset_CharacterCodingException) (fun m => by first | (simp [entryFrame, mkF, argsToLocals, Value.category]; done) | rfl) O0 ?_
  intro p e s m below meth c T0 G hkn hs0 K0
  refine own_aloadN K0 d_jdk_2189_m1_0 rfl rfl rfl ?_
  refine own_callIK K0 hkn (a := x) (wd42 hw) (wd43 hw) (rm_IOException0 hw hs K0.O hl r2 E N0 F_cause F_stackTrace F_suppressedExceptions F_detailMessage F_backtrace gx) (wd47 hw) (wd46 hw) (by decide) rfl (argsL := []) (rest := []) rfl pd_2829V rfl rfl (W := 0) rfl (by decide) (by decide) (by decide) (by decide) d_jdk_2189_m1_1 rfl ?_
  intro T140 h140 L140 v140 K140 q140
  obtain ⟨rfl, P140, M140⟩ := q140
  show G (T140.setTop (mkF m 4 #[.val (.ref x)] []))
  exact own_ret0 K140 d_jdk_2189_m1_4 rfl (by decide) (by decide) ⟨rfl, P140, M140⟩
theorem d_prog_10_m1_0 : decode prog_10_method_1_code 0 = .ok (.aload_n 0, 1) := by decide +kernel
theorem d_prog_10_m1_1 : decode prog_10_method_1_code 1 = .ok (.invokespecial 1, 3) := by decide +kernel
theorem wd41 {a0 : Array Value} {Z : State} (hw : ∀ d ∈ tables_1, d.before a0 Z = true) : (Jvm.Cond.code ({ cls := "java/nio/charset/CharacterCodingException", name := "<init>", desc := "()V" } : Jvm.MethodName) jdk_2189_method_1_code (1 : Nat) (Option.none : Option Jvm.ClassFile.FieldType)).before a0 Z = true := hw _ (List.mem_of_getElem? (i := 41) rfl)
theorem wd40 {a0 : Array Value} {Z : State} (hw : ∀ d ∈ tables_1, d.before a0 Z = true) : (Jvm.Cond.initialized "java/nio/charset/CharacterCodingException").before a0 Z = true := hw _ (List.mem_of_getElem? (i := 40) rfl)
theorem wd37 {a0 : Array Value} {Z : State} (hw : ∀ d ∈ tables_1, d.before a0 Z = true) : (Jvm.Cond.methodLink "com/example/tallymark/tallymark/MalformedTextException" (1 : Nat) ({ cls := "java/nio/charset/CharacterCodingException", name := "<init>", desc := "()V" } : Jvm.MethodName)).before a0 Z = true := hw _ (List.mem_of_getElem? (i := 37) rfl)
theorem wd38 {a0 : Array Value} {Z : State} (hw : ∀ d ∈ tables_1, d.before a0 Z = true) : (Jvm.Cond.instanceMethod ({ cls := "java/nio/charset/CharacterCodingException", name := "<init>", desc := "()V" } : Jvm.MethodName)).before a0 Z = true := hw _ (List.mem_of_getElem? (i := 38) rfl)
theorem wd94 {a0 : Array Value} {Z : State} (hw : ∀ d ∈ tables_1, d.before a0 Z = true) : (Jvm.Cond.laysFinal "com/example/tallymark/tallymark/MalformedTextException" "com/example/tallymark/tallymark/MalformedTextException" "line" "J").before a0 Z = true := hw _ (List.mem_of_getElem? (i := 94) rfl)
theorem wd96 {a0 : Array Value} {Z : State} (hw : ∀ d ∈ tables_1, d.before a0 Z = true) : (Jvm.Cond.laysFinal "com/example/tallymark/tallymark/MalformedTextException" "com/example/tallymark/tallymark/MalformedTextException" "encoding" "Ljava/lang/String;").before a0 Z = true := hw _ (List.mem_of_getElem? (i := 96) rfl)
theorem d_prog_10_m1_4 : decode prog_10_method_1_code 4 = .ok (.aload_n 0, 1) := by decide +kernel
theorem d_prog_10_m1_5 : decode prog_10_method_1_code 5 = .ok (.lload_n 1, 1) := by decide +kernel
theorem wd93 {a0 : Array Value} {Z : State} (hw : ∀ d ∈ tables_1, d.before a0 Z = true) : (Jvm.Cond.fieldLink "com/example/tallymark/tallymark/MalformedTextException" (7 : Nat) "com/example/tallymark/tallymark/MalformedTextException" "line" "J").before a0 Z = true := hw _ (List.mem_of_getElem? (i := 93) rfl)
theorem d_prog_10_m1_6 : decode prog_10_method_1_code 6 = .ok (.putfield 7, 3) := by decide +kernel
theorem d_prog_10_m1_9 : decode prog_10_method_1_code 9 = .ok (.aload_n 0, 1) := by decide +kernel
theorem d_prog_10_m1_10 : decode prog_10_method_1_code 10 = .ok (.aload_n 3, 1) := by decide +kernel
theorem wd95 {a0 : Array Value} {Z : State} (hw : ∀ d ∈ tables_1, d.before a0 Z = true) : (Jvm.Cond.fieldLink "com/example/tallymark/tallymark/MalformedTextException" (13 : Nat) "com/example/tallymark/tallymark/MalformedTextException" "encoding" "Ljava/lang/String;").before a0 Z = true := hw _ (List.mem_of_getElem? (i := 95) rfl)
theorem d_prog_10_m1_11 : decode prog_10_method_1_code 11 = .ok (.putfield 13, 3) := by decide +kernel
theorem d_prog_10_m1_14 : decode prog_10_method_1_code 14 = .ok (.return_, 1) := by decide +kernel
theorem pn_com_example_tallymark_tallymark_MalformedTextException : plainName "com/example/tallymark/tallymark/MalformedTextException" = true := by first | (simp [plainName, overriddenIn]; done) | decide +kernel
set_option maxRecDepth 65536 in
set_option maxHeartbeats 40000000 in
theorem rm_me {l : Launch} {Z : State} {a0 : Array Value} (hw : ∀ d ∈ tables_1, d.before a0 Z = true) (hs : ∀ d ∈ jdkStatics_1, d.before a0 Z = true) {x : Addr} {vl : Int64} {en : Addr} {h0 : Heap} (O0 : Ext Z.heap h0) (hl : l.stackTraces = true) (r2 : ∀ d ∈ twoRefs, d.before a0 Z = true) (E : Exa Z h0 x "com/example/tallymark/tallymark/MalformedTextException") (N0 : Unt h0 x) (F_cause : Fld Z h0 x "java/lang/Throwable" "cause" "Ljava/lang/Throwable;" .null) (F_stackTrace : Fld Z h0 x "java/lang/Throwable" "stackTrace" "[Ljava/lang/StackTraceElement;" .null) (F_suppressedExceptions : Fld Z h0 x "java/lang/Throwable" "suppressedExceptions" "Ljava/util/List;" .null) (F_detailMessage : Fld Z h0 x "java/lang/Throwable" "detailMessage" "Ljava/lang/String;" .null) (F_backtrace : Fld Z h0 x "java/lang/Throwable" "backtrace" "Ljava/lang/Object;" .null) (gx : Z.heap.size ≤ x) (FL : Fld Z h0 x "com/example/tallymark/tallymark/MalformedTextException" "line" "J" (.long 0)) (FE : Fld Z h0 x "com/example/tallymark/tallymark/MalformedTextException" "encoding" "Ljava/lang/String;" .null) :
    own_CtK l Z (⟨"com/example/tallymark/tallymark/MalformedTextException", "<init>", "(JLjava/lang/String;)V"⟩ : MethodName) prog_10_method_1_code 4 none [] ({ frames := 7, locals := 90, cells := 1, slots := 2752 } : Room) #[(.ref x), (.long vl), (.ref en)] h0 (fun v h => v = none ∧ Keep h0 h [x] ∧ Exa Z h x "com/example/tallymark/tallymark/MalformedTextException" ∧ Fld Z h x "com/example/tallymark/tallymark/MalformedTextException" "line" "J" (.long vl) ∧ Fld Z h x "com/example/tallymark/tallymark/MalformedTextException" "encoding" "Ljava/lang/String;" (.ref en)) := by
  refine own_bodyK (Ls := #[.val (.ref x), .val (.long vl), .second, .val (.ref en)]) (plainFor_of_name pn_com_example_tallymark_tallymark_MalformedTextException) (fun m => by first | (simp [entryFrame, mkF, argsToLocals, Value.category]; done) | rfl) O0 ?_
  intro p e s m below meth c T0 G hkn hs0 K0
  refine own_aloadN K0 d_prog_10_m1_0 rfl rfl rfl ?_
  refine own_callIK K0 hkn (a := x) (wd37 hw) (wd38 hw) (rm_CharacterCodingException0 hw hs K0.O hl r2 E N0 F_cause F_stackTrace F_suppressedExceptions F_detailMessage F_backtrace gx) (wd41 hw) (wd40 hw) (by decide) rfl (argsL := []) (rest := []) rfl pd_2829V rfl rfl (W := 0) rfl (by decide) (by decide) (by decide) (by decide) d_prog_10_m1_1 rfl ?_
  intro T141 h141 L141 v141 K141 q141
  obtain ⟨rfl, P1, M1⟩ := q141
  show G (T141.setTop (mkF m 4 #[.val (.ref x), .val (.long vl), .second, .val (.ref en)] []))
  have E1 := E.kp P1
  have FL1 := FL.kp P1 (Or.inr (own_sixNe (slot_ne (Or.inl (wd62 hw)) (Or.inr (wd94 hw)) (by decide) (t := (.object "java/lang/Throwable")) (t' := .long) (by decide) (by decide)) (slot_ne (Or.inl (wd65 hw)) (Or.inr (wd94 hw)) (by decide) (t := (.array (.object "java/lang/StackTraceElement"))) (t' := .long) (by decide) (by decide)) (slot_ne (Or.inl (wd68 hw)) (Or.inr (wd94 hw)) (by decide) (t := (.object "java/util/List")) (t' := .long) (by decide) (by decide)) (slot_ne (Or.inl (wd90 hw)) (Or.inr (wd94 hw)) (by decide) (t := (.object "java/lang/Object")) (t' := .long) (by decide) (by decide)) (slot_ne (Or.inl (wd91 hw)) (Or.inr (wd94 hw)) (by decide) (t := .int) (t' := .long) (by decide) (by decide)) (slot_ne (Or.inl (wd89 hw)) (Or.inr (wd94 hw)) (by decide) (t := (.object "java/lang/String")) (t' := .long) (by decide) (by decide))))
  have FE1 := FE.kp P1 (Or.inr (own_sixNe (slot_ne (Or.inl (wd62 hw)) (Or.inr (wd96 hw)) (by decide) (t := (.object "java/lang/Throwable")) (t' := (.object "java/lang/String")) (by decide) (by decide)) (slot_ne (Or.inl (wd65 hw)) (Or.inr (wd96 hw)) (by decide) (t := (.array (.object "java/lang/StackTraceElement"))) (t' := (.object "java/lang/String")) (by decide) (by decide)) (slot_ne (Or.inl (wd68 hw)) (Or.inr (wd96 hw)) (by decide) (t := (.object "java/util/List")) (t' := (.object "java/lang/String")) (by decide) (by decide)) (slot_ne (Or.inl (wd90 hw)) (Or.inr (wd96 hw)) (by decide) (t := (.object "java/lang/Object")) (t' := (.object "java/lang/String")) (by decide) (by decide)) (slot_ne (Or.inl (wd91 hw)) (Or.inr (wd96 hw)) (by decide) (t := .int) (t' := (.object "java/lang/String")) (by decide) (by decide)) (slot_ne (Or.inl (wd89 hw)) (Or.inr (wd96 hw)) (by decide) (t := (.object "java/lang/String")) (t' := (.object "java/lang/String")) (by decide) (by decide))))
  refine own_aloadN K141 d_prog_10_m1_4 rfl rfl rfl ?_
  refine own_lloadN K141 d_prog_10_m1_5 rfl rfl ?_
  refine own_putF K141 (host := "") (Or.inl (wd93 hw)) Via.refl FL1 E1 (Or.inr ⟨(wd94 hw), rfl, rfl⟩) (wd32 hw) (ty := .long) (by decide) rfl rfl gx d_prog_10_m1_6 rfl ?_
  intro T142 h142 K142 W142
  refine own_aloadN K142 d_prog_10_m1_9 rfl rfl rfl ?_
  refine own_aloadN K142 d_prog_10_m1_10 rfl rfl rfl ?_
  refine own_putF K142 (host := "") (Or.inl (wd95 hw)) Via.refl (FE1.other W142 (Or.inr (slot_ne (Or.inr (wd96 hw)) (Or.inr (wd94 hw)) (by decide) (t := (.object "java/lang/String")) (t' := .long) (by decide) (by decide)))) (E1.wr W142) (Or.inr ⟨(wd96 hw), rfl, rfl⟩) (wd32 hw) (ty := (.object "java/lang/String")) (by decide) rfl rfl gx d_prog_10_m1_11 rfl ?_
  intro T143 h143 K143 W143
  exact own_ret0 K143 d_prog_10_m1_14 rfl (by decide) (by decide) ⟨rfl, ((keep_of_kp P1).wr W142 (Or.inl (List.mem_singleton.mpr rfl))).wr W143 (Or.inl (List.mem_singleton.mpr rfl)), (E1.wr W142).wr W143, (FL1.same W142).other W143 (Or.inr (slot_ne (Or.inr (wd94 hw)) (Or.inr (wd96 hw)) (by decide) (t := .long) (t' := (.object "java/lang/String")) (by decide) (by decide))), (FE1.other W142 (Or.inr (slot_ne (Or.inr (wd96 hw)) (Or.inr (wd94 hw)) (by decide) (t := (.object "java/lang/String")) (t' := .long) (by decide) (by decide)))).same W143⟩
def own_head : List Int32 := [(98 : Int32), (121 : Int32), (116 : Int32), (101 : Int32), (115 : Int32), (32 : Int32), (116 : Int32), (104 : Int32), (97 : Int32), (116 : Int32), (32 : Int32), (97 : Int32), (114 : Int32), (101 : Int32), (32 : Int32), (110 : Int32), (111 : Int32), (116 : Int32), (32 : Int32)]
def own_mid : List Int32 := [(32 : Int32), (116 : Int32), (101 : Int32), (120 : Int32), (116 : Int32), (32 : Int32), (111 : Int32), (110 : Int32), (32 : Int32), (108 : Int32), (105 : Int32), (110 : Int32), (101 : Int32), (32 : Int32)]
def own_msg (ec : List Int32) (vn : Nat) : List Int32 := own_head ++ ec ++ own_mid ++ own_dg vn
theorem own_cap1 : own_cap 16 19 = 34 := by decide
theorem own_cap2 {m : Nat} (h : m ≤ 34) : own_cap 34 m = 34 := by unfold own_cap; rw [if_pos h]
theorem own_cap3 {N m : Nat} (hN : N = 34 ∨ N = 70) (h : m ≤ 70) : own_cap N m = 34 ∨ own_cap N m = 70 := by unfold own_cap; split <;> omega
theorem own_dg_le {n : Nat} (h : n < 9223372036854775808) : (own_dg n).length ≤ 19 := by
  have key : ∀ i n : Nat, n < 10 ^ (i + 1) → (own_dg n).length ≤ i + 1 := fun i => by
    induction i with
    | zero => intro n h; rw [own_dg_lt (by simpa using h)]; exact Nat.le_refl _
    | succ i ih =>
      intro n h
      by_cases h1 : n < 10
      · rw [own_dg_lt h1]; simp
      · have e2 : 10 ^ (i + 1 + 1) = 10 * 10 ^ (i + 1) := by rw [Nat.pow_succ, Nat.mul_comm]
        rw [own_dg_ge (by omega), List.length_append]
        have := ih (n / 10) (by omega)
        simp; omega
  exact key 18 n (by omega)
theorem d_prog_10_m4_0 : decode prog_10_method_4_code 0 = .ok (.new 17, 3) := by decide +kernel
theorem wd102 {a0 : Array Value} {Z : State} (hw : ∀ d ∈ tables_1, d.before a0 Z = true) : (Jvm.Cond.classLink "com/example/tallymark/tallymark/MalformedTextException" (17 : Nat) "java/lang/StringBuilder").before a0 Z = true := hw _ (List.mem_of_getElem? (i := 102) rfl)
theorem d_prog_10_m4_3 : decode prog_10_method_4_code 3 = .ok (.dup, 1) := by decide +kernel
theorem d_prog_10_m4_4 : decode prog_10_method_4_code 4 = .ok (.invokespecial 19, 3) := by decide +kernel
theorem wd107 {a0 : Array Value} {Z : State} (hw : ∀ d ∈ tables_1, d.before a0 Z = true) : (Jvm.Cond.code ({ cls := "java/lang/StringBuilder", name := "<init>", desc := "()V" } : Jvm.MethodName) jdk_67_method_1_code (1 : Nat) (Option.none : Option Jvm.ClassFile.FieldType)).before a0 Z = true := hw _ (List.mem_of_getElem? (i := 107) rfl)
theorem wd105 {a0 : Array Value} {Z : State} (hw : ∀ d ∈ tables_1, d.before a0 Z = true) : (Jvm.Cond.methodLink "com/example/tallymark/tallymark/MalformedTextException" (19 : Nat) ({ cls := "java/lang/StringBuilder", name := "<init>", desc := "()V" } : Jvm.MethodName)).before a0 Z = true := hw _ (List.mem_of_getElem? (i := 105) rfl)
theorem wd106 {a0 : Array Value} {Z : State} (hw : ∀ d ∈ tables_1, d.before a0 Z = true) : (Jvm.Cond.instanceMethod ({ cls := "java/lang/StringBuilder", name := "<init>", desc := "()V" } : Jvm.MethodName)).before a0 Z = true := hw _ (List.mem_of_getElem? (i := 106) rfl)
theorem own_mem_com_example_tallymark_tallymark_MalformedTextException_20 : (("com/example/tallymark/tallymark/MalformedTextException", 20) : String × Nat) ∈ consts_1 := by decide +kernel
theorem d_prog_10_m4_7 : decode prog_10_method_4_code 7 = .ok (.ldc 20, 2) := by decide +kernel
theorem d_prog_10_m4_9 : decode prog_10_method_4_code 9 = .ok (.invokevirtual 22, 3) := by decide +kernel
theorem wd127 {a0 : Array Value} {Z : State} (hw : ∀ d ∈ tables_1, d.before a0 Z = true) : (Jvm.Cond.code ({ cls := "java/lang/StringBuilder", name := "append", desc := "(Ljava/lang/String;)Ljava/lang/StringBuilder;" } : Jvm.MethodName) jdk_67_method_7_code (2 : Nat) (Option.some (Jvm.ClassFile.FieldType.object "java/lang/StringBuilder"))).before a0 Z = true := hw _ (List.mem_of_getElem? (i := 127) rfl)
theorem pd_28Ljava2flang2fString3b29Ljava2flang2fStringBuilder3b : parseMethodDescriptor "(Ljava/lang/String;)Ljava/lang/StringBuilder;" = some ⟨[(.object "java/lang/String")], some (.object "java/lang/StringBuilder")⟩ := by decide +kernel
theorem wd126 {a0 : Array Value} {Z : State} (hw : ∀ d ∈ tables_1, d.before a0 Z = true) : (Jvm.Cond.selects "java/lang/StringBuilder" ({ cls := "java/lang/StringBuilder", name := "append", desc := "(Ljava/lang/String;)Ljava/lang/StringBuilder;" } : Jvm.MethodName) ({ cls := "java/lang/StringBuilder", name := "append", desc := "(Ljava/lang/String;)Ljava/lang/StringBuilder;" } : Jvm.MethodName)).before a0 Z = true := hw _ (List.mem_of_getElem? (i := 126) rfl)
theorem wd123 {a0 : Array Value} {Z : State} (hw : ∀ d ∈ tables_1, d.before a0 Z = true) : (Jvm.Cond.methodLink "com/example/tallymark/tallymark/MalformedTextException" (22 : Nat) ({ cls := "java/lang/StringBuilder", name := "append", desc := "(Ljava/lang/String;)Ljava/lang/StringBuilder;" } : Jvm.MethodName)).before a0 Z = true := hw _ (List.mem_of_getElem? (i := 123) rfl)
theorem wd124 {a0 : Array Value} {Z : State} (hw : ∀ d ∈ tables_1, d.before a0 Z = true) : (Jvm.Cond.declares ({ cls := "java/lang/StringBuilder", name := "append", desc := "(Ljava/lang/String;)Ljava/lang/StringBuilder;" } : Jvm.MethodName)).before a0 Z = true := hw _ (List.mem_of_getElem? (i := 124) rfl)
theorem wd125 {a0 : Array Value} {Z : State} (hw : ∀ d ∈ tables_1, d.before a0 Z = true) : (Jvm.Cond.instanceMethod ({ cls := "java/lang/StringBuilder", name := "append", desc := "(Ljava/lang/String;)Ljava/lang/StringBuilder;" } : Jvm.MethodName)).before a0 Z = true := hw _ (List.mem_of_getElem? (i := 125) rfl)
theorem d_prog_10_m4_12 : decode prog_10_method_4_code 12 = .ok (.aload_n 0, 1) := by decide +kernel
theorem d_prog_10_m4_13 : decode prog_10_method_4_code 13 = .ok (.getfield 13, 3) := by decide +kernel
theorem d_prog_10_m4_16 : decode prog_10_method_4_code 16 = .ok (.invokevirtual 22, 3) := by decide +kernel
theorem own_mem_com_example_tallymark_tallymark_MalformedTextException_26 : (("com/example/tallymark/tallymark/MalformedTextException", 26) : String × Nat) ∈ consts_1 := by decide +kernel
theorem d_prog_10_m4_19 : decode prog_10_method_4_code 19 = .ok (.ldc 26, 2) := by decide +kernel
theorem d_prog_10_m4_21 : decode prog_10_method_4_code 21 = .ok (.invokevirtual 22, 3) := by decide +kernel
theorem d_prog_10_m4_24 : decode prog_10_method_4_code 24 = .ok (.aload_n 0, 1) := by decide +kernel
theorem d_prog_10_m4_25 : decode prog_10_method_4_code 25 = .ok (.getfield 7, 3) := by decide +kernel
theorem d_prog_10_m4_28 : decode prog_10_method_4_code 28 = .ok (.invokevirtual 28, 3) := by decide +kernel
theorem wd198 {a0 : Array Value} {Z : State} (hw : ∀ d ∈ tables_1, d.before a0 Z = true) : (Jvm.Cond.code ({ cls := "java/lang/StringBuilder", name := "append", desc := "(J)Ljava/lang/StringBuilder;" } : Jvm.MethodName) jdk_67_method_16_code (3 : Nat) (Option.some (Jvm.ClassFile.FieldType.object "java/lang/StringBuilder"))).before a0 Z = true := hw _ (List.mem_of_getElem? (i := 198) rfl)
theorem pd_28J29Ljava2flang2fStringBuilder3b : parseMethodDescriptor "(J)Ljava/lang/StringBuilder;" = some ⟨[.long], some (.object "java/lang/StringBuilder")⟩ := by decide +kernel
theorem wd194 {a0 : Array Value} {Z : State} (hw : ∀ d ∈ tables_1, d.before a0 Z = true) : (Jvm.Cond.methodLink "com/example/tallymark/tallymark/MalformedTextException" (28 : Nat) ({ cls := "java/lang/StringBuilder", name := "append", desc := "(J)Ljava/lang/StringBuilder;" } : Jvm.MethodName)).before a0 Z = true := hw _ (List.mem_of_getElem? (i := 194) rfl)
theorem wd195 {a0 : Array Value} {Z : State} (hw : ∀ d ∈ tables_1, d.before a0 Z = true) : (Jvm.Cond.declares ({ cls := "java/lang/StringBuilder", name := "append", desc := "(J)Ljava/lang/StringBuilder;" } : Jvm.MethodName)).before a0 Z = true := hw _ (List.mem_of_getElem? (i := 195) rfl)
theorem wd197 {a0 : Array Value} {Z : State} (hw : ∀ d ∈ tables_1, d.before a0 Z = true) : (Jvm.Cond.selects "java/lang/StringBuilder" ({ cls := "java/lang/StringBuilder", name := "append", desc := "(J)Ljava/lang/StringBuilder;" } : Jvm.MethodName) ({ cls := "java/lang/StringBuilder", name := "append", desc := "(J)Ljava/lang/StringBuilder;" } : Jvm.MethodName)).before a0 Z = true := hw _ (List.mem_of_getElem? (i := 197) rfl)
theorem wd196 {a0 : Array Value} {Z : State} (hw : ∀ d ∈ tables_1, d.before a0 Z = true) : (Jvm.Cond.instanceMethod ({ cls := "java/lang/StringBuilder", name := "append", desc := "(J)Ljava/lang/StringBuilder;" } : Jvm.MethodName)).before a0 Z = true := hw _ (List.mem_of_getElem? (i := 196) rfl)
theorem d_prog_10_m4_31 : decode prog_10_method_4_code 31 = .ok (.invokevirtual 31, 3) := by decide +kernel
theorem wd223 {a0 : Array Value} {Z : State} (hw : ∀ d ∈ tables_1, d.before a0 Z = true) : (Jvm.Cond.code ({ cls := "java/lang/StringBuilder", name := "toString", desc := "()Ljava/lang/String;" } : Jvm.MethodName) jdk_67_method_42_code (1 : Nat) (Option.some (Jvm.ClassFile.FieldType.object "java/lang/String"))).before a0 Z = true := hw _ (List.mem_of_getElem? (i := 223) rfl)
theorem pd_2829Ljava2flang2fString3b : parseMethodDescriptor "()Ljava/lang/String;" = some ⟨[], some (.object "java/lang/String")⟩ := by decide +kernel
theorem wd219 {a0 : Array Value} {Z : State} (hw : ∀ d ∈ tables_1, d.before a0 Z = true) : (Jvm.Cond.methodLink "com/example/tallymark/tallymark/MalformedTextException" (31 : Nat) ({ cls := "java/lang/StringBuilder", name := "toString", desc := "()Ljava/lang/String;" } : Jvm.MethodName)).before a0 Z = true := hw _ (List.mem_of_getElem? (i := 219) rfl)
theorem wd220 {a0 : Array Value} {Z : State} (hw : ∀ d ∈ tables_1, d.before a0 Z = true) : (Jvm.Cond.declares ({ cls := "java/lang/StringBuilder", name := "toString", desc := "()Ljava/lang/String;" } : Jvm.MethodName)).before a0 Z = true := hw _ (List.mem_of_getElem? (i := 220) rfl)
theorem wd222 {a0 : Array Value} {Z : State} (hw : ∀ d ∈ tables_1, d.before a0 Z = true) : (Jvm.Cond.selects "java/lang/StringBuilder" ({ cls := "java/lang/StringBuilder", name := "toString", desc := "()Ljava/lang/String;" } : Jvm.MethodName) ({ cls := "java/lang/StringBuilder", name := "toString", desc := "()Ljava/lang/String;" } : Jvm.MethodName)).before a0 Z = true := hw _ (List.mem_of_getElem? (i := 222) rfl)
theorem wd221 {a0 : Array Value} {Z : State} (hw : ∀ d ∈ tables_1, d.before a0 Z = true) : (Jvm.Cond.instanceMethod ({ cls := "java/lang/StringBuilder", name := "toString", desc := "()Ljava/lang/String;" } : Jvm.MethodName)).before a0 Z = true := hw _ (List.mem_of_getElem? (i := 221) rfl)
theorem d_prog_10_m4_34 : decode prog_10_method_4_code 34 = .ok (.areturn, 1) := by decide +kernel
set_option maxRecDepth 65536 in
set_option maxHeartbeats 40000000 in
theorem rm_getMsg {l : Launch} {Z : State} {a0 : Array Value} (hw : ∀ d ∈ tables_1, d.before a0 Z = true) (hs : ∀ d ∈ jdkStatics_1, d.before a0 Z = true) {x : Addr} {en : Addr} {ec : List Int32} {vn : Nat} {h0 : Heap} (O0 : Ext Z.heap h0) (E : Exa Z h0 x "com/example/tallymark/tallymark/MalformedTextException") (FL : Fld Z h0 x "com/example/tallymark/tallymark/MalformedTextException" "line" "J" (.long (Int64.ofNat vn))) (FE : Fld Z h0 x "com/example/tallymark/tallymark/MalformedTextException" "encoding" "Ljava/lang/String;" (.ref en)) (S : own_StrG Z h0 en false ec) (hec : ec.length ≤ 3) (hoe : own_ok false ec) (hn63 : vn < 9223372036854775808) :
    own_CtW l Z consts_1 true false (⟨"com/example/tallymark/tallymark/MalformedTextException", "getMessage", "()Ljava/lang/String;"⟩ : MethodName) prog_10_method_4_code 1 (some (.object "java/lang/String")) [] ({ frames := 6, locals := 113, cells := 15, slots := 1284 } : Room) #[(.ref x)] h0 (fun v h => ∃ a : Addr, v = some (.ref a) ∧ Ext h0 h ∧ own_StrG Z h a false (own_msg ec vn)) := by
  refine own_bodyW (Ls := #[.val (.ref x)]) (own_EL hw) (plainFor_of_name pn_com_example_tallymark_tallymark_MalformedTextException) (fun m => by first | (simp [entryFrame, mkF, argsToLocals, Value.category]; done) | rfl) O0 ?_
  intro p e s m below meth c T0 G hkn hs0 W0
  obtain ⟨Es, Fs, eb, ek, Fb, Vs⟩ := S
  have hdl := own_dg_le hn63
  refine own_newO W0.K (wd102 hw) (wd103 hw) (wd104 hw) d_prog_10_m4_0 (by first | decide | omega | (dsimp only; omega)) (by first | decide | omega | (dsimp only; omega)) rfl ?_
  intro T144 h144 a144 K144 g144 E144 A144 D144 U144
  have F_value_144 : Fld Z h144 a144 "java/lang/AbstractStringBuilder" "value" "[B" .null := D144 (Or.inl (wd117 hw)) (ty := (.array .byte)) (by decide)
  have F_coder_144 : Fld Z h144 a144 "java/lang/AbstractStringBuilder" "coder" "B" (.int (0 : Int32)) := D144 (Or.inl (wd119 hw)) (ty := .byte) (by decide)
  have F_count_144 : Fld Z h144 a144 "java/lang/AbstractStringBuilder" "count" "I" (.int (0 : Int32)) := D144 (Or.inl (wd144 hw)) (ty := .int) (by decide)
  have W145 := W0.ext K144 E144
  refine own_dup W145.K d_prog_10_m4_3 rfl rfl ?_
  have gx144 : Z.heap.size ≤ a144 := by rw [g144]; exact O0.1
  have sx0 := Safe.exa (EL := consts_1) W145.hZ.alike A144 (by decide) (by decide)
  refine own_callI W145.K (a := a144) (wd105 hw) (wd106 hw) (rm_sbInit0 hw hs W145.K.O A144 F_value_144 F_coder_144 F_count_144 gx144) (wd107 hw) (wd104 hw) (by decide) rfl (argsL := []) (rest := [(.ref a144)]) rfl pd_2829V rfl rfl (W := 1) rfl (by first | decide | omega | (dsimp only; omega)) (by first | decide | omega | (dsimp only; omega)) (by first | decide | omega | (dsimp only; omega)) (by first | decide | omega | (dsimp only; omega)) d_prog_10_m4_4 rfl ?_
  intro T146 h146 L146 v146 K146 q146
  obtain ⟨rfl, Kp146, b146, kb146, nb146, B146⟩ := q146
  show G (T146.setTop (mkF m 7 #[.val (.ref x)] [(.ref a144)]))
  have W147 := W145.keep K146 Kp146 (allS sx0 all0)
  have gxh : h0.size ≤ a144 := Nat.le_of_eq g144.symm
  have sb146 : Safe Z consts_1 _ h146 b146 := Safe.keep Kp146 (allS sx0 all0) W145.C.1 (Safe.new nb146)
  have X146 : Ext h0 h146 := own_ext_keep E144 Kp146 (allS gxh all0)
  have gb146 : h0.size ≤ b146 := Nat.le_trans E144.1 nb146
  have okn : own_ok u ([] : List Int32) := fun _ q => nomatch q
  have sx_head : Safe Z consts_1 _ h146 a144 := Safe.exa W147.hZ.alike B146.exa (by decide) (by decide)
  refine own_ldcC W147 (own_EL hw) (vs := own_by ([(98 : Int32), (121 : Int32), (116 : Int32), (101 : Int32), (115 : Int32), (32 : Int32), (116 : Int32), (104 : Int32), (97 : Int32), (116 : Int32), (32 : Int32), (97 : Int32), (114 : Int32), (101 : Int32), (32 : Int32), (110 : Int32), (111 : Int32), (116 : Int32), (32 : Int32)] : List Int32)) (z := Int32.ofNat ([(98 : Int32), (121 : Int32), (116 : Int32), (101 : Int32), (115 : Int32), (32 : Int32), (116 : Int32), (104 : Int32), (97 : Int32), (116 : Int32), (32 : Int32), (97 : Int32), (114 : Int32), (101 : Int32), (32 : Int32), (110 : Int32), (111 : Int32), (116 : Int32), (32 : Int32)] : List Int32).length) (nn := 76) own_mem_com_example_tallymark_tallymark_MalformedTextException_20 (wd120 hw) (own_strA hw) ⟨by decide +kernel, by decide +kernel⟩ (by decide) (by decide) (by decide) (by decide) (by first | decide | omega | (dsimp only; omega)) (by first | decide | omega | (dsimp only; omega)) d_prog_10_m4_7 rfl ?_
  intro T148 h148 k1_148 a148 b148 kb148 W148 E148 C148 ES148 FC148 FV148 VS148 sf148
  have x1head := C148.safe B146.lt.1 sx_head
  have y1head := C148.safe B146.lt.2 sb146
  have d1head := sf148 a144 x1head
  have d2head := sf148 _ y1head
  have Z1head := own_ext_trans X146 E148
  have VS_head : Arv Z h148 b148 kb148 .byte (Int32.ofNat (own_bn us own_head.length)) (own_bs us own_head) (.int 0) := VS148
  have ho_head : own_ok us own_head := by intro d hd; revert d; decide
  refine own_callV W148.K (a := a144) (x0 := (⟨"java/lang/StringBuilder", "append", "(Ljava/lang/String;)Ljava/lang/StringBuilder;"⟩ : MethodName)) (wd123 hw) (wd124 hw) (fun q => own_nfS (args := #[]) (mvT q (wd126 hw)) rfl) (wd126 hw) (wd125 hw) (rm_appendSG hw hs (cs := ([] : List Int32)) (N := 16) (ds := own_head) (cap := 140) W148.K.O (B146.ext E148) ES148 FC148 FV148 VS_head (by decide) ho_head ⟨d1head.1.symm, d2head.1.symm, d1head.2.symm, d2head.2.symm⟩ okn (by decide) (by omega)) (wd127 hw) (wd104 hw) (by decide) (B146.exa.ext E148) (argsL := [(.ref a148)]) (rest := []) rfl pd_28Ljava2flang2fString3b29Ljava2flang2fStringBuilder3b rfl rfl (W := 0) rfl (by first | decide | omega | (dsimp only; omega)) (by first | decide | omega | (dsimp only; omega)) (by first | decide | omega | (dsimp only; omega)) (by first | decide | omega | (dsimp only; omega)) d_prog_10_m4_9 rfl ?_
  intro T149 h149 L149 v149 K149 q149
  obtain ⟨rfl, Kp149, b149, kb149, nb149, B149⟩ := q149
  show G (T149.setTop (mkF m 12 #[.val (.ref x)] [(.ref a144)]))
  have W150 := W148.keep K149 Kp149 (allS x1head (allS y1head all0))
  have sb149 : Safe Z consts_1 _ h149 b149 := Safe.keep Kp149 (allS x1head (allS y1head all0)) W148.C.1 (nb149.elim (fun q => q ▸ y1head) Safe.new)
  have gb149 : h0.size ≤ b149 := nb149.elim (fun q => q ▸ gb146) (fun q => Nat.le_trans Z1head.1 q)
  have X149 : Ext h0 h149 := own_ext_keep Z1head Kp149 (allS gxh (allS gb146 all0))
  rw [show own_cap 16 (([] : List Int32).length + own_head.length) = 34 from by decide] at B149
  have ok149 : own_ok u (([] : List Int32) ++ own_head) := fun c hc => (List.mem_append.mp hc).elim (okn c) (ho_head c)
  refine own_aloadN W150.K d_prog_10_m4_12 rfl rfl rfl ?_
  refine own_getF W150.K (host := "") (Or.inl (wd95 hw)) Via.refl (FE.ext X149) d_prog_10_m4_13 rfl ?_
  intro T151 K151
  have sx_e : Safe Z consts_1 _ h149 a144 := Safe.exa W150.hZ.alike B149.exa (by decide) (by decide)
  have W152 := W150.same K151
  have he1 : en < h0.size := Es.lt
  have he2 : eb < h0.size := Vs.lt
  have q1 := Nat.ne_of_lt (Nat.lt_of_lt_of_le he1 gxh)
  have q2 := Nat.ne_of_lt (Nat.lt_of_lt_of_le he1 gb149)
  have q3 := Nat.ne_of_lt (Nat.lt_of_lt_of_le he2 gxh)
  have q4 := Nat.ne_of_lt (Nat.lt_of_lt_of_le he2 gb149)
  have hl0 : ((([] : List Int32) ++ own_head)).length = 19 := rfl
  have hc2 : own_cap 34 (((([] : List Int32) ++ own_head)).length + ec.length) = 34 := own_cap2 (by omega)
  refine own_callV W152.K (a := a144) (x0 := (⟨"java/lang/StringBuilder", "append", "(Ljava/lang/String;)Ljava/lang/StringBuilder;"⟩ : MethodName)) (wd123 hw) (wd124 hw) (fun q => own_nfS (args := #[]) (mvT q (wd126 hw)) rfl) (wd126 hw) (wd125 hw) (rm_appendSG hw hs (cs := (([] : List Int32) ++ own_head)) (N := 34) (ds := ec) (cap := 140) W152.K.O B149 (Es.ext X149) (Fs.ext X149) (Fb.ext X149) (Vs.ext X149) (by omega) hoe ⟨q1, q2, q3, q4⟩ ok149 (by omega) (by omega)) (wd127 hw) (wd104 hw) (by decide) B149.exa (argsL := [(.ref en)]) (rest := []) rfl pd_28Ljava2flang2fString3b29Ljava2flang2fStringBuilder3b rfl rfl (W := 0) rfl (by first | decide | omega | (dsimp only; omega)) (by first | decide | omega | (dsimp only; omega)) (by first | decide | omega | (dsimp only; omega)) (by first | decide | omega | (dsimp only; omega)) d_prog_10_m4_16 rfl ?_
  intro T153 h153 L153 v153 K153 q153
  obtain ⟨rfl, Kp153, b153, kb153, nb153, B153⟩ := q153
  show G (T153.setTop (mkF m 19 #[.val (.ref x)] [(.ref a144)]))
  have W154 := W152.keep K153 Kp153 (allS sx_e (allS sb149 all0))
  have sb153 : Safe Z consts_1 _ h153 b153 := Safe.keep Kp153 (allS sx_e (allS sb149 all0)) W152.C.1 (nb153.elim (fun q => q ▸ sb149) Safe.new)
  have gb153 : h0.size ≤ b153 := nb153.elim (fun q => q ▸ gb149) (fun q => Nat.le_trans X149.1 q)
  have X153 : Ext h0 h153 := own_ext_keep X149 Kp153 (allS gxh (allS gb149 all0))
  rw [hc2] at B153
  have ok153 : own_ok u ((([] : List Int32) ++ own_head) ++ ec) := fun c hc => (List.mem_append.mp hc).elim (ok149 c) (hoe c)
  have hl1 : (((([] : List Int32) ++ own_head) ++ ec)).length = 19 + ec.length := by rw [List.length_append, hl0]
  have hc3 := own_cap3 (N := 34) (m := (((([] : List Int32) ++ own_head) ++ ec)).length + own_mid.length) (Or.inl rfl) (by rw [hl1, show own_mid.length = 14 from rfl]; omega)
  have sx_mid : Safe Z consts_1 _ h153 a144 := Safe.exa W154.hZ.alike B153.exa (by decide) (by decide)
  refine own_ldcC W154 (own_EL hw) (vs := own_by ([(32 : Int32), (116 : Int32), (101 : Int32), (120 : Int32), (116 : Int32), (32 : Int32), (111 : Int32), (110 : Int32), (32 : Int32), (108 : Int32), (105 : Int32), (110 : Int32), (101 : Int32), (32 : Int32)] : List Int32)) (z := Int32.ofNat ([(32 : Int32), (116 : Int32), (101 : Int32), (120 : Int32), (116 : Int32), (32 : Int32), (111 : Int32), (110 : Int32), (32 : Int32), (108 : Int32), (105 : Int32), (110 : Int32), (101 : Int32), (32 : Int32)] : List Int32).length) (nn := 56) own_mem_com_example_tallymark_tallymark_MalformedTextException_26 (wd193 hw) (own_strA hw) ⟨by decide +kernel, by decide +kernel⟩ (by decide) (by decide) (by decide) (by decide) (by first | decide | omega | (dsimp only; omega)) (by first | decide | omega | (dsimp only; omega)) d_prog_10_m4_19 rfl ?_
  intro T155 h155 k1_155 a155 b155 kb155 W155 E155 C155 ES155 FC155 FV155 VS155 sf155
  have x1mid := C155.safe B153.lt.1 sx_mid
  have y1mid := C155.safe B153.lt.2 sb153
  have d1mid := sf155 a144 x1mid
  have d2mid := sf155 _ y1mid
  have Z1mid := own_ext_trans X153 E155
  have VS_mid : Arv Z h155 b155 kb155 .byte (Int32.ofNat (own_bn us own_mid.length)) (own_bs us own_mid) (.int 0) := VS155
  have ho_mid : own_ok us own_mid := by intro d hd; revert d; decide
  refine own_callV W155.K (a := a144) (x0 := (⟨"java/lang/StringBuilder", "append", "(Ljava/lang/String;)Ljava/lang/StringBuilder;"⟩ : MethodName)) (wd123 hw) (wd124 hw) (fun q => own_nfS (args := #[]) (mvT q (wd126 hw)) rfl) (wd126 hw) (wd125 hw) (rm_appendSG hw hs (cs := ((([] : List Int32) ++ own_head) ++ ec)) (N := 34) (ds := own_mid) (cap := 140) W155.K.O (B153.ext E155) ES155 FC155 FV155 VS_mid (by decide) ho_mid ⟨d1mid.1.symm, d2mid.1.symm, d1mid.2.symm, d2mid.2.symm⟩ ok153 (by omega) (by omega)) (wd127 hw) (wd104 hw) (by decide) (B153.exa.ext E155) (argsL := [(.ref a155)]) (rest := []) rfl pd_28Ljava2flang2fString3b29Ljava2flang2fStringBuilder3b rfl rfl (W := 0) rfl (by first | decide | omega | (dsimp only; omega)) (by first | decide | omega | (dsimp only; omega)) (by first | decide | omega | (dsimp only; omega)) (by first | decide | omega | (dsimp only; omega)) d_prog_10_m4_21 rfl ?_
  intro T156 h156 L156 v156 K156 q156
  obtain ⟨rfl, Kp156, b156, kb156, nb156, B156⟩ := q156
  show G (T156.setTop (mkF m 24 #[.val (.ref x)] [(.ref a144)]))
  have W157 := W155.keep K156 Kp156 (allS x1mid (allS y1mid all0))
  have sb156 : Safe Z consts_1 _ h156 b156 := Safe.keep Kp156 (allS x1mid (allS y1mid all0)) W155.C.1 (nb156.elim (fun q => q ▸ y1mid) Safe.new)
  have gb156 : h0.size ≤ b156 := nb156.elim (fun q => q ▸ gb153) (fun q => Nat.le_trans Z1mid.1 q)
  have X156 : Ext h0 h156 := own_ext_keep Z1mid Kp156 (allS gxh (allS gb153 all0))
  have ok156 : own_ok u (((([] : List Int32) ++ own_head) ++ ec) ++ own_mid) := fun c hc => (List.mem_append.mp hc).elim (ok153 c) (ho_mid c)
  have hl2 : ((((([] : List Int32) ++ own_head) ++ ec) ++ own_mid)).length = 33 + ec.length := by rw [List.length_append, hl1, show own_mid.length = 14 from rfl]; omega
  refine own_aloadN W157.K d_prog_10_m4_24 rfl rfl rfl ?_
  refine own_getF W157.K (host := "") (Or.inl (wd93 hw)) Via.refl (FL.ext X156) d_prog_10_m4_25 rfl ?_
  intro T158 K158
  have sx_j : Safe Z consts_1 _ h156 a144 := Safe.exa W157.hZ.alike B156.exa (by decide) (by decide)
  have W159 := W157.same K158
  have hc4 := own_cap3 (m := ((((([] : List Int32) ++ own_head) ++ ec) ++ own_mid)).length + (own_dg vn).length) hc3 (by omega)
  refine own_callV W159.K (a := a144) (x0 := (⟨"java/lang/StringBuilder", "append", "(J)Ljava/lang/StringBuilder;"⟩ : MethodName)) (wd194 hw) (wd195 hw) (fun q => own_nfS (args := #[]) (mvT q (wd126 hw)) rfl) (wd197 hw) (wd196 hw) (rm_appendJ hw hs (cs := (((([] : List Int32) ++ own_head) ++ ec) ++ own_mid)) (N := (own_cap 34 ((((([] : List Int32) ++ own_head) ++ ec)).length + own_mid.length))) (cap := 140) W159.K.O B156 rfl hn63 (by omega) (by omega)) (wd198 hw) (wd104 hw) (by decide) B156.exa (argsL := [(.long (Int64.ofNat vn))]) (rest := []) rfl pd_28J29Ljava2flang2fStringBuilder3b rfl rfl (W := 0) rfl (by first | decide | omega | (dsimp only; omega)) (by first | decide | omega | (dsimp only; omega)) (by first | decide | omega | (dsimp only; omega)) (by first | decide | omega | (dsimp only; omega)) d_prog_10_m4_28 rfl ?_
  intro T160 h160 L160 v160 K160 q160
  obtain ⟨rfl, Kp160, b160, kb160, nb160, B160⟩ := q160
  show G (T160.setTop (mkF m 31 #[.val (.ref x)] [(.ref a144)]))
  have W161 := W159.keep K160 Kp160 (allS sx_j (allS sb156 all0))
  have sb160 : Safe Z consts_1 _ h160 b160 := Safe.keep Kp160 (allS sx_j (allS sb156 all0)) W159.C.1 (nb160.elim (fun q => q ▸ sb156) Safe.new)
  have gb160 : h0.size ≤ b160 := nb160.elim (fun q => q ▸ gb156) (fun q => Nat.le_trans X156.1 q)
  have X160 : Ext h0 h160 := own_ext_keep X156 Kp160 (allS gxh (allS gb156 all0))
  have ok160 : own_ok u ((((([] : List Int32) ++ own_head) ++ ec) ++ own_mid) ++ own_dg vn) := fun c hc => (List.mem_append.mp hc).elim (ok156 c) (own_dg_ok vn c)
  have hge := own_cap_ge (own_cap 34 ((((([] : List Int32) ++ own_head) ++ ec)).length + own_mid.length)) (((((([] : List Int32) ++ own_head) ++ ec) ++ own_mid)).length + (own_dg vn).length)
  have hl3 : (((((([] : List Int32) ++ own_head) ++ ec) ++ own_mid) ++ own_dg vn)).length ≤ 70 := by rw [List.length_append]; omega
  refine own_callV W161.K (a := a144) (x0 := (⟨"java/lang/StringBuilder", "toString", "()Ljava/lang/String;"⟩ : MethodName)) (wd219 hw) (wd220 hw) (fun q => own_nfS (args := #[]) (mvT q (wd126 hw)) rfl) (wd222 hw) (wd221 hw) (rm_toString hw hs (cap := 140) W161.K.O B160 (by rw [List.length_append]; omega) (by omega) (by omega)) (wd223 hw) (wd104 hw) (by decide) B160.exa (argsL := []) (rest := []) rfl pd_2829Ljava2flang2fString3b rfl rfl (W := 0) rfl (by first | decide | omega | (dsimp only; omega)) (by first | decide | omega | (dsimp only; omega)) (by first | decide | omega | (dsimp only; omega)) (by first | decide | omega | (dsimp only; omega)) d_prog_10_m4_31 rfl ?_
  intro T162 h162 L162 v162 K162 q162
  obtain ⟨r162, rfl, gr162, E162, S162⟩ := q162
  show G (T162.setTop (mkF m 34 #[.val (.ref x)] [(.ref r162)]))
  have W163 := W161.ext K162 E162
  exact own_retA W163.K d_prog_10_m4_34 rfl rfl rfl rfl (by first | decide | omega | (dsimp only; omega)) (by first | decide | omega | (dsimp only; omega)) ⟨⟨⟨r162, rfl, own_ext_trans X160 E162, S162⟩, W163.le⟩, fun _ => W163.C⟩
theorem own_lcd {n k : Nat} (h : n < 9223372036854775808) (hk : k < 9223372036854775808) : lcmpW (Int64.ofNat n) (Int64.ofNat k) < 0 ↔ n < k := by
  rw [lw_lt, Int64.lt_iff_toInt_lt, own_J h, own_J hk]; omega
theorem own_line (x : Int64) : ∃ n : Nat, n < 9223372036854775808 ∧ x &&& (9223372036854775807 : Int64) = Int64.ofNat n := by
  have h := c_maskL x 9223372036854775807 63 (by decide) (by decide)
  refine ⟨(x &&& (9223372036854775807 : Int64)).toInt.toNat, by omega, Int64.toInt_inj.mp ?_⟩
  rw [own_J (by omega)]; omega
theorem own_digE {n p : Nat} (h : n < 9223372036854775808) (hp : 0 < p ∧ p < 9223372036854775808) : ((48 : Int32) + ((Int64.ofNat n / Int64.ofNat p) % (10 : Int64)).toInt32).toUInt32.toUInt16.toUInt32.toInt32 = Int32.ofNat (48 + n / p % 10) := by
  have e : Int64.ofNat p ≠ -1 := fun q => by
    have h9 := congrArg Int64.toInt q
    rw [own_J hp.2, show (-1 : Int64).toInt = -1 from by decide] at h9
    omega
  have h1 := (c_ldiv (Int64.ofNat n) (Int64.ofNat p) p (own_J hp.2) e).1
  rw [own_J h] at h1
  have h2 := h1 (by omega)
  have hd : (n : Int) / (p : Int) = ((n / p : Nat) : Int) := by simp
  rw [hd] at h2
  clear hd h1
  generalize n / p = q at h2 ⊢
  generalize Int64.ofNat n / Int64.ofNat p = z at h2 ⊢
  have h3 := (c_lrem z 10 10 rfl).1
  rw [lrem_mod] at h3
  have h4 := h3 (by omega)
  rw [h2] at h4
  have h5 := c_l2i (z % (10 : Int64))
  have r3 := own_r32 (z % (10 : Int64)).toInt32
  have h6 := c_iadd 48 (z % (10 : Int64)).toInt32
  rw [show (48 : Int32).toInt = 48 from rfl] at h6
  have r4 := own_r32 (48 + (z % (10 : Int64)).toInt32)
  have h7 := c_i2c (48 + (z % (10 : Int64)).toInt32)
  apply Int32.toInt_inj.mp
  rw [Int32.toInt_ofNat_of_lt (by omega)]
  omega
theorem own_atM (pre ds post : List Int32) {i : Nat} (h : i < ds.length) : (pre ++ ds ++ post)[pre.length + i]? = some ds[i] := by
  rw [List.append_assoc, List.getElem?_append_right (by omega), Nat.add_sub_cancel_left, List.getElem?_append_left h, List.getElem?_eq_getElem h]
theorem own_dgM (pre : List Int32) {n i : Nat} (h : i < (own_dg n).length) : (pre ++ own_dg n)[(pre ++ own_dg n).length - 1 - i]? = some (Int32.ofNat (48 + n / 10 ^ i % 10)) := by
  rw [List.length_append, List.getElem?_append_right (by omega), show pre.length + (own_dg n).length - 1 - i - pre.length = (own_dg n).length - 1 - i by omega]
  exact own_dg_at i n h
theorem d_m3_0 : decode method_3_code 0 = .ok (.iconst 1, 1) := by decide +kernel
theorem d_m3_1 : decode method_3_code 1 = .ok (.istore_n 2, 1) := by decide +kernel
theorem d_m3_2 : decode method_3_code 2 = .ok (.lload_n 0, 1) := by decide +kernel
theorem wd260 {a0 : Array Value} {Z : State} (hw : ∀ d ∈ tables_1, d.before a0 Z = true) : (Jvm.Cond.constantLong "com/example/tallymark/tallymark/MalformedTextExceptionGetMessagePinLaw" (47 : Nat) (10 : Int64)).before a0 Z = true := hw _ (List.mem_of_getElem? (i := 260) rfl)
theorem d_m3_3 : decode method_3_code 3 = .ok (.ldc2_w 47, 3) := by decide +kernel
theorem d_m3_6 : decode method_3_code 6 = .ok (.lcmp, 1) := by decide +kernel
theorem d_m3_7 : decode method_3_code 7 = .ok (.ifCond .lt 6, 3) := by decide +kernel
theorem d_m3_13 : decode method_3_code 13 = .ok (.lload_n 0, 1) := by decide +kernel
theorem wd261 {a0 : Array Value} {Z : State} (hw : ∀ d ∈ tables_1, d.before a0 Z = true) : (Jvm.Cond.constantLong "com/example/tallymark/tallymark/MalformedTextExceptionGetMessagePinLaw" (49 : Nat) (100 : Int64)).before a0 Z = true := hw _ (List.mem_of_getElem? (i := 261) rfl)
theorem d_m3_14 : decode method_3_code 14 = .ok (.ldc2_w 49, 3) := by decide +kernel
theorem d_m3_17 : decode method_3_code 17 = .ok (.lcmp, 1) := by decide +kernel
theorem d_m3_18 : decode method_3_code 18 = .ok (.ifCond .lt 6, 3) := by decide +kernel
theorem d_m3_24 : decode method_3_code 24 = .ok (.lload_n 0, 1) := by decide +kernel
theorem wd262 {a0 : Array Value} {Z : State} (hw : ∀ d ∈ tables_1, d.before a0 Z = true) : (Jvm.Cond.constantLong "com/example/tallymark/tallymark/MalformedTextExceptionGetMessagePinLaw" (51 : Nat) (1000 : Int64)).before a0 Z = true := hw _ (List.mem_of_getElem? (i := 262) rfl)
theorem d_m3_25 : decode method_3_code 25 = .ok (.ldc2_w 51, 3) := by decide +kernel
theorem d_m3_28 : decode method_3_code 28 = .ok (.lcmp, 1) := by decide +kernel
theorem d_m3_29 : decode method_3_code 29 = .ok (.ifCond .lt 6, 3) := by decide +kernel
theorem d_m3_35 : decode method_3_code 35 = .ok (.lload_n 0, 1) := by decide +kernel
theorem wd263 {a0 : Array Value} {Z : State} (hw : ∀ d ∈ tables_1, d.before a0 Z = true) : (Jvm.Cond.constantLong "com/example/tallymark/tallymark/MalformedTextExceptionGetMessagePinLaw" (53 : Nat) (10000 : Int64)).before a0 Z = true := hw _ (List.mem_of_getElem? (i := 263) rfl)
theorem d_m3_36 : decode method_3_code 36 = .ok (.ldc2_w 53, 3) := by decide +kernel
theorem d_m3_39 : decode method_3_code 39 = .ok (.lcmp, 1) := by decide +kernel
theorem d_m3_40 : decode method_3_code 40 = .ok (.ifCond .lt 6, 3) := by decide +kernel
theorem d_m3_46 : decode method_3_code 46 = .ok (.lload_n 0, 1) := by decide +kernel
theorem wd264 {a0 : Array Value} {Z : State} (hw : ∀ d ∈ tables_1, d.before a0 Z = true) : (Jvm.Cond.constantLong "com/example/tallymark/tallymark/MalformedTextExceptionGetMessagePinLaw" (55 : Nat) (100000 : Int64)).before a0 Z = true := hw _ (List.mem_of_getElem? (i := 264) rfl)
theorem d_m3_47 : decode method_3_code 47 = .ok (.ldc2_w 55, 3) := by decide +kernel
theorem d_m3_50 : decode method_3_code 50 = .ok (.lcmp, 1) := by decide +kernel
theorem d_m3_51 : decode method_3_code 51 = .ok (.ifCond .lt 6, 3) := by decide +kernel
theorem d_m3_57 : decode method_3_code 57 = .ok (.lload_n 0, 1) := by decide +kernel
theorem wd265 {a0 : Array Value} {Z : State} (hw : ∀ d ∈ tables_1, d.before a0 Z = true) : (Jvm.Cond.constantLong "com/example/tallymark/tallymark/MalformedTextExceptionGetMessagePinLaw" (57 : Nat) (1000000 : Int64)).before a0 Z = true := hw _ (List.mem_of_getElem? (i := 265) rfl)
theorem d_m3_58 : decode method_3_code 58 = .ok (.ldc2_w 57, 3) := by decide +kernel
theorem d_m3_61 : decode method_3_code 61 = .ok (.lcmp, 1) := by decide +kernel
theorem d_m3_62 : decode method_3_code 62 = .ok (.ifCond .lt 6, 3) := by decide +kernel
theorem d_m3_68 : decode method_3_code 68 = .ok (.lload_n 0, 1) := by decide +kernel
theorem wd266 {a0 : Array Value} {Z : State} (hw : ∀ d ∈ tables_1, d.before a0 Z = true) : (Jvm.Cond.constantLong "com/example/tallymark/tallymark/MalformedTextExceptionGetMessagePinLaw" (59 : Nat) (10000000 : Int64)).before a0 Z = true := hw _ (List.mem_of_getElem? (i := 266) rfl)
theorem d_m3_69 : decode method_3_code 69 = .ok (.ldc2_w 59, 3) := by decide +kernel
theorem d_m3_72 : decode method_3_code 72 = .ok (.lcmp, 1) := by decide +kernel
theorem d_m3_73 : decode method_3_code 73 = .ok (.ifCond .lt 6, 3) := by decide +kernel
theorem d_m3_79 : decode method_3_code 79 = .ok (.lload_n 0, 1) := by decide +kernel
theorem wd267 {a0 : Array Value} {Z : State} (hw : ∀ d ∈ tables_1, d.before a0 Z = true) : (Jvm.Cond.constantLong "com/example/tallymark/tallymark/MalformedTextExceptionGetMessagePinLaw" (61 : Nat) (100000000 : Int64)).before a0 Z = true := hw _ (List.mem_of_getElem? (i := 267) rfl)
theorem d_m3_80 : decode method_3_code 80 = .ok (.ldc2_w 61, 3) := by decide +kernel
theorem d_m3_83 : decode method_3_code 83 = .ok (.lcmp, 1) := by decide +kernel
theorem d_m3_84 : decode method_3_code 84 = .ok (.ifCond .lt 6, 3) := by decide +kernel
theorem d_m3_90 : decode method_3_code 90 = .ok (.lload_n 0, 1) := by decide +kernel
theorem wd268 {a0 : Array Value} {Z : State} (hw : ∀ d ∈ tables_1, d.before a0 Z = true) : (Jvm.Cond.constantLong "com/example/tallymark/tallymark/MalformedTextExceptionGetMessagePinLaw" (63 : Nat) (1000000000 : Int64)).before a0 Z = true := hw _ (List.mem_of_getElem? (i := 268) rfl)
theorem d_m3_91 : decode method_3_code 91 = .ok (.ldc2_w 63, 3) := by decide +kernel
theorem d_m3_94 : decode method_3_code 94 = .ok (.lcmp, 1) := by decide +kernel
theorem d_m3_95 : decode method_3_code 95 = .ok (.ifCond .lt 6, 3) := by decide +kernel
theorem d_m3_101 : decode method_3_code 101 = .ok (.lload_n 0, 1) := by decide +kernel
theorem wd269 {a0 : Array Value} {Z : State} (hw : ∀ d ∈ tables_1, d.before a0 Z = true) : (Jvm.Cond.constantLong "com/example/tallymark/tallymark/MalformedTextExceptionGetMessagePinLaw" (65 : Nat) (10000000000 : Int64)).before a0 Z = true := hw _ (List.mem_of_getElem? (i := 269) rfl)
theorem d_m3_102 : decode method_3_code 102 = .ok (.ldc2_w 65, 3) := by decide +kernel
theorem d_m3_105 : decode method_3_code 105 = .ok (.lcmp, 1) := by decide +kernel
theorem d_m3_106 : decode method_3_code 106 = .ok (.ifCond .lt 6, 3) := by decide +kernel
theorem d_m3_112 : decode method_3_code 112 = .ok (.lload_n 0, 1) := by decide +kernel
theorem wd270 {a0 : Array Value} {Z : State} (hw : ∀ d ∈ tables_1, d.before a0 Z = true) : (Jvm.Cond.constantLong "com/example/tallymark/tallymark/MalformedTextExceptionGetMessagePinLaw" (67 : Nat) (100000000000 : Int64)).before a0 Z = true := hw _ (List.mem_of_getElem? (i := 270) rfl)
theorem d_m3_113 : decode method_3_code 113 = .ok (.ldc2_w 67, 3) := by decide +kernel
theorem d_m3_116 : decode method_3_code 116 = .ok (.lcmp, 1) := by decide +kernel
theorem d_m3_117 : decode method_3_code 117 = .ok (.ifCond .lt 6, 3) := by decide +kernel
theorem d_m3_123 : decode method_3_code 123 = .ok (.lload_n 0, 1) := by decide +kernel
theorem wd271 {a0 : Array Value} {Z : State} (hw : ∀ d ∈ tables_1, d.before a0 Z = true) : (Jvm.Cond.constantLong "com/example/tallymark/tallymark/MalformedTextExceptionGetMessagePinLaw" (69 : Nat) (1000000000000 : Int64)).before a0 Z = true := hw _ (List.mem_of_getElem? (i := 271) rfl)
theorem d_m3_124 : decode method_3_code 124 = .ok (.ldc2_w 69, 3) := by decide +kernel
theorem d_m3_127 : decode method_3_code 127 = .ok (.lcmp, 1) := by decide +kernel
theorem d_m3_128 : decode method_3_code 128 = .ok (.ifCond .lt 6, 3) := by decide +kernel
theorem d_m3_134 : decode method_3_code 134 = .ok (.lload_n 0, 1) := by decide +kernel
theorem wd272 {a0 : Array Value} {Z : State} (hw : ∀ d ∈ tables_1, d.before a0 Z = true) : (Jvm.Cond.constantLong "com/example/tallymark/tallymark/MalformedTextExceptionGetMessagePinLaw" (71 : Nat) (10000000000000 : Int64)).before a0 Z = true := hw _ (List.mem_of_getElem? (i := 272) rfl)
theorem d_m3_135 : decode method_3_code 135 = .ok (.ldc2_w 71, 3) := by decide +kernel
theorem d_m3_138 : decode method_3_code 138 = .ok (.lcmp, 1) := by decide +kernel
theorem d_m3_139 : decode method_3_code 139 = .ok (.ifCond .lt 6, 3) := by decide +kernel
theorem d_m3_145 : decode method_3_code 145 = .ok (.lload_n 0, 1) := by decide +kernel
theorem wd273 {a0 : Array Value} {Z : State} (hw : ∀ d ∈ tables_1, d.before a0 Z = true) : (Jvm.Cond.constantLong "com/example/tallymark/tallymark/MalformedTextExceptionGetMessagePinLaw" (73 : Nat) (100000000000000 : Int64)).before a0 Z = true := hw _ (List.mem_of_getElem? (i := 273) rfl)
theorem d_m3_146 : decode method_3_code 146 = .ok (.ldc2_w 73, 3) := by decide +kernel
theorem d_m3_149 : decode method_3_code 149 = .ok (.lcmp, 1) := by decide +kernel
theorem d_m3_150 : decode method_3_code 150 = .ok (.ifCond .lt 6, 3) := by decide +kernel
theorem d_m3_156 : decode method_3_code 156 = .ok (.lload_n 0, 1) := by decide +kernel
theorem wd274 {a0 : Array Value} {Z : State} (hw : ∀ d ∈ tables_1, d.before a0 Z = true) : (Jvm.Cond.constantLong "com/example/tallymark/tallymark/MalformedTextExceptionGetMessagePinLaw" (75 : Nat) (1000000000000000 : Int64)).before a0 Z = true := hw _ (List.mem_of_getElem? (i := 274) rfl)
theorem d_m3_157 : decode method_3_code 157 = .ok (.ldc2_w 75, 3) := by decide +kernel
theorem d_m3_160 : decode method_3_code 160 = .ok (.lcmp, 1) := by decide +kernel
theorem d_m3_161 : decode method_3_code 161 = .ok (.ifCond .lt 6, 3) := by decide +kernel
theorem d_m3_167 : decode method_3_code 167 = .ok (.lload_n 0, 1) := by decide +kernel
theorem wd275 {a0 : Array Value} {Z : State} (hw : ∀ d ∈ tables_1, d.before a0 Z = true) : (Jvm.Cond.constantLong "com/example/tallymark/tallymark/MalformedTextExceptionGetMessagePinLaw" (77 : Nat) (10000000000000000 : Int64)).before a0 Z = true := hw _ (List.mem_of_getElem? (i := 275) rfl)
theorem d_m3_168 : decode method_3_code 168 = .ok (.ldc2_w 77, 3) := by decide +kernel
theorem d_m3_171 : decode method_3_code 171 = .ok (.lcmp, 1) := by decide +kernel
theorem d_m3_172 : decode method_3_code 172 = .ok (.ifCond .lt 6, 3) := by decide +kernel
theorem d_m3_178 : decode method_3_code 178 = .ok (.lload_n 0, 1) := by decide +kernel
theorem wd276 {a0 : Array Value} {Z : State} (hw : ∀ d ∈ tables_1, d.before a0 Z = true) : (Jvm.Cond.constantLong "com/example/tallymark/tallymark/MalformedTextExceptionGetMessagePinLaw" (79 : Nat) (100000000000000000 : Int64)).before a0 Z = true := hw _ (List.mem_of_getElem? (i := 276) rfl)
theorem d_m3_179 : decode method_3_code 179 = .ok (.ldc2_w 79, 3) := by decide +kernel
theorem d_m3_182 : decode method_3_code 182 = .ok (.lcmp, 1) := by decide +kernel
theorem d_m3_183 : decode method_3_code 183 = .ok (.ifCond .lt 6, 3) := by decide +kernel
theorem d_m3_189 : decode method_3_code 189 = .ok (.lload_n 0, 1) := by decide +kernel
theorem wd277 {a0 : Array Value} {Z : State} (hw : ∀ d ∈ tables_1, d.before a0 Z = true) : (Jvm.Cond.constantLong "com/example/tallymark/tallymark/MalformedTextExceptionGetMessagePinLaw" (81 : Nat) (1000000000000000000 : Int64)).before a0 Z = true := hw _ (List.mem_of_getElem? (i := 277) rfl)
theorem d_m3_190 : decode method_3_code 190 = .ok (.ldc2_w 81, 3) := by decide +kernel
theorem d_m3_193 : decode method_3_code 193 = .ok (.lcmp, 1) := by decide +kernel
theorem d_m3_194 : decode method_3_code 194 = .ok (.ifCond .lt 6, 3) := by decide +kernel
theorem d_m3_200 : decode method_3_code 200 = .ok (.iload_n 2, 1) := by decide +kernel
theorem d_m3_201 : decode method_3_code 201 = .ok (.ireturn, 1) := by decide +kernel
theorem d_m3_10 : decode method_3_code 10 = .ok (.iinc 2 1, 3) := by decide +kernel
theorem d_m3_21 : decode method_3_code 21 = .ok (.iinc 2 1, 3) := by decide +kernel
theorem d_m3_32 : decode method_3_code 32 = .ok (.iinc 2 1, 3) := by decide +kernel
theorem d_m3_43 : decode method_3_code 43 = .ok (.iinc 2 1, 3) := by decide +kernel
theorem d_m3_54 : decode method_3_code 54 = .ok (.iinc 2 1, 3) := by decide +kernel
theorem d_m3_65 : decode method_3_code 65 = .ok (.iinc 2 1, 3) := by decide +kernel
theorem d_m3_76 : decode method_3_code 76 = .ok (.iinc 2 1, 3) := by decide +kernel
theorem d_m3_87 : decode method_3_code 87 = .ok (.iinc 2 1, 3) := by decide +kernel
theorem d_m3_98 : decode method_3_code 98 = .ok (.iinc 2 1, 3) := by decide +kernel
theorem d_m3_109 : decode method_3_code 109 = .ok (.iinc 2 1, 3) := by decide +kernel
theorem d_m3_120 : decode method_3_code 120 = .ok (.iinc 2 1, 3) := by decide +kernel
theorem d_m3_131 : decode method_3_code 131 = .ok (.iinc 2 1, 3) := by decide +kernel
theorem d_m3_142 : decode method_3_code 142 = .ok (.iinc 2 1, 3) := by decide +kernel
theorem d_m3_153 : decode method_3_code 153 = .ok (.iinc 2 1, 3) := by decide +kernel
theorem d_m3_164 : decode method_3_code 164 = .ok (.iinc 2 1, 3) := by decide +kernel
theorem d_m3_175 : decode method_3_code 175 = .ok (.iinc 2 1, 3) := by decide +kernel
theorem d_m3_186 : decode method_3_code 186 = .ok (.iinc 2 1, 3) := by decide +kernel
theorem d_m3_197 : decode method_3_code 197 = .ok (.iinc 2 1, 3) := by decide +kernel
theorem pn_com_example_tallymark_tallymark_MalformedTextExceptionGetMessagePinLaw : plainName "com/example/tallymark/tallymark/MalformedTextExceptionGetMessagePinLaw" = true := by first | (simp [plainName, overriddenIn]; done) | decide +kernel
set_option maxRecDepth 65536 in
set_option maxHeartbeats 40000000 in
theorem rm_digits {l : Launch} {Z : State} {a0 : Array Value} (hw : ∀ d ∈ tables_1, d.before a0 Z = true) (hs : ∀ d ∈ jdkStatics_1, d.before a0 Z = true) {vn : Nat} {h0 : Heap} (O0 : Ext Z.heap h0) (hn63 : vn < 9223372036854775808) :
    own_Ct l Z (⟨"com/example/tallymark/tallymark/MalformedTextExceptionGetMessagePinLaw", "digits", "(J)I"⟩ : MethodName) method_3_code 3 (some .int) [] ({ frames := 0, locals := 0, cells := 0, slots := 0 } : Room) #[(.long (Int64.ofNat vn))] h0 (fun v h => v = some (.int (Int32.ofNat (own_dg vn).length)) ∧ h = h0) := by
  refine own_body (Ls := #[.val (.long (Int64.ofNat vn)), .second, .unset]) (plainFor_of_name pn_com_example_tallymark_tallymark_MalformedTextExceptionGetMessagePinLaw) (fun m => by first | (simp [entryFrame, mkF, argsToLocals, Value.category]; done) | rfl) O0 ?_
  intro p e s m below meth c T0 G K0
  refine own_iconst K0 (v := (1 : Int32)) d_m3_0 rfl rfl ?_
  refine own_istoreN K0 (Ls' := #[.val (.long (Int64.ofNat vn)), .second, .val (.int (1 : Int32))]) d_m3_1 rfl rfl ?_
  refine own_lloadN K0 d_m3_2 rfl rfl ?_
  refine own_ldc2Long K0 (wd260 hw) d_m3_3 rfl ?_
  refine own_lcmp K0 d_m3_6 rfl ?_
  by_cases hb1 : vn < 10
  · skip
    refine own_ifYes K0 d_m3_7 (pc' := 13) (by decide) (by decide) ((if0 _ _).trans (tlt ((own_lcd hn63 (k := 10) (by decide)).mpr hb1)).1) ?_
    refine own_lloadN K0 d_m3_13 rfl rfl ?_
    refine own_ldc2Long K0 (wd261 hw) d_m3_14 rfl ?_
    refine own_lcmp K0 d_m3_17 rfl ?_
    refine own_ifYes K0 d_m3_18 (pc' := 24) (by decide) (by decide) ((if0 _ _).trans (tlt ((own_lcd hn63 (k := 100) (by decide)).mpr (by omega))).1) ?_
    refine own_lloadN K0 d_m3_24 rfl rfl ?_
    refine own_ldc2Long K0 (wd262 hw) d_m3_25 rfl ?_
    refine own_lcmp K0 d_m3_28 rfl ?_
    refine own_ifYes K0 d_m3_29 (pc' := 35) (by decide) (by decide) ((if0 _ _).trans (tlt ((own_lcd hn63 (k := 1000) (by decide)).mpr (by omega))).1) ?_
    refine own_lloadN K0 d_m3_35 rfl rfl ?_
    refine own_ldc2Long K0 (wd263 hw) d_m3_36 rfl ?_
    refine own_lcmp K0 d_m3_39 rfl ?_
    refine own_ifYes K0 d_m3_40 (pc' := 46) (by decide) (by decide) ((if0 _ _).trans (tlt ((own_lcd hn63 (k := 10000) (by decide)).mpr (by omega))).1) ?_
    refine own_lloadN K0 d_m3_46 rfl rfl ?_
    refine own_ldc2Long K0 (wd264 hw) d_m3_47 rfl ?_
    refine own_lcmp K0 d_m3_50 rfl ?_
    refine own_ifYes K0 d_m3_51 (pc' := 57) (by decide) (by decide) ((if0 _ _).trans (tlt ((own_lcd hn63 (k := 100000) (by decide)).mpr (by omega))).1) ?_
    refine own_lloadN K0 d_m3_57 rfl rfl ?_
    refine own_ldc2Long K0 (wd265 hw) d_m3_58 rfl ?_
    refine own_lcmp K0 d_m3_61 rfl ?_
    refine own_ifYes K0 d_m3_62 (pc' := 68) (by decide) (by decide) ((if0 _ _).trans (tlt ((own_lcd hn63 (k := 1000000) (by decide)).mpr (by omega))).1) ?_
    refine own_lloadN K0 d_m3_68 rfl rfl ?_
    refine own_ldc2Long K0 (wd266 hw) d_m3_69 rfl ?_
    refine own_lcmp K0 d_m3_72 rfl ?_
    refine own_ifYes K0 d_m3_73 (pc' := 79) (by decide) (by decide) ((if0 _ _).trans (tlt ((own_lcd hn63 (k := 10000000) (by decide)).mpr (by omega))).1) ?_
    refine own_lloadN K0 d_m3_79 rfl rfl ?_
    refine own_ldc2Long K0 (wd267 hw) d_m3_80 rfl ?_
    refine own_lcmp K0 d_m3_83 rfl ?_
    refine own_ifYes K0 d_m3_84 (pc' := 90) (by decide) (by decide) ((if0 _ _).trans (tlt ((own_lcd hn63 (k := 100000000) (by decide)).mpr (by omega))).1) ?_
    refine own_lloadN K0 d_m3_90 rfl rfl ?_
    refine own_ldc2Long K0 (wd268 hw) d_m3_91 rfl ?_
    refine own_lcmp K0 d_m3_94 rfl ?_
    refine own_ifYes K0 d_m3_95 (pc' := 101) (by decide) (by decide) ((if0 _ _).trans (tlt ((own_lcd hn63 (k := 1000000000) (by decide)).mpr (by omega))).1) ?_
    refine own_lloadN K0 d_m3_101 rfl rfl ?_
    refine own_ldc2Long K0 (wd269 hw) d_m3_102 rfl ?_
    refine own_lcmp K0 d_m3_105 rfl ?_
    refine own_ifYes K0 d_m3_106 (pc' := 112) (by decide) (by decide) ((if0 _ _).trans (tlt ((own_lcd hn63 (k := 10000000000) (by decide)).mpr (by omega))).1) ?_
    refine own_lloadN K0 d_m3_112 rfl rfl ?_
    refine own_ldc2Long K0 (wd270 hw) d_m3_113 rfl ?_
    refine own_lcmp K0 d_m3_116 rfl ?_
    refine own_ifYes K0 d_m3_117 (pc' := 123) (by decide) (by decide) ((if0 _ _).trans (tlt ((own_lcd hn63 (k := 100000000000) (by decide)).mpr (by omega))).1) ?_
    refine own_lloadN K0 d_m3_123 rfl rfl ?_
    refine own_ldc2Long K0 (wd271 hw) d_m3_124 rfl ?_
    refine own_lcmp K0 d_m3_127 rfl ?_
    refine own_ifYes K0 d_m3_128 (pc' := 134) (by decide) (by decide) ((if0 _ _).trans (tlt ((own_lcd hn63 (k := 1000000000000) (by decide)).mpr (by omega))).1) ?_
    refine own_lloadN K0 d_m3_134 rfl rfl ?_
    refine own_ldc2Long K0 (wd272 hw) d_m3_135 rfl ?_
    refine own_lcmp K0 d_m3_138 rfl ?_
    refine own_ifYes K0 d_m3_139 (pc' := 145) (by decide) (by decide) ((if0 _ _).trans (tlt ((own_lcd hn63 (k := 10000000000000) (by decide)).mpr (by omega))).1) ?_
    refine own_lloadN K0 d_m3_145 rfl rfl ?_
    refine own_ldc2Long K0 (wd273 hw) d_m3_146 rfl ?_
    refine own_lcmp K0 d_m3_149 rfl ?_
    refine own_ifYes K0 d_m3_150 (pc' := 156) (by decide) (by decide) ((if0 _ _).trans (tlt ((own_lcd hn63 (k := 100000000000000) (by decide)).mpr (by omega))).1) ?_
    refine own_lloadN K0 d_m3_156 rfl rfl ?_
    refine own_ldc2Long K0 (wd274 hw) d_m3_157 rfl ?_
    refine own_lcmp K0 d_m3_160 rfl ?_
    refine own_ifYes K0 d_m3_161 (pc' := 167) (by decide) (by decide) ((if0 _ _).trans (tlt ((own_lcd hn63 (k := 1000000000000000) (by decide)).mpr (by omega))).1) ?_
    refine own_lloadN K0 d_m3_167 rfl rfl ?_
    refine own_ldc2Long K0 (wd275 hw) d_m3_168 rfl ?_
    refine own_lcmp K0 d_m3_171 rfl ?_
    refine own_ifYes K0 d_m3_172 (pc' := 178) (by decide) (by decide) ((if0 _ _).trans (tlt ((own_lcd hn63 (k := 10000000000000000) (by decide)).mpr (by omega))).1) ?_
    refine own_lloadN K0 d_m3_178 rfl rfl ?_
    refine own_ldc2Long K0 (wd276 hw) d_m3_179 rfl ?_
    refine own_lcmp K0 d_m3_182 rfl ?_
    refine own_ifYes K0 d_m3_183 (pc' := 189) (by decide) (by decide) ((if0 _ _).trans (tlt ((own_lcd hn63 (k := 100000000000000000) (by decide)).mpr (by omega))).1) ?_
    refine own_lloadN K0 d_m3_189 rfl rfl ?_
    refine own_ldc2Long K0 (wd277 hw) d_m3_190 rfl ?_
    refine own_lcmp K0 d_m3_193 rfl ?_
    refine own_ifYes K0 d_m3_194 (pc' := 200) (by decide) (by decide) ((if0 _ _).trans (tlt ((own_lcd hn63 (k := 1000000000000000000) (by decide)).mpr (by omega))).1) ?_
    refine own_iloadN K0 d_m3_200 rfl rfl ?_
    exact own_retI K0 d_m3_201 rfl (by decide) (by decide) ⟨by rw [own_dg_len 0 vn (by omega) (by omega)]; rfl, rfl⟩
  · skip
    refine own_ifNo K0 d_m3_7 rfl ((if0 _ _).trans (flt (fun q => hb1 ((own_lcd hn63 (k := 10) (by decide)).mp q))).1) ?_
    refine own_iinc K0 (Ls' := #[.val (.long (Int64.ofNat vn)), .second, .val (.int ((1 : Int32) + (1 : Int32)))]) (x := (1 : Int32)) (v := (1 : Int32)) d_m3_10 rfl rfl rfl ?_
    rw [show (1 : Int32) + (1 : Int32) = (2 : Int32) from by decide]
    refine own_lloadN K0 d_m3_13 rfl rfl ?_
    refine own_ldc2Long K0 (wd261 hw) d_m3_14 rfl ?_
    refine own_lcmp K0 d_m3_17 rfl ?_
    by_cases hb2 : vn < 100
    · skip
      refine own_ifYes K0 d_m3_18 (pc' := 24) (by decide) (by decide) ((if0 _ _).trans (tlt ((own_lcd hn63 (k := 100) (by decide)).mpr hb2)).1) ?_
      refine own_lloadN K0 d_m3_24 rfl rfl ?_
      refine own_ldc2Long K0 (wd262 hw) d_m3_25 rfl ?_
      refine own_lcmp K0 d_m3_28 rfl ?_
      refine own_ifYes K0 d_m3_29 (pc' := 35) (by decide) (by decide) ((if0 _ _).trans (tlt ((own_lcd hn63 (k := 1000) (by decide)).mpr (by omega))).1) ?_
      refine own_lloadN K0 d_m3_35 rfl rfl ?_
      refine own_ldc2Long K0 (wd263 hw) d_m3_36 rfl ?_
      refine own_lcmp K0 d_m3_39 rfl ?_
      refine own_ifYes K0 d_m3_40 (pc' := 46) (by decide) (by decide) ((if0 _ _).trans (tlt ((own_lcd hn63 (k := 10000) (by decide)).mpr (by omega))).1) ?_
      refine own_lloadN K0 d_m3_46 rfl rfl ?_
      refine own_ldc2Long K0 (wd264 hw) d_m3_47 rfl ?_
      refine own_lcmp K0 d_m3_50 rfl ?_
      refine own_ifYes K0 d_m3_51 (pc' := 57) (by decide) (by decide) ((if0 _ _).trans (tlt ((own_lcd hn63 (k := 100000) (by decide)).mpr (by omega))).1) ?_
      refine own_lloadN K0 d_m3_57 rfl rfl ?_
      refine own_ldc2Long K0 (wd265 hw) d_m3_58 rfl ?_
      refine own_lcmp K0 d_m3_61 rfl ?_
      refine own_ifYes K0 d_m3_62 (pc' := 68) (by decide) (by decide) ((if0 _ _).trans (tlt ((own_lcd hn63 (k := 1000000) (by decide)).mpr (by omega))).1) ?_
      refine own_lloadN K0 d_m3_68 rfl rfl ?_
      refine own_ldc2Long K0 (wd266 hw) d_m3_69 rfl ?_
      refine own_lcmp K0 d_m3_72 rfl ?_
      refine own_ifYes K0 d_m3_73 (pc' := 79) (by decide) (by decide) ((if0 _ _).trans (tlt ((own_lcd hn63 (k := 10000000) (by decide)).mpr (by omega))).1) ?_
      refine own_lloadN K0 d_m3_79 rfl rfl ?_
      refine own_ldc2Long K0 (wd267 hw) d_m3_80 rfl ?_
      refine own_lcmp K0 d_m3_83 rfl ?_
      refine own_ifYes K0 d_m3_84 (pc' := 90) (by decide) (by decide) ((if0 _ _).trans (tlt ((own_lcd hn63 (k := 100000000) (by decide)).mpr (by omega))).1) ?_
      refine own_lloadN K0 d_m3_90 rfl rfl ?_
      refine own_ldc2Long K0 (wd268 hw) d_m3_91 rfl ?_
      refine own_lcmp K0 d_m3_94 rfl ?_
      refine own_ifYes K0 d_m3_95 (pc' := 101) (by decide) (by decide) ((if0 _ _).trans (tlt ((own_lcd hn63 (k := 1000000000) (by decide)).mpr (by omega))).1) ?_
      refine own_lloadN K0 d_m3_101 rfl rfl ?_
      refine own_ldc2Long K0 (wd269 hw) d_m3_102 rfl ?_
      refine own_lcmp K0 d_m3_105 rfl ?_
      refine own_ifYes K0 d_m3_106 (pc' := 112) (by decide) (by decide) ((if0 _ _).trans (tlt ((own_lcd hn63 (k := 10000000000) (by decide)).mpr (by omega))).1) ?_
      refine own_lloadN K0 d_m3_112 rfl rfl ?_
      refine own_ldc2Long K0 (wd270 hw) d_m3_113 rfl ?_
      refine own_lcmp K0 d_m3_116 rfl ?_
      refine own_ifYes K0 d_m3_117 (pc' := 123) (by decide) (by decide) ((if0 _ _).trans (tlt ((own_lcd hn63 (k := 100000000000) (by decide)).mpr (by omega))).1) ?_
      refine own_lloadN K0 d_m3_123 rfl rfl ?_
      refine own_ldc2Long K0 (wd271 hw) d_m3_124 rfl ?_
      refine own_lcmp K0 d_m3_127 rfl ?_
      refine own_ifYes K0 d_m3_128 (pc' := 134) (by decide) (by decide) ((if0 _ _).trans (tlt ((own_lcd hn63 (k := 1000000000000) (by decide)).mpr (by omega))).1) ?_
      refine own_lloadN K0 d_m3_134 rfl rfl ?_
      refine own_ldc2Long K0 (wd272 hw) d_m3_135 rfl ?_
      refine own_lcmp K0 d_m3_138 rfl ?_
      refine own_ifYes K0 d_m3_139 (pc' := 145) (by decide) (by decide) ((if0 _ _).trans (tlt ((own_lcd hn63 (k := 10000000000000) (by decide)).mpr (by omega))).1) ?_
      refine own_lloadN K0 d_m3_145 rfl rfl ?_
      refine own_ldc2Long K0 (wd273 hw) d_m3_146 rfl ?_
      refine own_lcmp K0 d_m3_149 rfl ?_
      refine own_ifYes K0 d_m3_150 (pc' := 156) (by decide) (by decide) ((if0 _ _).trans (tlt ((own_lcd hn63 (k := 100000000000000) (by decide)).mpr (by omega))).1) ?_
      refine own_lloadN K0 d_m3_156 rfl rfl ?_
      refine own_ldc2Long K0 (wd274 hw) d_m3_157 rfl ?_
      refine own_lcmp K0 d_m3_160 rfl ?_
      refine own_ifYes K0 d_m3_161 (pc' := 167) (by decide) (by decide) ((if0 _ _).trans (tlt ((own_lcd hn63 (k := 1000000000000000) (by decide)).mpr (by omega))).1) ?_
      refine own_lloadN K0 d_m3_167 rfl rfl ?_
      refine own_ldc2Long K0 (wd275 hw) d_m3_168 rfl ?_
      refine own_lcmp K0 d_m3_171 rfl ?_
      refine own_ifYes K0 d_m3_172 (pc' := 178) (by decide) (by decide) ((if0 _ _).trans (tlt ((own_lcd hn63 (k := 10000000000000000) (by decide)).mpr (by omega))).1) ?_
      refine own_lloadN K0 d_m3_178 rfl rfl ?_
      refine own_ldc2Long K0 (wd276 hw) d_m3_179 rfl ?_
      refine own_lcmp K0 d_m3_182 rfl ?_
      refine own_ifYes K0 d_m3_183 (pc' := 189) (by decide) (by decide) ((if0 _ _).trans (tlt ((own_lcd hn63 (k := 100000000000000000) (by decide)).mpr (by omega))).1) ?_
      refine own_lloadN K0 d_m3_189 rfl rfl ?_
      refine own_ldc2Long K0 (wd277 hw) d_m3_190 rfl ?_
      refine own_lcmp K0 d_m3_193 rfl ?_
      refine own_ifYes K0 d_m3_194 (pc' := 200) (by decide) (by decide) ((if0 _ _).trans (tlt ((own_lcd hn63 (k := 1000000000000000000) (by decide)).mpr (by omega))).1) ?_
      refine own_iloadN K0 d_m3_200 rfl rfl ?_
      exact own_retI K0 d_m3_201 rfl (by decide) (by decide) ⟨by rw [own_dg_len 1 vn (by omega) (by omega)]; rfl, rfl⟩
    · skip
      refine own_ifNo K0 d_m3_18 rfl ((if0 _ _).trans (flt (fun q => hb2 ((own_lcd hn63 (k := 100) (by decide)).mp q))).1) ?_
      refine own_iinc K0 (Ls' := #[.val (.long (Int64.ofNat vn)), .second, .val (.int ((2 : Int32) + (1 : Int32)))]) (x := (2 : Int32)) (v := (2 : Int32)) d_m3_21 rfl rfl rfl ?_
      rw [show (2 : Int32) + (1 : Int32) = (3 : Int32) from by decide]
      refine own_lloadN K0 d_m3_24 rfl rfl ?_
      refine own_ldc2Long K0 (wd262 hw) d_m3_25 rfl ?_
      refine own_lcmp K0 d_m3_28 rfl ?_
      by_cases hb3 : vn < 1000
      · skip
        refine own_ifYes K0 d_m3_29 (pc' := 35) (by decide) (by decide) ((if0 _ _).trans (tlt ((own_lcd hn63 (k := 1000) (by decide)).mpr hb3)).1) ?_
        refine own_lloadN K0 d_m3_35 rfl rfl ?_
        refine own_ldc2Long K0 (wd263 hw) d_m3_36 rfl ?_
        refine own_lcmp K0 d_m3_39 rfl ?_
        refine own_ifYes K0 d_m3_40 (pc' := 46) (by decide) (by decide) ((if0 _ _).trans (tlt ((own_lcd hn63 (k := 10000) (by decide)).mpr (by omega))).1) ?_
        refine own_lloadN K0 d_m3_46 rfl rfl ?_
        refine own_ldc2Long K0 (wd264 hw) d_m3_47 rfl ?_
        refine own_lcmp K0 d_m3_50 rfl ?_
        refine own_ifYes K0 d_m3_51 (pc' := 57) (by decide) (by decide) ((if0 _ _).trans (tlt ((own_lcd hn63 (k := 100000) (by decide)).mpr (by omega))).1) ?_
        refine own_lloadN K0 d_m3_57 rfl rfl ?_
        refine own_ldc2Long K0 (wd265 hw) d_m3_58 rfl ?_
        refine own_lcmp K0 d_m3_61 rfl ?_
        refine own_ifYes K0 d_m3_62 (pc' := 68) (by decide) (by decide) ((if0 _ _).trans (tlt ((own_lcd hn63 (k := 1000000) (by decide)).mpr (by omega))).1) ?_
        refine own_lloadN K0 d_m3_68 rfl rfl ?_
        refine own_ldc2Long K0 (wd266 hw) d_m3_69 rfl ?_
        refine own_lcmp K0 d_m3_72 rfl ?_
        refine own_ifYes K0 d_m3_73 (pc' := 79) (by decide) (by decide) ((if0 _ _).trans (tlt ((own_lcd hn63 (k := 10000000) (by decide)).mpr (by omega))).1) ?_
        refine own_lloadN K0 d_m3_79 rfl rfl ?_
        refine own_ldc2Long K0 (wd267 hw) d_m3_80 rfl ?_
        refine own_lcmp K0 d_m3_83 rfl ?_
        refine own_ifYes K0 d_m3_84 (pc' := 90) (by decide) (by decide) ((if0 _ _).trans (tlt ((own_lcd hn63 (k := 100000000) (by decide)).mpr (by omega))).1) ?_
        refine own_lloadN K0 d_m3_90 rfl rfl ?_
        refine own_ldc2Long K0 (wd268 hw) d_m3_91 rfl ?_
        refine own_lcmp K0 d_m3_94 rfl ?_
        refine own_ifYes K0 d_m3_95 (pc' := 101) (by decide) (by decide) ((if0 _ _).trans (tlt ((own_lcd hn63 (k := 1000000000) (by decide)).mpr (by omega))).1) ?_
        refine own_lloadN K0 d_m3_101 rfl rfl ?_
        refine own_ldc2Long K0 (wd269 hw) d_m3_102 rfl ?_
        refine own_lcmp K0 d_m3_105 rfl ?_
        refine own_ifYes K0 d_m3_106 (pc' := 112) (by decide) (by decide) ((if0 _ _).trans (tlt ((own_lcd hn63 (k := 10000000000) (by decide)).mpr (by omega))).1) ?_
        refine own_lloadN K0 d_m3_112 rfl rfl ?_
        refine own_ldc2Long K0 (wd270 hw) d_m3_113 rfl ?_
        refine own_lcmp K0 d_m3_116 rfl ?_
        refine own_ifYes K0 d_m3_117 (pc' := 123) (by decide) (by decide) ((if0 _ _).trans (tlt ((own_lcd hn63 (k := 100000000000) (by decide)).mpr (by omega))).1) ?_
        refine own_lloadN K0 d_m3_123 rfl rfl ?_
        refine own_ldc2Long K0 (wd271 hw) d_m3_124 rfl ?_
        refine own_lcmp K0 d_m3_127 rfl ?_
        refine own_ifYes K0 d_m3_128 (pc' := 134) (by decide) (by decide) ((if0 _ _).trans (tlt ((own_lcd hn63 (k := 1000000000000) (by decide)).mpr (by omega))).1) ?_
        refine own_lloadN K0 d_m3_134 rfl rfl ?_
        refine own_ldc2Long K0 (wd272 hw) d_m3_135 rfl ?_
        refine own_lcmp K0 d_m3_138 rfl ?_
        refine own_ifYes K0 d_m3_139 (pc' := 145) (by decide) (by decide) ((if0 _ _).trans (tlt ((own_lcd hn63 (k := 10000000000000) (by decide)).mpr (by omega))).1) ?_
        refine own_lloadN K0 d_m3_145 rfl rfl ?_
        refine own_ldc2Long K0 (wd273 hw) d_m3_146 rfl ?_
        refine own_lcmp K0 d_m3_149 rfl ?_
        refine own_ifYes K0 d_m3_150 (pc' := 156) (by decide) (by decide) ((if0 _ _).trans (tlt ((own_lcd hn63 (k := 100000000000000) (by decide)).mpr (by omega))).1) ?_
        refine own_lloadN K0 d_m3_156 rfl rfl ?_
        refine own_ldc2Long K0 (wd274 hw) d_m3_157 rfl ?_
        refine own_lcmp K0 d_m3_160 rfl ?_
        refine own_ifYes K0 d_m3_161 (pc' := 167) (by decide) (by decide) ((if0 _ _).trans (tlt ((own_lcd hn63 (k := 1000000000000000) (by decide)).mpr (by omega))).1) ?_
        refine own_lloadN K0 d_m3_167 rfl rfl ?_
        refine own_ldc2Long K0 (wd275 hw) d_m3_168 rfl ?_
        refine own_lcmp K0 d_m3_171 rfl ?_
        refine own_ifYes K0 d_m3_172 (pc' := 178) (by decide) (by decide) ((if0 _ _).trans (tlt ((own_lcd hn63 (k := 10000000000000000) (by decide)).mpr (by omega))).1) ?_
        refine own_lloadN K0 d_m3_178 rfl rfl ?_
        refine own_ldc2Long K0 (wd276 hw) d_m3_179 rfl ?_
        refine own_lcmp K0 d_m3_182 rfl ?_
        refine own_ifYes K0 d_m3_183 (pc' := 189) (by decide) (by decide) ((if0 _ _).trans (tlt ((own_lcd hn63 (k := 100000000000000000) (by decide)).mpr (by omega))).1) ?_
        refine own_lloadN K0 d_m3_189 rfl rfl ?_
        refine own_ldc2Long K0 (wd277 hw) d_m3_190 rfl ?_
        refine own_lcmp K0 d_m3_193 rfl ?_
        refine own_ifYes K0 d_m3_194 (pc' := 200) (by decide) (by decide) ((if0 _ _).trans (tlt ((own_lcd hn63 (k := 1000000000000000000) (by decide)).mpr (by omega))).1) ?_
        refine own_iloadN K0 d_m3_200 rfl rfl ?_
        exact own_retI K0 d_m3_201 rfl (by decide) (by decide) ⟨by rw [own_dg_len 2 vn (by omega) (by omega)]; rfl, rfl⟩
      · skip
        refine own_ifNo K0 d_m3_29 rfl ((if0 _ _).trans (flt (fun q => hb3 ((own_lcd hn63 (k := 1000) (by decide)).mp q))).1) ?_
        refine own_iinc K0 (Ls' := #[.val (.long (Int64.ofNat vn)), .second, .val (.int ((3 : Int32) + (1 : Int32)))]) (x := (3 : Int32)) (v := (3 : Int32)) d_m3_32 rfl rfl rfl ?_
        rw [show (3 : Int32) + (1 : Int32) = (4 : Int32) from by decide]
        refine own_lloadN K0 d_m3_35 rfl rfl ?_
        refine own_ldc2Long K0 (wd263 hw) d_m3_36 rfl ?_
        refine own_lcmp K0 d_m3_39 rfl ?_
        by_cases hb4 : vn < 10000
        · skip
          refine own_ifYes K0 d_m3_40 (pc' := 46) (by decide) (by decide) ((if0 _ _).trans (tlt ((own_lcd hn63 (k := 10000) (by decide)).mpr hb4)).1) ?_
          refine own_lloadN K0 d_m3_46 rfl rfl ?_
          refine own_ldc2Long K0 (wd264 hw) d_m3_47 rfl ?_
          refine own_lcmp K0 d_m3_50 rfl ?_
          refine own_ifYes K0 d_m3_51 (pc' := 57) (by decide) (by decide) ((if0 _ _).trans (tlt ((own_lcd hn63 (k := 100000) (by decide)).mpr (by omega))).1) ?_
          refine own_lloadN K0 d_m3_57 rfl rfl ?_
          refine own_ldc2Long K0 (wd265 hw) d_m3_58 rfl ?_
          refine own_lcmp K0 d_m3_61 rfl ?_
          refine own_ifYes K0 d_m3_62 (pc' := 68) (by decide) (by decide) ((if0 _ _).trans (tlt ((own_lcd hn63 (k := 1000000) (by decide)).mpr (by omega))).1) ?_
          refine own_lloadN K0 d_m3_68 rfl rfl ?_
          refine own_ldc2Long K0 (wd266 hw) d_m3_69 rfl ?_
          refine own_lcmp K0 d_m3_72 rfl ?_
          refine own_ifYes K0 d_m3_73 (pc' := 79) (by decide) (by decide) ((if0 _ _).trans (tlt ((own_lcd hn63 (k := 10000000) (by decide)).mpr (by omega))).1) ?_
          refine own_lloadN K0 d_m3_79 rfl rfl ?_
          refine own_ldc2Long K0 (wd267 hw) d_m3_80 rfl ?_
          refine own_lcmp K0 d_m3_83 rfl ?_
          refine own_ifYes K0 d_m3_84 (pc' := 90) (by decide) (by decide) ((if0 _ _).trans (tlt ((own_lcd hn63 (k := 100000000) (by decide)).mpr (by omega))).1) ?_
          refine own_lloadN K0 d_m3_90 rfl rfl ?_
          refine own_ldc2Long K0 (wd268 hw) d_m3_91 rfl ?_
          refine own_lcmp K0 d_m3_94 rfl ?_
          refine own_ifYes K0 d_m3_95 (pc' := 101) (by decide) (by decide) ((if0 _ _).trans (tlt ((own_lcd hn63 (k := 1000000000) (by decide)).mpr (by omega))).1) ?_
          refine own_lloadN K0 d_m3_101 rfl rfl ?_
          refine own_ldc2Long K0 (wd269 hw) d_m3_102 rfl ?_
          refine own_lcmp K0 d_m3_105 rfl ?_
          refine own_ifYes K0 d_m3_106 (pc' := 112) (by decide) (by decide) ((if0 _ _).trans (tlt ((own_lcd hn63 (k := 10000000000) (by decide)).mpr (by omega))).1) ?_
          refine own_lloadN K0 d_m3_112 rfl rfl ?_
          refine own_ldc2Long K0 (wd270 hw) d_m3_113 rfl ?_
          refine own_lcmp K0 d_m3_116 rfl ?_
          refine own_ifYes K0 d_m3_117 (pc' := 123) (by decide) (by decide) ((if0 _ _).trans (tlt ((own_lcd hn63 (k := 100000000000) (by decide)).mpr (by omega))).1) ?_
          refine own_lloadN K0 d_m3_123 rfl rfl ?_
          refine own_ldc2Long K0 (wd271 hw) d_m3_124 rfl ?_
          refine own_lcmp K0 d_m3_127 rfl ?_
          refine own_ifYes K0 d_m3_128 (pc' := 134) (by decide) (by decide) ((if0 _ _).trans (tlt ((own_lcd hn63 (k := 1000000000000) (by decide)).mpr (by omega))).1) ?_
          refine own_lloadN K0 d_m3_134 rfl rfl ?_
          refine own_ldc2Long K0 (wd272 hw) d_m3_135 rfl ?_
          refine own_lcmp K0 d_m3_138 rfl ?_
          refine own_ifYes K0 d_m3_139 (pc' := 145) (by decide) (by decide) ((if0 _ _).trans (tlt ((own_lcd hn63 (k := 10000000000000) (by decide)).mpr (by omega))).1) ?_
          refine own_lloadN K0 d_m3_145 rfl rfl ?_
          refine own_ldc2Long K0 (wd273 hw) d_m3_146 rfl ?_
          refine own_lcmp K0 d_m3_149 rfl ?_
          refine own_ifYes K0 d_m3_150 (pc' := 156) (by decide) (by decide) ((if0 _ _).trans (tlt ((own_lcd hn63 (k := 100000000000000) (by decide)).mpr (by omega))).1) ?_
          refine own_lloadN K0 d_m3_156 rfl rfl ?_
          refine own_ldc2Long K0 (wd274 hw) d_m3_157 rfl ?_
          refine own_lcmp K0 d_m3_160 rfl ?_
          refine own_ifYes K0 d_m3_161 (pc' := 167) (by decide) (by decide) ((if0 _ _).trans (tlt ((own_lcd hn63 (k := 1000000000000000) (by decide)).mpr (by omega))).1) ?_
          refine own_lloadN K0 d_m3_167 rfl rfl ?_
          refine own_ldc2Long K0 (wd275 hw) d_m3_168 rfl ?_
          refine own_lcmp K0 d_m3_171 rfl ?_
          refine own_ifYes K0 d_m3_172 (pc' := 178) (by decide) (by decide) ((if0 _ _).trans (tlt ((own_lcd hn63 (k := 10000000000000000) (by decide)).mpr (by omega))).1) ?_
          refine own_lloadN K0 d_m3_178 rfl rfl ?_
          refine own_ldc2Long K0 (wd276 hw) d_m3_179 rfl ?_
          refine own_lcmp K0 d_m3_182 rfl ?_
          refine own_ifYes K0 d_m3_183 (pc' := 189) (by decide) (by decide) ((if0 _ _).trans (tlt ((own_lcd hn63 (k := 100000000000000000) (by decide)).mpr (by omega))).1) ?_
          refine own_lloadN K0 d_m3_189 rfl rfl ?_
          refine own_ldc2Long K0 (wd277 hw) d_m3_190 rfl ?_
          refine own_lcmp K0 d_m3_193 rfl ?_
          refine own_ifYes K0 d_m3_194 (pc' := 200) (by decide) (by decide) ((if0 _ _).trans (tlt ((own_lcd hn63 (k := 1000000000000000000) (by decide)).mpr (by omega))).1) ?_
          refine own_iloadN K0 d_m3_200 rfl rfl ?_
          exact own_retI K0 d_m3_201 rfl (by decide) (by decide) ⟨by rw [own_dg_len 3 vn (by omega) (by omega)]; rfl, rfl⟩
        · skip
          refine own_ifNo K0 d_m3_40 rfl ((if0 _ _).trans (flt (fun q => hb4 ((own_lcd hn63 (k := 10000) (by decide)).mp q))).1) ?_
          refine own_iinc K0 (Ls' := #[.val (.long (Int64.ofNat vn)), .second, .val (.int ((4 : Int32) + (1 : Int32)))]) (x := (4 : Int32)) (v := (4 : Int32)) d_m3_43 rfl rfl rfl ?_
          rw [show (4 : Int32) + (1 : Int32) = (5 : Int32) from by decide]
          refine own_lloadN K0 d_m3_46 rfl rfl ?_
          refine own_ldc2Long K0 (wd264 hw) d_m3_47 rfl ?_
          refine own_lcmp K0 d_m3_50 rfl ?_
          by_cases hb5 : vn < 100000
          · skip
            refine own_ifYes K0 d_m3_51 (pc' := 57) (by decide) (by decide) ((if0 _ _).trans (tlt ((own_lcd hn63 (k := 100000) (by decide)).mpr hb5)).1) ?_
            refine own_lloadN K0 d_m3_57 rfl rfl ?_
            refine own_ldc2Long K0 (wd265 hw) d_m3_58 rfl ?_
            refine own_lcmp K0 d_m3_61 rfl ?_
            refine own_ifYes K0 d_m3_62 (pc' := 68) (by decide) (by decide) ((if0 _ _).trans (tlt ((own_lcd hn63 (k := 1000000) (by decide)).mpr (by omega))).1) ?_
            refine own_lloadN K0 d_m3_68 rfl rfl ?_
            refine own_ldc2Long K0 (wd266 hw) d_m3_69 rfl ?_
            refine own_lcmp K0 d_m3_72 rfl ?_
            refine own_ifYes K0 d_m3_73 (pc' := 79) (by decide) (by decide) ((if0 _ _).trans (tlt ((own_lcd hn63 (k := 10000000) (by decide)).mpr (by omega))).1) ?_
            refine own_lloadN K0 d_m3_79 rfl rfl ?_
            refine own_ldc2Long K0 (wd267 hw) d_m3_80 rfl ?_
            refine own_lcmp K0 d_m3_83 rfl ?_
            refine own_ifYes K0 d_m3_84 (pc' := 90) (by decide) (by decide) ((if0 _ _).trans (tlt ((own_lcd hn63 (k := 100000000) (by decide)).mpr (by omega))).1) ?_
            refine own_lloadN K0 d_m3_90 rfl rfl ?_
            refine own_ldc2Long K0 (wd268 hw) d_m3_91 rfl ?_
            refine own_lcmp K0 d_m3_94 rfl ?_
            refine own_ifYes K0 d_m3_95 (pc' := 101) (by decide) (by decide) ((if0 _ _).trans (tlt ((own_lcd hn63 (k := 1000000000) (by decide)).mpr (by omega))).1) ?_
            refine own_lloadN K0 d_m3_101 rfl rfl ?_
            refine own_ldc2Long K0 (wd269 hw) d_m3_102 rfl ?_
            refine own_lcmp K0 d_m3_105 rfl ?_
            refine own_ifYes K0 d_m3_106 (pc' := 112) (by decide) (by decide) ((if0 _ _).trans (tlt ((own_lcd hn63 (k := 10000000000) (by decide)).mpr (by omega))).1) ?_
            refine own_lloadN K0 d_m3_112 rfl rfl ?_
            refine own_ldc2Long K0 (wd270 hw) d_m3_113 rfl ?_
            refine own_lcmp K0 d_m3_116 rfl ?_
            refine own_ifYes K0 d_m3_117 (pc' := 123) (by decide) (by decide) ((if0 _ _).trans (tlt ((own_lcd hn63 (k := 100000000000) (by decide)).mpr (by omega))).1) ?_
            refine own_lloadN K0 d_m3_123 rfl rfl ?_
            refine own_ldc2Long K0 (wd271 hw) d_m3_124 rfl ?_
            refine own_lcmp K0 d_m3_127 rfl ?_
            refine own_ifYes K0 d_m3_128 (pc' := 134) (by decide) (by decide) ((if0 _ _).trans (tlt ((own_lcd hn63 (k := 1000000000000) (by decide)).mpr (by omega))).1) ?_
            refine own_lloadN K0 d_m3_134 rfl rfl ?_
            refine own_ldc2Long K0 (wd272 hw) d_m3_135 rfl ?_
            refine own_lcmp K0 d_m3_138 rfl ?_
            refine own_ifYes K0 d_m3_139 (pc' := 145) (by decide) (by decide) ((if0 _ _).trans (tlt ((own_lcd hn63 (k := 10000000000000) (by decide)).mpr (by omega))).1) ?_
            refine own_lloadN K0 d_m3_145 rfl rfl ?_
            refine own_ldc2Long K0 (wd273 hw) d_m3_146 rfl ?_
            refine own_lcmp K0 d_m3_149 rfl ?_
            refine own_ifYes K0 d_m3_150 (pc' := 156) (by decide) (by decide) ((if0 _ _).trans (tlt ((own_lcd hn63 (k := 100000000000000) (by decide)).mpr (by omega))).1) ?_
            refine own_lloadN K0 d_m3_156 rfl rfl ?_
            refine own_ldc2Long K0 (wd274 hw) d_m3_157 rfl ?_
            refine own_lcmp K0 d_m3_160 rfl ?_
            refine own_ifYes K0 d_m3_161 (pc' := 167) (by decide) (by decide) ((if0 _ _).trans (tlt ((own_lcd hn63 (k := 1000000000000000) (by decide)).mpr (by omega))).1) ?_
            refine own_lloadN K0 d_m3_167 rfl rfl ?_
            refine own_ldc2Long K0 (wd275 hw) d_m3_168 rfl ?_
            refine own_lcmp K0 d_m3_171 rfl ?_
            refine own_ifYes K0 d_m3_172 (pc' := 178) (by decide) (by decide) ((if0 _ _).trans (tlt ((own_lcd hn63 (k := 10000000000000000) (by decide)).mpr (by omega))).1) ?_
            refine own_lloadN K0 d_m3_178 rfl rfl ?_
            refine own_ldc2Long K0 (wd276 hw) d_m3_179 rfl ?_
            refine own_lcmp K0 d_m3_182 rfl ?_
            refine own_ifYes K0 d_m3_183 (pc' := 189) (by decide) (by decide) ((if0 _ _).trans (tlt ((own_lcd hn63 (k := 100000000000000000) (by decide)).mpr (by omega))).1) ?_
            refine own_lloadN K0 d_m3_189 rfl rfl ?_
            refine own_ldc2Long K0 (wd277 hw) d_m3_190 rfl ?_
            refine own_lcmp K0 d_m3_193 rfl ?_
            refine own_ifYes K0 d_m3_194 (pc' := 200) (by decide) (by decide) ((if0 _ _).trans (tlt ((own_lcd hn63 (k := 1000000000000000000) (by decide)).mpr (by omega))).1) ?_
            refine own_iloadN K0 d_m3_200 rfl rfl ?_
            exact own_retI K0 d_m3_201 rfl (by decide) (by decide) ⟨by rw [own_dg_len 4 vn (by omega) (by omega)]; rfl, rfl⟩
          · skip
            refine own_ifNo K0 d_m3_51 rfl ((if0 _ _).trans (flt (fun q => hb5 ((own_lcd hn63 (k := 100000) (by decide)).mp q))).1) ?_
            refine own_iinc K0 (Ls' := #[.val (.long (Int64.ofNat vn)), .second, .val (.int ((5 : Int32) + (1 : Int32)))]) (x := (5 : Int32)) (v := (5 : Int32)) d_m3_54 rfl rfl rfl ?_
            rw [show (5 : Int32) + (1 : Int32) = (6 : Int32) from by decide]
            refine own_lloadN K0 d_m3_57 rfl rfl ?_
            refine own_ldc2Long K0 (wd265 hw) d_m3_58 rfl ?_
            refine own_lcmp K0 d_m3_61 rfl ?_
            by_cases hb6 : vn < 1000000
            · skip
              refine own_ifYes K0 d_m3_62 (pc' := 68) (by decide) (by decide) ((if0 _ _).trans (tlt ((own_lcd hn63 (k := 1000000) (by decide)).mpr hb6)).1) ?_
              refine own_lloadN K0 d_m3_68 rfl rfl ?_
              refine own_ldc2Long K0 (wd266 hw) d_m3_69 rfl ?_
              refine own_lcmp K0 d_m3_72 rfl ?_
              refine own_ifYes K0 d_m3_73 (pc' := 79) (by decide) (by decide) ((if0 _ _).trans (tlt ((own_lcd hn63 (k := 10000000) (by decide)).mpr (by omega))).1) ?_
              refine own_lloadN K0 d_m3_79 rfl rfl ?_
              refine own_ldc2Long K0 (wd267 hw) d_m3_80 rfl ?_
              refine own_lcmp K0 d_m3_83 rfl ?_
              refine own_ifYes K0 d_m3_84 (pc' := 90) (by decide) (by decide) ((if0 _ _).trans (tlt ((own_lcd hn63 (k := 100000000) (by decide)).mpr (by omega))).1) ?_
              refine own_lloadN K0 d_m3_90 rfl rfl ?_
              refine own_ldc2Long K0 (wd268 hw) d_m3_91 rfl ?_
              refine own_lcmp K0 d_m3_94 rfl ?_
              refine own_ifYes K0 d_m3_95 (pc' := 101) (by decide) (by decide) ((if0 _ _).trans (tlt ((own_lcd hn63 (k := 1000000000) (by decide)).mpr (by omega))).1) ?_
              refine own_lloadN K0 d_m3_101 rfl rfl ?_
              refine own_ldc2Long K0 (wd269 hw) d_m3_102 rfl ?_
              refine own_lcmp K0 d_m3_105 rfl ?_
              refine own_ifYes K0 d_m3_106 (pc' := 112) (by decide) (by decide) ((if0 _ _).trans (tlt ((own_lcd hn63 (k := 10000000000) (by decide)).mpr (by omega))).1) ?_
              refine own_lloadN K0 d_m3_112 rfl rfl ?_
              refine own_ldc2Long K0 (wd270 hw) d_m3_113 rfl ?_
              refine own_lcmp K0 d_m3_116 rfl ?_
              refine own_ifYes K0 d_m3_117 (pc' := 123) (by decide) (by decide) ((if0 _ _).trans (tlt ((own_lcd hn63 (k := 100000000000) (by decide)).mpr (by omega))).1) ?_
              refine own_lloadN K0 d_m3_123 rfl rfl ?_
              refine own_ldc2Long K0 (wd271 hw) d_m3_124 rfl ?_
              refine own_lcmp K0 d_m3_127 rfl ?_
              refine own_ifYes K0 d_m3_128 (pc' := 134) (by decide) (by decide) ((if0 _ _).trans (tlt ((own_lcd hn63 (k := 1000000000000) (by decide)).mpr (by omega))).1) ?_
              refine own_lloadN K0 d_m3_134 rfl rfl ?_
              refine own_ldc2Long K0 (wd272 hw) d_m3_135 rfl ?_
              refine own_lcmp K0 d_m3_138 rfl ?_
              refine own_ifYes K0 d_m3_139 (pc' := 145) (by decide) (by decide) ((if0 _ _).trans (tlt ((own_lcd hn63 (k := 10000000000000) (by decide)).mpr (by omega))).1) ?_
              refine own_lloadN K0 d_m3_145 rfl rfl ?_
              refine own_ldc2Long K0 (wd273 hw) d_m3_146 rfl ?_
              refine own_lcmp K0 d_m3_149 rfl ?_
              refine own_ifYes K0 d_m3_150 (pc' := 156) (by decide) (by decide) ((if0 _ _).trans (tlt ((own_lcd hn63 (k := 100000000000000) (by decide)).mpr (by omega))).1) ?_
              refine own_lloadN K0 d_m3_156 rfl rfl ?_
              refine own_ldc2Long K0 (wd274 hw) d_m3_157 rfl ?_
              refine own_lcmp K0 d_m3_160 rfl ?_
              refine own_ifYes K0 d_m3_161 (pc' := 167) (by decide) (by decide) ((if0 _ _).trans (tlt ((own_lcd hn63 (k := 1000000000000000) (by decide)).mpr (by omega))).1) ?_
              refine own_lloadN K0 d_m3_167 rfl rfl ?_
              refine own_ldc2Long K0 (wd275 hw) d_m3_168 rfl ?_
              refine own_lcmp K0 d_m3_171 rfl ?_
              refine own_ifYes K0 d_m3_172 (pc' := 178) (by decide) (by decide) ((if0 _ _).trans (tlt ((own_lcd hn63 (k := 10000000000000000) (by decide)).mpr (by omega))).1) ?_
              refine own_lloadN K0 d_m3_178 rfl rfl ?_
              refine own_ldc2Long K0 (wd276 hw) d_m3_179 rfl ?_
              refine own_lcmp K0 d_m3_182 rfl ?_
              refine own_ifYes K0 d_m3_183 (pc' := 189) (by decide) (by decide) ((if0 _ _).trans (tlt ((own_lcd hn63 (k := 100000000000000000) (by decide)).mpr (by omega))).1) ?_
              refine own_lloadN K0 d_m3_189 rfl rfl ?_
              refine own_ldc2Long K0 (wd277 hw) d_m3_190 rfl ?_
              refine own_lcmp K0 d_m3_193 rfl ?_
              refine own_ifYes K0 d_m3_194 (pc' := 200) (by decide) (by decide) ((if0 _ _).trans (tlt ((own_lcd hn63 (k := 1000000000000000000) (by decide)).mpr (by omega))).1) ?_
              refine own_iloadN K0 d_m3_200 rfl rfl ?_
              exact own_retI K0 d_m3_201 rfl (by decide) (by decide) ⟨by rw [own_dg_len 5 vn (by omega) (by omega)]; rfl, rfl⟩
            · skip
              refine own_ifNo K0 d_m3_62 rfl ((if0 _ _).trans (flt (fun q => hb6 ((own_lcd hn63 (k := 1000000) (by decide)).mp q))).1) ?_
              refine own_iinc K0 (Ls' := #[.val (.long (Int64.ofNat vn)), .second, .val (.int ((6 : Int32) + (1 : Int32)))]) (x := (6 : Int32)) (v := (6 : Int32)) d_m3_65 rfl rfl rfl ?_
              rw [show (6 : Int32) + (1 : Int32) = (7 : Int32) from by decide]
              refine own_lloadN K0 d_m3_68 rfl rfl ?_
              refine own_ldc2Long K0 (wd266 hw) d_m3_69 rfl ?_
              refine own_lcmp K0 d_m3_72 rfl ?_
              by_cases hb7 : vn < 10000000
              · skip
                refine own_ifYes K0 d_m3_73 (pc' := 79) (by decide) (by decide) ((if0 _ _).trans (tlt ((own_lcd hn63 (k := 10000000) (by decide)).mpr hb7)).1) ?_
                refine own_lloadN K0 d_m3_79 rfl rfl ?_
                refine own_ldc2Long K0 (wd267 hw) d_m3_80 rfl ?_
                refine own_lcmp K0 d_m3_83 rfl ?_
                refine own_ifYes K0 d_m3_84 (pc' := 90) (by decide) (by decide) ((if0 _ _).trans (tlt ((own_lcd hn63 (k := 100000000) (by decide)).mpr (by omega))).1) ?_
                refine own_lloadN K0 d_m3_90 rfl rfl ?_
                refine own_ldc2Long K0 (wd268 hw) d_m3_91 rfl ?_
                refine own_lcmp K0 d_m3_94 rfl ?_
                refine own_ifYes K0 d_m3_95 (pc' := 101) (by decide) (by decide) ((if0 _ _).trans (tlt ((own_lcd hn63 (k := 1000000000) (by decide)).mpr (by omega))).1) ?_
                refine own_lloadN K0 d_m3_101 rfl rfl ?_
                refine own_ldc2Long K0 (wd269 hw) d_m3_102 rfl ?_
                refine own_lcmp K0 d_m3_105 rfl ?_
                refine own_ifYes K0 d_m3_106 (pc' := 112) (by decide) (by decide) ((if0 _ _).trans (tlt ((own_lcd hn63 (k := 10000000000) (by decide)).mpr (by omega))).1) ?_
                refine own_lloadN K0 d_m3_112 rfl rfl ?_
                refine own_ldc2Long K0 (wd270 hw) d_m3_113 rfl ?_
                refine own_lcmp K0 d_m3_116 rfl ?_
                refine own_ifYes K0 d_m3_117 (pc' := 123) (by decide) (by decide) ((if0 _ _).trans (tlt ((own_lcd hn63 (k := 100000000000) (by decide)).mpr (by omega))).1) ?_
                refine own_lloadN K0 d_m3_123 rfl rfl ?_
                refine own_ldc2Long K0 (wd271 hw) d_m3_124 rfl ?_
                refine own_lcmp K0 d_m3_127 rfl ?_
                refine own_ifYes K0 d_m3_128 (pc' := 134) (by decide) (by decide) ((if0 _ _).trans (tlt ((own_lcd hn63 (k := 1000000000000) (by decide)).mpr (by omega))).1) ?_
                refine own_lloadN K0 d_m3_134 rfl rfl ?_
                refine own_ldc2Long K0 (wd272 hw) d_m3_135 rfl ?_
                refine own_lcmp K0 d_m3_138 rfl ?_
                refine own_ifYes K0 d_m3_139 (pc' := 145) (by decide) (by decide) ((if0 _ _).trans (tlt ((own_lcd hn63 (k := 10000000000000) (by decide)).mpr (by omega))).1) ?_
                refine own_lloadN K0 d_m3_145 rfl rfl ?_
                refine own_ldc2Long K0 (wd273 hw) d_m3_146 rfl ?_
                refine own_lcmp K0 d_m3_149 rfl ?_
                refine own_ifYes K0 d_m3_150 (pc' := 156) (by decide) (by decide) ((if0 _ _).trans (tlt ((own_lcd hn63 (k := 100000000000000) (by decide)).mpr (by omega))).1) ?_
                refine own_lloadN K0 d_m3_156 rfl rfl ?_
                refine own_ldc2Long K0 (wd274 hw) d_m3_157 rfl ?_
                refine own_lcmp K0 d_m3_160 rfl ?_
                refine own_ifYes K0 d_m3_161 (pc' := 167) (by decide) (by decide) ((if0 _ _).trans (tlt ((own_lcd hn63 (k := 1000000000000000) (by decide)).mpr (by omega))).1) ?_
                refine own_lloadN K0 d_m3_167 rfl rfl ?_
                refine own_ldc2Long K0 (wd275 hw) d_m3_168 rfl ?_
                refine own_lcmp K0 d_m3_171 rfl ?_
                refine own_ifYes K0 d_m3_172 (pc' := 178) (by decide) (by decide) ((if0 _ _).trans (tlt ((own_lcd hn63 (k := 10000000000000000) (by decide)).mpr (by omega))).1) ?_
                refine own_lloadN K0 d_m3_178 rfl rfl ?_
                refine own_ldc2Long K0 (wd276 hw) d_m3_179 rfl ?_
                refine own_lcmp K0 d_m3_182 rfl ?_
                refine own_ifYes K0 d_m3_183 (pc' := 189) (by decide) (by decide) ((if0 _ _).trans (tlt ((own_lcd hn63 (k := 100000000000000000) (by decide)).mpr (by omega))).1) ?_
                refine own_lloadN K0 d_m3_189 rfl rfl ?_
                refine own_ldc2Long K0 (wd277 hw) d_m3_190 rfl ?_
                refine own_lcmp K0 d_m3_193 rfl ?_
                refine own_ifYes K0 d_m3_194 (pc' := 200) (by decide) (by decide) ((if0 _ _).trans (tlt ((own_lcd hn63 (k := 1000000000000000000) (by decide)).mpr (by omega))).1) ?_
                refine own_iloadN K0 d_m3_200 rfl rfl ?_
                exact own_retI K0 d_m3_201 rfl (by decide) (by decide) ⟨by rw [own_dg_len 6 vn (by omega) (by omega)]; rfl, rfl⟩
              · skip
                refine own_ifNo K0 d_m3_73 rfl ((if0 _ _).trans (flt (fun q => hb7 ((own_lcd hn63 (k := 10000000) (by decide)).mp q))).1) ?_
                refine own_iinc K0 (Ls' := #[.val (.long (Int64.ofNat vn)), .second, .val (.int ((7 : Int32) + (1 : Int32)))]) (x := (7 : Int32)) (v := (7 : Int32)) d_m3_76 rfl rfl rfl ?_
                rw [show (7 : Int32) + (1 : Int32) = (8 : Int32) from by decide]
                refine own_lloadN K0 d_m3_79 rfl rfl ?_
                refine own_ldc2Long K0 (wd267 hw) d_m3_80 rfl ?_
                refine own_lcmp K0 d_m3_83 rfl ?_
                by_cases hb8 : vn < 100000000
                · skip
                  refine own_ifYes K0 d_m3_84 (pc' := 90) (by decide) (by decide) ((if0 _ _).trans (tlt ((own_lcd hn63 (k := 100000000) (by decide)).mpr hb8)).1) ?_
                  refine own_lloadN K0 d_m3_90 rfl rfl ?_
                  refine own_ldc2Long K0 (wd268 hw) d_m3_91 rfl ?_
                  refine own_lcmp K0 d_m3_94 rfl ?_
                  refine own_ifYes K0 d_m3_95 (pc' := 101) (by decide) (by decide) ((if0 _ _).trans (tlt ((own_lcd hn63 (k := 1000000000) (by decide)).mpr (by omega))).1) ?_
                  refine own_lloadN K0 d_m3_101 rfl rfl ?_
                  refine own_ldc2Long K0 (wd269 hw) d_m3_102 rfl ?_
                  refine own_lcmp K0 d_m3_105 rfl ?_
                  refine own_ifYes K0 d_m3_106 (pc' := 112) (by decide) (by decide) ((if0 _ _).trans (tlt ((own_lcd hn63 (k := 10000000000) (by decide)).mpr (by omega))).1) ?_
                  refine own_lloadN K0 d_m3_112 rfl rfl ?_
                  refine own_ldc2Long K0 (wd270 hw) d_m3_113 rfl ?_
                  refine own_lcmp K0 d_m3_116 rfl ?_
                  refine own_ifYes K0 d_m3_117 (pc' := 123) (by decide) (by decide) ((if0 _ _).trans (tlt ((own_lcd hn63 (k := 100000000000) (by decide)).mpr (by omega))).1) ?_
                  refine own_lloadN K0 d_m3_123 rfl rfl ?_
                  refine own_ldc2Long K0 (wd271 hw) d_m3_124 rfl ?_
                  refine own_lcmp K0 d_m3_127 rfl ?_
                  refine own_ifYes K0 d_m3_128 (pc' := 134) (by decide) (by decide) ((if0 _ _).trans (tlt ((own_lcd hn63 (k := 1000000000000) (by decide)).mpr (by omega))).1) ?_
                  refine own_lloadN K0 d_m3_134 rfl rfl ?_
                  refine own_ldc2Long K0 (wd272 hw) d_m3_135 rfl ?_
                  refine own_lcmp K0 d_m3_138 rfl ?_
                  refine own_ifYes K0 d_m3_139 (pc' := 145) (by decide) (by decide) ((if0 _ _).trans (tlt ((own_lcd hn63 (k := 10000000000000) (by decide)).mpr (by omega))).1) ?_
                  refine own_lloadN K0 d_m3_145 rfl rfl ?_
                  refine own_ldc2Long K0 (wd273 hw) d_m3_146 rfl ?_
                  refine own_lcmp K0 d_m3_149 rfl ?_
                  refine own_ifYes K0 d_m3_150 (pc' := 156) (by decide) (by decide) ((if0 _ _).trans (tlt ((own_lcd hn63 (k := 100000000000000) (by decide)).mpr (by omega))).1) ?_
                  refine own_lloadN K0 d_m3_156 rfl rfl ?_
                  refine own_ldc2Long K0 (wd274 hw) d_m3_157 rfl ?_
                  refine own_lcmp K0 d_m3_160 rfl ?_
                  refine own_ifYes K0 d_m3_161 (pc' := 167) (by decide) (by decide) ((if0 _ _).trans (tlt ((own_lcd hn63 (k := 1000000000000000) (by decide)).mpr (by omega))).1) ?_
                  refine own_lloadN K0 d_m3_167 rfl rfl ?_
                  refine own_ldc2Long K0 (wd275 hw) d_m3_168 rfl ?_
                  refine own_lcmp K0 d_m3_171 rfl ?_
                  refine own_ifYes K0 d_m3_172 (pc' := 178) (by decide) (by decide) ((if0 _ _).trans (tlt ((own_lcd hn63 (k := 10000000000000000) (by decide)).mpr (by omega))).1) ?_
                  refine own_lloadN K0 d_m3_178 rfl rfl ?_
                  refine own_ldc2Long K0 (wd276 hw) d_m3_179 rfl ?_
                  refine own_lcmp K0 d_m3_182 rfl ?_
                  refine own_ifYes K0 d_m3_183 (pc' := 189) (by decide) (by decide) ((if0 _ _).trans (tlt ((own_lcd hn63 (k := 100000000000000000) (by decide)).mpr (by omega))).1) ?_
                  refine own_lloadN K0 d_m3_189 rfl rfl ?_
                  refine own_ldc2Long K0 (wd277 hw) d_m3_190 rfl ?_
                  refine own_lcmp K0 d_m3_193 rfl ?_
                  refine own_ifYes K0 d_m3_194 (pc' := 200) (by decide) (by decide) ((if0 _ _).trans (tlt ((own_lcd hn63 (k := 1000000000000000000) (by decide)).mpr (by omega))).1) ?_
                  refine own_iloadN K0 d_m3_200 rfl rfl ?_
                  exact own_retI K0 d_m3_201 rfl (by decide) (by decide) ⟨by rw [own_dg_len 7 vn (by omega) (by omega)]; rfl, rfl⟩
                · skip
                  refine own_ifNo K0 d_m3_84 rfl ((if0 _ _).trans (flt (fun q => hb8 ((own_lcd hn63 (k := 100000000) (by decide)).mp q))).1) ?_
                  refine own_iinc K0 (Ls' := #[.val (.long (Int64.ofNat vn)), .second, .val (.int ((8 : Int32) + (1 : Int32)))]) (x := (8 : Int32)) (v := (8 : Int32)) d_m3_87 rfl rfl rfl ?_
                  rw [show (8 : Int32) + (1 : Int32) = (9 : Int32) from by decide]
                  refine own_lloadN K0 d_m3_90 rfl rfl ?_
                  refine own_ldc2Long K0 (wd268 hw) d_m3_91 rfl ?_
                  refine own_lcmp K0 d_m3_94 rfl ?_
                  by_cases hb9 : vn < 1000000000
                  · skip
                    refine own_ifYes K0 d_m3_95 (pc' := 101) (by decide) (by decide) ((if0 _ _).trans (tlt ((own_lcd hn63 (k := 1000000000) (by decide)).mpr hb9)).1) ?_
                    refine own_lloadN K0 d_m3_101 rfl rfl ?_
                    refine own_ldc2Long K0 (wd269 hw) d_m3_102 rfl ?_
                    refine own_lcmp K0 d_m3_105 rfl ?_
                    refine own_ifYes K0 d_m3_106 (pc' := 112) (by decide) (by decide) ((if0 _ _).trans (tlt ((own_lcd hn63 (k := 10000000000) (by decide)).mpr (by omega))).1) ?_
                    refine own_lloadN K0 d_m3_112 rfl rfl ?_
                    refine own_ldc2Long K0 (wd270 hw) d_m3_113 rfl ?_
                    refine own_lcmp K0 d_m3_116 rfl ?_
                    refine own_ifYes K0 d_m3_117 (pc' := 123) (by decide) (by decide) ((if0 _ _).trans (tlt ((own_lcd hn63 (k := 100000000000) (by decide)).mpr (by omega))).1) ?_
                    refine own_lloadN K0 d_m3_123 rfl rfl ?_
                    refine own_ldc2Long K0 (wd271 hw) d_m3_124 rfl ?_
                    refine own_lcmp K0 d_m3_127 rfl ?_
                    refine own_ifYes K0 d_m3_128 (pc' := 134) (by decide) (by decide) ((if0 _ _).trans (tlt ((own_lcd hn63 (k := 1000000000000) (by decide)).mpr (by omega))).1) ?_
                    refine own_lloadN K0 d_m3_134 rfl rfl ?_
                    refine own_ldc2Long K0 (wd272 hw) d_m3_135 rfl ?_
                    refine own_lcmp K0 d_m3_138 rfl ?_
                    refine own_ifYes K0 d_m3_139 (pc' := 145) (by decide) (by decide) ((if0 _ _).trans (tlt ((own_lcd hn63 (k := 10000000000000) (by decide)).mpr (by omega))).1) ?_
                    refine own_lloadN K0 d_m3_145 rfl rfl ?_
                    refine own_ldc2Long K0 (wd273 hw) d_m3_146 rfl ?_
                    refine own_lcmp K0 d_m3_149 rfl ?_
                    refine own_ifYes K0 d_m3_150 (pc' := 156) (by decide) (by decide) ((if0 _ _).trans (tlt ((own_lcd hn63 (k := 100000000000000) (by decide)).mpr (by omega))).1) ?_
                    refine own_lloadN K0 d_m3_156 rfl rfl ?_
                    refine own_ldc2Long K0 (wd274 hw) d_m3_157 rfl ?_
                    refine own_lcmp K0 d_m3_160 rfl ?_
                    refine own_ifYes K0 d_m3_161 (pc' := 167) (by decide) (by decide) ((if0 _ _).trans (tlt ((own_lcd hn63 (k := 1000000000000000) (by decide)).mpr (by omega))).1) ?_
                    refine own_lloadN K0 d_m3_167 rfl rfl ?_
                    refine own_ldc2Long K0 (wd275 hw) d_m3_168 rfl ?_
                    refine own_lcmp K0 d_m3_171 rfl ?_
                    refine own_ifYes K0 d_m3_172 (pc' := 178) (by decide) (by decide) ((if0 _ _).trans (tlt ((own_lcd hn63 (k := 10000000000000000) (by decide)).mpr (by omega))).1) ?_
                    refine own_lloadN K0 d_m3_178 rfl rfl ?_
                    refine own_ldc2Long K0 (wd276 hw) d_m3_179 rfl ?_
                    refine own_lcmp K0 d_m3_182 rfl ?_
                    refine own_ifYes K0 d_m3_183 (pc' := 189) (by decide) (by decide) ((if0 _ _).trans (tlt ((own_lcd hn63 (k := 100000000000000000) (by decide)).mpr (by omega))).1) ?_
                    refine own_lloadN K0 d_m3_189 rfl rfl ?_
                    refine own_ldc2Long K0 (wd277 hw) d_m3_190 rfl ?_
                    refine own_lcmp K0 d_m3_193 rfl ?_
                    refine own_ifYes K0 d_m3_194 (pc' := 200) (by decide) (by decide) ((if0 _ _).trans (tlt ((own_lcd hn63 (k := 1000000000000000000) (by decide)).mpr (by omega))).1) ?_
                    refine own_iloadN K0 d_m3_200 rfl rfl ?_
                    exact own_retI K0 d_m3_201 rfl (by decide) (by decide) ⟨by rw [own_dg_len 8 vn (by omega) (by omega)]; rfl, rfl⟩
                  · skip
                    refine own_ifNo K0 d_m3_95 rfl ((if0 _ _).trans (flt (fun q => hb9 ((own_lcd hn63 (k := 1000000000) (by decide)).mp q))).1) ?_
                    refine own_iinc K0 (Ls' := #[.val (.long (Int64.ofNat vn)), .second, .val (.int ((9 : Int32) + (1 : Int32)))]) (x := (9 : Int32)) (v := (9 : Int32)) d_m3_98 rfl rfl rfl ?_
                    rw [show (9 : Int32) + (1 : Int32) = (10 : Int32) from by decide]
                    refine own_lloadN K0 d_m3_101 rfl rfl ?_
                    refine own_ldc2Long K0 (wd269 hw) d_m3_102 rfl ?_
                    refine own_lcmp K0 d_m3_105 rfl ?_
                    by_cases hb10 : vn < 10000000000
                    · skip
                      refine own_ifYes K0 d_m3_106 (pc' := 112) (by decide) (by decide) ((if0 _ _).trans (tlt ((own_lcd hn63 (k := 10000000000) (by decide)).mpr hb10)).1) ?_
                      refine own_lloadN K0 d_m3_112 rfl rfl ?_
                      refine own_ldc2Long K0 (wd270 hw) d_m3_113 rfl ?_
                      refine own_lcmp K0 d_m3_116 rfl ?_
                      refine own_ifYes K0 d_m3_117 (pc' := 123) (by decide) (by decide) ((if0 _ _).trans (tlt ((own_lcd hn63 (k := 100000000000) (by decide)).mpr (by omega))).1) ?_
                      refine own_lloadN K0 d_m3_123 rfl rfl ?_
                      refine own_ldc2Long K0 (wd271 hw) d_m3_124 rfl ?_
                      refine own_lcmp K0 d_m3_127 rfl ?_
                      refine own_ifYes K0 d_m3_128 (pc' := 134) (by decide) (by decide) ((if0 _ _).trans (tlt ((own_lcd hn63 (k := 1000000000000) (by decide)).mpr (by omega))).1) ?_
                      refine own_lloadN K0 d_m3_134 rfl rfl ?_
                      refine own_ldc2Long K0 (wd272 hw) d_m3_135 rfl ?_
                      refine own_lcmp K0 d_m3_138 rfl ?_
                      refine own_ifYes K0 d_m3_139 (pc' := 145) (by decide) (by decide) ((if0 _ _).trans (tlt ((own_lcd hn63 (k := 10000000000000) (by decide)).mpr (by omega))).1) ?_
                      refine own_lloadN K0 d_m3_145 rfl rfl ?_
                      refine own_ldc2Long K0 (wd273 hw) d_m3_146 rfl ?_
                      refine own_lcmp K0 d_m3_149 rfl ?_
                      refine own_ifYes K0 d_m3_150 (pc' := 156) (by decide) (by decide) ((if0 _ _).trans (tlt ((own_lcd hn63 (k := 100000000000000) (by decide)).mpr (by omega))).1) ?_
                      refine own_lloadN K0 d_m3_156 rfl rfl ?_
                      refine own_ldc2Long K0 (wd274 hw) d_m3_157 rfl ?_
                      refine own_lcmp K0 d_m3_160 rfl ?_
                      refine own_ifYes K0 d_m3_161 (pc' := 167) (by decide) (by decide) ((if0 _ _).trans (tlt ((own_lcd hn63 (k := 1000000000000000) (by decide)).mpr (by omega))).1) ?_
                      refine own_lloadN K0 d_m3_167 rfl rfl ?_
                      refine own_ldc2Long K0 (wd275 hw) d_m3_168 rfl ?_
                      refine own_lcmp K0 d_m3_171 rfl ?_
                      refine own_ifYes K0 d_m3_172 (pc' := 178) (by decide) (by decide) ((if0 _ _).trans (tlt ((own_lcd hn63 (k := 10000000000000000) (by decide)).mpr (by omega))).1) ?_
                      refine own_lloadN K0 d_m3_178 rfl rfl ?_
                      refine own_ldc2Long K0 (wd276 hw) d_m3_179 rfl ?_
                      refine own_lcmp K0 d_m3_182 rfl ?_
                      refine own_ifYes K0 d_m3_183 (pc' := 189) (by decide) (by decide) ((if0 _ _).trans (tlt ((own_lcd hn63 (k := 100000000000000000) (by decide)).mpr (by omega))).1) ?_
                      refine own_lloadN K0 d_m3_189 rfl rfl ?_
                      refine own_ldc2Long K0 (wd277 hw) d_m3_190 rfl ?_
                      refine own_lcmp K0 d_m3_193 rfl ?_
                      refine own_ifYes K0 d_m3_194 (pc' := 200) (by decide) (by decide) ((if0 _ _).trans (tlt ((own_lcd hn63 (k := 1000000000000000000) (by decide)).mpr (by omega))).1) ?_
                      refine own_iloadN K0 d_m3_200 rfl rfl ?_
                      exact own_retI K0 d_m3_201 rfl (by decide) (by decide) ⟨by rw [own_dg_len 9 vn (by omega) (by omega)]; rfl, rfl⟩
                    · skip
                      refine own_ifNo K0 d_m3_106 rfl ((if0 _ _).trans (flt (fun q => hb10 ((own_lcd hn63 (k := 10000000000) (by decide)).mp q))).1) ?_
                      refine own_iinc K0 (Ls' := #[.val (.long (Int64.ofNat vn)), .second, .val (.int ((10 : Int32) + (1 : Int32)))]) (x := (10 : Int32)) (v := (10 : Int32)) d_m3_109 rfl rfl rfl ?_
                      rw [show (10 : Int32) + (1 : Int32) = (11 : Int32) from by decide]
                      refine own_lloadN K0 d_m3_112 rfl rfl ?_
                      refine own_ldc2Long K0 (wd270 hw) d_m3_113 rfl ?_
                      refine own_lcmp K0 d_m3_116 rfl ?_
                      by_cases hb11 : vn < 100000000000
                      · skip
                        refine own_ifYes K0 d_m3_117 (pc' := 123) (by decide) (by decide) ((if0 _ _).trans (tlt ((own_lcd hn63 (k := 100000000000) (by decide)).mpr hb11)).1) ?_
                        refine own_lloadN K0 d_m3_123 rfl rfl ?_
                        refine own_ldc2Long K0 (wd271 hw) d_m3_124 rfl ?_
                        refine own_lcmp K0 d_m3_127 rfl ?_
                        refine own_ifYes K0 d_m3_128 (pc' := 134) (by decide) (by decide) ((if0 _ _).trans (tlt ((own_lcd hn63 (k := 1000000000000) (by decide)).mpr (by omega))).1) ?_
                        refine own_lloadN K0 d_m3_134 rfl rfl ?_
                        refine own_ldc2Long K0 (wd272 hw) d_m3_135 rfl ?_
                        refine own_lcmp K0 d_m3_138 rfl ?_
                        refine own_ifYes K0 d_m3_139 (pc' := 145) (by decide) (by decide) ((if0 _ _).trans (tlt ((own_lcd hn63 (k := 10000000000000) (by decide)).mpr (by omega))).1) ?_
                        refine own_lloadN K0 d_m3_145 rfl rfl ?_
                        refine own_ldc2Long K0 (wd273 hw) d_m3_146 rfl ?_
                        refine own_lcmp K0 d_m3_149 rfl ?_
                        refine own_ifYes K0 d_m3_150 (pc' := 156) (by decide) (by decide) ((if0 _ _).trans (tlt ((own_lcd hn63 (k := 100000000000000) (by decide)).mpr (by omega))).1) ?_
                        refine own_lloadN K0 d_m3_156 rfl rfl ?_
                        refine own_ldc2Long K0 (wd274 hw) d_m3_157 rfl ?_
                        refine own_lcmp K0 d_m3_160 rfl ?_
                        refine own_ifYes K0 d_m3_161 (pc' := 167) (by decide) (by decide) ((if0 _ _).trans (tlt ((own_lcd hn63 (k := 1000000000000000) (by decide)).mpr (by omega))).1) ?_
                        refine own_lloadN K0 d_m3_167 rfl rfl ?_
                        refine own_ldc2Long K0 (wd275 hw) d_m3_168 rfl ?_
                        refine own_lcmp K0 d_m3_171 rfl ?_
                        refine own_ifYes K0 d_m3_172 (pc' := 178) (by decide) (by decide) ((if0 _ _).trans (tlt ((own_lcd hn63 (k := 10000000000000000) (by decide)).mpr (by omega))).1) ?_
                        refine own_lloadN K0 d_m3_178 rfl rfl ?_
                        refine own_ldc2Long K0 (wd276 hw) d_m3_179 rfl ?_
                        refine own_lcmp K0 d_m3_182 rfl ?_
                        refine own_ifYes K0 d_m3_183 (pc' := 189) (by decide) (by decide) ((if0 _ _).trans (tlt ((own_lcd hn63 (k := 100000000000000000) (by decide)).mpr (by omega))).1) ?_
                        refine own_lloadN K0 d_m3_189 rfl rfl ?_
                        refine own_ldc2Long K0 (wd277 hw) d_m3_190 rfl ?_
                        refine own_lcmp K0 d_m3_193 rfl ?_
                        refine own_ifYes K0 d_m3_194 (pc' := 200) (by decide) (by decide) ((if0 _ _).trans (tlt ((own_lcd hn63 (k := 1000000000000000000) (by decide)).mpr (by omega))).1) ?_
                        refine own_iloadN K0 d_m3_200 rfl rfl ?_
                        exact own_retI K0 d_m3_201 rfl (by decide) (by decide) ⟨by rw [own_dg_len 10 vn (by omega) (by omega)]; rfl, rfl⟩
                      · skip
                        refine own_ifNo K0 d_m3_117 rfl ((if0 _ _).trans (flt (fun q => hb11 ((own_lcd hn63 (k := 100000000000) (by decide)).mp q))).1) ?_
                        refine own_iinc K0 (Ls' := #[.val (.long (Int64.ofNat vn)), .second, .val (.int ((11 : Int32) + (1 : Int32)))]) (x := (11 : Int32)) (v := (11 : Int32)) d_m3_120 rfl rfl rfl ?_
                        rw [show (11 : Int32) + (1 : Int32) = (12 : Int32) from by decide]
                        refine own_lloadN K0 d_m3_123 rfl rfl ?_
                        refine own_ldc2Long K0 (wd271 hw) d_m3_124 rfl ?_
                        refine own_lcmp K0 d_m3_127 rfl ?_
                        by_cases hb12 : vn < 1000000000000
                        · skip
                          refine own_ifYes K0 d_m3_128 (pc' := 134) (by decide) (by decide) ((if0 _ _).trans (tlt ((own_lcd hn63 (k := 1000000000000) (by decide)).mpr hb12)).1) ?_
                          refine own_lloadN K0 d_m3_134 rfl rfl ?_
                          refine own_ldc2Long K0 (wd272 hw) d_m3_135 rfl ?_
                          refine own_lcmp K0 d_m3_138 rfl ?_
                          refine own_ifYes K0 d_m3_139 (pc' := 145) (by decide) (by decide) ((if0 _ _).trans (tlt ((own_lcd hn63 (k := 10000000000000) (by decide)).mpr (by omega))).1) ?_
                          refine own_lloadN K0 d_m3_145 rfl rfl ?_
                          refine own_ldc2Long K0 (wd273 hw) d_m3_146 rfl ?_
                          refine own_lcmp K0 d_m3_149 rfl ?_
                          refine own_ifYes K0 d_m3_150 (pc' := 156) (by decide) (by decide) ((if0 _ _).trans (tlt ((own_lcd hn63 (k := 100000000000000) (by decide)).mpr (by omega))).1) ?_
                          refine own_lloadN K0 d_m3_156 rfl rfl ?_
                          refine own_ldc2Long K0 (wd274 hw) d_m3_157 rfl ?_
                          refine own_lcmp K0 d_m3_160 rfl ?_
                          refine own_ifYes K0 d_m3_161 (pc' := 167) (by decide) (by decide) ((if0 _ _).trans (tlt ((own_lcd hn63 (k := 1000000000000000) (by decide)).mpr (by omega))).1) ?_
                          refine own_lloadN K0 d_m3_167 rfl rfl ?_
                          refine own_ldc2Long K0 (wd275 hw) d_m3_168 rfl ?_
                          refine own_lcmp K0 d_m3_171 rfl ?_
                          refine own_ifYes K0 d_m3_172 (pc' := 178) (by decide) (by decide) ((if0 _ _).trans (tlt ((own_lcd hn63 (k := 10000000000000000) (by decide)).mpr (by omega))).1) ?_
                          refine own_lloadN K0 d_m3_178 rfl rfl ?_
                          refine own_ldc2Long K0 (wd276 hw) d_m3_179 rfl ?_
                          refine own_lcmp K0 d_m3_182 rfl ?_
                          refine own_ifYes K0 d_m3_183 (pc' := 189) (by decide) (by decide) ((if0 _ _).trans (tlt ((own_lcd hn63 (k := 100000000000000000) (by decide)).mpr (by omega))).1) ?_
                          refine own_lloadN K0 d_m3_189 rfl rfl ?_
                          refine own_ldc2Long K0 (wd277 hw) d_m3_190 rfl ?_
                          refine own_lcmp K0 d_m3_193 rfl ?_
                          refine own_ifYes K0 d_m3_194 (pc' := 200) (by decide) (by decide) ((if0 _ _).trans (tlt ((own_lcd hn63 (k := 1000000000000000000) (by decide)).mpr (by omega))).1) ?_
                          refine own_iloadN K0 d_m3_200 rfl rfl ?_
                          exact own_retI K0 d_m3_201 rfl (by decide) (by decide) ⟨by rw [own_dg_len 11 vn (by omega) (by omega)]; rfl, rfl⟩
                        · skip
                          refine own_ifNo K0 d_m3_128 rfl ((if0 _ _).trans (flt (fun q => hb12 ((own_lcd hn63 (k := 1000000000000) (by decide)).mp q))).1) ?_
                          refine own_iinc K0 (Ls' := #[.val (.long (Int64.ofNat vn)), .second, .val (.int ((12 : Int32) + (1 : Int32)))]) (x := (12 : Int32)) (v := (12 : Int32)) d_m3_131 rfl rfl rfl ?_
                          rw [show (12 : Int32) + (1 : Int32) = (13 : Int32) from by decide]
                          refine own_lloadN K0 d_m3_134 rfl rfl ?_
                          refine own_ldc2Long K0 (wd272 hw) d_m3_135 rfl ?_
                          refine own_lcmp K0 d_m3_138 rfl ?_
                          by_cases hb13 : vn < 10000000000000
                          · skip
                            refine own_ifYes K0 d_m3_139 (pc' := 145) (by decide) (by decide) ((if0 _ _).trans (tlt ((own_lcd hn63 (k := 10000000000000) (by decide)).mpr hb13)).1) ?_
                            refine own_lloadN K0 d_m3_145 rfl rfl ?_
                            refine own_ldc2Long K0 (wd273 hw) d_m3_146 rfl ?_
                            refine own_lcmp K0 d_m3_149 rfl ?_
                            refine own_ifYes K0 d_m3_150 (pc' := 156) (by decide) (by decide) ((if0 _ _).trans (tlt ((own_lcd hn63 (k := 100000000000000) (by decide)).mpr (by omega))).1) ?_
                            refine own_lloadN K0 d_m3_156 rfl rfl ?_
                            refine own_ldc2Long K0 (wd274 hw) d_m3_157 rfl ?_
                            refine own_lcmp K0 d_m3_160 rfl ?_
                            refine own_ifYes K0 d_m3_161 (pc' := 167) (by decide) (by decide) ((if0 _ _).trans (tlt ((own_lcd hn63 (k := 1000000000000000) (by decide)).mpr (by omega))).1) ?_
                            refine own_lloadN K0 d_m3_167 rfl rfl ?_
                            refine own_ldc2Long K0 (wd275 hw) d_m3_168 rfl ?_
                            refine own_lcmp K0 d_m3_171 rfl ?_
                            refine own_ifYes K0 d_m3_172 (pc' := 178) (by decide) (by decide) ((if0 _ _).trans (tlt ((own_lcd hn63 (k := 10000000000000000) (by decide)).mpr (by omega))).1) ?_
                            refine own_lloadN K0 d_m3_178 rfl rfl ?_
                            refine own_ldc2Long K0 (wd276 hw) d_m3_179 rfl ?_
                            refine own_lcmp K0 d_m3_182 rfl ?_
                            refine own_ifYes K0 d_m3_183 (pc' := 189) (by decide) (by decide) ((if0 _ _).trans (tlt ((own_lcd hn63 (k := 100000000000000000) (by decide)).mpr (by omega))).1) ?_
                            refine own_lloadN K0 d_m3_189 rfl rfl ?_
                            refine own_ldc2Long K0 (wd277 hw) d_m3_190 rfl ?_
                            refine own_lcmp K0 d_m3_193 rfl ?_
                            refine own_ifYes K0 d_m3_194 (pc' := 200) (by decide) (by decide) ((if0 _ _).trans (tlt ((own_lcd hn63 (k := 1000000000000000000) (by decide)).mpr (by omega))).1) ?_
                            refine own_iloadN K0 d_m3_200 rfl rfl ?_
                            exact own_retI K0 d_m3_201 rfl (by decide) (by decide) ⟨by rw [own_dg_len 12 vn (by omega) (by omega)]; rfl, rfl⟩
                          · skip
                            refine own_ifNo K0 d_m3_139 rfl ((if0 _ _).trans (flt (fun q => hb13 ((own_lcd hn63 (k := 10000000000000) (by decide)).mp q))).1) ?_
                            refine own_iinc K0 (Ls' := #[.val (.long (Int64.ofNat vn)), .second, .val (.int ((13 : Int32) + (1 : Int32)))]) (x := (13 : Int32)) (v := (13 : Int32)) d_m3_142 rfl rfl rfl ?_
                            rw [show (13 : Int32) + (1 : Int32) = (14 : Int32) from by decide]
                            refine own_lloadN K0 d_m3_145 rfl rfl ?_
                            refine own_ldc2Long K0 (wd273 hw) d_m3_146 rfl ?_
                            refine own_lcmp K0 d_m3_149 rfl ?_
                            by_cases hb14 : vn < 100000000000000
                            · skip
                              refine own_ifYes K0 d_m3_150 (pc' := 156) (by decide) (by decide) ((if0 _ _).trans (tlt ((own_lcd hn63 (k := 100000000000000) (by decide)).mpr hb14)).1) ?_
                              refine own_lloadN K0 d_m3_156 rfl rfl ?_
                              refine own_ldc2Long K0 (wd274 hw) d_m3_157 rfl ?_
                              refine own_lcmp K0 d_m3_160 rfl ?_
                              refine own_ifYes K0 d_m3_161 (pc' := 167) (by decide) (by decide) ((if0 _ _).trans (tlt ((own_lcd hn63 (k := 1000000000000000) (by decide)).mpr (by omega))).1) ?_
                              refine own_lloadN K0 d_m3_167 rfl rfl ?_
                              refine own_ldc2Long K0 (wd275 hw) d_m3_168 rfl ?_
                              refine own_lcmp K0 d_m3_171 rfl ?_
                              refine own_ifYes K0 d_m3_172 (pc' := 178) (by decide) (by decide) ((if0 _ _).trans (tlt ((own_lcd hn63 (k := 10000000000000000) (by decide)).mpr (by omega))).1) ?_
                              refine own_lloadN K0 d_m3_178 rfl rfl ?_
                              refine own_ldc2Long K0 (wd276 hw) d_m3_179 rfl ?_
                              refine own_lcmp K0 d_m3_182 rfl ?_
                              refine own_ifYes K0 d_m3_183 (pc' := 189) (by decide) (by decide) ((if0 _ _).trans (tlt ((own_lcd hn63 (k := 100000000000000000) (by decide)).mpr (by omega))).1) ?_
                              refine own_lloadN K0 d_m3_189 rfl rfl ?_
                              refine own_ldc2Long K0 (wd277 hw) d_m3_190 rfl ?_
                              refine own_lcmp K0 d_m3_193 rfl ?_
                              refine own_ifYes K0 d_m3_194 (pc' := 200) (by decide) (by decide) ((if0 _ _).trans (tlt ((own_lcd hn63 (k := 1000000000000000000) (by decide)).mpr (by omega))).1) ?_
                              refine own_iloadN K0 d_m3_200 rfl rfl ?_
                              exact own_retI K0 d_m3_201 rfl (by decide) (by decide) ⟨by rw [own_dg_len 13 vn (by omega) (by omega)]; rfl, rfl⟩
                            · skip
                              refine own_ifNo K0 d_m3_150 rfl ((if0 _ _).trans (flt (fun q => hb14 ((own_lcd hn63 (k := 100000000000000) (by decide)).mp q))).1) ?_
                              refine own_iinc K0 (Ls' := #[.val (.long (Int64.ofNat vn)), .second, .val (.int ((14 : Int32) + (1 : Int32)))]) (x := (14 : Int32)) (v := (14 : Int32)) d_m3_153 rfl rfl rfl ?_
                              rw [show (14 : Int32) + (1 : Int32) = (15 : Int32) from by decide]
                              refine own_lloadN K0 d_m3_156 rfl rfl ?_
                              refine own_ldc2Long K0 (wd274 hw) d_m3_157 rfl ?_
                              refine own_lcmp K0 d_m3_160 rfl ?_
                              by_cases hb15 : vn < 1000000000000000
                              · skip
                                refine own_ifYes K0 d_m3_161 (pc' := 167) (by decide) (by decide) ((if0 _ _).trans (tlt ((own_lcd hn63 (k := 1000000000000000) (by decide)).mpr hb15)).1) ?_
                                refine own_lloadN K0 d_m3_167 rfl rfl ?_
                                refine own_ldc2Long K0 (wd275 hw) d_m3_168 rfl ?_
                                refine own_lcmp K0 d_m3_171 rfl ?_
                                refine own_ifYes K0 d_m3_172 (pc' := 178) (by decide) (by decide) ((if0 _ _).trans (tlt ((own_lcd hn63 (k := 10000000000000000) (by decide)).mpr (by omega))).1) ?_
                                refine own_lloadN K0 d_m3_178 rfl rfl ?_
                                refine own_ldc2Long K0 (wd276 hw) d_m3_179 rfl ?_
                                refine own_lcmp K0 d_m3_182 rfl ?_
                                refine own_ifYes K0 d_m3_183 (pc' := 189) (by decide) (by decide) ((if0 _ _).trans (tlt ((own_lcd hn63 (k := 100000000000000000) (by decide)).mpr (by omega))).1) ?_
                                refine own_lloadN K0 d_m3_189 rfl rfl ?_
                                refine own_ldc2Long K0 (wd277 hw) d_m3_190 rfl ?_
                                refine own_lcmp K0 d_m3_193 rfl ?_
                                refine own_ifYes K0 d_m3_194 (pc' := 200) (by decide) (by decide) ((if0 _ _).trans (tlt ((own_lcd hn63 (k := 1000000000000000000) (by decide)).mpr (by omega))).1) ?_
                                refine own_iloadN K0 d_m3_200 rfl rfl ?_
                                exact own_retI K0 d_m3_201 rfl (by decide) (by decide) ⟨by rw [own_dg_len 14 vn (by omega) (by omega)]; rfl, rfl⟩
                              · skip
                                refine own_ifNo K0 d_m3_161 rfl ((if0 _ _).trans (flt (fun q => hb15 ((own_lcd hn63 (k := 1000000000000000) (by decide)).mp q))).1) ?_
                                refine own_iinc K0 (Ls' := #[.val (.long (Int64.ofNat vn)), .second, .val (.int ((15 : Int32) + (1 : Int32)))]) (x := (15 : Int32)) (v := (15 : Int32)) d_m3_164 rfl rfl rfl ?_
                                rw [show (15 : Int32) + (1 : Int32) = (16 : Int32) from by decide]
                                refine own_lloadN K0 d_m3_167 rfl rfl ?_
                                refine own_ldc2Long K0 (wd275 hw) d_m3_168 rfl ?_
                                refine own_lcmp K0 d_m3_171 rfl ?_
                                by_cases hb16 : vn < 10000000000000000
                                · skip
                                  refine own_ifYes K0 d_m3_172 (pc' := 178) (by decide) (by decide) ((if0 _ _).trans (tlt ((own_lcd hn63 (k := 10000000000000000) (by decide)).mpr hb16)).1) ?_
                                  refine own_lloadN K0 d_m3_178 rfl rfl ?_
                                  refine own_ldc2Long K0 (wd276 hw) d_m3_179 rfl ?_
                                  refine own_lcmp K0 d_m3_182 rfl ?_
                                  refine own_ifYes K0 d_m3_183 (pc' := 189) (by decide) (by decide) ((if0 _ _).trans (tlt ((own_lcd hn63 (k := 100000000000000000) (by decide)).mpr (by omega))).1) ?_
                                  refine own_lloadN K0 d_m3_189 rfl rfl ?_
                                  refine own_ldc2Long K0 (wd277 hw) d_m3_190 rfl ?_
                                  refine own_lcmp K0 d_m3_193 rfl ?_
                                  refine own_ifYes K0 d_m3_194 (pc' := 200) (by decide) (by decide) ((if0 _ _).trans (tlt ((own_lcd hn63 (k := 1000000000000000000) (by decide)).mpr (by omega))).1) ?_
                                  refine own_iloadN K0 d_m3_200 rfl rfl ?_
                                  exact own_retI K0 d_m3_201 rfl (by decide) (by decide) ⟨by rw [own_dg_len 15 vn (by omega) (by omega)]; rfl, rfl⟩
                                · skip
                                  refine own_ifNo K0 d_m3_172 rfl ((if0 _ _).trans (flt (fun q => hb16 ((own_lcd hn63 (k := 10000000000000000) (by decide)).mp q))).1) ?_
                                  refine own_iinc K0 (Ls' := #[.val (.long (Int64.ofNat vn)), .second, .val (.int ((16 : Int32) + (1 : Int32)))]) (x := (16 : Int32)) (v := (16 : Int32)) d_m3_175 rfl rfl rfl ?_
                                  rw [show (16 : Int32) + (1 : Int32) = (17 : Int32) from by decide]
                                  refine own_lloadN K0 d_m3_178 rfl rfl ?_
                                  refine own_ldc2Long K0 (wd276 hw) d_m3_179 rfl ?_
                                  refine own_lcmp K0 d_m3_182 rfl ?_
                                  by_cases hb17 : vn < 100000000000000000
                                  · skip
                                    refine own_ifYes K0 d_m3_183 (pc' := 189) (by decide) (by decide) ((if0 _ _).trans (tlt ((own_lcd hn63 (k := 100000000000000000) (by decide)).mpr hb17)).1) ?_
                                    refine own_lloadN K0 d_m3_189 rfl rfl ?_
                                    refine own_ldc2Long K0 (wd277 hw) d_m3_190 rfl ?_
                                    refine own_lcmp K0 d_m3_193 rfl ?_
                                    refine own_ifYes K0 d_m3_194 (pc' := 200) (by decide) (by decide) ((if0 _ _).trans (tlt ((own_lcd hn63 (k := 1000000000000000000) (by decide)).mpr (by omega))).1) ?_
                                    refine own_iloadN K0 d_m3_200 rfl rfl ?_
                                    exact own_retI K0 d_m3_201 rfl (by decide) (by decide) ⟨by rw [own_dg_len 16 vn (by omega) (by omega)]; rfl, rfl⟩
                                  · skip
                                    refine own_ifNo K0 d_m3_183 rfl ((if0 _ _).trans (flt (fun q => hb17 ((own_lcd hn63 (k := 100000000000000000) (by decide)).mp q))).1) ?_
                                    refine own_iinc K0 (Ls' := #[.val (.long (Int64.ofNat vn)), .second, .val (.int ((17 : Int32) + (1 : Int32)))]) (x := (17 : Int32)) (v := (17 : Int32)) d_m3_186 rfl rfl rfl ?_
                                    rw [show (17 : Int32) + (1 : Int32) = (18 : Int32) from by decide]
                                    refine own_lloadN K0 d_m3_189 rfl rfl ?_
                                    refine own_ldc2Long K0 (wd277 hw) d_m3_190 rfl ?_
                                    refine own_lcmp K0 d_m3_193 rfl ?_
                                    by_cases hb18 : vn < 1000000000000000000
                                    · skip
                                      refine own_ifYes K0 d_m3_194 (pc' := 200) (by decide) (by decide) ((if0 _ _).trans (tlt ((own_lcd hn63 (k := 1000000000000000000) (by decide)).mpr hb18)).1) ?_
                                      refine own_iloadN K0 d_m3_200 rfl rfl ?_
                                      exact own_retI K0 d_m3_201 rfl (by decide) (by decide) ⟨by rw [own_dg_len 17 vn (by omega) (by omega)]; rfl, rfl⟩
                                    · skip
                                      refine own_ifNo K0 d_m3_194 rfl ((if0 _ _).trans (flt (fun q => hb18 ((own_lcd hn63 (k := 1000000000000000000) (by decide)).mp q))).1) ?_
                                      refine own_iinc K0 (Ls' := #[.val (.long (Int64.ofNat vn)), .second, .val (.int ((18 : Int32) + (1 : Int32)))]) (x := (18 : Int32)) (v := (18 : Int32)) d_m3_197 rfl rfl rfl ?_
                                      rw [show (18 : Int32) + (1 : Int32) = (19 : Int32) from by decide]
                                      refine own_iloadN K0 d_m3_200 rfl rfl ?_
                                      exact own_retI K0 d_m3_201 rfl (by decide) (by decide) ⟨by rw [own_dg_len 18 vn (by omega) (by omega)]; rfl, rfl⟩
theorem d_m5_0 : decode method_5_code 0 = .ok (.iload_n 3, 1) := by decide +kernel
theorem d_m5_1 : decode method_5_code 1 = .ok (.aload_n 2, 1) := by decide +kernel
theorem d_m5_2 : decode method_5_code 2 = .ok (.invokevirtual 35, 3) := by decide +kernel
theorem wd278 {a0 : Array Value} {Z : State} (hw : ∀ d ∈ tables_1, d.before a0 Z = true) : (Jvm.Cond.methodLink "com/example/tallymark/tallymark/MalformedTextExceptionGetMessagePinLaw" (35 : Nat) ({ cls := "java/lang/String", name := "length", desc := "()I" } : Jvm.MethodName)).before a0 Z = true := hw _ (List.mem_of_getElem? (i := 278) rfl)
theorem d_m5_5 : decode method_5_code 5 = .ok (.if_icmp .ge 18, 3) := by decide +kernel
theorem d_m5_8 : decode method_5_code 8 = .ok (.aload_n 0, 1) := by decide +kernel
theorem d_m5_9 : decode method_5_code 9 = .ok (.iload_n 1, 1) := by decide +kernel
theorem d_m5_10 : decode method_5_code 10 = .ok (.iload_n 3, 1) := by decide +kernel
theorem d_m5_11 : decode method_5_code 11 = .ok (.iadd, 1) := by decide +kernel
theorem d_m5_12 : decode method_5_code 12 = .ok (.invokevirtual 83, 3) := by decide +kernel
theorem wd289 {a0 : Array Value} {Z : State} (hw : ∀ d ∈ tables_1, d.before a0 Z = true) : (Jvm.Cond.code ({ cls := "java/lang/String", name := "charAt", desc := "(I)C" } : Jvm.MethodName) jdk_42_method_56_code (2 : Nat) (Option.some Jvm.ClassFile.FieldType.char)).before a0 Z = true := hw _ (List.mem_of_getElem? (i := 289) rfl)
theorem pd_28I29C : parseMethodDescriptor "(I)C" = some ⟨[.int], some .char⟩ := by decide +kernel
theorem wd285 {a0 : Array Value} {Z : State} (hw : ∀ d ∈ tables_1, d.before a0 Z = true) : (Jvm.Cond.methodLink "com/example/tallymark/tallymark/MalformedTextExceptionGetMessagePinLaw" (83 : Nat) ({ cls := "java/lang/String", name := "charAt", desc := "(I)C" } : Jvm.MethodName)).before a0 Z = true := hw _ (List.mem_of_getElem? (i := 285) rfl)
theorem wd286 {a0 : Array Value} {Z : State} (hw : ∀ d ∈ tables_1, d.before a0 Z = true) : (Jvm.Cond.declares ({ cls := "java/lang/String", name := "charAt", desc := "(I)C" } : Jvm.MethodName)).before a0 Z = true := hw _ (List.mem_of_getElem? (i := 286) rfl)
theorem wd288 {a0 : Array Value} {Z : State} (hw : ∀ d ∈ tables_1, d.before a0 Z = true) : (Jvm.Cond.selects "java/lang/String" ({ cls := "java/lang/String", name := "charAt", desc := "(I)C" } : Jvm.MethodName) ({ cls := "java/lang/String", name := "charAt", desc := "(I)C" } : Jvm.MethodName)).before a0 Z = true := hw _ (List.mem_of_getElem? (i := 288) rfl)
theorem wd287 {a0 : Array Value} {Z : State} (hw : ∀ d ∈ tables_1, d.before a0 Z = true) : (Jvm.Cond.instanceMethod ({ cls := "java/lang/String", name := "charAt", desc := "(I)C" } : Jvm.MethodName)).before a0 Z = true := hw _ (List.mem_of_getElem? (i := 287) rfl)
theorem d_m5_15 : decode method_5_code 15 = .ok (.aload_n 2, 1) := by decide +kernel
theorem d_m5_16 : decode method_5_code 16 = .ok (.iload_n 3, 1) := by decide +kernel
theorem d_m5_17 : decode method_5_code 17 = .ok (.invokevirtual 83, 3) := by decide +kernel
theorem d_m5_20 : decode method_5_code 20 = .ok (.if_icmp .ne 7, 3) := by decide +kernel
theorem d_m5_23 : decode method_5_code 23 = .ok (.iconst 1, 1) := by decide +kernel
theorem d_m5_24 : decode method_5_code 24 = .ok (.goto 4, 3) := by decide +kernel
theorem d_m5_28 : decode method_5_code 28 = .ok (.ireturn, 1) := by decide +kernel
set_option maxRecDepth 65536 in
set_option maxHeartbeats 40000000 in
theorem rm_at {l : Launch} {Z : State} {a0 : Array Value} (hw : ∀ d ∈ tables_1, d.before a0 Z = true) (hs : ∀ d ∈ jdkStatics_1, d.before a0 Z = true) {r : Addr} {q : Addr} {pr : List Int32} {ds : List Int32} {po : List Int32} {i : Nat} {h0 : Heap} (O0 : Ext Z.heap h0) (S : own_StrG Z h0 r u (pr ++ ds ++ po)) (hlen : (pr ++ ds ++ po).length ≤ 4000) (hok : own_ok u (pr ++ ds ++ po)) (D : own_StrG Z h0 q u ds) (hod : own_ok u ds) (hi : i ≤ 100) :
    own_Ct l Z (⟨"com/example/tallymark/tallymark/MalformedTextExceptionGetMessagePinLaw", "at", "(Ljava/lang/String;ILjava/lang/String;I)Z"⟩ : MethodName) method_5_code 4 (some .boolean) [] ({ frames := 4, locals := 54, cells := 0, slots := 0 } : Room) #[(.ref r), (.int (Int32.ofNat pr.length)), (.ref q), (.int (Int32.ofNat i))] h0 (fun v h => v = some (.int 1) ∧ h = h0) := by
  refine own_body (Ls := #[.val (.ref r), .val (.int (Int32.ofNat pr.length)), .val (.ref q), .val (.int (Int32.ofNat i))]) (plainFor_of_name pn_com_example_tallymark_tallymark_MalformedTextExceptionGetMessagePinLaw) (fun m => by first | (simp [entryFrame, mkF, argsToLocals, Value.category]; done) | rfl) O0 ?_
  intro p e s m below meth c T0 G K0
  have hl2 : ds.length ≤ 4000 := by simp only [List.length_append] at hlen; omega
  refine own_iloadN K0 d_m5_0 rfl rfl ?_
  refine own_aloadN K0 d_m5_1 rfl rfl rfl ?_
  refine own_callV K0 (a := q) (x0 := (⟨"java/lang/String", "length", "()I"⟩ : MethodName)) (wd278 hw) (wd134 hw) (fun q => own_nfS (args := #[]) (mvT q (wd136 hw)) rfl) (wd136 hw) (wd135 hw) (rm_lengthS hw hs K0.O D hl2) (wd137 hw) (wd4 hw) (by decide) D.exa (argsL := []) (rest := [(.int (Int32.ofNat i))]) rfl pd_2829I rfl rfl (W := 1) rfl (by decide) (by decide) (by decide) (by decide) d_m5_2 rfl ?_
  intro T164 h164 L164 v164 K164 q164
  obtain ⟨rfl, e164⟩ := q164
  have f164 := e164.symm
  subst f164
  show G (T164.setTop (mkF m 5 #[.val (.ref r), .val (.int (Int32.ofNat pr.length)), .val (.ref q), .val (.int (Int32.ofNat i))] [(.int (Int32.ofNat ds.length)), (.int (Int32.ofNat i))]))
  by_cases hq : i < ds.length
  · skip
    refine own_icmpNo K164 d_m5_5 rfl (tlt (own_lt hq (by omega))).2.1 ?_
    refine own_aloadN K164 d_m5_8 rfl rfl rfl ?_
    refine own_iloadN K164 d_m5_9 rfl rfl ?_
    refine own_iloadN K164 d_m5_10 rfl rfl ?_
    refine own_iadd K164 d_m5_11 rfl ?_
    rw [own_addN]
    refine own_callV K164 (a := r) (x0 := (⟨"java/lang/String", "charAt", "(I)C"⟩ : MethodName)) (wd285 hw) (wd286 hw) (fun q => own_nfS (args := #[]) (mvT q (wd136 hw)) rfl) (wd288 hw) (wd287 hw) (rm_charAtE hw hs (y := ds[i]) (i := pr.length + i) K164.O S hlen hok (own_atM pr ds po hq)) (wd289 hw) (wd4 hw) (by decide) S.exa (argsL := [(.int (Int32.ofNat (pr.length + i)))]) (rest := []) rfl pd_28I29C rfl rfl (W := 0) rfl (by decide) (by decide) (by decide) (by decide) d_m5_12 rfl ?_
    intro T165 h165 L165 v165 K165 q165
    obtain ⟨rfl, e165⟩ := q165
    have f165 := e165.symm
    subst f165
    show G (T165.setTop (mkF m 15 #[.val (.ref r), .val (.int (Int32.ofNat pr.length)), .val (.ref q), .val (.int (Int32.ofNat i))] [(.int ds[i])]))
    refine own_aloadN K165 d_m5_15 rfl rfl rfl ?_
    refine own_iloadN K165 d_m5_16 rfl rfl ?_
    refine own_callV K165 (a := q) (x0 := (⟨"java/lang/String", "charAt", "(I)C"⟩ : MethodName)) (wd285 hw) (wd286 hw) (fun q => own_nfS (args := #[]) (mvT q (wd136 hw)) rfl) (wd288 hw) (wd287 hw) (rm_charAtE hw hs (y := ds[i]) (i := i) K165.O D hl2 hod (List.getElem?_eq_getElem hq)) (wd289 hw) (wd4 hw) (by decide) D.exa (argsL := [(.int (Int32.ofNat i))]) (rest := [(.int ds[i])]) rfl pd_28I29C rfl rfl (W := 1) rfl (by decide) (by decide) (by decide) (by decide) d_m5_17 rfl ?_
    intro T166 h166 L166 v166 K166 q166
    obtain ⟨rfl, e166⟩ := q166
    have f166 := e166.symm
    subst f166
    show G (T166.setTop (mkF m 20 #[.val (.ref r), .val (.int (Int32.ofNat pr.length)), .val (.ref q), .val (.int (Int32.ofNat i))] [(.int ds[i]), (.int ds[i])]))
    refine own_icmpNo K166 d_m5_20 rfl (teq rfl).2 ?_
    refine own_iconst K166 (v := (1 : Int32)) d_m5_23 rfl rfl ?_
    refine own_goto K166 d_m5_24 (pc' := 28) (by decide) (by decide) ?_
    exact own_retN K166 (z' := (1 : Int32)) d_m5_28 rfl (by simp) (by decide) (by decide) (by decide) ⟨rfl, rfl⟩
  · skip
    refine own_icmpYes K164 d_m5_5 (pc' := 23) (by decide) (by decide) (flt (own_nlt (by omega) (by omega))).2.1 ?_
    refine own_iconst K164 (v := (1 : Int32)) d_m5_23 rfl rfl ?_
    refine own_goto K164 d_m5_24 (pc' := 28) (by decide) (by decide) ?_
    exact own_retN K164 (z' := (1 : Int32)) d_m5_28 rfl (by simp) (by decide) (by decide) (by decide) ⟨rfl, rfl⟩
theorem d_m6_0 : decode method_6_code 0 = .ok (.aload_n 0, 1) := by decide +kernel
theorem d_m6_1 : decode method_6_code 1 = .ok (.iload_n 1, 1) := by decide +kernel
theorem d_m6_2 : decode method_6_code 2 = .ok (.aload_n 2, 1) := by decide +kernel
theorem d_m6_3 : decode method_6_code 3 = .ok (.iconst 0, 1) := by decide +kernel
theorem d_m6_4 : decode method_6_code 4 = .ok (.invokestatic 87, 3) := by decide +kernel
theorem wd284 {a0 : Array Value} {Z : State} (hw : ∀ d ∈ tables_1, d.before a0 Z = true) : (Jvm.Cond.code ({ cls := "com/example/tallymark/tallymark/MalformedTextExceptionGetMessagePinLaw", name := "at", desc := "(Ljava/lang/String;ILjava/lang/String;I)Z" } : Jvm.MethodName) method_5_code (4 : Nat) (Option.some Jvm.ClassFile.FieldType.boolean)).before a0 Z = true := hw _ (List.mem_of_getElem? (i := 284) rfl)
theorem wd258 {a0 : Array Value} {Z : State} (hw : ∀ d ∈ tables_1, d.before a0 Z = true) : (Jvm.Cond.initialized "com/example/tallymark/tallymark/MalformedTextExceptionGetMessagePinLaw").before a0 Z = true := hw _ (List.mem_of_getElem? (i := 258) rfl)
theorem pd_28Ljava2flang2fString3bILjava2flang2fString3bI29Z : parseMethodDescriptor "(Ljava/lang/String;ILjava/lang/String;I)Z" = some ⟨[(.object "java/lang/String"), .int, (.object "java/lang/String"), .int], some .boolean⟩ := by decide +kernel
theorem wd282 {a0 : Array Value} {Z : State} (hw : ∀ d ∈ tables_1, d.before a0 Z = true) : (Jvm.Cond.methodLink "com/example/tallymark/tallymark/MalformedTextExceptionGetMessagePinLaw" (87 : Nat) ({ cls := "com/example/tallymark/tallymark/MalformedTextExceptionGetMessagePinLaw", name := "at", desc := "(Ljava/lang/String;ILjava/lang/String;I)Z" } : Jvm.MethodName)).before a0 Z = true := hw _ (List.mem_of_getElem? (i := 282) rfl)
theorem wd283 {a0 : Array Value} {Z : State} (hw : ∀ d ∈ tables_1, d.before a0 Z = true) : (Jvm.Cond.static ({ cls := "com/example/tallymark/tallymark/MalformedTextExceptionGetMessagePinLaw", name := "at", desc := "(Ljava/lang/String;ILjava/lang/String;I)Z" } : Jvm.MethodName)).before a0 Z = true := hw _ (List.mem_of_getElem? (i := 283) rfl)
theorem d_m6_7 : decode method_6_code 7 = .ok (.ifCond .eq 200, 3) := by decide +kernel
theorem d_m6_10 : decode method_6_code 10 = .ok (.aload_n 0, 1) := by decide +kernel
theorem d_m6_11 : decode method_6_code 11 = .ok (.iload_n 1, 1) := by decide +kernel
theorem d_m6_12 : decode method_6_code 12 = .ok (.aload_n 2, 1) := by decide +kernel
theorem d_m6_13 : decode method_6_code 13 = .ok (.iconst 1, 1) := by decide +kernel
theorem d_m6_14 : decode method_6_code 14 = .ok (.invokestatic 87, 3) := by decide +kernel
theorem d_m6_17 : decode method_6_code 17 = .ok (.ifCond .eq 190, 3) := by decide +kernel
theorem d_m6_20 : decode method_6_code 20 = .ok (.aload_n 0, 1) := by decide +kernel
theorem d_m6_21 : decode method_6_code 21 = .ok (.iload_n 1, 1) := by decide +kernel
theorem d_m6_22 : decode method_6_code 22 = .ok (.aload_n 2, 1) := by decide +kernel
theorem d_m6_23 : decode method_6_code 23 = .ok (.iconst 2, 1) := by decide +kernel
theorem d_m6_24 : decode method_6_code 24 = .ok (.invokestatic 87, 3) := by decide +kernel
theorem d_m6_27 : decode method_6_code 27 = .ok (.ifCond .eq 180, 3) := by decide +kernel
theorem d_m6_30 : decode method_6_code 30 = .ok (.aload_n 0, 1) := by decide +kernel
theorem d_m6_31 : decode method_6_code 31 = .ok (.iload_n 1, 1) := by decide +kernel
theorem d_m6_32 : decode method_6_code 32 = .ok (.aload_n 2, 1) := by decide +kernel
theorem d_m6_33 : decode method_6_code 33 = .ok (.iconst 3, 1) := by decide +kernel
theorem d_m6_34 : decode method_6_code 34 = .ok (.invokestatic 87, 3) := by decide +kernel
theorem d_m6_37 : decode method_6_code 37 = .ok (.ifCond .eq 170, 3) := by decide +kernel
theorem d_m6_40 : decode method_6_code 40 = .ok (.aload_n 0, 1) := by decide +kernel
theorem d_m6_41 : decode method_6_code 41 = .ok (.iload_n 1, 1) := by decide +kernel
theorem d_m6_42 : decode method_6_code 42 = .ok (.aload_n 2, 1) := by decide +kernel
theorem d_m6_43 : decode method_6_code 43 = .ok (.iconst 4, 1) := by decide +kernel
theorem d_m6_44 : decode method_6_code 44 = .ok (.invokestatic 87, 3) := by decide +kernel
theorem d_m6_47 : decode method_6_code 47 = .ok (.ifCond .eq 160, 3) := by decide +kernel
theorem d_m6_50 : decode method_6_code 50 = .ok (.aload_n 0, 1) := by decide +kernel
theorem d_m6_51 : decode method_6_code 51 = .ok (.iload_n 1, 1) := by decide +kernel
theorem d_m6_52 : decode method_6_code 52 = .ok (.aload_n 2, 1) := by decide +kernel
theorem d_m6_53 : decode method_6_code 53 = .ok (.iconst 5, 1) := by decide +kernel
theorem d_m6_54 : decode method_6_code 54 = .ok (.invokestatic 87, 3) := by decide +kernel
theorem d_m6_57 : decode method_6_code 57 = .ok (.ifCond .eq 150, 3) := by decide +kernel
theorem d_m6_60 : decode method_6_code 60 = .ok (.aload_n 0, 1) := by decide +kernel
theorem d_m6_61 : decode method_6_code 61 = .ok (.iload_n 1, 1) := by decide +kernel
theorem d_m6_62 : decode method_6_code 62 = .ok (.aload_n 2, 1) := by decide +kernel
theorem d_m6_63 : decode method_6_code 63 = .ok (.bipush 6, 2) := by decide +kernel
theorem d_m6_65 : decode method_6_code 65 = .ok (.invokestatic 87, 3) := by decide +kernel
theorem d_m6_68 : decode method_6_code 68 = .ok (.ifCond .eq 139, 3) := by decide +kernel
theorem d_m6_71 : decode method_6_code 71 = .ok (.aload_n 0, 1) := by decide +kernel
theorem d_m6_72 : decode method_6_code 72 = .ok (.iload_n 1, 1) := by decide +kernel
theorem d_m6_73 : decode method_6_code 73 = .ok (.aload_n 2, 1) := by decide +kernel
theorem d_m6_74 : decode method_6_code 74 = .ok (.bipush 7, 2) := by decide +kernel
theorem d_m6_76 : decode method_6_code 76 = .ok (.invokestatic 87, 3) := by decide +kernel
theorem d_m6_79 : decode method_6_code 79 = .ok (.ifCond .eq 128, 3) := by decide +kernel
theorem d_m6_82 : decode method_6_code 82 = .ok (.aload_n 0, 1) := by decide +kernel
theorem d_m6_83 : decode method_6_code 83 = .ok (.iload_n 1, 1) := by decide +kernel
theorem d_m6_84 : decode method_6_code 84 = .ok (.aload_n 2, 1) := by decide +kernel
theorem d_m6_85 : decode method_6_code 85 = .ok (.bipush 8, 2) := by decide +kernel
theorem d_m6_87 : decode method_6_code 87 = .ok (.invokestatic 87, 3) := by decide +kernel
theorem d_m6_90 : decode method_6_code 90 = .ok (.ifCond .eq 117, 3) := by decide +kernel
theorem d_m6_93 : decode method_6_code 93 = .ok (.aload_n 0, 1) := by decide +kernel
theorem d_m6_94 : decode method_6_code 94 = .ok (.iload_n 1, 1) := by decide +kernel
theorem d_m6_95 : decode method_6_code 95 = .ok (.aload_n 2, 1) := by decide +kernel
theorem d_m6_96 : decode method_6_code 96 = .ok (.bipush 9, 2) := by decide +kernel
theorem d_m6_98 : decode method_6_code 98 = .ok (.invokestatic 87, 3) := by decide +kernel
theorem d_m6_101 : decode method_6_code 101 = .ok (.ifCond .eq 106, 3) := by decide +kernel
theorem d_m6_104 : decode method_6_code 104 = .ok (.aload_n 0, 1) := by decide +kernel
theorem d_m6_105 : decode method_6_code 105 = .ok (.iload_n 1, 1) := by decide +kernel
theorem d_m6_106 : decode method_6_code 106 = .ok (.aload_n 2, 1) := by decide +kernel
theorem d_m6_107 : decode method_6_code 107 = .ok (.bipush 10, 2) := by decide +kernel
theorem d_m6_109 : decode method_6_code 109 = .ok (.invokestatic 87, 3) := by decide +kernel
theorem d_m6_112 : decode method_6_code 112 = .ok (.ifCond .eq 95, 3) := by decide +kernel
theorem d_m6_115 : decode method_6_code 115 = .ok (.aload_n 0, 1) := by decide +kernel
theorem d_m6_116 : decode method_6_code 116 = .ok (.iload_n 1, 1) := by decide +kernel
theorem d_m6_117 : decode method_6_code 117 = .ok (.aload_n 2, 1) := by decide +kernel
theorem d_m6_118 : decode method_6_code 118 = .ok (.bipush 11, 2) := by decide +kernel
theorem d_m6_120 : decode method_6_code 120 = .ok (.invokestatic 87, 3) := by decide +kernel
theorem d_m6_123 : decode method_6_code 123 = .ok (.ifCond .eq 84, 3) := by decide +kernel
theorem d_m6_126 : decode method_6_code 126 = .ok (.aload_n 0, 1) := by decide +kernel
theorem d_m6_127 : decode method_6_code 127 = .ok (.iload_n 1, 1) := by decide +kernel
theorem d_m6_128 : decode method_6_code 128 = .ok (.aload_n 2, 1) := by decide +kernel
theorem d_m6_129 : decode method_6_code 129 = .ok (.bipush 12, 2) := by decide +kernel
theorem d_m6_131 : decode method_6_code 131 = .ok (.invokestatic 87, 3) := by decide +kernel
theorem d_m6_134 : decode method_6_code 134 = .ok (.ifCond .eq 73, 3) := by decide +kernel
theorem d_m6_137 : decode method_6_code 137 = .ok (.aload_n 0, 1) := by decide +kernel
theorem d_m6_138 : decode method_6_code 138 = .ok (.iload_n 1, 1) := by decide +kernel
theorem d_m6_139 : decode method_6_code 139 = .ok (.aload_n 2, 1) := by decide +kernel
theorem d_m6_140 : decode method_6_code 140 = .ok (.bipush 13, 2) := by decide +kernel
theorem d_m6_142 : decode method_6_code 142 = .ok (.invokestatic 87, 3) := by decide +kernel
theorem d_m6_145 : decode method_6_code 145 = .ok (.ifCond .eq 62, 3) := by decide +kernel
theorem d_m6_148 : decode method_6_code 148 = .ok (.aload_n 0, 1) := by decide +kernel
theorem d_m6_149 : decode method_6_code 149 = .ok (.iload_n 1, 1) := by decide +kernel
theorem d_m6_150 : decode method_6_code 150 = .ok (.aload_n 2, 1) := by decide +kernel
theorem d_m6_151 : decode method_6_code 151 = .ok (.bipush 14, 2) := by decide +kernel
theorem d_m6_153 : decode method_6_code 153 = .ok (.invokestatic 87, 3) := by decide +kernel
theorem d_m6_156 : decode method_6_code 156 = .ok (.ifCond .eq 51, 3) := by decide +kernel
theorem d_m6_159 : decode method_6_code 159 = .ok (.aload_n 0, 1) := by decide +kernel
theorem d_m6_160 : decode method_6_code 160 = .ok (.iload_n 1, 1) := by decide +kernel
theorem d_m6_161 : decode method_6_code 161 = .ok (.aload_n 2, 1) := by decide +kernel
theorem d_m6_162 : decode method_6_code 162 = .ok (.bipush 15, 2) := by decide +kernel
theorem d_m6_164 : decode method_6_code 164 = .ok (.invokestatic 87, 3) := by decide +kernel
theorem d_m6_167 : decode method_6_code 167 = .ok (.ifCond .eq 40, 3) := by decide +kernel
theorem d_m6_170 : decode method_6_code 170 = .ok (.aload_n 0, 1) := by decide +kernel
theorem d_m6_171 : decode method_6_code 171 = .ok (.iload_n 1, 1) := by decide +kernel
theorem d_m6_172 : decode method_6_code 172 = .ok (.aload_n 2, 1) := by decide +kernel
theorem d_m6_173 : decode method_6_code 173 = .ok (.bipush 16, 2) := by decide +kernel
theorem d_m6_175 : decode method_6_code 175 = .ok (.invokestatic 87, 3) := by decide +kernel
theorem d_m6_178 : decode method_6_code 178 = .ok (.ifCond .eq 29, 3) := by decide +kernel
theorem d_m6_181 : decode method_6_code 181 = .ok (.aload_n 0, 1) := by decide +kernel
theorem d_m6_182 : decode method_6_code 182 = .ok (.iload_n 1, 1) := by decide +kernel
theorem d_m6_183 : decode method_6_code 183 = .ok (.aload_n 2, 1) := by decide +kernel
theorem d_m6_184 : decode method_6_code 184 = .ok (.bipush 17, 2) := by decide +kernel
theorem d_m6_186 : decode method_6_code 186 = .ok (.invokestatic 87, 3) := by decide +kernel
theorem d_m6_189 : decode method_6_code 189 = .ok (.ifCond .eq 18, 3) := by decide +kernel
theorem d_m6_192 : decode method_6_code 192 = .ok (.aload_n 0, 1) := by decide +kernel
theorem d_m6_193 : decode method_6_code 193 = .ok (.iload_n 1, 1) := by decide +kernel
theorem d_m6_194 : decode method_6_code 194 = .ok (.aload_n 2, 1) := by decide +kernel
theorem d_m6_195 : decode method_6_code 195 = .ok (.bipush 18, 2) := by decide +kernel
theorem d_m6_197 : decode method_6_code 197 = .ok (.invokestatic 87, 3) := by decide +kernel
theorem d_m6_200 : decode method_6_code 200 = .ok (.ifCond .eq 7, 3) := by decide +kernel
theorem d_m6_203 : decode method_6_code 203 = .ok (.iconst 1, 1) := by decide +kernel
theorem d_m6_204 : decode method_6_code 204 = .ok (.goto 4, 3) := by decide +kernel
theorem d_m6_208 : decode method_6_code 208 = .ok (.ireturn, 1) := by decide +kernel
set_option maxRecDepth 65536 in
set_option maxHeartbeats 40000000 in
theorem rm_lit {l : Launch} {Z : State} {a0 : Array Value} (hw : ∀ d ∈ tables_1, d.before a0 Z = true) (hs : ∀ d ∈ jdkStatics_1, d.before a0 Z = true) {r : Addr} {q : Addr} {pr : List Int32} {ds : List Int32} {po : List Int32} {h0 : Heap} (O0 : Ext Z.heap h0) (S : own_StrG Z h0 r u (pr ++ ds ++ po)) (hlen : (pr ++ ds ++ po).length ≤ 4000) (hok : own_ok u (pr ++ ds ++ po)) (D : own_StrG Z h0 q u ds) (hod : own_ok u ds) :
    own_Ct l Z (⟨"com/example/tallymark/tallymark/MalformedTextExceptionGetMessagePinLaw", "lit", "(Ljava/lang/String;ILjava/lang/String;)Z"⟩ : MethodName) method_6_code 3 (some .boolean) [] ({ frames := 5, locals := 69, cells := 0, slots := 0 } : Room) #[(.ref r), (.int (Int32.ofNat pr.length)), (.ref q)] h0 (fun v h => v = some (.int 1) ∧ h = h0) := by
  refine own_body (Ls := #[.val (.ref r), .val (.int (Int32.ofNat pr.length)), .val (.ref q)]) (plainFor_of_name pn_com_example_tallymark_tallymark_MalformedTextExceptionGetMessagePinLaw) (fun m => by first | (simp [entryFrame, mkF, argsToLocals, Value.category]; done) | rfl) O0 ?_
  intro p e s m below meth c T0 G K0
  refine own_aloadN K0 d_m6_0 rfl rfl rfl ?_
  refine own_iloadN K0 d_m6_1 rfl rfl ?_
  refine own_aloadN K0 d_m6_2 rfl rfl rfl ?_
  refine own_iconst K0 (v := (0 : Int32)) d_m6_3 rfl rfl ?_
  refine own_callS K0 (wd282 hw) (wd283 hw) (rm_at hw hs (i := 0) K0.O S hlen hok D hod (by decide)) (wd284 hw) (wd258 hw) (by decide) (argsL := [(.ref r), (.int (Int32.ofNat pr.length)), (.ref q), (.int (0 : Int32))]) (rest := []) rfl pd_28Ljava2flang2fString3bILjava2flang2fString3bI29Z rfl rfl (W := 0) rfl (by decide) (by decide) (by decide) (by decide) d_m6_4 rfl ?_
  intro T167 h167 L167 v167 K167 q167
  obtain ⟨rfl, e167⟩ := q167
  have f167 := e167.symm
  subst f167
  show G (T167.setTop (mkF m 7 #[.val (.ref r), .val (.int (Int32.ofNat pr.length)), .val (.ref q)] [(.int (1 : Int32))]))
  refine own_ifNo K167 d_m6_7 rfl ((if0 _ _).trans (feq (by decide)).1) ?_
  refine own_aloadN K167 d_m6_10 rfl rfl rfl ?_
  refine own_iloadN K167 d_m6_11 rfl rfl ?_
  refine own_aloadN K167 d_m6_12 rfl rfl rfl ?_
  refine own_iconst K167 (v := (1 : Int32)) d_m6_13 rfl rfl ?_
  refine own_callS K167 (wd282 hw) (wd283 hw) (rm_at hw hs (i := 1) K167.O S hlen hok D hod (by decide)) (wd284 hw) (wd258 hw) (by decide) (argsL := [(.ref r), (.int (Int32.ofNat pr.length)), (.ref q), (.int (1 : Int32))]) (rest := []) rfl pd_28Ljava2flang2fString3bILjava2flang2fString3bI29Z rfl rfl (W := 0) rfl (by decide) (by decide) (by decide) (by decide) d_m6_14 rfl ?_
  intro T168 h168 L168 v168 K168 q168
  obtain ⟨rfl, e168⟩ := q168
  have f168 := e168.symm
  subst f168
  show G (T168.setTop (mkF m 17 #[.val (.ref r), .val (.int (Int32.ofNat pr.length)), .val (.ref q)] [(.int (1 : Int32))]))
  refine own_ifNo K168 d_m6_17 rfl ((if0 _ _).trans (feq (by decide)).1) ?_
  refine own_aloadN K168 d_m6_20 rfl rfl rfl ?_
  refine own_iloadN K168 d_m6_21 rfl rfl ?_
  refine own_aloadN K168 d_m6_22 rfl rfl rfl ?_
  refine own_iconst K168 (v := (2 : Int32)) d_m6_23 rfl rfl ?_
  refine own_callS K168 (wd282 hw) (wd283 hw) (rm_at hw hs (i := 2) K168.O S hlen hok D hod (by decide)) (wd284 hw) (wd258 hw) (by decide) (argsL := [(.ref r), (.int (Int32.ofNat pr.length)), (.ref q), (.int (2 : Int32))]) (rest := []) rfl pd_28Ljava2flang2fString3bILjava2flang2fString3bI29Z rfl rfl (W := 0) rfl (by decide) (by decide) (by decide) (by decide) d_m6_24 rfl ?_
  intro T169 h169 L169 v169 K169 q169
  obtain ⟨rfl, e169⟩ := q169
  have f169 := e169.symm
  subst f169
  show G (T169.setTop (mkF m 27 #[.val (.ref r), .val (.int (Int32.ofNat pr.length)), .val (.ref q)] [(.int (1 : Int32))]))
  refine own_ifNo K169 d_m6_27 rfl ((if0 _ _).trans (feq (by decide)).1) ?_
  refine own_aloadN K169 d_m6_30 rfl rfl rfl ?_
  refine own_iloadN K169 d_m6_31 rfl rfl ?_
  refine own_aloadN K169 d_m6_32 rfl rfl rfl ?_
  refine own_iconst K169 (v := (3 : Int32)) d_m6_33 rfl rfl ?_
  refine own_callS K169 (wd282 hw) (wd283 hw) (rm_at hw hs (i := 3) K169.O S hlen hok D hod (by decide)) (wd284 hw) (wd258 hw) (by decide) (argsL := [(.ref r), (.int (Int32.ofNat pr.length)), (.ref q), (.int (3 : Int32))]) (rest := []) rfl pd_28Ljava2flang2fString3bILjava2flang2fString3bI29Z rfl rfl (W := 0) rfl (by decide) (by decide) (by decide) (by decide) d_m6_34 rfl ?_
  intro T170 h170 L170 v170 K170 q170
  obtain ⟨rfl, e170⟩ := q170
  have f170 := e170.symm
  subst f170
  show G (T170.setTop (mkF m 37 #[.val (.ref r), .val (.int (Int32.ofNat pr.length)), .val (.ref q)] [(.int (1 : Int32))]))
  refine own_ifNo K170 d_m6_37 rfl ((if0 _ _).trans (feq (by decide)).1) ?_
  refine own_aloadN K170 d_m6_40 rfl rfl rfl ?_
  refine own_iloadN K170 d_m6_41 rfl rfl ?_
  refine own_aloadN K170 d_m6_42 rfl rfl rfl ?_
  refine own_iconst K170 (v := (4 : Int32)) d_m6_43 rfl rfl ?_
  refine own_callS K170 (wd282 hw) (wd283 hw) (rm_at hw hs (i := 4) K170.O S hlen hok D hod (by decide)) (wd284 hw) (wd258 hw) (by decide) (argsL := [(.ref r), (.int (Int32.ofNat pr.length)), (.ref q), (.int (4 : Int32))]) (rest := []) rfl pd_28Ljava2flang2fString3bILjava2flang2fString3bI29Z rfl rfl (W := 0) rfl (by decide) (by decide) (by decide) (by decide) d_m6_44 rfl ?_
  intro T171 h171 L171 v171 K171 q171
  obtain ⟨rfl, e171⟩ := q171
  have f171 := e171.symm
  subst f171
  show G (T171.setTop (mkF m 47 #[.val (.ref r), .val (.int (Int32.ofNat pr.length)), .val (.ref q)] [(.int (1 : Int32))]))
  refine own_ifNo K171 d_m6_47 rfl ((if0 _ _).trans (feq (by decide)).1) ?_
  refine own_aloadN K171 d_m6_50 rfl rfl rfl ?_
  refine own_iloadN K171 d_m6_51 rfl rfl ?_
  refine own_aloadN K171 d_m6_52 rfl rfl rfl ?_
  refine own_iconst K171 (v := (5 : Int32)) d_m6_53 rfl rfl ?_
  refine own_callS K171 (wd282 hw) (wd283 hw) (rm_at hw hs (i := 5) K171.O S hlen hok D hod (by decide)) (wd284 hw) (wd258 hw) (by decide) (argsL := [(.ref r), (.int (Int32.ofNat pr.length)), (.ref q), (.int (5 : Int32))]) (rest := []) rfl pd_28Ljava2flang2fString3bILjava2flang2fString3bI29Z rfl rfl (W := 0) rfl (by decide) (by decide) (by decide) (by decide) d_m6_54 rfl ?_
  intro T172 h172 L172 v172 K172 q172
  obtain ⟨rfl, e172⟩ := q172
  have f172 := e172.symm
  subst f172
  show G (T172.setTop (mkF m 57 #[.val (.ref r), .val (.int (Int32.ofNat pr.length)), .val (.ref q)] [(.int (1 : Int32))]))
  refine own_ifNo K172 d_m6_57 rfl ((if0 _ _).trans (feq (by decide)).1) ?_
  refine own_aloadN K172 d_m6_60 rfl rfl rfl ?_
  refine own_iloadN K172 d_m6_61 rfl rfl ?_
  refine own_aloadN K172 d_m6_62 rfl rfl rfl ?_
  refine own_bipush K172 (v := (6 : Int32)) d_m6_63 rfl rfl ?_
  refine own_callS K172 (wd282 hw) (wd283 hw) (rm_at hw hs (i := 6) K172.O S hlen hok D hod (by decide)) (wd284 hw) (wd258 hw) (by decide) (argsL := [(.ref r), (.int (Int32.ofNat pr.length)), (.ref q), (.int (6 : Int32))]) (rest := []) rfl pd_28Ljava2flang2fString3bILjava2flang2fString3bI29Z rfl rfl (W := 0) rfl (by decide) (by decide) (by decide) (by decide) d_m6_65 rfl ?_
  intro T173 h173 L173 v173 K173 q173
  obtain ⟨rfl, e173⟩ := q173
  have f173 := e173.symm
  subst f173
  show G (T173.setTop (mkF m 68 #[.val (.ref r), .val (.int (Int32.ofNat pr.length)), .val (.ref q)] [(.int (1 : Int32))]))
  refine own_ifNo K173 d_m6_68 rfl ((if0 _ _).trans (feq (by decide)).1) ?_
  refine own_aloadN K173 d_m6_71 rfl rfl rfl ?_
  refine own_iloadN K173 d_m6_72 rfl rfl ?_
  refine own_aloadN K173 d_m6_73 rfl rfl rfl ?_
  refine own_bipush K173 (v := (7 : Int32)) d_m6_74 rfl rfl ?_
  refine own_callS K173 (wd282 hw) (wd283 hw) (rm_at hw hs (i := 7) K173.O S hlen hok D hod (by decide)) (wd284 hw) (wd258 hw) (by decide) (argsL := [(.ref r), (.int (Int32.ofNat pr.length)), (.ref q), (.int (7 : Int32))]) (rest := []) rfl pd_28Ljava2flang2fString3bILjava2flang2fString3bI29Z rfl rfl (W := 0) rfl (by decide) (by decide) (by decide) (by decide) d_m6_76 rfl ?_
  intro T174 h174 L174 v174 K174 q174
  obtain ⟨rfl, e174⟩ := q174
  have f174 := e174.symm
  subst f174
  show G (T174.setTop (mkF m 79 #[.val (.ref r), .val (.int (Int32.ofNat pr.length)), .val (.ref q)] [(.int (1 : Int32))]))
  refine own_ifNo K174 d_m6_79 rfl ((if0 _ _).trans (feq (by decide)).1) ?_
  refine own_aloadN K174 d_m6_82 rfl rfl rfl ?_
  refine own_iloadN K174 d_m6_83 rfl rfl ?_
  refine own_aloadN K174 d_m6_84 rfl rfl rfl ?_
  refine own_bipush K174 (v := (8 : Int32)) d_m6_85 rfl rfl ?_
  refine own_callS K174 (wd282 hw) (wd283 hw) (rm_at hw hs (i := 8) K174.O S hlen hok D hod (by decide)) (wd284 hw) (wd258 hw) (by decide) (argsL := [(.ref r), (.int (Int32.ofNat pr.length)), (.ref q), (.int (8 : Int32))]) (rest := []) rfl pd_28Ljava2flang2fString3bILjava2flang2fString3bI29Z rfl rfl (W := 0) rfl (by decide) (by decide) (by decide) (by decide) d_m6_87 rfl ?_
  intro T175 h175 L175 v175 K175 q175
  obtain ⟨rfl, e175⟩ := q175
  have f175 := e175.symm
  subst f175
  show G (T175.setTop (mkF m 90 #[.val (.ref r), .val (.int (Int32.ofNat pr.length)), .val (.ref q)] [(.int (1 : Int32))]))
  refine own_ifNo K175 d_m6_90 rfl ((if0 _ _).trans (feq (by decide)).1) ?_
  refine own_aloadN K175 d_m6_93 rfl rfl rfl ?_
  refine own_iloadN K175 d_m6_94 rfl rfl ?_
  refine own_aloadN K175 d_m6_95 rfl rfl rfl ?_
  refine own_bipush K175 (v := (9 : Int32)) d_m6_96 rfl rfl ?_
  refine own_callS K175 (wd282 hw) (wd283 hw) (rm_at hw hs (i := 9) K175.O S hlen hok D hod (by decide)) (wd284 hw) (wd258 hw) (by decide) (argsL := [(.ref r), (.int (Int32.ofNat pr.length)), (.ref q), (.int (9 : Int32))]) (rest := []) rfl pd_28Ljava2flang2fString3bILjava2flang2fString3bI29Z rfl rfl (W := 0) rfl (by decide) (by decide) (by decide) (by decide) d_m6_98 rfl ?_
  intro T176 h176 L176 v176 K176 q176
  obtain ⟨rfl, e176⟩ := q176
  have f176 := e176.symm
  subst f176
  show G (T176.setTop (mkF m 101 #[.val (.ref r), .val (.int (Int32.ofNat pr.length)), .val (.ref q)] [(.int (1 : Int32))]))
  refine own_ifNo K176 d_m6_101 rfl ((if0 _ _).trans (feq (by decide)).1) ?_
  refine own_aloadN K176 d_m6_104 rfl rfl rfl ?_
  refine own_iloadN K176 d_m6_105 rfl rfl ?_
  refine own_aloadN K176 d_m6_106 rfl rfl rfl ?_
  refine own_bipush K176 (v := (10 : Int32)) d_m6_107 rfl rfl ?_
  refine own_callS K176 (wd282 hw) (wd283 hw) (rm_at hw hs (i := 10) K176.O S hlen hok D hod (by decide)) (wd284 hw) (wd258 hw) (by decide) (argsL := [(.ref r), (.int (Int32.ofNat pr.length)), (.ref q), (.int (10 : Int32))]) (rest := []) rfl pd_28Ljava2flang2fString3bILjava2flang2fString3bI29Z rfl rfl (W := 0) rfl (by decide) (by decide) (by decide) (by decide) d_m6_109 rfl ?_
  intro T177 h177 L177 v177 K177 q177
  obtain ⟨rfl, e177⟩ := q177
  have f177 := e177.symm
  subst f177
  show G (T177.setTop (mkF m 112 #[.val (.ref r), .val (.int (Int32.ofNat pr.length)), .val (.ref q)] [(.int (1 : Int32))]))
  refine own_ifNo K177 d_m6_112 rfl ((if0 _ _).trans (feq (by decide)).1) ?_
  refine own_aloadN K177 d_m6_115 rfl rfl rfl ?_
  refine own_iloadN K177 d_m6_116 rfl rfl ?_
  refine own_aloadN K177 d_m6_117 rfl rfl rfl ?_
  refine own_bipush K177 (v := (11 : Int32)) d_m6_118 rfl rfl ?_
  refine own_callS K177 (wd282 hw) (wd283 hw) (rm_at hw hs (i := 11) K177.O S hlen hok D hod (by decide)) (wd284 hw) (wd258 hw) (by decide) (argsL := [(.ref r), (.int (Int32.ofNat pr.length)), (.ref q), (.int (11 : Int32))]) (rest := []) rfl pd_28Ljava2flang2fString3bILjava2flang2fString3bI29Z rfl rfl (W := 0) rfl (by decide) (by decide) (by decide) (by decide) d_m6_120 rfl ?_
  intro T178 h178 L178 v178 K178 q178
  obtain ⟨rfl, e178⟩ := q178
  have f178 := e178.symm
  subst f178
  show G (T178.setTop (mkF m 123 #[.val (.ref r), .val (.int (Int32.ofNat pr.length)), .val (.ref q)] [(.int (1 : Int32))]))
  refine own_ifNo K178 d_m6_123 rfl ((if0 _ _).trans (feq (by decide)).1) ?_
  refine own_aloadN K178 d_m6_126 rfl rfl rfl ?_
  refine own_iloadN K178 d_m6_127 rfl rfl ?_
  refine own_aloadN K178 d_m6_128 rfl rfl rfl ?_
  refine own_bipush K178 (v := (12 : Int32)) d_m6_129 rfl rfl ?_
  refine own_callS K178 (wd282 hw) (wd283 hw) (rm_at hw hs (i := 12) K178.O S hlen hok D hod (by decide)) (wd284 hw) (wd258 hw) (by decide) (argsL := [(.ref r), (.int (Int32.ofNat pr.length)), (.ref q), (.int (12 : Int32))]) (rest := []) rfl pd_28Ljava2flang2fString3bILjava2flang2fString3bI29Z rfl rfl (W := 0) rfl (by decide) (by decide) (by decide) (by decide) d_m6_131 rfl ?_
  intro T179 h179 L179 v179 K179 q179
  obtain ⟨rfl, e179⟩ := q179
  have f179 := e179.symm
  subst f179
  show G (T179.setTop (mkF m 134 #[.val (.ref r), .val (.int (Int32.ofNat pr.length)), .val (.ref q)] [(.int (1 : Int32))]))
  refine own_ifNo K179 d_m6_134 rfl ((if0 _ _).trans (feq (by decide)).1) ?_
  refine own_aloadN K179 d_m6_137 rfl rfl rfl ?_
  refine own_iloadN K179 d_m6_138 rfl rfl ?_
  refine own_aloadN K179 d_m6_139 rfl rfl rfl ?_
  refine own_bipush K179 (v := (13 : Int32)) d_m6_140 rfl rfl ?_
  refine own_callS K179 (wd282 hw) (wd283 hw) (rm_at hw hs (i := 13) K179.O S hlen hok D hod (by decide)) (wd284 hw) (wd258 hw) (by decide) (argsL := [(.ref r), (.int (Int32.ofNat pr.length)), (.ref q), (.int (13 : Int32))]) (rest := []) rfl pd_28Ljava2flang2fString3bILjava2flang2fString3bI29Z rfl rfl (W := 0) rfl (by decide) (by decide) (by decide) (by decide) d_m6_142 rfl ?_
  intro T180 h180 L180 v180 K180 q180
  obtain ⟨rfl, e180⟩ := q180
  have f180 := e180.symm
  subst f180
  show G (T180.setTop (mkF m 145 #[.val (.ref r), .val (.int (Int32.ofNat pr.length)), .val (.ref q)] [(.int (1 : Int32))]))
  refine own_ifNo K180 d_m6_145 rfl ((if0 _ _).trans (feq (by decide)).1) ?_
  refine own_aloadN K180 d_m6_148 rfl rfl rfl ?_
  refine own_iloadN K180 d_m6_149 rfl rfl ?_
  refine own_aloadN K180 d_m6_150 rfl rfl rfl ?_
  refine own_bipush K180 (v := (14 : Int32)) d_m6_151 rfl rfl ?_
  refine own_callS K180 (wd282 hw) (wd283 hw) (rm_at hw hs (i := 14) K180.O S hlen hok D hod (by decide)) (wd284 hw) (wd258 hw) (by decide) (argsL := [(.ref r), (.int (Int32.ofNat pr.length)), (.ref q), (.int (14 : Int32))]) (rest := []) rfl pd_28Ljava2flang2fString3bILjava2flang2fString3bI29Z rfl rfl (W := 0) rfl (by decide) (by decide) (by decide) (by decide) d_m6_153 rfl ?_
  intro T181 h181 L181 v181 K181 q181
  obtain ⟨rfl, e181⟩ := q181
  have f181 := e181.symm
  subst f181
  show G (T181.setTop (mkF m 156 #[.val (.ref r), .val (.int (Int32.ofNat pr.length)), .val (.ref q)] [(.int (1 : Int32))]))
  refine own_ifNo K181 d_m6_156 rfl ((if0 _ _).trans (feq (by decide)).1) ?_
  refine own_aloadN K181 d_m6_159 rfl rfl rfl ?_
  refine own_iloadN K181 d_m6_160 rfl rfl ?_
  refine own_aloadN K181 d_m6_161 rfl rfl rfl ?_
  refine own_bipush K181 (v := (15 : Int32)) d_m6_162 rfl rfl ?_
  refine own_callS K181 (wd282 hw) (wd283 hw) (rm_at hw hs (i := 15) K181.O S hlen hok D hod (by decide)) (wd284 hw) (wd258 hw) (by decide) (argsL := [(.ref r), (.int (Int32.ofNat pr.length)), (.ref q), (.int (15 : Int32))]) (rest := []) rfl pd_28Ljava2flang2fString3bILjava2flang2fString3bI29Z rfl rfl (W := 0) rfl (by decide) (by decide) (by decide) (by decide) d_m6_164 rfl ?_
  intro T182 h182 L182 v182 K182 q182
  obtain ⟨rfl, e182⟩ := q182
  have f182 := e182.symm
  subst f182
  show G (T182.setTop (mkF m 167 #[.val (.ref r), .val (.int (Int32.ofNat pr.length)), .val (.ref q)] [(.int (1 : Int32))]))
  refine own_ifNo K182 d_m6_167 rfl ((if0 _ _).trans (feq (by decide)).1) ?_
  refine own_aloadN K182 d_m6_170 rfl rfl rfl ?_
  refine own_iloadN K182 d_m6_171 rfl rfl ?_
  refine own_aloadN K182 d_m6_172 rfl rfl rfl ?_
  refine own_bipush K182 (v := (16 : Int32)) d_m6_173 rfl rfl ?_
  refine own_callS K182 (wd282 hw) (wd283 hw) (rm_at hw hs (i := 16) K182.O S hlen hok D hod (by decide)) (wd284 hw) (wd258 hw) (by decide) (argsL := [(.ref r), (.int (Int32.ofNat pr.length)), (.ref q), (.int (16 : Int32))]) (rest := []) rfl pd_28Ljava2flang2fString3bILjava2flang2fString3bI29Z rfl rfl (W := 0) rfl (by decide) (by decide) (by decide) (by decide) d_m6_175 rfl ?_
  intro T183 h183 L183 v183 K183 q183
  obtain ⟨rfl, e183⟩ := q183
  have f183 := e183.symm
  subst f183
  show G (T183.setTop (mkF m 178 #[.val (.ref r), .val (.int (Int32.ofNat pr.length)), .val (.ref q)] [(.int (1 : Int32))]))
  refine own_ifNo K183 d_m6_178 rfl ((if0 _ _).trans (feq (by decide)).1) ?_
  refine own_aloadN K183 d_m6_181 rfl rfl rfl ?_
  refine own_iloadN K183 d_m6_182 rfl rfl ?_
  refine own_aloadN K183 d_m6_183 rfl rfl rfl ?_
  refine own_bipush K183 (v := (17 : Int32)) d_m6_184 rfl rfl ?_
  refine own_callS K183 (wd282 hw) (wd283 hw) (rm_at hw hs (i := 17) K183.O S hlen hok D hod (by decide)) (wd284 hw) (wd258 hw) (by decide) (argsL := [(.ref r), (.int (Int32.ofNat pr.length)), (.ref q), (.int (17 : Int32))]) (rest := []) rfl pd_28Ljava2flang2fString3bILjava2flang2fString3bI29Z rfl rfl (W := 0) rfl (by decide) (by decide) (by decide) (by decide) d_m6_186 rfl ?_
  intro T184 h184 L184 v184 K184 q184
  obtain ⟨rfl, e184⟩ := q184
  have f184 := e184.symm
  subst f184
  show G (T184.setTop (mkF m 189 #[.val (.ref r), .val (.int (Int32.ofNat pr.length)), .val (.ref q)] [(.int (1 : Int32))]))
  refine own_ifNo K184 d_m6_189 rfl ((if0 _ _).trans (feq (by decide)).1) ?_
  refine own_aloadN K184 d_m6_192 rfl rfl rfl ?_
  refine own_iloadN K184 d_m6_193 rfl rfl ?_
  refine own_aloadN K184 d_m6_194 rfl rfl rfl ?_
  refine own_bipush K184 (v := (18 : Int32)) d_m6_195 rfl rfl ?_
  refine own_callS K184 (wd282 hw) (wd283 hw) (rm_at hw hs (i := 18) K184.O S hlen hok D hod (by decide)) (wd284 hw) (wd258 hw) (by decide) (argsL := [(.ref r), (.int (Int32.ofNat pr.length)), (.ref q), (.int (18 : Int32))]) (rest := []) rfl pd_28Ljava2flang2fString3bILjava2flang2fString3bI29Z rfl rfl (W := 0) rfl (by decide) (by decide) (by decide) (by decide) d_m6_197 rfl ?_
  intro T185 h185 L185 v185 K185 q185
  obtain ⟨rfl, e185⟩ := q185
  have f185 := e185.symm
  subst f185
  show G (T185.setTop (mkF m 200 #[.val (.ref r), .val (.int (Int32.ofNat pr.length)), .val (.ref q)] [(.int (1 : Int32))]))
  refine own_ifNo K185 d_m6_200 rfl ((if0 _ _).trans (feq (by decide)).1) ?_
  refine own_iconst K185 (v := (1 : Int32)) d_m6_203 rfl rfl ?_
  refine own_goto K185 d_m6_204 (pc' := 208) (by decide) (by decide) ?_
  exact own_retN K185 (z' := (1 : Int32)) d_m6_208 rfl (by simp) (by decide) (by decide) (by decide) ⟨rfl, rfl⟩
theorem d_m4_0 : decode method_4_code 0 = .ok (.iload 5, 2) := by decide +kernel
theorem d_m4_2 : decode method_4_code 2 = .ok (.iload 4, 2) := by decide +kernel
theorem d_m4_4 : decode method_4_code 4 = .ok (.if_icmp .ge 29, 3) := by decide +kernel
theorem d_m4_7 : decode method_4_code 7 = .ok (.aload_n 0, 1) := by decide +kernel
theorem d_m4_8 : decode method_4_code 8 = .ok (.iload_n 1, 1) := by decide +kernel
theorem d_m4_9 : decode method_4_code 9 = .ok (.iconst 1, 1) := by decide +kernel
theorem d_m4_10 : decode method_4_code 10 = .ok (.isub, 1) := by decide +kernel
theorem d_m4_11 : decode method_4_code 11 = .ok (.iload 5, 2) := by decide +kernel
theorem d_m4_13 : decode method_4_code 13 = .ok (.isub, 1) := by decide +kernel
theorem d_m4_14 : decode method_4_code 14 = .ok (.invokevirtual 83, 3) := by decide +kernel
theorem d_m4_17 : decode method_4_code 17 = .ok (.bipush 48, 2) := by decide +kernel
theorem d_m4_19 : decode method_4_code 19 = .ok (.lload_n 2, 1) := by decide +kernel
theorem d_m4_20 : decode method_4_code 20 = .ok (.lload 6, 2) := by decide +kernel
theorem d_m4_22 : decode method_4_code 22 = .ok (.ldiv, 1) := by decide +kernel
theorem d_m4_23 : decode method_4_code 23 = .ok (.ldc2_w 47, 3) := by decide +kernel
theorem d_m4_26 : decode method_4_code 26 = .ok (.lrem, 1) := by decide +kernel
theorem d_m4_27 : decode method_4_code 27 = .ok (.l2i, 1) := by decide +kernel
theorem d_m4_28 : decode method_4_code 28 = .ok (.iadd, 1) := by decide +kernel
theorem d_m4_29 : decode method_4_code 29 = .ok (.i2c, 1) := by decide +kernel
theorem d_m4_30 : decode method_4_code 30 = .ok (.if_icmp .ne 7, 3) := by decide +kernel
theorem d_m4_33 : decode method_4_code 33 = .ok (.iconst 1, 1) := by decide +kernel
theorem d_m4_34 : decode method_4_code 34 = .ok (.goto 4, 3) := by decide +kernel
theorem d_m4_38 : decode method_4_code 38 = .ok (.ireturn, 1) := by decide +kernel
set_option maxRecDepth 65536 in
set_option maxHeartbeats 40000000 in
theorem rm_dig {l : Launch} {Z : State} {a0 : Array Value} (hw : ∀ d ∈ tables_1, d.before a0 Z = true) (hs : ∀ d ∈ jdkStatics_1, d.before a0 Z = true) {r : Addr} {pr : List Int32} {vn : Nat} {i : Nat} {pw : Nat} {h0 : Heap} (O0 : Ext Z.heap h0) (S : own_StrG Z h0 r u (pr ++ own_dg vn)) (hlen : (pr ++ own_dg vn).length ≤ 4000) (hok : own_ok u (pr ++ own_dg vn)) (hn63 : vn < 9223372036854775808) (hi : i ≤ 18) (hpw : pw = 10 ^ i ∧ pw < 9223372036854775808) :
    own_Ct l Z (⟨"com/example/tallymark/tallymark/MalformedTextExceptionGetMessagePinLaw", "dig", "(Ljava/lang/String;IJIIJ)Z"⟩ : MethodName) method_4_code 8 (some .boolean) [] ({ frames := 4, locals := 53, cells := 0, slots := 0 } : Room) #[(.ref r), (.int (Int32.ofNat (pr ++ own_dg vn).length)), (.long (Int64.ofNat vn)), (.int (Int32.ofNat (own_dg vn).length)), (.int (Int32.ofNat i)), (.long (Int64.ofNat pw))] h0 (fun v h => v = some (.int 1) ∧ h = h0) := by
  refine own_body (Ls := #[.val (.ref r), .val (.int (Int32.ofNat (pr ++ own_dg vn).length)), .val (.long (Int64.ofNat vn)), .second, .val (.int (Int32.ofNat (own_dg vn).length)), .val (.int (Int32.ofNat i)), .val (.long (Int64.ofNat pw)), .second]) (plainFor_of_name pn_com_example_tallymark_tallymark_MalformedTextExceptionGetMessagePinLaw) (fun m => by first | (simp [entryFrame, mkF, argsToLocals, Value.category]; done) | rfl) O0 ?_
  intro p e s m below meth c T0 G K0
  have hpp : 0 < pw := by rw [hpw.1]; exact Nat.pow_pos (by decide)
  have hp0 : Int64.ofNat pw ≠ 0 := fun q => by have z := congrArg Int64.toInt q; rw [own_J hpw.2] at z; have e2 : (0 : Int64).toInt = 0 := rfl; omega
  refine own_iload K0 d_m4_0 rfl rfl ?_
  refine own_iload K0 d_m4_2 rfl rfl ?_
  by_cases hq : i < (own_dg vn).length
  · skip
    refine own_icmpNo K0 d_m4_4 rfl (tlt (own_lt hq (by have := own_dg_le hn63; omega))).2.1 ?_
    have hE : (pr ++ own_dg vn).length = pr.length + (own_dg vn).length := List.length_append
    refine own_aloadN K0 d_m4_7 rfl rfl rfl ?_
    refine own_iloadN K0 d_m4_8 rfl rfl ?_
    refine own_iconst K0 (v := (1 : Int32)) d_m4_9 rfl rfl ?_
    refine own_isub K0 d_m4_10 rfl ?_
    refine own_iload K0 d_m4_11 rfl rfl ?_
    refine own_isub K0 d_m4_13 rfl ?_
    rw [show Int32.ofNat (pr ++ own_dg vn).length - (1 : Int32) - Int32.ofNat i = Int32.ofNat ((pr ++ own_dg vn).length - 1 - i) from by rw [show (1 : Int32) = Int32.ofNat 1 from rfl, own_subN (by omega), own_subN (by omega)]]
    refine own_callV K0 (a := r) (x0 := (⟨"java/lang/String", "charAt", "(I)C"⟩ : MethodName)) (wd285 hw) (wd286 hw) (fun q => own_nfS (args := #[]) (mvT q (wd136 hw)) rfl) (wd288 hw) (wd287 hw) (rm_charAtE hw hs (y := Int32.ofNat (48 + vn / 10 ^ i % 10)) (i := (pr ++ own_dg vn).length - 1 - i) K0.O S hlen hok (own_dgM pr hq)) (wd289 hw) (wd4 hw) (by decide) S.exa (argsL := [(.int (Int32.ofNat ((pr ++ own_dg vn).length - 1 - i)))]) (rest := []) rfl pd_28I29C rfl rfl (W := 0) rfl (by decide) (by decide) (by decide) (by decide) d_m4_14 rfl ?_
    intro T186 h186 L186 v186 K186 q186
    obtain ⟨rfl, e186⟩ := q186
    have f186 := e186.symm
    subst f186
    show G (T186.setTop (mkF m 17 #[.val (.ref r), .val (.int (Int32.ofNat (pr ++ own_dg vn).length)), .val (.long (Int64.ofNat vn)), .second, .val (.int (Int32.ofNat (own_dg vn).length)), .val (.int (Int32.ofNat i)), .val (.long (Int64.ofNat pw)), .second] [(.int (Int32.ofNat (48 + vn / 10 ^ i % 10)))]))
    refine own_bipush K186 (v := (48 : Int32)) d_m4_17 rfl rfl ?_
    refine own_lloadN K186 d_m4_19 rfl rfl ?_
    refine own_lload K186 d_m4_20 rfl rfl ?_
    refine own_ldiv K186 d_m4_22 rfl hp0 ?_
    refine own_ldc2Long K186 (wd260 hw) d_m4_23 rfl ?_
    refine own_lrem K186 d_m4_26 rfl (by decide) ?_
    refine own_l2i K186 d_m4_27 rfl ?_
    refine own_iadd K186 d_m4_28 rfl ?_
    refine own_i2c K186 d_m4_29 rfl ?_
    rw [own_digE hn63 ⟨hpp, hpw.2⟩, hpw.1]
    refine own_icmpNo K186 d_m4_30 rfl (teq rfl).2 ?_
    refine own_iconst K186 (v := (1 : Int32)) d_m4_33 rfl rfl ?_
    refine own_goto K186 d_m4_34 (pc' := 38) (by decide) (by decide) ?_
    exact own_retN K186 (z' := (1 : Int32)) d_m4_38 rfl (by simp) (by decide) (by decide) (by decide) ⟨rfl, rfl⟩
  · skip
    refine own_icmpYes K0 d_m4_4 (pc' := 33) (by decide) (by decide) (flt (own_nlt (by omega) (by omega))).2.1 ?_
    refine own_iconst K0 (v := (1 : Int32)) d_m4_33 rfl rfl ?_
    refine own_goto K0 d_m4_34 (pc' := 38) (by decide) (by decide) ?_
    exact own_retN K0 (z' := (1 : Int32)) d_m4_38 rfl (by simp) (by decide) (by decide) (by decide) ⟨rfl, rfl⟩
theorem wd31 {a0 : Array Value} {Z : State} (hw : ∀ d ∈ tables_1, d.before a0 Z = true) : (Jvm.Cond.classLink "com/example/tallymark/tallymark/MalformedTextExceptionGetMessagePinLaw" (16 : Nat) "com/example/tallymark/tallymark/MalformedTextException").before a0 Z = true := hw _ (List.mem_of_getElem? (i := 31) rfl)
theorem wd33 {a0 : Array Value} {Z : State} (hw : ∀ d ∈ tables_1, d.before a0 Z = true) : (Jvm.Cond.initialized "com/example/tallymark/tallymark/MalformedTextException").before a0 Z = true := hw _ (List.mem_of_getElem? (i := 33) rfl)
theorem wd36 {a0 : Array Value} {Z : State} (hw : ∀ d ∈ tables_1, d.before a0 Z = true) : (Jvm.Cond.code ({ cls := "com/example/tallymark/tallymark/MalformedTextException", name := "<init>", desc := "(JLjava/lang/String;)V" } : Jvm.MethodName) prog_10_method_1_code (4 : Nat) (Option.none : Option Jvm.ClassFile.FieldType)).before a0 Z = true := hw _ (List.mem_of_getElem? (i := 36) rfl)
theorem pd_28JLjava2flang2fString3b29V : parseMethodDescriptor "(JLjava/lang/String;)V" = some ⟨[.long, (.object "java/lang/String")], none⟩ := by decide +kernel
theorem wd34 {a0 : Array Value} {Z : State} (hw : ∀ d ∈ tables_1, d.before a0 Z = true) : (Jvm.Cond.methodLink "com/example/tallymark/tallymark/MalformedTextExceptionGetMessagePinLaw" (18 : Nat) ({ cls := "com/example/tallymark/tallymark/MalformedTextException", name := "<init>", desc := "(JLjava/lang/String;)V" } : Jvm.MethodName)).before a0 Z = true := hw _ (List.mem_of_getElem? (i := 34) rfl)
theorem wd35 {a0 : Array Value} {Z : State} (hw : ∀ d ∈ tables_1, d.before a0 Z = true) : (Jvm.Cond.instanceMethod ({ cls := "com/example/tallymark/tallymark/MalformedTextException", name := "<init>", desc := "(JLjava/lang/String;)V" } : Jvm.MethodName)).before a0 Z = true := hw _ (List.mem_of_getElem? (i := 35) rfl)
theorem wd101 {a0 : Array Value} {Z : State} (hw : ∀ d ∈ tables_1, d.before a0 Z = true) : (Jvm.Cond.code ({ cls := "com/example/tallymark/tallymark/MalformedTextException", name := "getMessage", desc := "()Ljava/lang/String;" } : Jvm.MethodName) prog_10_method_4_code (1 : Nat) (Option.some (Jvm.ClassFile.FieldType.object "java/lang/String"))).before a0 Z = true := hw _ (List.mem_of_getElem? (i := 101) rfl)
theorem wd97 {a0 : Array Value} {Z : State} (hw : ∀ d ∈ tables_1, d.before a0 Z = true) : (Jvm.Cond.methodLink "com/example/tallymark/tallymark/MalformedTextExceptionGetMessagePinLaw" (21 : Nat) ({ cls := "com/example/tallymark/tallymark/MalformedTextException", name := "getMessage", desc := "()Ljava/lang/String;" } : Jvm.MethodName)).before a0 Z = true := hw _ (List.mem_of_getElem? (i := 97) rfl)
theorem wd98 {a0 : Array Value} {Z : State} (hw : ∀ d ∈ tables_1, d.before a0 Z = true) : (Jvm.Cond.declares ({ cls := "com/example/tallymark/tallymark/MalformedTextException", name := "getMessage", desc := "()Ljava/lang/String;" } : Jvm.MethodName)).before a0 Z = true := hw _ (List.mem_of_getElem? (i := 98) rfl)
theorem wd100 {a0 : Array Value} {Z : State} (hw : ∀ d ∈ tables_1, d.before a0 Z = true) : (Jvm.Cond.selects "com/example/tallymark/tallymark/MalformedTextException" ({ cls := "com/example/tallymark/tallymark/MalformedTextException", name := "getMessage", desc := "()Ljava/lang/String;" } : Jvm.MethodName) ({ cls := "com/example/tallymark/tallymark/MalformedTextException", name := "getMessage", desc := "()Ljava/lang/String;" } : Jvm.MethodName)).before a0 Z = true := hw _ (List.mem_of_getElem? (i := 100) rfl)
theorem wd99 {a0 : Array Value} {Z : State} (hw : ∀ d ∈ tables_1, d.before a0 Z = true) : (Jvm.Cond.instanceMethod ({ cls := "com/example/tallymark/tallymark/MalformedTextException", name := "getMessage", desc := "()Ljava/lang/String;" } : Jvm.MethodName)).before a0 Z = true := hw _ (List.mem_of_getElem? (i := 99) rfl)
theorem own_mem_com_example_tallymark_tallymark_MalformedTextExceptionGetMessagePinLaw_25 : (("com/example/tallymark/tallymark/MalformedTextExceptionGetMessagePinLaw", 25) : String × Nat) ∈ consts_1 := by decide +kernel
theorem own_mem_com_example_tallymark_tallymark_MalformedTextExceptionGetMessagePinLaw_27 : (("com/example/tallymark/tallymark/MalformedTextExceptionGetMessagePinLaw", 27) : String × Nat) ∈ consts_1 := by decide +kernel
theorem wd259 {a0 : Array Value} {Z : State} (hw : ∀ d ∈ tables_1, d.before a0 Z = true) : (Jvm.Cond.code ({ cls := "com/example/tallymark/tallymark/MalformedTextExceptionGetMessagePinLaw", name := "digits", desc := "(J)I" } : Jvm.MethodName) method_3_code (3 : Nat) (Option.some Jvm.ClassFile.FieldType.int)).before a0 Z = true := hw _ (List.mem_of_getElem? (i := 259) rfl)
theorem wd256 {a0 : Array Value} {Z : State} (hw : ∀ d ∈ tables_1, d.before a0 Z = true) : (Jvm.Cond.methodLink "com/example/tallymark/tallymark/MalformedTextExceptionGetMessagePinLaw" (29 : Nat) ({ cls := "com/example/tallymark/tallymark/MalformedTextExceptionGetMessagePinLaw", name := "digits", desc := "(J)I" } : Jvm.MethodName)).before a0 Z = true := hw _ (List.mem_of_getElem? (i := 256) rfl)
theorem wd257 {a0 : Array Value} {Z : State} (hw : ∀ d ∈ tables_1, d.before a0 Z = true) : (Jvm.Cond.static ({ cls := "com/example/tallymark/tallymark/MalformedTextExceptionGetMessagePinLaw", name := "digits", desc := "(J)I" } : Jvm.MethodName)).before a0 Z = true := hw _ (List.mem_of_getElem? (i := 257) rfl)
theorem wd281 {a0 : Array Value} {Z : State} (hw : ∀ d ∈ tables_1, d.before a0 Z = true) : (Jvm.Cond.code ({ cls := "com/example/tallymark/tallymark/MalformedTextExceptionGetMessagePinLaw", name := "lit", desc := "(Ljava/lang/String;ILjava/lang/String;)Z" } : Jvm.MethodName) method_6_code (3 : Nat) (Option.some Jvm.ClassFile.FieldType.boolean)).before a0 Z = true := hw _ (List.mem_of_getElem? (i := 281) rfl)
theorem pd_28Ljava2flang2fString3bILjava2flang2fString3b29Z : parseMethodDescriptor "(Ljava/lang/String;ILjava/lang/String;)Z" = some ⟨[(.object "java/lang/String"), .int, (.object "java/lang/String")], some .boolean⟩ := by decide +kernel
theorem wd279 {a0 : Array Value} {Z : State} (hw : ∀ d ∈ tables_1, d.before a0 Z = true) : (Jvm.Cond.methodLink "com/example/tallymark/tallymark/MalformedTextExceptionGetMessagePinLaw" (39 : Nat) ({ cls := "com/example/tallymark/tallymark/MalformedTextExceptionGetMessagePinLaw", name := "lit", desc := "(Ljava/lang/String;ILjava/lang/String;)Z" } : Jvm.MethodName)).before a0 Z = true := hw _ (List.mem_of_getElem? (i := 279) rfl)
theorem wd280 {a0 : Array Value} {Z : State} (hw : ∀ d ∈ tables_1, d.before a0 Z = true) : (Jvm.Cond.static ({ cls := "com/example/tallymark/tallymark/MalformedTextExceptionGetMessagePinLaw", name := "lit", desc := "(Ljava/lang/String;ILjava/lang/String;)Z" } : Jvm.MethodName)).before a0 Z = true := hw _ (List.mem_of_getElem? (i := 280) rfl)
theorem wd309 {a0 : Array Value} {Z : State} (hw : ∀ d ∈ tables_1, d.before a0 Z = true) : (Jvm.Cond.code ({ cls := "com/example/tallymark/tallymark/MalformedTextExceptionGetMessagePinLaw", name := "dig", desc := "(Ljava/lang/String;IJIIJ)Z" } : Jvm.MethodName) method_4_code (8 : Nat) (Option.some Jvm.ClassFile.FieldType.boolean)).before a0 Z = true := hw _ (List.mem_of_getElem? (i := 309) rfl)
theorem pd_28Ljava2flang2fString3bIJIIJ29Z : parseMethodDescriptor "(Ljava/lang/String;IJIIJ)Z" = some ⟨[(.object "java/lang/String"), .int, .long, .int, .int, .long], some .boolean⟩ := by decide +kernel
theorem wd307 {a0 : Array Value} {Z : State} (hw : ∀ d ∈ tables_1, d.before a0 Z = true) : (Jvm.Cond.methodLink "com/example/tallymark/tallymark/MalformedTextExceptionGetMessagePinLaw" (43 : Nat) ({ cls := "com/example/tallymark/tallymark/MalformedTextExceptionGetMessagePinLaw", name := "dig", desc := "(Ljava/lang/String;IJIIJ)Z" } : Jvm.MethodName)).before a0 Z = true := hw _ (List.mem_of_getElem? (i := 307) rfl)
theorem wd308 {a0 : Array Value} {Z : State} (hw : ∀ d ∈ tables_1, d.before a0 Z = true) : (Jvm.Cond.static ({ cls := "com/example/tallymark/tallymark/MalformedTextExceptionGetMessagePinLaw", name := "dig", desc := "(Ljava/lang/String;IJIIJ)Z" } : Jvm.MethodName)).before a0 Z = true := hw _ (List.mem_of_getElem? (i := 308) rfl)
section Law
variable {p : Program} {l : Launch} {e : Env} {s : State} {m : MethodId} {args : Array Value} {below : List Frame} {meth : Method} {c : Code} {Q : Option Value → Heap → Prop} {G : State → Prop} {Z T : State} {L : List Loc} {h h0 : Heap} {vm0 vm : Vm} {k1 : Nat} {a0 : Array Value}
set_option maxRecDepth 65536 in
set_option maxHeartbeats 40000000 in
theorem law_tail (hw : ∀ d ∈ tables_1, d.before a0 Z = true) (hs : ∀ d ∈ jdkStatics_1, d.before a0 Z = true) (hl : l.stackTraces = true) (r2 : ∀ d ∈ twoRefs, d.before a0 Z = true) (hkn : s.vm.MethodsKnown ∧ s.vm.FramesKnown below) (hq : ∀ h, Q (some (.int 1)) h) {q0 : Int64} {p2 p3 p4 p5 ca cb cc : Int32} {ar en : Addr} {vn : Nat} {ec : List Int32} (W0 : own_KW p l e room_1 s m args below meth c code "com/example/tallymark/tallymark/MalformedTextExceptionGetMessagePinLaw" "law" 20 (some .boolean) Q G Z consts_1 true vm0 h0 vm k1 T L 6 24 h) (S : own_StrG Z h en false ec) (hec : ec.length ≤ 3) (hoe : own_ok false ec) (hn63 : vn < 9223372036854775808) : G (T.setTop (mkF m 125 #[.val (.long q0), .second, .val (.int p2), .val (.int p3), .val (.int p4), .val (.int p5), .val (.long (Int64.ofNat vn)), .second, .val (.int (Int32.ofNat ec.length)), .val (.int ca), .val (.int cb), .val (.int cc), .val (.ref ar), .val (.ref en), .unset, .unset, .unset, .unset, .unset, .unset] [])) := by
  refine own_newO W0.K (wd31 hw) (wd32 hw) (wd33 hw) at_125 (by decide) (by decide) rfl ?_
  intro T187 h187 a187 K187 g187 E187 A187 D187 U187
  have F_cause_187 : Fld Z h187 a187 "java/lang/Throwable" "cause" "Ljava/lang/Throwable;" .null := D187 (Or.inl (wd62 hw)) (ty := (.object "java/lang/Throwable")) (by decide)
  have F_stackTrace_187 : Fld Z h187 a187 "java/lang/Throwable" "stackTrace" "[Ljava/lang/StackTraceElement;" .null := D187 (Or.inl (wd65 hw)) (ty := (.array (.object "java/lang/StackTraceElement"))) (by decide)
  have F_suppressedExceptions_187 : Fld Z h187 a187 "java/lang/Throwable" "suppressedExceptions" "Ljava/util/List;" .null := D187 (Or.inl (wd68 hw)) (ty := (.object "java/util/List")) (by decide)
  have F_detailMessage_187 : Fld Z h187 a187 "java/lang/Throwable" "detailMessage" "Ljava/lang/String;" .null := D187 (Or.inl (wd89 hw)) (ty := (.object "java/lang/String")) (by decide)
  have F_backtrace_187 : Fld Z h187 a187 "java/lang/Throwable" "backtrace" "Ljava/lang/Object;" .null := D187 (Or.inl (wd90 hw)) (ty := (.object "java/lang/Object")) (by decide)
  have F_depth_187 : Fld Z h187 a187 "java/lang/Throwable" "depth" "I" (.int (0 : Int32)) := D187 (Or.inl (wd91 hw)) (ty := .int) (by decide)
  have F_line_187 : Fld Z h187 a187 "com/example/tallymark/tallymark/MalformedTextException" "line" "J" (.long (0 : Int64)) := D187 (Or.inr (wd94 hw)) (ty := .long) (by decide)
  have F_encoding_187 : Fld Z h187 a187 "com/example/tallymark/tallymark/MalformedTextException" "encoding" "Ljava/lang/String;" .null := D187 (Or.inr (wd96 hw)) (ty := (.object "java/lang/String")) (by decide)
  refine own_dup K187 at_128 rfl rfl ?_
  refine own_lload K187 at_129 rfl rfl ?_
  refine own_aload K187 at_131 rfl rfl rfl ?_
  have W188 := W0.ext K187 E187
  have gx187 : Z.heap.size ≤ a187 := by rw [g187]; exact W0.K.O.1
  have sx : Safe Z consts_1 _ h187 a187 := Safe.exa W188.hZ.alike A187 (by decide) (by decide)
  refine own_callIK W188.K (W188.kn hkn) (a := a187) (wd34 hw) (wd35 hw) (rm_me hw hs W188.K.O hl r2 A187 U187 F_cause_187 F_stackTrace_187 F_suppressedExceptions_187 F_detailMessage_187 F_backtrace_187 gx187 F_line_187 F_encoding_187) (wd36 hw) (wd33 hw) (by decide) rfl (argsL := [(.long (Int64.ofNat vn)), (.ref en)]) (rest := [(.ref a187)]) rfl pd_28JLjava2flang2fString3b29V rfl rfl (W := 1) rfl (by decide) (by decide) (by decide) (by decide) at_133 rfl ?_
  intro T189 h189 L189 v189 K189 q189
  obtain ⟨rfl, Kp189, A189, FL189, FE189⟩ := q189
  show G (T189.setTop (mkF m 136 #[.val (.long q0), .second, .val (.int p2), .val (.int p3), .val (.int p4), .val (.int p5), .val (.long (Int64.ofNat vn)), .second, .val (.int (Int32.ofNat ec.length)), .val (.int ca), .val (.int cb), .val (.int cc), .val (.ref ar), .val (.ref en), .unset, .unset, .unset, .unset, .unset, .unset] [(.ref a187)]))
  have W190 := W188.keep K189 Kp189 (allS sx all0)
  have X189 : Ext h h189 := own_ext_keep E187 Kp189 (allS (Nat.le_of_eq g187.symm) all0)
  refine own_astore W190.K (Ls' := #[.val (.long q0), .second, .val (.int p2), .val (.int p3), .val (.int p4), .val (.int p5), .val (.long (Int64.ofNat vn)), .second, .val (.int (Int32.ofNat ec.length)), .val (.int ca), .val (.int cb), .val (.int cc), .val (.ref ar), .val (.ref en), .val (.ref a187), .unset, .unset, .unset, .unset, .unset]) at_136 rfl rfl rfl ?_
  refine own_aload W190.K at_138 rfl rfl rfl ?_
  have W191 := W190.same W190.K
  refine own_callVW W191 (own_EL hw) (kn := false) (fun q => nomatch q) (a := a187) (x0 := (⟨"com/example/tallymark/tallymark/MalformedTextException", "getMessage", "()Ljava/lang/String;"⟩ : MethodName)) (wd97 hw) (wd98 hw) (fun q => own_nfS (args := #[]) (mvT q (wd100 hw)) rfl) (wd100 hw) (wd99 hw) (rm_getMsg hw hs (vn := vn) W191.K.O A189 FL189 FE189 (S.ext X189) hec hoe hn63) (wd101 hw) (wd33 hw) (by decide) A189 (argsL := []) (rest := []) rfl pd_2829Ljava2flang2fString3b rfl rfl (Wd := 0) rfl (by decide) (by decide) (by decide) (by decide) at_140 rfl ?_
  intro T192 h192 L192 v192 k1_192 W192 C192 q192
  obtain ⟨r192, rfl, X192, S192⟩ := q192
  show G (T192.setTop (mkF m 143 #[.val (.long q0), .second, .val (.int p2), .val (.int p3), .val (.int p4), .val (.int p5), .val (.long (Int64.ofNat vn)), .second, .val (.int (Int32.ofNat ec.length)), .val (.int ca), .val (.int cb), .val (.int cc), .val (.ref ar), .val (.ref en), .val (.ref a187), .unset, .unset, .unset, .unset, .unset] [(.ref r192)]))
  have Sm0 : own_StrG Z h192 r192 false (own_head ++ ec ++ own_mid ++ own_dg vn) := S192
  have Se0 := (S.ext X189).ext X192
  refine own_astore W192.K (Ls' := #[.val (.long q0), .second, .val (.int p2), .val (.int p3), .val (.int p4), .val (.int p5), .val (.long (Int64.ofNat vn)), .second, .val (.int (Int32.ofNat ec.length)), .val (.int ca), .val (.int cb), .val (.int cc), .val (.ref ar), .val (.ref en), .val (.ref a187), .val (.ref r192), .unset, .unset, .unset, .unset]) at_143 rfl rfl rfl ?_
  have W193 := W192.same W192.K
  refine own_ldcC W193 (own_EL hw) (vs := own_by ([(98 : Int32), (121 : Int32), (116 : Int32), (101 : Int32), (115 : Int32), (32 : Int32), (116 : Int32), (104 : Int32), (97 : Int32), (116 : Int32), (32 : Int32), (97 : Int32), (114 : Int32), (101 : Int32), (32 : Int32), (110 : Int32), (111 : Int32), (116 : Int32), (32 : Int32)] : List Int32)) (z := Int32.ofNat ([(98 : Int32), (121 : Int32), (116 : Int32), (101 : Int32), (115 : Int32), (32 : Int32), (116 : Int32), (104 : Int32), (97 : Int32), (116 : Int32), (32 : Int32), (97 : Int32), (114 : Int32), (101 : Int32), (32 : Int32), (110 : Int32), (111 : Int32), (116 : Int32), (32 : Int32)] : List Int32).length) (nn := 76) own_mem_com_example_tallymark_tallymark_MalformedTextExceptionGetMessagePinLaw_25 (wd254 hw) (own_strA hw) ⟨by decide +kernel, by decide +kernel⟩ (by decide) (by decide) (by decide) (by decide) (by decide) (by decide) at_145 rfl ?_
  intro T194 h194 k1_194 a194 b194 kb194 W194 E194 C194 ES194 FC194 FV194 VS194 sf194
  have VS_h : Arv Z h194 b194 kb194 .byte (Int32.ofNat (own_bn us own_head.length)) (own_bs us own_head) (.int 0) := VS194
  have H0 : own_StrG Z h194 a194 false own_head := ⟨ES194, FC194, b194, kb194, FV194, VS_h⟩
  refine own_astore W194.K (Ls' := #[.val (.long q0), .second, .val (.int p2), .val (.int p3), .val (.int p4), .val (.int p5), .val (.long (Int64.ofNat vn)), .second, .val (.int (Int32.ofNat ec.length)), .val (.int ca), .val (.int cb), .val (.int cc), .val (.ref ar), .val (.ref en), .val (.ref a187), .val (.ref r192), .val (.ref a194), .unset, .unset, .unset]) at_147 rfl rfl rfl ?_
  have W195 := W194.same W194.K
  refine own_ldcC W195 (own_EL hw) (vs := own_by ([(32 : Int32), (116 : Int32), (101 : Int32), (120 : Int32), (116 : Int32), (32 : Int32), (111 : Int32), (110 : Int32), (32 : Int32), (108 : Int32), (105 : Int32), (110 : Int32), (101 : Int32), (32 : Int32)] : List Int32)) (z := Int32.ofNat ([(32 : Int32), (116 : Int32), (101 : Int32), (120 : Int32), (116 : Int32), (32 : Int32), (111 : Int32), (110 : Int32), (32 : Int32), (108 : Int32), (105 : Int32), (110 : Int32), (101 : Int32), (32 : Int32)] : List Int32).length) (nn := 56) own_mem_com_example_tallymark_tallymark_MalformedTextExceptionGetMessagePinLaw_27 (wd255 hw) (own_strA hw) ⟨by decide +kernel, by decide +kernel⟩ (by decide) (by decide) (by decide) (by decide) (by decide) (by decide) at_149 rfl ?_
  intro T196 h196 k1_196 a196 b196 kb196 W196 E196 C196 ES196 FC196 FV196 VS196 sf196
  have VS_m : Arv Z h196 b196 kb196 .byte (Int32.ofNat (own_bn us own_mid.length)) (own_bs us own_mid) (.int 0) := VS196
  have SM : own_StrG Z h196 a196 false own_mid := ⟨ES196, FC196, b196, kb196, FV196, VS_m⟩
  have SH := H0.ext E196
  have Sm := (Sm0.ext E194).ext E196
  have Se := (Se0.ext E194).ext E196
  refine own_astore W196.K (Ls' := #[.val (.long q0), .second, .val (.int p2), .val (.int p3), .val (.int p4), .val (.int p5), .val (.long (Int64.ofNat vn)), .second, .val (.int (Int32.ofNat ec.length)), .val (.int ca), .val (.int cb), .val (.int cc), .val (.ref ar), .val (.ref en), .val (.ref a187), .val (.ref r192), .val (.ref a194), .val (.ref a196), .unset, .unset]) at_151 rfl rfl rfl ?_
  refine own_lload W196.K at_153 rfl rfl ?_
  have hdl := own_dg_le hn63
  have hml : (own_head ++ ec ++ own_mid ++ own_dg vn).length = own_head.length + ec.length + own_mid.length + (own_dg vn).length := by simp only [List.length_append]
  have hh19 : own_head.length = 19 := rfl
  have hm14 : own_mid.length = 14 := rfl
  have hlm : (own_head ++ ec ++ own_mid ++ own_dg vn).length ≤ 4000 := by omega
  have hoh : own_ok false own_head := by intro d hd; revert d; decide
  have hoM : own_ok false own_mid := by intro d hd; revert d; decide
  have hom : own_ok false (own_head ++ ec ++ own_mid ++ own_dg vn) := fun c hc => (List.mem_append.mp hc).elim (fun hc => (List.mem_append.mp hc).elim (fun hc => (List.mem_append.mp hc).elim (hoh c) (hoe c)) (hoM c)) (own_dg_ok vn c)
  have e1 : own_head ++ ec ++ own_mid ++ own_dg vn = [] ++ own_head ++ (ec ++ own_mid ++ own_dg vn) := by simp only [List.nil_append, List.append_assoc]
  have e2 : own_head ++ ec ++ own_mid ++ own_dg vn = own_head ++ ec ++ (own_mid ++ own_dg vn) := by simp only [List.append_assoc]
  refine own_callS W196.K (wd256 hw) (wd257 hw) (rm_digits hw hs (vn := vn) W196.K.O hn63) (wd259 hw) (wd258 hw) (by decide) (argsL := [(.long (Int64.ofNat vn))]) (rest := []) rfl pd_28J29I rfl rfl (W := 0) rfl (by decide) (by decide) (by decide) (by decide) at_155 rfl ?_
  intro T197 h197 L197 v197 K197 q197
  obtain ⟨rfl, e197⟩ := q197
  have f197 := e197.symm
  subst f197
  show G (T197.setTop (mkF m 158 #[.val (.long q0), .second, .val (.int p2), .val (.int p3), .val (.int p4), .val (.int p5), .val (.long (Int64.ofNat vn)), .second, .val (.int (Int32.ofNat ec.length)), .val (.int ca), .val (.int cb), .val (.int cc), .val (.ref ar), .val (.ref en), .val (.ref a187), .val (.ref r192), .val (.ref a194), .val (.ref a196), .unset, .unset] [(.int (Int32.ofNat (own_dg vn).length))]))
  refine own_istore K197 (Ls' := #[.val (.long q0), .second, .val (.int p2), .val (.int p3), .val (.int p4), .val (.int p5), .val (.long (Int64.ofNat vn)), .second, .val (.int (Int32.ofNat ec.length)), .val (.int ca), .val (.int cb), .val (.int cc), .val (.ref ar), .val (.ref en), .val (.ref a187), .val (.ref r192), .val (.ref a194), .val (.ref a196), .val (.int (Int32.ofNat (own_dg vn).length)), .unset]) at_158 rfl rfl ?_
  refine own_aload K197 at_160 rfl rfl rfl ?_
  refine own_callV K197 (a := r192) (x0 := (⟨"java/lang/String", "length", "()I"⟩ : MethodName)) (wd278 hw) (wd134 hw) (fun q => own_nfS (args := #[]) (mvT q (wd136 hw)) rfl) (wd136 hw) (wd135 hw) (rm_lengthS hw hs (cs := own_head ++ ec ++ own_mid ++ own_dg vn) K197.O Sm hlm) (wd137 hw) (wd4 hw) (by decide) Sm.exa (argsL := []) (rest := []) rfl pd_2829I rfl rfl (W := 0) rfl (by decide) (by decide) (by decide) (by decide) at_162 rfl ?_
  intro T198 h198 L198 v198 K198 q198
  obtain ⟨rfl, e198⟩ := q198
  have f198 := e198.symm
  subst f198
  show G (T198.setTop (mkF m 165 #[.val (.long q0), .second, .val (.int p2), .val (.int p3), .val (.int p4), .val (.int p5), .val (.long (Int64.ofNat vn)), .second, .val (.int (Int32.ofNat ec.length)), .val (.int ca), .val (.int cb), .val (.int cc), .val (.ref ar), .val (.ref en), .val (.ref a187), .val (.ref r192), .val (.ref a194), .val (.ref a196), .val (.int (Int32.ofNat (own_dg vn).length)), .unset] [(.int (Int32.ofNat (own_head ++ ec ++ own_mid ++ own_dg vn).length))]))
  refine own_aload K198 at_165 rfl rfl rfl ?_
  refine own_callV K198 (a := a194) (x0 := (⟨"java/lang/String", "length", "()I"⟩ : MethodName)) (wd278 hw) (wd134 hw) (fun q => own_nfS (args := #[]) (mvT q (wd136 hw)) rfl) (wd136 hw) (wd135 hw) (rm_lengthS hw hs (cs := own_head) K198.O SH (by decide)) (wd137 hw) (wd4 hw) (by decide) SH.exa (argsL := []) (rest := [(.int (Int32.ofNat (own_head ++ ec ++ own_mid ++ own_dg vn).length))]) rfl pd_2829I rfl rfl (W := 1) rfl (by decide) (by decide) (by decide) (by decide) at_167 rfl ?_
  intro T199 h199 L199 v199 K199 q199
  obtain ⟨rfl, e199⟩ := q199
  have f199 := e199.symm
  subst f199
  show G (T199.setTop (mkF m 170 #[.val (.long q0), .second, .val (.int p2), .val (.int p3), .val (.int p4), .val (.int p5), .val (.long (Int64.ofNat vn)), .second, .val (.int (Int32.ofNat ec.length)), .val (.int ca), .val (.int cb), .val (.int cc), .val (.ref ar), .val (.ref en), .val (.ref a187), .val (.ref r192), .val (.ref a194), .val (.ref a196), .val (.int (Int32.ofNat (own_dg vn).length)), .unset] [(.int (Int32.ofNat (own_head).length)), (.int (Int32.ofNat (own_head ++ ec ++ own_mid ++ own_dg vn).length))]))
  refine own_iload K199 at_170 rfl rfl ?_
  refine own_iadd K199 at_172 rfl ?_
  refine own_aload K199 at_173 rfl rfl rfl ?_
  refine own_callV K199 (a := a196) (x0 := (⟨"java/lang/String", "length", "()I"⟩ : MethodName)) (wd278 hw) (wd134 hw) (fun q => own_nfS (args := #[]) (mvT q (wd136 hw)) rfl) (wd136 hw) (wd135 hw) (rm_lengthS hw hs (cs := own_mid) K199.O SM (by decide)) (wd137 hw) (wd4 hw) (by decide) SM.exa (argsL := []) (rest := [(.int ((Int32.ofNat (own_head).length) + (Int32.ofNat ec.length))), (.int (Int32.ofNat (own_head ++ ec ++ own_mid ++ own_dg vn).length))]) rfl pd_2829I rfl rfl (W := 2) rfl (by decide) (by decide) (by decide) (by decide) at_175 rfl ?_
  intro T200 h200 L200 v200 K200 q200
  obtain ⟨rfl, e200⟩ := q200
  have f200 := e200.symm
  subst f200
  show G (T200.setTop (mkF m 178 #[.val (.long q0), .second, .val (.int p2), .val (.int p3), .val (.int p4), .val (.int p5), .val (.long (Int64.ofNat vn)), .second, .val (.int (Int32.ofNat ec.length)), .val (.int ca), .val (.int cb), .val (.int cc), .val (.ref ar), .val (.ref en), .val (.ref a187), .val (.ref r192), .val (.ref a194), .val (.ref a196), .val (.int (Int32.ofNat (own_dg vn).length)), .unset] [(.int (Int32.ofNat (own_mid).length)), (.int ((Int32.ofNat (own_head).length) + (Int32.ofNat ec.length))), (.int (Int32.ofNat (own_head ++ ec ++ own_mid ++ own_dg vn).length))]))
  refine own_iadd K200 at_178 rfl ?_
  refine own_iload K200 at_179 rfl rfl ?_
  refine own_iadd K200 at_181 rfl ?_
  refine own_icmpYes K200 at_182 (pc' := 187) (by decide) (by decide) (teq (by rw [own_addN, own_addN, own_addN]; exact congrArg Int32.ofNat hml)).1 ?_
  refine own_aload K200 at_187 rfl rfl rfl ?_
  refine own_iconst K200 (v := (0 : Int32)) at_189 rfl rfl ?_
  refine own_aload K200 at_190 rfl rfl rfl ?_
  refine own_callS K200 (wd279 hw) (wd280 hw) (rm_lit hw hs (pr := ([] : List Int32)) (ds := own_head) (po := ec ++ own_mid ++ own_dg vn) K200.O (e1 ▸ Sm) (e1 ▸ hlm) (e1 ▸ hom) SH hoh) (wd281 hw) (wd258 hw) (by decide) (argsL := [(.ref r192), (.int (0 : Int32)), (.ref a194)]) (rest := []) rfl pd_28Ljava2flang2fString3bILjava2flang2fString3b29Z rfl rfl (W := 0) rfl (by decide) (by decide) (by decide) (by decide) at_192 rfl ?_
  intro T201 h201 L201 v201 K201 q201
  obtain ⟨rfl, e201⟩ := q201
  have f201 := e201.symm
  subst f201
  show G (T201.setTop (mkF m 195 #[.val (.long q0), .second, .val (.int p2), .val (.int p3), .val (.int p4), .val (.int p5), .val (.long (Int64.ofNat vn)), .second, .val (.int (Int32.ofNat ec.length)), .val (.int ca), .val (.int cb), .val (.int cc), .val (.ref ar), .val (.ref en), .val (.ref a187), .val (.ref r192), .val (.ref a194), .val (.ref a196), .val (.int (Int32.ofNat (own_dg vn).length)), .unset] [(.int (1 : Int32))]))
  refine own_ifYes K201 at_195 (pc' := 200) (by decide) (by decide) ((if0 _ _).trans (feq (by decide)).2) ?_
  refine own_aload K201 at_200 rfl rfl rfl ?_
  refine own_aload K201 at_202 rfl rfl rfl ?_
  refine own_callV K201 (a := a194) (x0 := (⟨"java/lang/String", "length", "()I"⟩ : MethodName)) (wd278 hw) (wd134 hw) (fun q => own_nfS (args := #[]) (mvT q (wd136 hw)) rfl) (wd136 hw) (wd135 hw) (rm_lengthS hw hs (cs := own_head) K201.O SH (by decide)) (wd137 hw) (wd4 hw) (by decide) SH.exa (argsL := []) (rest := [(.ref r192)]) rfl pd_2829I rfl rfl (W := 1) rfl (by decide) (by decide) (by decide) (by decide) at_204 rfl ?_
  intro T202 h202 L202 v202 K202 q202
  obtain ⟨rfl, e202⟩ := q202
  have f202 := e202.symm
  subst f202
  show G (T202.setTop (mkF m 207 #[.val (.long q0), .second, .val (.int p2), .val (.int p3), .val (.int p4), .val (.int p5), .val (.long (Int64.ofNat vn)), .second, .val (.int (Int32.ofNat ec.length)), .val (.int ca), .val (.int cb), .val (.int cc), .val (.ref ar), .val (.ref en), .val (.ref a187), .val (.ref r192), .val (.ref a194), .val (.ref a196), .val (.int (Int32.ofNat (own_dg vn).length)), .unset] [(.int (Int32.ofNat (own_head).length)), (.ref r192)]))
  refine own_aload K202 at_207 rfl rfl rfl ?_
  refine own_callS K202 (wd279 hw) (wd280 hw) (rm_lit hw hs (pr := own_head) (ds := ec) (po := own_mid ++ own_dg vn) K202.O (e2 ▸ Sm) (e2 ▸ hlm) (e2 ▸ hom) Se hoe) (wd281 hw) (wd258 hw) (by decide) (argsL := [(.ref r192), (.int (Int32.ofNat (own_head).length)), (.ref en)]) (rest := []) rfl pd_28Ljava2flang2fString3bILjava2flang2fString3b29Z rfl rfl (W := 0) rfl (by decide) (by decide) (by decide) (by decide) at_209 rfl ?_
  intro T203 h203 L203 v203 K203 q203
  obtain ⟨rfl, e203⟩ := q203
  have f203 := e203.symm
  subst f203
  show G (T203.setTop (mkF m 212 #[.val (.long q0), .second, .val (.int p2), .val (.int p3), .val (.int p4), .val (.int p5), .val (.long (Int64.ofNat vn)), .second, .val (.int (Int32.ofNat ec.length)), .val (.int ca), .val (.int cb), .val (.int cc), .val (.ref ar), .val (.ref en), .val (.ref a187), .val (.ref r192), .val (.ref a194), .val (.ref a196), .val (.int (Int32.ofNat (own_dg vn).length)), .unset] [(.int (1 : Int32))]))
  refine own_ifYes K203 at_212 (pc' := 217) (by decide) (by decide) ((if0 _ _).trans (feq (by decide)).2) ?_
  refine own_aload K203 at_217 rfl rfl rfl ?_
  refine own_aload K203 at_219 rfl rfl rfl ?_
  refine own_callV K203 (a := a194) (x0 := (⟨"java/lang/String", "length", "()I"⟩ : MethodName)) (wd278 hw) (wd134 hw) (fun q => own_nfS (args := #[]) (mvT q (wd136 hw)) rfl) (wd136 hw) (wd135 hw) (rm_lengthS hw hs (cs := own_head) K203.O SH (by decide)) (wd137 hw) (wd4 hw) (by decide) SH.exa (argsL := []) (rest := [(.ref r192)]) rfl pd_2829I rfl rfl (W := 1) rfl (by decide) (by decide) (by decide) (by decide) at_221 rfl ?_
  intro T204 h204 L204 v204 K204 q204
  obtain ⟨rfl, e204⟩ := q204
  have f204 := e204.symm
  subst f204
  show G (T204.setTop (mkF m 224 #[.val (.long q0), .second, .val (.int p2), .val (.int p3), .val (.int p4), .val (.int p5), .val (.long (Int64.ofNat vn)), .second, .val (.int (Int32.ofNat ec.length)), .val (.int ca), .val (.int cb), .val (.int cc), .val (.ref ar), .val (.ref en), .val (.ref a187), .val (.ref r192), .val (.ref a194), .val (.ref a196), .val (.int (Int32.ofNat (own_dg vn).length)), .unset] [(.int (Int32.ofNat own_head.length)), (.ref r192)]))
  refine own_iload K204 at_224 rfl rfl ?_
  refine own_iadd K204 at_226 rfl ?_
  rw [own_addL own_head ec]
  refine own_aload K204 at_227 rfl rfl rfl ?_
  refine own_callS K204 (wd279 hw) (wd280 hw) (rm_lit hw hs (pr := own_head ++ ec) (ds := own_mid) (po := own_dg vn) K204.O Sm hlm hom SM hoM) (wd281 hw) (wd258 hw) (by decide) (argsL := [(.ref r192), (.int (Int32.ofNat (own_head ++ ec).length)), (.ref a196)]) (rest := []) rfl pd_28Ljava2flang2fString3bILjava2flang2fString3b29Z rfl rfl (W := 0) rfl (by decide) (by decide) (by decide) (by decide) at_229 rfl ?_
  intro T205 h205 L205 v205 K205 q205
  obtain ⟨rfl, e205⟩ := q205
  have f205 := e205.symm
  subst f205
  show G (T205.setTop (mkF m 232 #[.val (.long q0), .second, .val (.int p2), .val (.int p3), .val (.int p4), .val (.int p5), .val (.long (Int64.ofNat vn)), .second, .val (.int (Int32.ofNat ec.length)), .val (.int ca), .val (.int cb), .val (.int cc), .val (.ref ar), .val (.ref en), .val (.ref a187), .val (.ref r192), .val (.ref a194), .val (.ref a196), .val (.int (Int32.ofNat (own_dg vn).length)), .unset] [(.int (1 : Int32))]))
  refine own_ifYes K205 at_232 (pc' := 237) (by decide) (by decide) ((if0 _ _).trans (feq (by decide)).2) ?_
  refine own_aload K205 at_237 rfl rfl rfl ?_
  refine own_callV K205 (a := r192) (x0 := (⟨"java/lang/String", "length", "()I"⟩ : MethodName)) (wd278 hw) (wd134 hw) (fun q => own_nfS (args := #[]) (mvT q (wd136 hw)) rfl) (wd136 hw) (wd135 hw) (rm_lengthS hw hs (cs := own_head ++ ec ++ own_mid ++ own_dg vn) K205.O Sm hlm) (wd137 hw) (wd4 hw) (by decide) Sm.exa (argsL := []) (rest := []) rfl pd_2829I rfl rfl (W := 0) rfl (by decide) (by decide) (by decide) (by decide) at_239 rfl ?_
  intro T206 h206 L206 v206 K206 q206
  obtain ⟨rfl, e206⟩ := q206
  have f206 := e206.symm
  subst f206
  show G (T206.setTop (mkF m 242 #[.val (.long q0), .second, .val (.int p2), .val (.int p3), .val (.int p4), .val (.int p5), .val (.long (Int64.ofNat vn)), .second, .val (.int (Int32.ofNat ec.length)), .val (.int ca), .val (.int cb), .val (.int cc), .val (.ref ar), .val (.ref en), .val (.ref a187), .val (.ref r192), .val (.ref a194), .val (.ref a196), .val (.int (Int32.ofNat (own_dg vn).length)), .unset] [(.int (Int32.ofNat (own_head ++ ec ++ own_mid ++ own_dg vn).length))]))
  refine own_istore K206 (Ls' := #[.val (.long q0), .second, .val (.int p2), .val (.int p3), .val (.int p4), .val (.int p5), .val (.long (Int64.ofNat vn)), .second, .val (.int (Int32.ofNat ec.length)), .val (.int ca), .val (.int cb), .val (.int cc), .val (.ref ar), .val (.ref en), .val (.ref a187), .val (.ref r192), .val (.ref a194), .val (.ref a196), .val (.int (Int32.ofNat (own_dg vn).length)), .val (.int (Int32.ofNat (own_head ++ ec ++ own_mid ++ own_dg vn).length))]) at_242 rfl rfl ?_
  refine own_aload K206 at_244 rfl rfl rfl ?_
  refine own_iload K206 at_246 rfl rfl ?_
  refine own_lload K206 at_248 rfl rfl ?_
  refine own_iload K206 at_250 rfl rfl ?_
  refine own_iconst K206 (v := (0 : Int32)) at_252 rfl rfl ?_
  refine own_lconst K206 (v := (1 : Int64)) at_253 rfl rfl ?_
  refine own_callS K206 (wd307 hw) (wd308 hw) (rm_dig hw hs (pr := own_head ++ ec ++ own_mid) (vn := vn) (i := 0) (pw := 1) K206.O Sm hlm hom hn63 (by decide) ⟨by decide, by decide⟩) (wd309 hw) (wd258 hw) (by decide) (argsL := [(.ref r192), (.int (Int32.ofNat (own_head ++ ec ++ own_mid ++ own_dg vn).length)), (.long (Int64.ofNat vn)), (.int (Int32.ofNat (own_dg vn).length)), (.int (0 : Int32)), (.long (1 : Int64))]) (rest := []) rfl pd_28Ljava2flang2fString3bIJIIJ29Z rfl rfl (W := 0) rfl (by decide) (by decide) (by decide) (by decide) at_254 rfl ?_
  intro T207 h207 L207 v207 K207 q207
  obtain ⟨rfl, e207⟩ := q207
  have f207 := e207.symm
  subst f207
  show G (T207.setTop (mkF m 257 #[.val (.long q0), .second, .val (.int p2), .val (.int p3), .val (.int p4), .val (.int p5), .val (.long (Int64.ofNat vn)), .second, .val (.int (Int32.ofNat ec.length)), .val (.int ca), .val (.int cb), .val (.int cc), .val (.ref ar), .val (.ref en), .val (.ref a187), .val (.ref r192), .val (.ref a194), .val (.ref a196), .val (.int (Int32.ofNat (own_dg vn).length)), .val (.int (Int32.ofNat (own_head ++ ec ++ own_mid ++ own_dg vn).length))] [(.int (1 : Int32))]))
  refine own_ifNo K207 at_257 rfl ((if0 _ _).trans (feq (by decide)).1) ?_
  refine own_aload K207 at_260 rfl rfl rfl ?_
  refine own_iload K207 at_262 rfl rfl ?_
  refine own_lload K207 at_264 rfl rfl ?_
  refine own_iload K207 at_266 rfl rfl ?_
  refine own_iconst K207 (v := (1 : Int32)) at_268 rfl rfl ?_
  refine own_ldc2Long K207 (wd260 hw) at_269 rfl ?_
  refine own_callS K207 (wd307 hw) (wd308 hw) (rm_dig hw hs (pr := own_head ++ ec ++ own_mid) (vn := vn) (i := 1) (pw := 10) K207.O Sm hlm hom hn63 (by decide) ⟨by decide, by decide⟩) (wd309 hw) (wd258 hw) (by decide) (argsL := [(.ref r192), (.int (Int32.ofNat (own_head ++ ec ++ own_mid ++ own_dg vn).length)), (.long (Int64.ofNat vn)), (.int (Int32.ofNat (own_dg vn).length)), (.int (1 : Int32)), (.long (10 : Int64))]) (rest := []) rfl pd_28Ljava2flang2fString3bIJIIJ29Z rfl rfl (W := 0) rfl (by decide) (by decide) (by decide) (by decide) at_272 rfl ?_
  intro T208 h208 L208 v208 K208 q208
  obtain ⟨rfl, e208⟩ := q208
  have f208 := e208.symm
  subst f208
  show G (T208.setTop (mkF m 275 #[.val (.long q0), .second, .val (.int p2), .val (.int p3), .val (.int p4), .val (.int p5), .val (.long (Int64.ofNat vn)), .second, .val (.int (Int32.ofNat ec.length)), .val (.int ca), .val (.int cb), .val (.int cc), .val (.ref ar), .val (.ref en), .val (.ref a187), .val (.ref r192), .val (.ref a194), .val (.ref a196), .val (.int (Int32.ofNat (own_dg vn).length)), .val (.int (Int32.ofNat (own_head ++ ec ++ own_mid ++ own_dg vn).length))] [(.int (1 : Int32))]))
  refine own_ifNo K208 at_275 rfl ((if0 _ _).trans (feq (by decide)).1) ?_
  refine own_aload K208 at_278 rfl rfl rfl ?_
  refine own_iload K208 at_280 rfl rfl ?_
  refine own_lload K208 at_282 rfl rfl ?_
  refine own_iload K208 at_284 rfl rfl ?_
  refine own_iconst K208 (v := (2 : Int32)) at_286 rfl rfl ?_
  refine own_ldc2Long K208 (wd261 hw) at_287 rfl ?_
  refine own_callS K208 (wd307 hw) (wd308 hw) (rm_dig hw hs (pr := own_head ++ ec ++ own_mid) (vn := vn) (i := 2) (pw := 100) K208.O Sm hlm hom hn63 (by decide) ⟨by decide, by decide⟩) (wd309 hw) (wd258 hw) (by decide) (argsL := [(.ref r192), (.int (Int32.ofNat (own_head ++ ec ++ own_mid ++ own_dg vn).length)), (.long (Int64.ofNat vn)), (.int (Int32.ofNat (own_dg vn).length)), (.int (2 : Int32)), (.long (100 : Int64))]) (rest := []) rfl pd_28Ljava2flang2fString3bIJIIJ29Z rfl rfl (W := 0) rfl (by decide) (by decide) (by decide) (by decide) at_290 rfl ?_
  intro T209 h209 L209 v209 K209 q209
  obtain ⟨rfl, e209⟩ := q209
  have f209 := e209.symm
  subst f209
  show G (T209.setTop (mkF m 293 #[.val (.long q0), .second, .val (.int p2), .val (.int p3), .val (.int p4), .val (.int p5), .val (.long (Int64.ofNat vn)), .second, .val (.int (Int32.ofNat ec.length)), .val (.int ca), .val (.int cb), .val (.int cc), .val (.ref ar), .val (.ref en), .val (.ref a187), .val (.ref r192), .val (.ref a194), .val (.ref a196), .val (.int (Int32.ofNat (own_dg vn).length)), .val (.int (Int32.ofNat (own_head ++ ec ++ own_mid ++ own_dg vn).length))] [(.int (1 : Int32))]))
  refine own_ifNo K209 at_293 rfl ((if0 _ _).trans (feq (by decide)).1) ?_
  refine own_aload K209 at_296 rfl rfl rfl ?_
  refine own_iload K209 at_298 rfl rfl ?_
  refine own_lload K209 at_300 rfl rfl ?_
  refine own_iload K209 at_302 rfl rfl ?_
  refine own_iconst K209 (v := (3 : Int32)) at_304 rfl rfl ?_
  refine own_ldc2Long K209 (wd262 hw) at_305 rfl ?_
  refine own_callS K209 (wd307 hw) (wd308 hw) (rm_dig hw hs (pr := own_head ++ ec ++ own_mid) (vn := vn) (i := 3) (pw := 1000) K209.O Sm hlm hom hn63 (by decide) ⟨by decide, by decide⟩) (wd309 hw) (wd258 hw) (by decide) (argsL := [(.ref r192), (.int (Int32.ofNat (own_head ++ ec ++ own_mid ++ own_dg vn).length)), (.long (Int64.ofNat vn)), (.int (Int32.ofNat (own_dg vn).length)), (.int (3 : Int32)), (.long (1000 : Int64))]) (rest := []) rfl pd_28Ljava2flang2fString3bIJIIJ29Z rfl rfl (W := 0) rfl (by decide) (by decide) (by decide) (by decide) at_308 rfl ?_
  intro T210 h210 L210 v210 K210 q210
  obtain ⟨rfl, e210⟩ := q210
  have f210 := e210.symm
  subst f210
  show G (T210.setTop (mkF m 311 #[.val (.long q0), .second, .val (.int p2), .val (.int p3), .val (.int p4), .val (.int p5), .val (.long (Int64.ofNat vn)), .second, .val (.int (Int32.ofNat ec.length)), .val (.int ca), .val (.int cb), .val (.int cc), .val (.ref ar), .val (.ref en), .val (.ref a187), .val (.ref r192), .val (.ref a194), .val (.ref a196), .val (.int (Int32.ofNat (own_dg vn).length)), .val (.int (Int32.ofNat (own_head ++ ec ++ own_mid ++ own_dg vn).length))] [(.int (1 : Int32))]))
  refine own_ifNo K210 at_311 rfl ((if0 _ _).trans (feq (by decide)).1) ?_
  refine own_aload K210 at_314 rfl rfl rfl ?_
  refine own_iload K210 at_316 rfl rfl ?_
  refine own_lload K210 at_318 rfl rfl ?_
  refine own_iload K210 at_320 rfl rfl ?_
  refine own_iconst K210 (v := (4 : Int32)) at_322 rfl rfl ?_
  refine own_ldc2Long K210 (wd263 hw) at_323 rfl ?_
  refine own_callS K210 (wd307 hw) (wd308 hw) (rm_dig hw hs (pr := own_head ++ ec ++ own_mid) (vn := vn) (i := 4) (pw := 10000) K210.O Sm hlm hom hn63 (by decide) ⟨by decide, by decide⟩) (wd309 hw) (wd258 hw) (by decide) (argsL := [(.ref r192), (.int (Int32.ofNat (own_head ++ ec ++ own_mid ++ own_dg vn).length)), (.long (Int64.ofNat vn)), (.int (Int32.ofNat (own_dg vn).length)), (.int (4 : Int32)), (.long (10000 : Int64))]) (rest := []) rfl pd_28Ljava2flang2fString3bIJIIJ29Z rfl rfl (W := 0) rfl (by decide) (by decide) (by decide) (by decide) at_326 rfl ?_
  intro T211 h211 L211 v211 K211 q211
  obtain ⟨rfl, e211⟩ := q211
  have f211 := e211.symm
  subst f211
  show G (T211.setTop (mkF m 329 #[.val (.long q0), .second, .val (.int p2), .val (.int p3), .val (.int p4), .val (.int p5), .val (.long (Int64.ofNat vn)), .second, .val (.int (Int32.ofNat ec.length)), .val (.int ca), .val (.int cb), .val (.int cc), .val (.ref ar), .val (.ref en), .val (.ref a187), .val (.ref r192), .val (.ref a194), .val (.ref a196), .val (.int (Int32.ofNat (own_dg vn).length)), .val (.int (Int32.ofNat (own_head ++ ec ++ own_mid ++ own_dg vn).length))] [(.int (1 : Int32))]))
  refine own_ifNo K211 at_329 rfl ((if0 _ _).trans (feq (by decide)).1) ?_
  refine own_aload K211 at_332 rfl rfl rfl ?_
  refine own_iload K211 at_334 rfl rfl ?_
  refine own_lload K211 at_336 rfl rfl ?_
  refine own_iload K211 at_338 rfl rfl ?_
  refine own_iconst K211 (v := (5 : Int32)) at_340 rfl rfl ?_
  refine own_ldc2Long K211 (wd264 hw) at_341 rfl ?_
  refine own_callS K211 (wd307 hw) (wd308 hw) (rm_dig hw hs (pr := own_head ++ ec ++ own_mid) (vn := vn) (i := 5) (pw := 100000) K211.O Sm hlm hom hn63 (by decide) ⟨by decide, by decide⟩) (wd309 hw) (wd258 hw) (by decide) (argsL := [(.ref r192), (.int (Int32.ofNat (own_head ++ ec ++ own_mid ++ own_dg vn).length)), (.long (Int64.ofNat vn)), (.int (Int32.ofNat (own_dg vn).length)), (.int (5 : Int32)), (.long (100000 : Int64))]) (rest := []) rfl pd_28Ljava2flang2fString3bIJIIJ29Z rfl rfl (W := 0) rfl (by decide) (by decide) (by decide) (by decide) at_344 rfl ?_
  intro T212 h212 L212 v212 K212 q212
  obtain ⟨rfl, e212⟩ := q212
  have f212 := e212.symm
  subst f212
  show G (T212.setTop (mkF m 347 #[.val (.long q0), .second, .val (.int p2), .val (.int p3), .val (.int p4), .val (.int p5), .val (.long (Int64.ofNat vn)), .second, .val (.int (Int32.ofNat ec.length)), .val (.int ca), .val (.int cb), .val (.int cc), .val (.ref ar), .val (.ref en), .val (.ref a187), .val (.ref r192), .val (.ref a194), .val (.ref a196), .val (.int (Int32.ofNat (own_dg vn).length)), .val (.int (Int32.ofNat (own_head ++ ec ++ own_mid ++ own_dg vn).length))] [(.int (1 : Int32))]))
  refine own_ifNo K212 at_347 rfl ((if0 _ _).trans (feq (by decide)).1) ?_
  refine own_aload K212 at_350 rfl rfl rfl ?_
  refine own_iload K212 at_352 rfl rfl ?_
  refine own_lload K212 at_354 rfl rfl ?_
  refine own_iload K212 at_356 rfl rfl ?_
  refine own_bipush K212 (v := (6 : Int32)) at_358 rfl rfl ?_
  refine own_ldc2Long K212 (wd265 hw) at_360 rfl ?_
  refine own_callS K212 (wd307 hw) (wd308 hw) (rm_dig hw hs (pr := own_head ++ ec ++ own_mid) (vn := vn) (i := 6) (pw := 1000000) K212.O Sm hlm hom hn63 (by decide) ⟨by decide, by decide⟩) (wd309 hw) (wd258 hw) (by decide) (argsL := [(.ref r192), (.int (Int32.ofNat (own_head ++ ec ++ own_mid ++ own_dg vn).length)), (.long (Int64.ofNat vn)), (.int (Int32.ofNat (own_dg vn).length)), (.int (6 : Int32)), (.long (1000000 : Int64))]) (rest := []) rfl pd_28Ljava2flang2fString3bIJIIJ29Z rfl rfl (W := 0) rfl (by decide) (by decide) (by decide) (by decide) at_363 rfl ?_
  intro T213 h213 L213 v213 K213 q213
  obtain ⟨rfl, e213⟩ := q213
  have f213 := e213.symm
  subst f213
  show G (T213.setTop (mkF m 366 #[.val (.long q0), .second, .val (.int p2), .val (.int p3), .val (.int p4), .val (.int p5), .val (.long (Int64.ofNat vn)), .second, .val (.int (Int32.ofNat ec.length)), .val (.int ca), .val (.int cb), .val (.int cc), .val (.ref ar), .val (.ref en), .val (.ref a187), .val (.ref r192), .val (.ref a194), .val (.ref a196), .val (.int (Int32.ofNat (own_dg vn).length)), .val (.int (Int32.ofNat (own_head ++ ec ++ own_mid ++ own_dg vn).length))] [(.int (1 : Int32))]))
  refine own_ifNo K213 at_366 rfl ((if0 _ _).trans (feq (by decide)).1) ?_
  refine own_aload K213 at_369 rfl rfl rfl ?_
  refine own_iload K213 at_371 rfl rfl ?_
  refine own_lload K213 at_373 rfl rfl ?_
  refine own_iload K213 at_375 rfl rfl ?_
  refine own_bipush K213 (v := (7 : Int32)) at_377 rfl rfl ?_
  refine own_ldc2Long K213 (wd266 hw) at_379 rfl ?_
  refine own_callS K213 (wd307 hw) (wd308 hw) (rm_dig hw hs (pr := own_head ++ ec ++ own_mid) (vn := vn) (i := 7) (pw := 10000000) K213.O Sm hlm hom hn63 (by decide) ⟨by decide, by decide⟩) (wd309 hw) (wd258 hw) (by decide) (argsL := [(.ref r192), (.int (Int32.ofNat (own_head ++ ec ++ own_mid ++ own_dg vn).length)), (.long (Int64.ofNat vn)), (.int (Int32.ofNat (own_dg vn).length)), (.int (7 : Int32)), (.long (10000000 : Int64))]) (rest := []) rfl pd_28Ljava2flang2fString3bIJIIJ29Z rfl rfl (W := 0) rfl (by decide) (by decide) (by decide) (by decide) at_382 rfl ?_
  intro T214 h214 L214 v214 K214 q214
  obtain ⟨rfl, e214⟩ := q214
  have f214 := e214.symm
  subst f214
  show G (T214.setTop (mkF m 385 #[.val (.long q0), .second, .val (.int p2), .val (.int p3), .val (.int p4), .val (.int p5), .val (.long (Int64.ofNat vn)), .second, .val (.int (Int32.ofNat ec.length)), .val (.int ca), .val (.int cb), .val (.int cc), .val (.ref ar), .val (.ref en), .val (.ref a187), .val (.ref r192), .val (.ref a194), .val (.ref a196), .val (.int (Int32.ofNat (own_dg vn).length)), .val (.int (Int32.ofNat (own_head ++ ec ++ own_mid ++ own_dg vn).length))] [(.int (1 : Int32))]))
  refine own_ifNo K214 at_385 rfl ((if0 _ _).trans (feq (by decide)).1) ?_
  refine own_aload K214 at_388 rfl rfl rfl ?_
  refine own_iload K214 at_390 rfl rfl ?_
  refine own_lload K214 at_392 rfl rfl ?_
  refine own_iload K214 at_394 rfl rfl ?_
  refine own_bipush K214 (v := (8 : Int32)) at_396 rfl rfl ?_
  refine own_ldc2Long K214 (wd267 hw) at_398 rfl ?_
  refine own_callS K214 (wd307 hw) (wd308 hw) (rm_dig hw hs (pr := own_head ++ ec ++ own_mid) (vn := vn) (i := 8) (pw := 100000000) K214.O Sm hlm hom hn63 (by decide) ⟨by decide, by decide⟩) (wd309 hw) (wd258 hw) (by decide) (argsL := [(.ref r192), (.int (Int32.ofNat (own_head ++ ec ++ own_mid ++ own_dg vn).length)), (.long (Int64.ofNat vn)), (.int (Int32.ofNat (own_dg vn).length)), (.int (8 : Int32)), (.long (100000000 : Int64))]) (rest := []) rfl pd_28Ljava2flang2fString3bIJIIJ29Z rfl rfl (W := 0) rfl (by decide) (by decide) (by decide) (by decide) at_401 rfl ?_
  intro T215 h215 L215 v215 K215 q215
  obtain ⟨rfl, e215⟩ := q215
  have f215 := e215.symm
  subst f215
  show G (T215.setTop (mkF m 404 #[.val (.long q0), .second, .val (.int p2), .val (.int p3), .val (.int p4), .val (.int p5), .val (.long (Int64.ofNat vn)), .second, .val (.int (Int32.ofNat ec.length)), .val (.int ca), .val (.int cb), .val (.int cc), .val (.ref ar), .val (.ref en), .val (.ref a187), .val (.ref r192), .val (.ref a194), .val (.ref a196), .val (.int (Int32.ofNat (own_dg vn).length)), .val (.int (Int32.ofNat (own_head ++ ec ++ own_mid ++ own_dg vn).length))] [(.int (1 : Int32))]))
  refine own_ifNo K215 at_404 rfl ((if0 _ _).trans (feq (by decide)).1) ?_
  refine own_aload K215 at_407 rfl rfl rfl ?_
  refine own_iload K215 at_409 rfl rfl ?_
  refine own_lload K215 at_411 rfl rfl ?_
  refine own_iload K215 at_413 rfl rfl ?_
  refine own_bipush K215 (v := (9 : Int32)) at_415 rfl rfl ?_
  refine own_ldc2Long K215 (wd268 hw) at_417 rfl ?_
  refine own_callS K215 (wd307 hw) (wd308 hw) (rm_dig hw hs (pr := own_head ++ ec ++ own_mid) (vn := vn) (i := 9) (pw := 1000000000) K215.O Sm hlm hom hn63 (by decide) ⟨by decide, by decide⟩) (wd309 hw) (wd258 hw) (by decide) (argsL := [(.ref r192), (.int (Int32.ofNat (own_head ++ ec ++ own_mid ++ own_dg vn).length)), (.long (Int64.ofNat vn)), (.int (Int32.ofNat (own_dg vn).length)), (.int (9 : Int32)), (.long (1000000000 : Int64))]) (rest := []) rfl pd_28Ljava2flang2fString3bIJIIJ29Z rfl rfl (W := 0) rfl (by decide) (by decide) (by decide) (by decide) at_420 rfl ?_
  intro T216 h216 L216 v216 K216 q216
  obtain ⟨rfl, e216⟩ := q216
  have f216 := e216.symm
  subst f216
  show G (T216.setTop (mkF m 423 #[.val (.long q0), .second, .val (.int p2), .val (.int p3), .val (.int p4), .val (.int p5), .val (.long (Int64.ofNat vn)), .second, .val (.int (Int32.ofNat ec.length)), .val (.int ca), .val (.int cb), .val (.int cc), .val (.ref ar), .val (.ref en), .val (.ref a187), .val (.ref r192), .val (.ref a194), .val (.ref a196), .val (.int (Int32.ofNat (own_dg vn).length)), .val (.int (Int32.ofNat (own_head ++ ec ++ own_mid ++ own_dg vn).length))] [(.int (1 : Int32))]))
  refine own_ifNo K216 at_423 rfl ((if0 _ _).trans (feq (by decide)).1) ?_
  refine own_aload K216 at_426 rfl rfl rfl ?_
  refine own_iload K216 at_428 rfl rfl ?_
  refine own_lload K216 at_430 rfl rfl ?_
  refine own_iload K216 at_432 rfl rfl ?_
  refine own_bipush K216 (v := (10 : Int32)) at_434 rfl rfl ?_
  refine own_ldc2Long K216 (wd269 hw) at_436 rfl ?_
  refine own_callS K216 (wd307 hw) (wd308 hw) (rm_dig hw hs (pr := own_head ++ ec ++ own_mid) (vn := vn) (i := 10) (pw := 10000000000) K216.O Sm hlm hom hn63 (by decide) ⟨by decide, by decide⟩) (wd309 hw) (wd258 hw) (by decide) (argsL := [(.ref r192), (.int (Int32.ofNat (own_head ++ ec ++ own_mid ++ own_dg vn).length)), (.long (Int64.ofNat vn)), (.int (Int32.ofNat (own_dg vn).length)), (.int (10 : Int32)), (.long (10000000000 : Int64))]) (rest := []) rfl pd_28Ljava2flang2fString3bIJIIJ29Z rfl rfl (W := 0) rfl (by decide) (by decide) (by decide) (by decide) at_439 rfl ?_
  intro T217 h217 L217 v217 K217 q217
  obtain ⟨rfl, e217⟩ := q217
  have f217 := e217.symm
  subst f217
  show G (T217.setTop (mkF m 442 #[.val (.long q0), .second, .val (.int p2), .val (.int p3), .val (.int p4), .val (.int p5), .val (.long (Int64.ofNat vn)), .second, .val (.int (Int32.ofNat ec.length)), .val (.int ca), .val (.int cb), .val (.int cc), .val (.ref ar), .val (.ref en), .val (.ref a187), .val (.ref r192), .val (.ref a194), .val (.ref a196), .val (.int (Int32.ofNat (own_dg vn).length)), .val (.int (Int32.ofNat (own_head ++ ec ++ own_mid ++ own_dg vn).length))] [(.int (1 : Int32))]))
  refine own_ifNo K217 at_442 rfl ((if0 _ _).trans (feq (by decide)).1) ?_
  refine own_aload K217 at_445 rfl rfl rfl ?_
  refine own_iload K217 at_447 rfl rfl ?_
  refine own_lload K217 at_449 rfl rfl ?_
  refine own_iload K217 at_451 rfl rfl ?_
  refine own_bipush K217 (v := (11 : Int32)) at_453 rfl rfl ?_
  refine own_ldc2Long K217 (wd270 hw) at_455 rfl ?_
  refine own_callS K217 (wd307 hw) (wd308 hw) (rm_dig hw hs (pr := own_head ++ ec ++ own_mid) (vn := vn) (i := 11) (pw := 100000000000) K217.O Sm hlm hom hn63 (by decide) ⟨by decide, by decide⟩) (wd309 hw) (wd258 hw) (by decide) (argsL := [(.ref r192), (.int (Int32.ofNat (own_head ++ ec ++ own_mid ++ own_dg vn).length)), (.long (Int64.ofNat vn)), (.int (Int32.ofNat (own_dg vn).length)), (.int (11 : Int32)), (.long (100000000000 : Int64))]) (rest := []) rfl pd_28Ljava2flang2fString3bIJIIJ29Z rfl rfl (W := 0) rfl (by decide) (by decide) (by decide) (by decide) at_458 rfl ?_
  intro T218 h218 L218 v218 K218 q218
  obtain ⟨rfl, e218⟩ := q218
  have f218 := e218.symm
  subst f218
  show G (T218.setTop (mkF m 461 #[.val (.long q0), .second, .val (.int p2), .val (.int p3), .val (.int p4), .val (.int p5), .val (.long (Int64.ofNat vn)), .second, .val (.int (Int32.ofNat ec.length)), .val (.int ca), .val (.int cb), .val (.int cc), .val (.ref ar), .val (.ref en), .val (.ref a187), .val (.ref r192), .val (.ref a194), .val (.ref a196), .val (.int (Int32.ofNat (own_dg vn).length)), .val (.int (Int32.ofNat (own_head ++ ec ++ own_mid ++ own_dg vn).length))] [(.int (1 : Int32))]))
  refine own_ifNo K218 at_461 rfl ((if0 _ _).trans (feq (by decide)).1) ?_
  refine own_aload K218 at_464 rfl rfl rfl ?_
  refine own_iload K218 at_466 rfl rfl ?_
  refine own_lload K218 at_468 rfl rfl ?_
  refine own_iload K218 at_470 rfl rfl ?_
  refine own_bipush K218 (v := (12 : Int32)) at_472 rfl rfl ?_
  refine own_ldc2Long K218 (wd271 hw) at_474 rfl ?_
  refine own_callS K218 (wd307 hw) (wd308 hw) (rm_dig hw hs (pr := own_head ++ ec ++ own_mid) (vn := vn) (i := 12) (pw := 1000000000000) K218.O Sm hlm hom hn63 (by decide) ⟨by decide, by decide⟩) (wd309 hw) (wd258 hw) (by decide) (argsL := [(.ref r192), (.int (Int32.ofNat (own_head ++ ec ++ own_mid ++ own_dg vn).length)), (.long (Int64.ofNat vn)), (.int (Int32.ofNat (own_dg vn).length)), (.int (12 : Int32)), (.long (1000000000000 : Int64))]) (rest := []) rfl pd_28Ljava2flang2fString3bIJIIJ29Z rfl rfl (W := 0) rfl (by decide) (by decide) (by decide) (by decide) at_477 rfl ?_
  intro T219 h219 L219 v219 K219 q219
  obtain ⟨rfl, e219⟩ := q219
  have f219 := e219.symm
  subst f219
  show G (T219.setTop (mkF m 480 #[.val (.long q0), .second, .val (.int p2), .val (.int p3), .val (.int p4), .val (.int p5), .val (.long (Int64.ofNat vn)), .second, .val (.int (Int32.ofNat ec.length)), .val (.int ca), .val (.int cb), .val (.int cc), .val (.ref ar), .val (.ref en), .val (.ref a187), .val (.ref r192), .val (.ref a194), .val (.ref a196), .val (.int (Int32.ofNat (own_dg vn).length)), .val (.int (Int32.ofNat (own_head ++ ec ++ own_mid ++ own_dg vn).length))] [(.int (1 : Int32))]))
  refine own_ifNo K219 at_480 rfl ((if0 _ _).trans (feq (by decide)).1) ?_
  refine own_aload K219 at_483 rfl rfl rfl ?_
  refine own_iload K219 at_485 rfl rfl ?_
  refine own_lload K219 at_487 rfl rfl ?_
  refine own_iload K219 at_489 rfl rfl ?_
  refine own_bipush K219 (v := (13 : Int32)) at_491 rfl rfl ?_
  refine own_ldc2Long K219 (wd272 hw) at_493 rfl ?_
  refine own_callS K219 (wd307 hw) (wd308 hw) (rm_dig hw hs (pr := own_head ++ ec ++ own_mid) (vn := vn) (i := 13) (pw := 10000000000000) K219.O Sm hlm hom hn63 (by decide) ⟨by decide, by decide⟩) (wd309 hw) (wd258 hw) (by decide) (argsL := [(.ref r192), (.int (Int32.ofNat (own_head ++ ec ++ own_mid ++ own_dg vn).length)), (.long (Int64.ofNat vn)), (.int (Int32.ofNat (own_dg vn).length)), (.int (13 : Int32)), (.long (10000000000000 : Int64))]) (rest := []) rfl pd_28Ljava2flang2fString3bIJIIJ29Z rfl rfl (W := 0) rfl (by decide) (by decide) (by decide) (by decide) at_496 rfl ?_
  intro T220 h220 L220 v220 K220 q220
  obtain ⟨rfl, e220⟩ := q220
  have f220 := e220.symm
  subst f220
  show G (T220.setTop (mkF m 499 #[.val (.long q0), .second, .val (.int p2), .val (.int p3), .val (.int p4), .val (.int p5), .val (.long (Int64.ofNat vn)), .second, .val (.int (Int32.ofNat ec.length)), .val (.int ca), .val (.int cb), .val (.int cc), .val (.ref ar), .val (.ref en), .val (.ref a187), .val (.ref r192), .val (.ref a194), .val (.ref a196), .val (.int (Int32.ofNat (own_dg vn).length)), .val (.int (Int32.ofNat (own_head ++ ec ++ own_mid ++ own_dg vn).length))] [(.int (1 : Int32))]))
  refine own_ifNo K220 at_499 rfl ((if0 _ _).trans (feq (by decide)).1) ?_
  refine own_aload K220 at_502 rfl rfl rfl ?_
  refine own_iload K220 at_504 rfl rfl ?_
  refine own_lload K220 at_506 rfl rfl ?_
  refine own_iload K220 at_508 rfl rfl ?_
  refine own_bipush K220 (v := (14 : Int32)) at_510 rfl rfl ?_
  refine own_ldc2Long K220 (wd273 hw) at_512 rfl ?_
  refine own_callS K220 (wd307 hw) (wd308 hw) (rm_dig hw hs (pr := own_head ++ ec ++ own_mid) (vn := vn) (i := 14) (pw := 100000000000000) K220.O Sm hlm hom hn63 (by decide) ⟨by decide, by decide⟩) (wd309 hw) (wd258 hw) (by decide) (argsL := [(.ref r192), (.int (Int32.ofNat (own_head ++ ec ++ own_mid ++ own_dg vn).length)), (.long (Int64.ofNat vn)), (.int (Int32.ofNat (own_dg vn).length)), (.int (14 : Int32)), (.long (100000000000000 : Int64))]) (rest := []) rfl pd_28Ljava2flang2fString3bIJIIJ29Z rfl rfl (W := 0) rfl (by decide) (by decide) (by decide) (by decide) at_515 rfl ?_
  intro T221 h221 L221 v221 K221 q221
  obtain ⟨rfl, e221⟩ := q221
  have f221 := e221.symm
  subst f221
  show G (T221.setTop (mkF m 518 #[.val (.long q0), .second, .val (.int p2), .val (.int p3), .val (.int p4), .val (.int p5), .val (.long (Int64.ofNat vn)), .second, .val (.int (Int32.ofNat ec.length)), .val (.int ca), .val (.int cb), .val (.int cc), .val (.ref ar), .val (.ref en), .val (.ref a187), .val (.ref r192), .val (.ref a194), .val (.ref a196), .val (.int (Int32.ofNat (own_dg vn).length)), .val (.int (Int32.ofNat (own_head ++ ec ++ own_mid ++ own_dg vn).length))] [(.int (1 : Int32))]))
  refine own_ifNo K221 at_518 rfl ((if0 _ _).trans (feq (by decide)).1) ?_
  refine own_aload K221 at_521 rfl rfl rfl ?_
  refine own_iload K221 at_523 rfl rfl ?_
  refine own_lload K221 at_525 rfl rfl ?_
  refine own_iload K221 at_527 rfl rfl ?_
  refine own_bipush K221 (v := (15 : Int32)) at_529 rfl rfl ?_
  refine own_ldc2Long K221 (wd274 hw) at_531 rfl ?_
  refine own_callS K221 (wd307 hw) (wd308 hw) (rm_dig hw hs (pr := own_head ++ ec ++ own_mid) (vn := vn) (i := 15) (pw := 1000000000000000) K221.O Sm hlm hom hn63 (by decide) ⟨by decide, by decide⟩) (wd309 hw) (wd258 hw) (by decide) (argsL := [(.ref r192), (.int (Int32.ofNat (own_head ++ ec ++ own_mid ++ own_dg vn).length)), (.long (Int64.ofNat vn)), (.int (Int32.ofNat (own_dg vn).length)), (.int (15 : Int32)), (.long (1000000000000000 : Int64))]) (rest := []) rfl pd_28Ljava2flang2fString3bIJIIJ29Z rfl rfl (W := 0) rfl (by decide) (by decide) (by decide) (by decide) at_534 rfl ?_
  intro T222 h222 L222 v222 K222 q222
  obtain ⟨rfl, e222⟩ := q222
  have f222 := e222.symm
  subst f222
  show G (T222.setTop (mkF m 537 #[.val (.long q0), .second, .val (.int p2), .val (.int p3), .val (.int p4), .val (.int p5), .val (.long (Int64.ofNat vn)), .second, .val (.int (Int32.ofNat ec.length)), .val (.int ca), .val (.int cb), .val (.int cc), .val (.ref ar), .val (.ref en), .val (.ref a187), .val (.ref r192), .val (.ref a194), .val (.ref a196), .val (.int (Int32.ofNat (own_dg vn).length)), .val (.int (Int32.ofNat (own_head ++ ec ++ own_mid ++ own_dg vn).length))] [(.int (1 : Int32))]))
  refine own_ifNo K222 at_537 rfl ((if0 _ _).trans (feq (by decide)).1) ?_
  refine own_aload K222 at_540 rfl rfl rfl ?_
  refine own_iload K222 at_542 rfl rfl ?_
  refine own_lload K222 at_544 rfl rfl ?_
  refine own_iload K222 at_546 rfl rfl ?_
  refine own_bipush K222 (v := (16 : Int32)) at_548 rfl rfl ?_
  refine own_ldc2Long K222 (wd275 hw) at_550 rfl ?_
  refine own_callS K222 (wd307 hw) (wd308 hw) (rm_dig hw hs (pr := own_head ++ ec ++ own_mid) (vn := vn) (i := 16) (pw := 10000000000000000) K222.O Sm hlm hom hn63 (by decide) ⟨by decide, by decide⟩) (wd309 hw) (wd258 hw) (by decide) (argsL := [(.ref r192), (.int (Int32.ofNat (own_head ++ ec ++ own_mid ++ own_dg vn).length)), (.long (Int64.ofNat vn)), (.int (Int32.ofNat (own_dg vn).length)), (.int (16 : Int32)), (.long (10000000000000000 : Int64))]) (rest := []) rfl pd_28Ljava2flang2fString3bIJIIJ29Z rfl rfl (W := 0) rfl (by decide) (by decide) (by decide) (by decide) at_553 rfl ?_
  intro T223 h223 L223 v223 K223 q223
  obtain ⟨rfl, e223⟩ := q223
  have f223 := e223.symm
  subst f223
  show G (T223.setTop (mkF m 556 #[.val (.long q0), .second, .val (.int p2), .val (.int p3), .val (.int p4), .val (.int p5), .val (.long (Int64.ofNat vn)), .second, .val (.int (Int32.ofNat ec.length)), .val (.int ca), .val (.int cb), .val (.int cc), .val (.ref ar), .val (.ref en), .val (.ref a187), .val (.ref r192), .val (.ref a194), .val (.ref a196), .val (.int (Int32.ofNat (own_dg vn).length)), .val (.int (Int32.ofNat (own_head ++ ec ++ own_mid ++ own_dg vn).length))] [(.int (1 : Int32))]))
  refine own_ifNo K223 at_556 rfl ((if0 _ _).trans (feq (by decide)).1) ?_
  refine own_aload K223 at_559 rfl rfl rfl ?_
  refine own_iload K223 at_561 rfl rfl ?_
  refine own_lload K223 at_563 rfl rfl ?_
  refine own_iload K223 at_565 rfl rfl ?_
  refine own_bipush K223 (v := (17 : Int32)) at_567 rfl rfl ?_
  refine own_ldc2Long K223 (wd276 hw) at_569 rfl ?_
  refine own_callS K223 (wd307 hw) (wd308 hw) (rm_dig hw hs (pr := own_head ++ ec ++ own_mid) (vn := vn) (i := 17) (pw := 100000000000000000) K223.O Sm hlm hom hn63 (by decide) ⟨by decide, by decide⟩) (wd309 hw) (wd258 hw) (by decide) (argsL := [(.ref r192), (.int (Int32.ofNat (own_head ++ ec ++ own_mid ++ own_dg vn).length)), (.long (Int64.ofNat vn)), (.int (Int32.ofNat (own_dg vn).length)), (.int (17 : Int32)), (.long (100000000000000000 : Int64))]) (rest := []) rfl pd_28Ljava2flang2fString3bIJIIJ29Z rfl rfl (W := 0) rfl (by decide) (by decide) (by decide) (by decide) at_572 rfl ?_
  intro T224 h224 L224 v224 K224 q224
  obtain ⟨rfl, e224⟩ := q224
  have f224 := e224.symm
  subst f224
  show G (T224.setTop (mkF m 575 #[.val (.long q0), .second, .val (.int p2), .val (.int p3), .val (.int p4), .val (.int p5), .val (.long (Int64.ofNat vn)), .second, .val (.int (Int32.ofNat ec.length)), .val (.int ca), .val (.int cb), .val (.int cc), .val (.ref ar), .val (.ref en), .val (.ref a187), .val (.ref r192), .val (.ref a194), .val (.ref a196), .val (.int (Int32.ofNat (own_dg vn).length)), .val (.int (Int32.ofNat (own_head ++ ec ++ own_mid ++ own_dg vn).length))] [(.int (1 : Int32))]))
  refine own_ifNo K224 at_575 rfl ((if0 _ _).trans (feq (by decide)).1) ?_
  refine own_aload K224 at_578 rfl rfl rfl ?_
  refine own_iload K224 at_580 rfl rfl ?_
  refine own_lload K224 at_582 rfl rfl ?_
  refine own_iload K224 at_584 rfl rfl ?_
  refine own_bipush K224 (v := (18 : Int32)) at_586 rfl rfl ?_
  refine own_ldc2Long K224 (wd277 hw) at_588 rfl ?_
  refine own_callS K224 (wd307 hw) (wd308 hw) (rm_dig hw hs (pr := own_head ++ ec ++ own_mid) (vn := vn) (i := 18) (pw := 1000000000000000000) K224.O Sm hlm hom hn63 (by decide) ⟨by decide, by decide⟩) (wd309 hw) (wd258 hw) (by decide) (argsL := [(.ref r192), (.int (Int32.ofNat (own_head ++ ec ++ own_mid ++ own_dg vn).length)), (.long (Int64.ofNat vn)), (.int (Int32.ofNat (own_dg vn).length)), (.int (18 : Int32)), (.long (1000000000000000000 : Int64))]) (rest := []) rfl pd_28Ljava2flang2fString3bIJIIJ29Z rfl rfl (W := 0) rfl (by decide) (by decide) (by decide) (by decide) at_591 rfl ?_
  intro T225 h225 L225 v225 K225 q225
  obtain ⟨rfl, e225⟩ := q225
  have f225 := e225.symm
  subst f225
  show G (T225.setTop (mkF m 594 #[.val (.long q0), .second, .val (.int p2), .val (.int p3), .val (.int p4), .val (.int p5), .val (.long (Int64.ofNat vn)), .second, .val (.int (Int32.ofNat ec.length)), .val (.int ca), .val (.int cb), .val (.int cc), .val (.ref ar), .val (.ref en), .val (.ref a187), .val (.ref r192), .val (.ref a194), .val (.ref a196), .val (.int (Int32.ofNat (own_dg vn).length)), .val (.int (Int32.ofNat (own_head ++ ec ++ own_mid ++ own_dg vn).length))] [(.int (1 : Int32))]))
  refine own_ifNo K225 at_594 rfl ((if0 _ _).trans (feq (by decide)).1) ?_
  refine own_iconst K225 (v := (1 : Int32)) at_597 rfl rfl ?_
  refine own_goto K225 at_598 (pc' := 602) (by decide) (by decide) ?_
  have W226 := W196.same K225
  exact own_retN W226.K (z' := (1 : Int32)) at_602 rfl (by simp) (by decide) (by decide) (by decide) ⟨⟨(hq _), W226.le⟩, fun _ => W226.C⟩
end Law
theorem own_l8n : ∀ d ∈ ([] : List Int32), ¬ d < 0 ∧ d < 256 := fun _ q => nomatch q
theorem own_l8c {c : Int32} {cs : List Int32} (h : ¬ c < 0 ∧ c < 256) (h' : ∀ d ∈ cs, ¬ d < 0 ∧ d < 256) : ∀ d ∈ c :: cs, ¬ d < 0 ∧ d < 256 := fun d hd => (List.mem_cons.mp hd).elim (fun q => q ▸ h) (h' d)
theorem own_and3 (x : Int32) : x &&& 3 = 0 ∨ x &&& 3 = 1 ∨ x &&& 3 = 2 ∨ x &&& 3 = 3 := by
  have h := c_mask x 3 2 (by decide) (by decide)
  have : (x &&& 3).toInt = 0 ∨ (x &&& 3).toInt = 1 ∨ (x &&& 3).toInt = 2 ∨ (x &&& 3).toInt = 3 := by omega
  rcases this with q | q | q | q
  · exact Or.inl (Int32.toInt_inj.mp q)
  · exact Or.inr (Or.inl (Int32.toInt_inj.mp q))
  · exact Or.inr (Or.inr (Or.inl (Int32.toInt_inj.mp q)))
  · exact Or.inr (Or.inr (Or.inr (Int32.toInt_inj.mp q)))
theorem wd0 {a0 : Array Value} {Z : State} (hw : ∀ d ∈ tables_1, d.before a0 Z = true) : (Jvm.Cond.constantLong "com/example/tallymark/tallymark/MalformedTextExceptionGetMessagePinLaw" (9 : Nat) (9223372036854775807 : Int64)).before a0 Z = true := hw _ (List.mem_of_getElem? (i := 0) rfl)
theorem wd1 {a0 : Array Value} {Z : State} (hw : ∀ d ∈ tables_1, d.before a0 Z = true) : (Jvm.Cond.arrayClass Jvm.ClassFile.FieldType.char).before a0 Z = true := hw _ (List.mem_of_getElem? (i := 1) rfl)
theorem wd2 {a0 : Array Value} {Z : State} (hw : ∀ d ∈ tables_1, d.before a0 Z = true) : (Jvm.Cond.classLink "com/example/tallymark/tallymark/MalformedTextExceptionGetMessagePinLaw" (11 : Nat) "java/lang/String").before a0 Z = true := hw _ (List.mem_of_getElem? (i := 2) rfl)
theorem wd7 {a0 : Array Value} {Z : State} (hw : ∀ d ∈ tables_1, d.before a0 Z = true) : (Jvm.Cond.code ({ cls := "java/lang/String", name := "<init>", desc := "([C)V" } : Jvm.MethodName) jdk_42_method_3_code (2 : Nat) (Option.none : Option Jvm.ClassFile.FieldType)).before a0 Z = true := hw _ (List.mem_of_getElem? (i := 7) rfl)
theorem pd_285bC29V : parseMethodDescriptor "([C)V" = some ⟨[(.array .char)], none⟩ := by decide +kernel
theorem wd5 {a0 : Array Value} {Z : State} (hw : ∀ d ∈ tables_1, d.before a0 Z = true) : (Jvm.Cond.methodLink "com/example/tallymark/tallymark/MalformedTextExceptionGetMessagePinLaw" (13 : Nat) ({ cls := "java/lang/String", name := "<init>", desc := "([C)V" } : Jvm.MethodName)).before a0 Z = true := hw _ (List.mem_of_getElem? (i := 5) rfl)
theorem wd6 {a0 : Array Value} {Z : State} (hw : ∀ d ∈ tables_1, d.before a0 Z = true) : (Jvm.Cond.instanceMethod ({ cls := "java/lang/String", name := "<init>", desc := "([C)V" } : Jvm.MethodName)).before a0 Z = true := hw _ (List.mem_of_getElem? (i := 6) rfl)
set_option maxRecDepth 65536 in
set_option maxHeartbeats 40000000 in
theorem rm_law {l : Launch} {Z : State} {a0 : Array Value} (hw : ∀ d ∈ tables_1, d.before a0 Z = true) (hs : ∀ d ∈ jdkStatics_1, d.before a0 Z = true) {q0 : Int64} {p2 : Int32} {p3 : Int32} {p4 : Int32} {p5 : Int32} {h0 : Heap} (O0 : Ext Z.heap h0) (hl : l.stackTraces = true) (r2 : ∀ d ∈ twoRefs, d.before a0 Z = true) :
    own_CtW l Z consts_1 true true x code maxLocals ret tables_1 room_1 #[(.long q0), (.int p2), (.int p3), (.int p4), (.int p5)] h0 (fun v h => v = some (.int 1)) := by
  refine own_bodyW (Ls := #[.val (.long q0), .second, .val (.int p2), .val (.int p3), .val (.int p4), .val (.int p5), .unset, .unset, .unset, .unset, .unset, .unset, .unset, .unset, .unset, .unset, .unset, .unset, .unset, .unset]) (own_EL hw) (plainFor_of_name pn_com_example_tallymark_tallymark_MalformedTextExceptionGetMessagePinLaw) (fun m => by first | (simp [entryFrame, mkF, argsToLocals, Value.category, maxLocals]; done) | rfl) O0 ?_
  intro p e s m below meth c T0 G hkn hs0 W0
  refine own_lloadN W0.K at_0 rfl rfl ?_
  refine own_ldc2Long W0.K (wd0 hw) at_1 rfl ?_
  refine own_land W0.K at_4 rfl ?_
  refine own_lstore W0.K (Ls' := #[.val (.long q0), .second, .val (.int p2), .val (.int p3), .val (.int p4), .val (.int p5), .val (.long (q0 &&& (9223372036854775807 : Int64))), .second, .unset, .unset, .unset, .unset, .unset, .unset, .unset, .unset, .unset, .unset, .unset, .unset]) at_5 rfl rfl ?_
  obtain ⟨vn, hn63, evn⟩ := own_line q0
  rw [evn]
  refine own_iloadN W0.K at_7 rfl rfl ?_
  refine own_iconst W0.K (v := (3 : Int32)) at_8 rfl rfl ?_
  refine own_iand W0.K at_9 rfl ?_
  refine own_istore W0.K (Ls' := #[.val (.long q0), .second, .val (.int p2), .val (.int p3), .val (.int p4), .val (.int p5), .val (.long (Int64.ofNat vn)), .second, .val (.int (p2 &&& (3 : Int32))), .unset, .unset, .unset, .unset, .unset, .unset, .unset, .unset, .unset, .unset, .unset]) at_10 rfl rfl ?_
  refine own_iloadN W0.K at_12 rfl rfl ?_
  refine own_sipush W0.K (v := (255 : Int32)) at_13 rfl rfl ?_
  refine own_iand W0.K at_16 rfl ?_
  refine own_i2c W0.K at_17 rfl ?_
  refine own_istore W0.K (Ls' := #[.val (.long q0), .second, .val (.int p2), .val (.int p3), .val (.int p4), .val (.int p5), .val (.long (Int64.ofNat vn)), .second, .val (.int (p2 &&& (3 : Int32))), .val (.int ((p3 &&& (255 : Int32)).toUInt32.toUInt16.toUInt32.toInt32)), .unset, .unset, .unset, .unset, .unset, .unset, .unset, .unset, .unset, .unset]) at_18 rfl rfl ?_
  refine own_iload W0.K at_20 rfl rfl ?_
  refine own_sipush W0.K (v := (255 : Int32)) at_22 rfl rfl ?_
  refine own_iand W0.K at_25 rfl ?_
  refine own_i2c W0.K at_26 rfl ?_
  refine own_istore W0.K (Ls' := #[.val (.long q0), .second, .val (.int p2), .val (.int p3), .val (.int p4), .val (.int p5), .val (.long (Int64.ofNat vn)), .second, .val (.int (p2 &&& (3 : Int32))), .val (.int ((p3 &&& (255 : Int32)).toUInt32.toUInt16.toUInt32.toInt32)), .val (.int ((p4 &&& (255 : Int32)).toUInt32.toUInt16.toUInt32.toInt32)), .unset, .unset, .unset, .unset, .unset, .unset, .unset, .unset, .unset]) at_27 rfl rfl ?_
  refine own_iload W0.K at_29 rfl rfl ?_
  refine own_sipush W0.K (v := (255 : Int32)) at_31 rfl rfl ?_
  refine own_iand W0.K at_34 rfl ?_
  refine own_i2c W0.K at_35 rfl ?_
  refine own_istore W0.K (Ls' := #[.val (.long q0), .second, .val (.int p2), .val (.int p3), .val (.int p4), .val (.int p5), .val (.long (Int64.ofNat vn)), .second, .val (.int (p2 &&& (3 : Int32))), .val (.int ((p3 &&& (255 : Int32)).toUInt32.toUInt16.toUInt32.toInt32)), .val (.int ((p4 &&& (255 : Int32)).toUInt32.toUInt16.toUInt32.toInt32)), .val (.int ((p5 &&& (255 : Int32)).toUInt32.toUInt16.toUInt32.toInt32)), .unset, .unset, .unset, .unset, .unset, .unset, .unset, .unset]) at_36 rfl rfl ?_
  refine own_iload W0.K at_38 rfl rfl ?_
  rcases own_and3 p2 with hn | hn | hn | hn
  · skip
    rw [hn]
    refine own_ifNo W0.K at_40 rfl ((if0 _ _).trans (teq rfl).2) ?_
    refine own_iconst W0.K (v := (0 : Int32)) at_43 rfl rfl ?_
    refine own_newP W0.K (aty := .char) (wd1 hw) at_44 (by decide) (cap := 0) (by decide) (by decide) (by decide) (by decide) rfl ?_
    intro T227 h227 a227 c227 K227 g227 E227 V227
    refine own_astore K227 (Ls' := #[.val (.long q0), .second, .val (.int p2), .val (.int p3), .val (.int p4), .val (.int p5), .val (.long (Int64.ofNat vn)), .second, .val (.int (0 : Int32)), .val (.int ((p3 &&& (255 : Int32)).toUInt32.toUInt16.toUInt32.toInt32)), .val (.int ((p4 &&& (255 : Int32)).toUInt32.toUInt16.toUInt32.toInt32)), .val (.int ((p5 &&& (255 : Int32)).toUInt32.toUInt16.toUInt32.toInt32)), .val (.ref a227), .unset, .unset, .unset, .unset, .unset, .unset, .unset]) at_46 rfl rfl rfl ?_
    refine own_goto K227 at_48 (pc' := 114) (by decide) (by decide) ?_
    have gj227 : Z.heap.size ≤ a227 := by rw [g227]; exact O0.1
    have Y227 : Ext h0 h227 := E227
    refine own_newO K227 (wd2 hw) (wd3 hw) (wd4 hw) at_114 (by decide) (by decide) rfl ?_
    intro T228 h228 a228 K228 g228 E228 A228 D228 U228
    have F_coder_228 : Fld Z h228 a228 "java/lang/String" "coder" "B" (.int (0 : Int32)) := D228 (Or.inr (wd28 hw)) (ty := .byte) (by decide)
    have F_value_228 : Fld Z h228 a228 "java/lang/String" "value" "[B" .null := D228 (Or.inr (wd30 hw)) (ty := (.array .byte)) (by decide)
    refine own_dup K228 at_117 rfl rfl ?_
    refine own_aload K228 at_118 rfl rfl rfl ?_
    have gs228 : Z.heap.size ≤ a228 := by rw [g228]; exact Nat.le_trans O0.1 Y227.1
    have Y228 : Ext h0 h228 := own_ext_trans Y227 E228
    have gt228 : h0.size ≤ a228 := by rw [g228]; exact Y227.1
    have hlat : ∀ d ∈ ([] : List Int32), ¬ d < 0 ∧ d < 256 := own_l8n
    have W229 := W0.ext K228 Y228
    refine own_callIW W229 (own_EL hw) (kn := false) (fun q => nomatch q) (a := a228) (wd5 hw) (wd6 hw) (rm_initCE hw hs W229.K.O A228 F_value_228 F_coder_228 gs228 (V227.ext E228)) (wd7 hw) (wd4 hw) (by decide) rfl (argsL := [(.ref a227)]) (rest := [(.ref a228)]) rfl pd_285bC29V rfl rfl (Wd := 1) rfl (by decide) (by decide) (by decide) (by decide) at_120 rfl ?_
    intro T230 h230 L230 v230 k1_230 W230 C230 q230
    obtain ⟨rfl, Kp230, S230⟩ := q230
    show G (T230.setTop (mkF m 123 #[.val (.long q0), .second, .val (.int p2), .val (.int p3), .val (.int p4), .val (.int p5), .val (.long (Int64.ofNat vn)), .second, .val (.int (0 : Int32)), .val (.int ((p3 &&& (255 : Int32)).toUInt32.toUInt16.toUInt32.toInt32)), .val (.int ((p4 &&& (255 : Int32)).toUInt32.toUInt16.toUInt32.toInt32)), .val (.int ((p5 &&& (255 : Int32)).toUInt32.toUInt16.toUInt32.toInt32)), .val (.ref a227), .unset, .unset, .unset, .unset, .unset, .unset, .unset] [(.ref a228)]))
    have Z230 : Ext h0 h230 := own_ext_keep Y228 Kp230 (allS gt228 all0)
    have Se : own_StrG Z h230 a228 false ([] : List Int32) := S230
    refine own_astore W230.K (Ls' := #[.val (.long q0), .second, .val (.int p2), .val (.int p3), .val (.int p4), .val (.int p5), .val (.long (Int64.ofNat vn)), .second, .val (.int (0 : Int32)), .val (.int ((p3 &&& (255 : Int32)).toUInt32.toUInt16.toUInt32.toInt32)), .val (.int ((p4 &&& (255 : Int32)).toUInt32.toUInt16.toUInt32.toInt32)), .val (.int ((p5 &&& (255 : Int32)).toUInt32.toUInt16.toUInt32.toInt32)), .val (.ref a227), .val (.ref a228), .unset, .unset, .unset, .unset, .unset, .unset]) at_123 rfl rfl rfl ?_
    exact law_tail hw hs hl r2 (hkn rfl) (fun _ => rfl) (ec := ([] : List Int32)) (W230.same (W230.K.more (by decide) (by decide))) Se (by simp) (fun d hd => hlat d hd) hn63
  · skip
    rw [hn]
    refine own_ifYes W0.K at_40 (pc' := 51) (by decide) (by decide) ((if0 _ _).trans (feq (by decide)).2) ?_
    refine own_iload W0.K at_51 rfl rfl ?_
    refine own_iconst W0.K (v := (1 : Int32)) at_53 rfl rfl ?_
    refine own_icmpNo W0.K at_54 rfl (teq rfl).2 ?_
    refine own_iconst W0.K (v := (1 : Int32)) at_57 rfl rfl ?_
    refine own_newP W0.K (aty := .char) (wd1 hw) at_58 (by decide) (cap := 1) (by decide) (by decide) (by decide) (by decide) rfl ?_
    intro T231 h231 a231 c231 K231 g231 E231 V231
    refine own_dup K231 at_60 rfl rfl ?_
    refine own_iconst K231 (v := (0 : Int32)) at_61 rfl rfl ?_
    refine own_iload K231 at_62 rfl rfl ?_
    have gj231 : Z.heap.size ≤ a231 := by rw [g231]; exact O0.1
    have Y231 : Ext h0 h231 := E231
    refine own_castore K231 (V231.pad (pad_rep [] _ 1)) ⟨by decide, by decide⟩ 0 rfl (by simp) (x' := ((p3 &&& (255 : Int32)).toUInt32.toUInt16.toUInt32.toInt32)) (own_nar_char8 (own_i2c255 _)) gj231 at_64 rfl ?_
    intro T232 h232 K232 W232 V232
    have Y232 : Ext h0 h232 := own_ext_wr Y231 W232 (Nat.le_of_eq g231.symm)
    refine own_astore K232 (Ls' := #[.val (.long q0), .second, .val (.int p2), .val (.int p3), .val (.int p4), .val (.int p5), .val (.long (Int64.ofNat vn)), .second, .val (.int (1 : Int32)), .val (.int ((p3 &&& (255 : Int32)).toUInt32.toUInt16.toUInt32.toInt32)), .val (.int ((p4 &&& (255 : Int32)).toUInt32.toUInt16.toUInt32.toInt32)), .val (.int ((p5 &&& (255 : Int32)).toUInt32.toUInt16.toUInt32.toInt32)), .val (.ref a231), .unset, .unset, .unset, .unset, .unset, .unset, .unset]) at_65 rfl rfl rfl ?_
    refine own_goto K232 at_67 (pc' := 114) (by decide) (by decide) ?_
    refine own_newO K232 (wd2 hw) (wd3 hw) (wd4 hw) at_114 (by decide) (by decide) rfl ?_
    intro T233 h233 a233 K233 g233 E233 A233 D233 U233
    have F_coder_233 : Fld Z h233 a233 "java/lang/String" "coder" "B" (.int (0 : Int32)) := D233 (Or.inr (wd28 hw)) (ty := .byte) (by decide)
    have F_value_233 : Fld Z h233 a233 "java/lang/String" "value" "[B" .null := D233 (Or.inr (wd30 hw)) (ty := (.array .byte)) (by decide)
    refine own_dup K233 at_117 rfl rfl ?_
    refine own_aload K233 at_118 rfl rfl rfl ?_
    have gs233 : Z.heap.size ≤ a233 := by rw [g233]; exact Nat.le_trans O0.1 Y232.1
    have Y233 : Ext h0 h233 := own_ext_trans Y232 E233
    have gt233 : h0.size ≤ a233 := by rw [g233]; exact Y232.1
    have hlat : ∀ d ∈ [((p3 &&& (255 : Int32)).toUInt32.toUInt16.toUInt32.toInt32)], ¬ d < 0 ∧ d < 256 := own_l8c (own_i2c255 _) (own_l8n)
    have A_ : Arv Z h233 a231 c231 .char (Int32.ofNat [((p3 &&& (255 : Int32)).toUInt32.toUInt16.toUInt32.toInt32)].length) ([((p3 &&& (255 : Int32)).toUInt32.toUInt16.toUInt32.toInt32)].map Value.int) (.int 0) := V232.ext E233
    refine own_callI K233 (a := a233) (wd5 hw) (wd6 hw) (rm_initC hw hs (cs := [((p3 &&& (255 : Int32)).toUInt32.toUInt16.toUInt32.toInt32)]) (cap := 1) K233.O A233 F_value_233 F_coder_233 gs233 A_ hlat (by simp) (by simp) (by simp) (by simp)) (wd7 hw) (wd4 hw) (by decide) rfl (argsL := [(.ref a231)]) (rest := [(.ref a233)]) rfl pd_285bC29V rfl rfl (W := 1) rfl (by decide) (by decide) (by decide) (by decide) at_120 rfl ?_
    intro T234 h234 L234 v234 K234 q234
    obtain ⟨rfl, Kp234, S234⟩ := q234
    show G (T234.setTop (mkF m 123 #[.val (.long q0), .second, .val (.int p2), .val (.int p3), .val (.int p4), .val (.int p5), .val (.long (Int64.ofNat vn)), .second, .val (.int (1 : Int32)), .val (.int ((p3 &&& (255 : Int32)).toUInt32.toUInt16.toUInt32.toInt32)), .val (.int ((p4 &&& (255 : Int32)).toUInt32.toUInt16.toUInt32.toInt32)), .val (.int ((p5 &&& (255 : Int32)).toUInt32.toUInt16.toUInt32.toInt32)), .val (.ref a231), .unset, .unset, .unset, .unset, .unset, .unset, .unset] [(.ref a233)]))
    have Z234 : Ext h0 h234 := own_ext_keep Y233 Kp234 (allS gt233 all0)
    have W235 := W0.ext K234 Z234
    have Se : own_StrG Z h234 a233 false [((p3 &&& (255 : Int32)).toUInt32.toUInt16.toUInt32.toInt32)] := S234
    refine own_astore W235.K (Ls' := #[.val (.long q0), .second, .val (.int p2), .val (.int p3), .val (.int p4), .val (.int p5), .val (.long (Int64.ofNat vn)), .second, .val (.int (1 : Int32)), .val (.int ((p3 &&& (255 : Int32)).toUInt32.toUInt16.toUInt32.toInt32)), .val (.int ((p4 &&& (255 : Int32)).toUInt32.toUInt16.toUInt32.toInt32)), .val (.int ((p5 &&& (255 : Int32)).toUInt32.toUInt16.toUInt32.toInt32)), .val (.ref a231), .val (.ref a233), .unset, .unset, .unset, .unset, .unset, .unset]) at_123 rfl rfl rfl ?_
    exact law_tail hw hs hl r2 (hkn rfl) (fun _ => rfl) (ec := [((p3 &&& (255 : Int32)).toUInt32.toUInt16.toUInt32.toInt32)]) (W235.same (W235.K.more (by decide) (by decide))) Se (by simp) (fun d hd => hlat d hd) hn63
  · skip
    rw [hn]
    refine own_ifYes W0.K at_40 (pc' := 51) (by decide) (by decide) ((if0 _ _).trans (feq (by decide)).2) ?_
    refine own_iload W0.K at_51 rfl rfl ?_
    refine own_iconst W0.K (v := (1 : Int32)) at_53 rfl rfl ?_
    refine own_icmpYes W0.K at_54 (pc' := 70) (by decide) (by decide) (feq (by decide)).2 ?_
    refine own_iload W0.K at_70 rfl rfl ?_
    refine own_iconst W0.K (v := (2 : Int32)) at_72 rfl rfl ?_
    refine own_icmpNo W0.K at_73 rfl (teq rfl).2 ?_
    refine own_iconst W0.K (v := (2 : Int32)) at_76 rfl rfl ?_
    refine own_newP W0.K (aty := .char) (wd1 hw) at_77 (by decide) (cap := 2) (by decide) (by decide) (by decide) (by decide) rfl ?_
    intro T236 h236 a236 c236 K236 g236 E236 V236
    refine own_dup K236 at_79 rfl rfl ?_
    refine own_iconst K236 (v := (0 : Int32)) at_80 rfl rfl ?_
    refine own_iload K236 at_81 rfl rfl ?_
    have gj236 : Z.heap.size ≤ a236 := by rw [g236]; exact O0.1
    have Y236 : Ext h0 h236 := E236
    refine own_castore K236 (V236.pad (pad_rep [] _ 2)) ⟨by decide, by decide⟩ 0 rfl (by simp) (x' := ((p3 &&& (255 : Int32)).toUInt32.toUInt16.toUInt32.toInt32)) (own_nar_char8 (own_i2c255 _)) gj236 at_83 rfl ?_
    intro T237 h237 K237 W237 V237
    have Y237 : Ext h0 h237 := own_ext_wr Y236 W237 (Nat.le_of_eq g236.symm)
    refine own_dup K237 at_84 rfl rfl ?_
    refine own_iconst K237 (v := (1 : Int32)) at_85 rfl rfl ?_
    refine own_iload K237 at_86 rfl rfl ?_
    refine own_castore K237 V237 ⟨by decide, by decide⟩ 1 rfl (by simp) (x' := ((p4 &&& (255 : Int32)).toUInt32.toUInt16.toUInt32.toInt32)) (own_nar_char8 (own_i2c255 _)) gj236 at_88 rfl ?_
    intro T238 h238 K238 W238 V238
    have Y238 : Ext h0 h238 := own_ext_wr Y237 W238 (Nat.le_of_eq g236.symm)
    refine own_astore K238 (Ls' := #[.val (.long q0), .second, .val (.int p2), .val (.int p3), .val (.int p4), .val (.int p5), .val (.long (Int64.ofNat vn)), .second, .val (.int (2 : Int32)), .val (.int ((p3 &&& (255 : Int32)).toUInt32.toUInt16.toUInt32.toInt32)), .val (.int ((p4 &&& (255 : Int32)).toUInt32.toUInt16.toUInt32.toInt32)), .val (.int ((p5 &&& (255 : Int32)).toUInt32.toUInt16.toUInt32.toInt32)), .val (.ref a236), .unset, .unset, .unset, .unset, .unset, .unset, .unset]) at_89 rfl rfl rfl ?_
    refine own_goto K238 at_91 (pc' := 114) (by decide) (by decide) ?_
    refine own_newO K238 (wd2 hw) (wd3 hw) (wd4 hw) at_114 (by decide) (by decide) rfl ?_
    intro T239 h239 a239 K239 g239 E239 A239 D239 U239
    have F_coder_239 : Fld Z h239 a239 "java/lang/String" "coder" "B" (.int (0 : Int32)) := D239 (Or.inr (wd28 hw)) (ty := .byte) (by decide)
    have F_value_239 : Fld Z h239 a239 "java/lang/String" "value" "[B" .null := D239 (Or.inr (wd30 hw)) (ty := (.array .byte)) (by decide)
    refine own_dup K239 at_117 rfl rfl ?_
    refine own_aload K239 at_118 rfl rfl rfl ?_
    have gs239 : Z.heap.size ≤ a239 := by rw [g239]; exact Nat.le_trans O0.1 Y238.1
    have Y239 : Ext h0 h239 := own_ext_trans Y238 E239
    have gt239 : h0.size ≤ a239 := by rw [g239]; exact Y238.1
    have hlat : ∀ d ∈ [((p3 &&& (255 : Int32)).toUInt32.toUInt16.toUInt32.toInt32), ((p4 &&& (255 : Int32)).toUInt32.toUInt16.toUInt32.toInt32)], ¬ d < 0 ∧ d < 256 := own_l8c (own_i2c255 _) (own_l8c (own_i2c255 _) (own_l8n))
    have A_ : Arv Z h239 a236 c236 .char (Int32.ofNat [((p3 &&& (255 : Int32)).toUInt32.toUInt16.toUInt32.toInt32), ((p4 &&& (255 : Int32)).toUInt32.toUInt16.toUInt32.toInt32)].length) ([((p3 &&& (255 : Int32)).toUInt32.toUInt16.toUInt32.toInt32), ((p4 &&& (255 : Int32)).toUInt32.toUInt16.toUInt32.toInt32)].map Value.int) (.int 0) := V238.ext E239
    refine own_callI K239 (a := a239) (wd5 hw) (wd6 hw) (rm_initC hw hs (cs := [((p3 &&& (255 : Int32)).toUInt32.toUInt16.toUInt32.toInt32), ((p4 &&& (255 : Int32)).toUInt32.toUInt16.toUInt32.toInt32)]) (cap := 2) K239.O A239 F_value_239 F_coder_239 gs239 A_ hlat (by simp) (by simp) (by simp) (by simp)) (wd7 hw) (wd4 hw) (by decide) rfl (argsL := [(.ref a236)]) (rest := [(.ref a239)]) rfl pd_285bC29V rfl rfl (W := 1) rfl (by decide) (by decide) (by decide) (by decide) at_120 rfl ?_
    intro T240 h240 L240 v240 K240 q240
    obtain ⟨rfl, Kp240, S240⟩ := q240
    show G (T240.setTop (mkF m 123 #[.val (.long q0), .second, .val (.int p2), .val (.int p3), .val (.int p4), .val (.int p5), .val (.long (Int64.ofNat vn)), .second, .val (.int (2 : Int32)), .val (.int ((p3 &&& (255 : Int32)).toUInt32.toUInt16.toUInt32.toInt32)), .val (.int ((p4 &&& (255 : Int32)).toUInt32.toUInt16.toUInt32.toInt32)), .val (.int ((p5 &&& (255 : Int32)).toUInt32.toUInt16.toUInt32.toInt32)), .val (.ref a236), .unset, .unset, .unset, .unset, .unset, .unset, .unset] [(.ref a239)]))
    have Z240 : Ext h0 h240 := own_ext_keep Y239 Kp240 (allS gt239 all0)
    have W241 := W0.ext K240 Z240
    have Se : own_StrG Z h240 a239 false [((p3 &&& (255 : Int32)).toUInt32.toUInt16.toUInt32.toInt32), ((p4 &&& (255 : Int32)).toUInt32.toUInt16.toUInt32.toInt32)] := S240
    refine own_astore W241.K (Ls' := #[.val (.long q0), .second, .val (.int p2), .val (.int p3), .val (.int p4), .val (.int p5), .val (.long (Int64.ofNat vn)), .second, .val (.int (2 : Int32)), .val (.int ((p3 &&& (255 : Int32)).toUInt32.toUInt16.toUInt32.toInt32)), .val (.int ((p4 &&& (255 : Int32)).toUInt32.toUInt16.toUInt32.toInt32)), .val (.int ((p5 &&& (255 : Int32)).toUInt32.toUInt16.toUInt32.toInt32)), .val (.ref a236), .val (.ref a239), .unset, .unset, .unset, .unset, .unset, .unset]) at_123 rfl rfl rfl ?_
    exact law_tail hw hs hl r2 (hkn rfl) (fun _ => rfl) (ec := [((p3 &&& (255 : Int32)).toUInt32.toUInt16.toUInt32.toInt32), ((p4 &&& (255 : Int32)).toUInt32.toUInt16.toUInt32.toInt32)]) (W241.same (W241.K.more (by decide) (by decide))) Se (by simp) (fun d hd => hlat d hd) hn63
  · skip
    rw [hn]
    refine own_ifYes W0.K at_40 (pc' := 51) (by decide) (by decide) ((if0 _ _).trans (feq (by decide)).2) ?_
    refine own_iload W0.K at_51 rfl rfl ?_
    refine own_iconst W0.K (v := (1 : Int32)) at_53 rfl rfl ?_
    refine own_icmpYes W0.K at_54 (pc' := 70) (by decide) (by decide) (feq (by decide)).2 ?_
    refine own_iload W0.K at_70 rfl rfl ?_
    refine own_iconst W0.K (v := (2 : Int32)) at_72 rfl rfl ?_
    refine own_icmpYes W0.K at_73 (pc' := 94) (by decide) (by decide) (feq (by decide)).2 ?_
    refine own_iconst W0.K (v := (3 : Int32)) at_94 rfl rfl ?_
    refine own_newP W0.K (aty := .char) (wd1 hw) at_95 (by decide) (cap := 3) (by decide) (by decide) (by decide) (by decide) rfl ?_
    intro T242 h242 a242 c242 K242 g242 E242 V242
    refine own_dup K242 at_97 rfl rfl ?_
    refine own_iconst K242 (v := (0 : Int32)) at_98 rfl rfl ?_
    refine own_iload K242 at_99 rfl rfl ?_
    have gj242 : Z.heap.size ≤ a242 := by rw [g242]; exact O0.1
    have Y242 : Ext h0 h242 := E242
    refine own_castore K242 (V242.pad (pad_rep [] _ 3)) ⟨by decide, by decide⟩ 0 rfl (by simp) (x' := ((p3 &&& (255 : Int32)).toUInt32.toUInt16.toUInt32.toInt32)) (own_nar_char8 (own_i2c255 _)) gj242 at_101 rfl ?_
    intro T243 h243 K243 W243 V243
    have Y243 : Ext h0 h243 := own_ext_wr Y242 W243 (Nat.le_of_eq g242.symm)
    refine own_dup K243 at_102 rfl rfl ?_
    refine own_iconst K243 (v := (1 : Int32)) at_103 rfl rfl ?_
    refine own_iload K243 at_104 rfl rfl ?_
    refine own_castore K243 V243 ⟨by decide, by decide⟩ 1 rfl (by simp) (x' := ((p4 &&& (255 : Int32)).toUInt32.toUInt16.toUInt32.toInt32)) (own_nar_char8 (own_i2c255 _)) gj242 at_106 rfl ?_
    intro T244 h244 K244 W244 V244
    have Y244 : Ext h0 h244 := own_ext_wr Y243 W244 (Nat.le_of_eq g242.symm)
    refine own_dup K244 at_107 rfl rfl ?_
    refine own_iconst K244 (v := (2 : Int32)) at_108 rfl rfl ?_
    refine own_iload K244 at_109 rfl rfl ?_
    refine own_castore K244 V244 ⟨by decide, by decide⟩ 2 rfl (by simp) (x' := ((p5 &&& (255 : Int32)).toUInt32.toUInt16.toUInt32.toInt32)) (own_nar_char8 (own_i2c255 _)) gj242 at_111 rfl ?_
    intro T245 h245 K245 W245 V245
    have Y245 : Ext h0 h245 := own_ext_wr Y244 W245 (Nat.le_of_eq g242.symm)
    refine own_astore K245 (Ls' := #[.val (.long q0), .second, .val (.int p2), .val (.int p3), .val (.int p4), .val (.int p5), .val (.long (Int64.ofNat vn)), .second, .val (.int (3 : Int32)), .val (.int ((p3 &&& (255 : Int32)).toUInt32.toUInt16.toUInt32.toInt32)), .val (.int ((p4 &&& (255 : Int32)).toUInt32.toUInt16.toUInt32.toInt32)), .val (.int ((p5 &&& (255 : Int32)).toUInt32.toUInt16.toUInt32.toInt32)), .val (.ref a242), .unset, .unset, .unset, .unset, .unset, .unset, .unset]) at_112 rfl rfl rfl ?_
    refine own_newO K245 (wd2 hw) (wd3 hw) (wd4 hw) at_114 (by decide) (by decide) rfl ?_
    intro T246 h246 a246 K246 g246 E246 A246 D246 U246
    have F_coder_246 : Fld Z h246 a246 "java/lang/String" "coder" "B" (.int (0 : Int32)) := D246 (Or.inr (wd28 hw)) (ty := .byte) (by decide)
    have F_value_246 : Fld Z h246 a246 "java/lang/String" "value" "[B" .null := D246 (Or.inr (wd30 hw)) (ty := (.array .byte)) (by decide)
    refine own_dup K246 at_117 rfl rfl ?_
    refine own_aload K246 at_118 rfl rfl rfl ?_
    have gs246 : Z.heap.size ≤ a246 := by rw [g246]; exact Nat.le_trans O0.1 Y245.1
    have Y246 : Ext h0 h246 := own_ext_trans Y245 E246
    have gt246 : h0.size ≤ a246 := by rw [g246]; exact Y245.1
    have hlat : ∀ d ∈ [((p3 &&& (255 : Int32)).toUInt32.toUInt16.toUInt32.toInt32), ((p4 &&& (255 : Int32)).toUInt32.toUInt16.toUInt32.toInt32), ((p5 &&& (255 : Int32)).toUInt32.toUInt16.toUInt32.toInt32)], ¬ d < 0 ∧ d < 256 := own_l8c (own_i2c255 _) (own_l8c (own_i2c255 _) (own_l8c (own_i2c255 _) (own_l8n)))
    have A_ : Arv Z h246 a242 c242 .char (Int32.ofNat [((p3 &&& (255 : Int32)).toUInt32.toUInt16.toUInt32.toInt32), ((p4 &&& (255 : Int32)).toUInt32.toUInt16.toUInt32.toInt32), ((p5 &&& (255 : Int32)).toUInt32.toUInt16.toUInt32.toInt32)].length) ([((p3 &&& (255 : Int32)).toUInt32.toUInt16.toUInt32.toInt32), ((p4 &&& (255 : Int32)).toUInt32.toUInt16.toUInt32.toInt32), ((p5 &&& (255 : Int32)).toUInt32.toUInt16.toUInt32.toInt32)].map Value.int) (.int 0) := V245.ext E246
    refine own_callI K246 (a := a246) (wd5 hw) (wd6 hw) (rm_initC hw hs (cs := [((p3 &&& (255 : Int32)).toUInt32.toUInt16.toUInt32.toInt32), ((p4 &&& (255 : Int32)).toUInt32.toUInt16.toUInt32.toInt32), ((p5 &&& (255 : Int32)).toUInt32.toUInt16.toUInt32.toInt32)]) (cap := 3) K246.O A246 F_value_246 F_coder_246 gs246 A_ hlat (by simp) (by simp) (by simp) (by simp)) (wd7 hw) (wd4 hw) (by decide) rfl (argsL := [(.ref a242)]) (rest := [(.ref a246)]) rfl pd_285bC29V rfl rfl (W := 1) rfl (by decide) (by decide) (by decide) (by decide) at_120 rfl ?_
    intro T247 h247 L247 v247 K247 q247
    obtain ⟨rfl, Kp247, S247⟩ := q247
    show G (T247.setTop (mkF m 123 #[.val (.long q0), .second, .val (.int p2), .val (.int p3), .val (.int p4), .val (.int p5), .val (.long (Int64.ofNat vn)), .second, .val (.int (3 : Int32)), .val (.int ((p3 &&& (255 : Int32)).toUInt32.toUInt16.toUInt32.toInt32)), .val (.int ((p4 &&& (255 : Int32)).toUInt32.toUInt16.toUInt32.toInt32)), .val (.int ((p5 &&& (255 : Int32)).toUInt32.toUInt16.toUInt32.toInt32)), .val (.ref a242), .unset, .unset, .unset, .unset, .unset, .unset, .unset] [(.ref a246)]))
    have Z247 : Ext h0 h247 := own_ext_keep Y246 Kp247 (allS gt246 all0)
    have W248 := W0.ext K247 Z247
    have Se : own_StrG Z h247 a246 false [((p3 &&& (255 : Int32)).toUInt32.toUInt16.toUInt32.toInt32), ((p4 &&& (255 : Int32)).toUInt32.toUInt16.toUInt32.toInt32), ((p5 &&& (255 : Int32)).toUInt32.toUInt16.toUInt32.toInt32)] := S247
    refine own_astore W248.K (Ls' := #[.val (.long q0), .second, .val (.int p2), .val (.int p3), .val (.int p4), .val (.int p5), .val (.long (Int64.ofNat vn)), .second, .val (.int (3 : Int32)), .val (.int ((p3 &&& (255 : Int32)).toUInt32.toUInt16.toUInt32.toInt32)), .val (.int ((p4 &&& (255 : Int32)).toUInt32.toUInt16.toUInt32.toInt32)), .val (.int ((p5 &&& (255 : Int32)).toUInt32.toUInt16.toUInt32.toInt32)), .val (.ref a242), .val (.ref a246), .unset, .unset, .unset, .unset, .unset, .unset]) at_123 rfl rfl rfl ?_
    exact law_tail hw hs hl r2 (hkn rfl) (fun _ => rfl) (ec := [((p3 &&& (255 : Int32)).toUInt32.toUInt16.toUInt32.toInt32), ((p4 &&& (255 : Int32)).toUInt32.toUInt16.toUInt32.toInt32), ((p5 &&& (255 : Int32)).toUInt32.toUInt16.toUInt32.toInt32)]) (W248.same (W248.K.more (by decide) (by decide))) Se (by simp) (fun d hd => hlat d hd) hn63
theorem own_traces {l : Launch} (h : l.flags = flags0) : l.stackTraces = true := by
  rw [Launch.stackTraces, h]; decide +kernel
set_option maxRecDepth 65536 in
set_option maxHeartbeats 40000000 in
theorem comes_1 {Post : Tables → Env → Array Value → State → Outcome → State → Prop} (hpost : ∀ tb e args s v u, (limb_1_1.after args s (.returned v) u = true ∧ limb_1_2.after args s (.returned v) u = true ∧ True) → ReturnedEndW s (.returned v) u (Jvm.fieldLocs frame_1_writes args s ++ Jvm.arrayLocs frame_1_arrays args s ++ Jvm.staticLocs frame_1_statics s) 40 11136 → Post tb e args s (.returned v) u) :
    ArmFor flags0 classFile x code maxLocals ret World_1 tables_1 room_1 Calls_1 rest_1 Pre_1 Post := by
  intro l hfl _ _ p e ha hc hk s m args below hf hA hF happ hP
  obtain ⟨hcalls, hrest, hpre⟩ := hP
  obtain ⟨-, -, -, hnamed, -, -, -, hat⟩ := (Spec.applies_iff hf).mp happ
  obtain ⟨hg, hn⟩ := and_e (Cond.before_iff.mp (show (Jvm.Cond.and given_1 narrow_1).before args s = true from hpre))
  obtain ⟨gg1, gg2⟩ := and_e hg
  obtain ⟨gg3, gg4⟩ := and_e gg2
  obtain ⟨gg5, gg6⟩ := and_e gg4
  obtain ⟨gg7, gg8⟩ := and_e gg6
  obtain ⟨gg9, gg10⟩ := and_e gg8
  obtain ⟨w0, w1, w2, w3, w4, rfl⟩ : ∃ w0 w1 w2 w3 w4 : Value, args = #[w0, w1, w2, w3, w4] := by
    have hs : args.size = 5 := by simpa [Cond.value, given_1] using gg1
    obtain ⟨L⟩ := args
    match L, hs with
    | [w0, w1, w2, w3, w4], _ => exact ⟨w0, w1, w2, w3, w4, rfl⟩
  have hw := fun d (hd : d ∈ tables_1) => atoms_spec (ws := Jvm.Cond.code x code maxLocals ret :: tables_1) hat d (List.mem_cons_of_mem _ hd)
  have hfit : Fit s := fun {y c} hc i hi => by
    obtain ⟨ha, rfl⟩ := Array.getElem?_eq_some_iff.mp hc
    have q := List.all_eq_true.mp ((Array.all_eq_true_iff_forall_mem.mp hF) _ (Array.getElem_mem ha)) i (List.mem_range.mpr hi)
    simpa [Array.getElem?_eq_getElem hi] using q
  obtain ⟨hsets, hown0⟩ := atoms_of _ (rest_1_c_eq ▸ (show rest_1_c.before _ s = true from hrest))
  obtain ⟨i0, ei0⟩ := isL_v gg3
  obtain rfl : w0 = (.long i0) := Option.some.inj ei0
  obtain ⟨i1, ei1⟩ := is_v gg5
  obtain rfl : w1 = (.int i1) := Option.some.inj ei1
  obtain ⟨i2, ei2⟩ := is_v gg7
  obtain rfl : w2 = (.int i2) := Option.some.inj ei2
  obtain ⟨i3, ei3⟩ := is_v gg9
  obtain rfl : w3 = (.int i3) := Option.some.inj ei3
  obtain ⟨i4, ei4⟩ := is_v gg10
  obtain rfl : w4 = (.int i4) := Option.some.inj ei4
  have hCH : CHv s consts_1 s.vm s.heap := CHv.start (own_EL hw) hcalls.2.2.1 (st2 hsets) (wd20 hw) (wd3 hw)
  obtain ⟨n, o, h1, h2, h3, _, L, rfl, ⟨N, O, rfl⟩, -, hq⟩ := rm_law hw hsets (own_ext_refl s.heap) (own_traces hfl) (two_refs hfit (wd86 hw) (wd87 hw)) p e ha hc hk s m _ below hf ((Spec.applies_iff_loose hf).mp happ).1 ⟨rfl, State.Warmed39.refl s, rfl, hCH⟩ (fun _ => ⟨MethodsKnown_of_tablesKnown hcalls.2.1, FramesKnown_of_framesKnown hcalls.1 hf⟩)
  refine ⟨n, _, h1, h2, h3, hpost _ _ _ _ _ _ ⟨Cond.after_iff.mpr rfl, Cond.after_iff.mpr (eq_i res_at (Term.int_eval (1)) rfl), trivial⟩ ⟨hq.1, hq.2.1, hq.2.2.1, (hq.2.2.2.sift fun y hy => Or.inr (N y hy)).mono (by decide) (by decide)⟩⟩
theorem main_1_1 : Claimed_1_1 := comes_1 fun _ _ _ _ _ _ h hF => ⟨h.1, hF⟩
theorem main_1_2 : Claimed_1_2 := comes_1 fun _ _ _ _ _ _ h hF => ⟨h.2.1, hF⟩
end Jvm.Pilot.@@N@@
namespace Jvm.Pilot.@@N@@
open Jvm Jvm.ClassFile Sem Op Lib Jvm.Free Jvm.Stand Jvm.Pilot.@@N@@.Jvm.D
/-! MADE BY PROGRAM (witnessworld.py) out of the Statement's table words and the real class files: 46 classes; the members and pool entries that the words name. The judged class is class 1, her method 1. -/
namespace start1
open Jvm.ClassFile
def u (s : String) : CpInfo := .utf8 (stringToUtf16 s)
/-- a pool by its gaps: so many unusable entries, then the entry; so many at the end -/
def gap : Nat → List CpInfo → List CpInfo
  | 0, r => r
  | n + 1, r => .unusable :: gap n r
def poolList (es : List (Nat × CpInfo)) (last : Nat) : List CpInfo := es.foldr (fun e r => gap e.1 (e.2 :: r)) (gap last [])
def pool (es : List (Nat × CpInfo)) (last : Nat) : Array CpInfo := ⟨poolList es last⟩
def fileOf (pool : Array CpInfo) (this : Nat) (attrs : Array Attribute := #[]) (ms : Array MethodInfo := #[]) (fl : Nat := 33) (sup : Nat := 0) (ifs : Array Nat := #[]) (fds : Array FieldInfo := #[]) : ClassFile where
  minorVersion := 0
  majorVersion := 65
  constantPool := pool
  accessFlags := fl
  thisClass := this
  superClass := sup
  interfaces := ifs
  fields := fds
  methods := ms
  attributes := attrs
def plain (name : String) (sup : Option ClassId) : Class where
  name := name
  kind := .ordinary
  loader := none
  accessFlags := 33
  super := sup
  interfaces := #[]
  cf := none
  fields := #[]
  methods := #[]
  instanceTypes := #[]
  staticTypes := #[]
  resolved := #[]
  callSites := []
  init := .initialized
  statics := none
  mirror := none

def pool0 : Array CpInfo := pool [(5, u "<init>"), (0, u "()V"), (1, .class_ 10), (1, u "java/lang/Object"), (85, u "clone"), (0, u "()Ljava/lang/Object;")] 26

def k0c0 : Code := { maxStack := 0, maxLocals := 1, code := object_method_1_code, exceptionTable := #[], attributes := #[] }
def k0m0 : Method := { name := "<init>", desc := "()V", sig := { parameters := [], returnType := none }, accessFlags := 1, code := some k0c0 }
def k0m1 : Method := { name := "clone", desc := "()Ljava/lang/Object;", sig := { parameters := [], returnType := some (.object "java/lang/Object") }, accessFlags := 260, code := none }
/-- java/lang/Object -/
def k0 : Class := { plain "java/lang/Object" none with
  accessFlags := 33
  interfaces := #[]
  cf := some (fileOf pool0 8 #[] #[{ accessFlags := 1, nameIndex := 5, descriptorIndex := 6, attributes := #[] }, { accessFlags := 260, nameIndex := 96, descriptorIndex := 97, attributes := #[] }] 33 0 #[] #[])
  fields := #[]
  methods := #[k0m0, k0m1]
  instanceTypes := #[]
  staticTypes := #[]
  resolved := Array.replicate 124 none
  statics := none }

def pool1 : Array CpInfo := pool [(2, .class_ 4), (1, u "java/lang/Object"), (0, u "<init>"), (0, u "()V"), (2, .long 9223372036854775807), (1, .class_ 12), (0, u "java/lang/String"), (0, .methodref 11 14), (0, .nameAndType 5 15), (0, u "([C)V"), (0, .class_ 17), (0, u "com/example/tallymark/tallymark/MalformedTextException"), (0, .methodref 16 19), (0, .nameAndType 5 20), (0, u "(JLjava/lang/String;)V"), (0, .methodref 16 22), (0, .nameAndType 23 24), (0, u "getMessage"), (0, u "()Ljava/lang/String;"), (0, .string 26), (0, u "bytes that are not "), (0, .string 28), (0, u " text on line "), (0, .methodref 30 31), (0, .class_ 32), (0, .nameAndType 33 34), (0, u "com/example/tallymark/tallymark/MalformedTextExceptionGetMessagePinLaw"), (0, u "digits"), (0, u "(J)I"), (0, .methodref 11 36), (0, .nameAndType 37 38), (0, u "length"), (0, u "()I"), (0, .methodref 30 40), (0, .nameAndType 41 42), (0, u "lit"), (0, u "(Ljava/lang/String;ILjava/lang/String;)Z"), (0, .methodref 30 44), (0, .nameAndType 45 46), (0, u "dig"), (0, u "(Ljava/lang/String;IJIIJ)Z"), (0, .long 10), (1, .long 100), (1, .long 1000), (1, .long 10000), (1, .long 100000), (1, .long 1000000), (1, .long 10000000), (1, .long 100000000), (1, .long 1000000000), (1, .long 10000000000), (1, .long 100000000000), (1, .long 1000000000000), (1, .long 10000000000000), (1, .long 100000000000000), (1, .long 1000000000000000), (1, .long 10000000000000000), (1, .long 100000000000000000), (1, .long 1000000000000000000), (1, .methodref 11 84), (0, .nameAndType 85 86), (0, u "charAt"), (0, u "(I)C"), (0, .methodref 30 88), (0, .nameAndType 89 90), (0, u "at"), (0, u "(Ljava/lang/String;ILjava/lang/String;I)Z"), (2, u "law"), (0, u "(JIIII)Z")] 5

def k1m0 : Method := { name := "<init>", desc := "()V", sig := { parameters := [], returnType := none }, accessFlags := 1, code := none }
def k1c1 : Code := { maxStack := 8, maxLocals := 20, code := code, exceptionTable := #[], attributes := #[] }
def k1m1 : Method := { name := "law", desc := "(JIIII)Z", sig := { parameters := [.long, .int, .int, .int, .int], returnType := some .boolean }, accessFlags := 9, code := some k1c1 }
def k1c2 : Code := { maxStack := 4, maxLocals := 3, code := method_3_code, exceptionTable := #[], attributes := #[] }
def k1m2 : Method := { name := "digits", desc := "(J)I", sig := { parameters := [.long], returnType := some .int }, accessFlags := 10, code := some k1c2 }
def k1c3 : Code := { maxStack := 6, maxLocals := 8, code := method_4_code, exceptionTable := #[], attributes := #[] }
def k1m3 : Method := { name := "dig", desc := "(Ljava/lang/String;IJIIJ)Z", sig := { parameters := [(.object "java/lang/String"), .int, .long, .int, .int, .long], returnType := some .boolean }, accessFlags := 10, code := some k1c3 }
def k1c4 : Code := { maxStack := 3, maxLocals := 4, code := method_5_code, exceptionTable := #[], attributes := #[] }
def k1m4 : Method := { name := "at", desc := "(Ljava/lang/String;ILjava/lang/String;I)Z", sig := { parameters := [(.object "java/lang/String"), .int, (.object "java/lang/String"), .int], returnType := some .boolean }, accessFlags := 10, code := some k1c4 }
def k1c5 : Code := { maxStack := 4, maxLocals := 3, code := method_6_code, exceptionTable := #[], attributes := #[] }
def k1m5 : Method := { name := "lit", desc := "(Ljava/lang/String;ILjava/lang/String;)Z", sig := { parameters := [(.object "java/lang/String"), .int, (.object "java/lang/String")], returnType := some .boolean }, accessFlags := 10, code := some k1c5 }
/-- com/example/tallymark/tallymark/MalformedTextExceptionGetMessagePinLaw -/
def k1 : Class := { plain "com/example/tallymark/tallymark/MalformedTextExceptionGetMessagePinLaw" (some 0) with
  accessFlags := 49
  interfaces := #[]
  cf := some (fileOf pool1 30 #[] #[{ accessFlags := 1, nameIndex := 5, descriptorIndex := 6, attributes := #[] }, { accessFlags := 9, nameIndex := 93, descriptorIndex := 94, attributes := #[] }, { accessFlags := 10, nameIndex := 33, descriptorIndex := 34, attributes := #[] }, { accessFlags := 10, nameIndex := 45, descriptorIndex := 46, attributes := #[] }, { accessFlags := 10, nameIndex := 89, descriptorIndex := 90, attributes := #[] }, { accessFlags := 10, nameIndex := 41, descriptorIndex := 42, attributes := #[] }] 49 2 #[] #[])
  fields := #[]
  methods := #[k1m0, k1m1, k1m2, k1m3, k1m4, k1m5]
  instanceTypes := #[]
  staticTypes := #[]
  resolved := Array.replicate 100 none
  statics := none }

def pool2 : Array CpInfo := pool [(1, .class_ 2), (0, u "java/io/Serializable"), (0, .class_ 4), (0, u "java/lang/Object")] 2

/-- java/io/Serializable -/
def k2 : Class := { plain "java/io/Serializable" (some 0) with
  accessFlags := 1537
  interfaces := #[]
  cf := some (fileOf pool2 1 #[] #[] 1537 3 #[] #[])
  fields := #[]
  methods := #[]
  instanceTypes := #[]
  staticTypes := #[]
  resolved := Array.replicate 7 none
  statics := none }

def pool3 : Array CpInfo := pool [(1, .class_ 2), (0, u "java/lang/Comparable"), (0, .class_ 4), (0, u "java/lang/Object")] 7

/-- java/lang/Comparable -/
def k3 : Class := { plain "java/lang/Comparable" (some 0) with
  accessFlags := 1537
  interfaces := #[]
  cf := some (fileOf pool3 1 #[] #[] 1537 3 #[] #[])
  fields := #[]
  methods := #[]
  instanceTypes := #[]
  staticTypes := #[]
  resolved := Array.replicate 12 none
  statics := none }

def pool4 : Array CpInfo := pool [(2, .class_ 4), (1, u "java/lang/CharSequence"), (42, .class_ 48), (0, u "java/lang/CharSequence$1CodePointIterator"), (10, .class_ 60), (0, u "java/lang/CharSequence$1CharIterator"), (5, .class_ 67), (0, u "java/lang/Object")] 63

/-- java/lang/CharSequence -/
def k4 : Class := { plain "java/lang/CharSequence" (some 0) with
  accessFlags := 1537
  interfaces := #[]
  cf := some (fileOf pool4 2 #[.nestMembers #[47, 59]] #[] 1537 66 #[] #[])
  fields := #[]
  methods := #[]
  instanceTypes := #[]
  staticTypes := #[]
  resolved := Array.replicate 131 none
  statics := none }

def pool5 : Array CpInfo := pool [(1, .class_ 2), (0, u "java/lang/constant/Constable"), (0, .class_ 4), (0, u "java/lang/Object")] 6

/-- java/lang/constant/Constable -/
def k5 : Class := { plain "java/lang/constant/Constable" (some 0) with
  accessFlags := 1537
  interfaces := #[]
  cf := some (fileOf pool5 1 #[] #[] 1537 3 #[] #[])
  fields := #[]
  methods := #[]
  instanceTypes := #[]
  staticTypes := #[]
  resolved := Array.replicate 11 none
  statics := none }

def pool6 : Array CpInfo := pool [(1, .class_ 2), (0, u "java/lang/constant/ConstantDesc"), (0, .class_ 4), (0, u "java/lang/Object")] 32

/-- java/lang/constant/ConstantDesc -/
def k6 : Class := { plain "java/lang/constant/ConstantDesc" (some 0) with
  accessFlags := 1537
  interfaces := #[]
  cf := some (fileOf pool6 1 #[] #[] 1537 3 #[] #[])
  fields := #[]
  methods := #[]
  instanceTypes := #[]
  staticTypes := #[]
  resolved := Array.replicate 37 none
  statics := none }

def pool7 : Array CpInfo := pool [(1, .methodref 2 3), (0, .class_ 4), (0, .nameAndType 5 6), (0, u "java/lang/Object"), (0, u "<init>"), (0, u "()V"), (0, .string 8), (0, u ""), (0, .fieldref 10 11), (0, .class_ 12), (0, .nameAndType 13 14), (0, u "java/lang/String"), (0, u "value"), (0, u "[B"), (0, .fieldref 10 16), (0, .nameAndType 17 18), (0, u "coder"), (0, u "B"), (2, u "hash"), (0, u "I"), (2, u "hashIsZero"), (0, u "Z"), (0, .methodref 10 28), (0, .nameAndType 5 29), (0, u "([CIILjava/lang/Void;)V"), (8, .fieldref 10 39), (0, .nameAndType 40 26), (0, u "COMPACT_STRINGS"), (1, .class_ 44), (1, u "java/lang/StringUTF16"), (0, u "compress"), (1, .methodref 42 48), (0, .nameAndType 49 50), (0, u "coderFromArrayLen"), (0, u "([BI)B"), (3, .methodref 55 56), (0, .class_ 57), (0, .nameAndType 58 59), (0, u "java/util/Arrays"), (0, u "copyOfRange"), (0, u "([BII)[B"), (47, .class_ 109), (1, u "java/lang/StringLatin1"), (32, u "()Z"), (34, .methodref 42 178), (0, .nameAndType 45 179), (0, u "([CII)[B"), (13, .class_ 195), (1, u "java/lang/System"), (16, .methodref 193 213), (0, .nameAndType 214 215), (0, u "arraycopy"), (0, u "(Ljava/lang/Object;ILjava/lang/Object;II)V"), (118, u "()I"), (0, .methodref 10 336), (0, .nameAndType 17 337), (0, u "()B"), (2, u "()[B"), (22, u "([BI)C"), (27, u "(II)V"), (35, u "(I)C"), (61, .methodref 10 490), (0, .nameAndType 5 491), (0, u "(Ljava/lang/AbstractStringBuilder;Ljava/lang/Void;)V"), (0, .methodref 10 493), (0, .nameAndType 494 142), (0, u "isLatin1"), (0, .methodref 107 496), (0, .nameAndType 497 363), (0, u "charAt"), (3, u "checkIndex"), (4, .nameAndType 507 334), (0, u "length"), (24, u "getBytes"), (16, .methodref 550 506), (0, .class_ 551), (0, u "java/lang/AbstractStringBuilder"), (0, .methodref 550 553), (0, .nameAndType 554 340), (0, u "getValue"), (20, .class_ 576), (0, u "java/lang/CharSequence"), (22, u "CASE_INSENSITIVE_ORDER"), (0, u "Ljava/util/Comparator;"), (220, u "([BIB)V"), (188, u "([C)V"), (36, .methodref 550 493), (5, .fieldref 1054 1055), (0, .class_ 1056), (0, .nameAndType 1057 1058), (0, u "jdk/internal/util/Preconditions"), (0, u "SIOOBE_FORMATTER"), (0, u "Ljava/util/function/BiFunction;"), (0, .methodref 1054 1060), (0, .nameAndType 501 1061), (0, u "(IILjava/util/function/BiFunction;)I"), (39, u "serialPersistentFields"), (0, u "[Ljava/io/ObjectStreamField;"), (0, .class_ 1104), (0, u "java/lang/String$CaseInsensitiveComparator"), (1, .class_ 1107), (0, u "java/io/Serializable"), (0, .class_ 1109), (0, u "java/lang/Comparable"), (0, .class_ 1111), (0, u "java/lang/constant/Constable"), (0, .class_ 1113), (0, u "java/lang/constant/ConstantDesc"), (2, u "serialVersionUID"), (0, u "J"), (3, u "REPL"), (0, u "C"), (2, u "LATIN1"), (1, u "UTF16"), (105, u "(Ljava/lang/StringBuilder;)V")] 217

def k7m0 : Method := { name := "<init>", desc := "()V", sig := { parameters := [], returnType := none }, accessFlags := 1, code := none }
def k7c1 : Code := { maxStack := 5, maxLocals := 2, code := jdk_42_method_3_code, exceptionTable := #[], attributes := #[] }
def k7m1 : Method := { name := "<init>", desc := "([C)V", sig := { parameters := [(.array .char)], returnType := none }, accessFlags := 1, code := some k7c1 }
def k7c2 : Code := { maxStack := 3, maxLocals := 2, code := jdk_42_method_53_code, exceptionTable := #[], attributes := #[] }
def k7m2 : Method := { name := "<init>", desc := "(Ljava/lang/StringBuilder;)V", sig := { parameters := [(.object "java/lang/StringBuilder")], returnType := none }, accessFlags := 1, code := some k7c2 }
def k7c3 : Code := { maxStack := 2, maxLocals := 1, code := jdk_42_method_54_code, exceptionTable := #[], attributes := #[] }
def k7m3 : Method := { name := "length", desc := "()I", sig := { parameters := [], returnType := some .int }, accessFlags := 1, code := some k7c3 }
def k7c4 : Code := { maxStack := 2, maxLocals := 2, code := jdk_42_method_56_code, exceptionTable := #[], attributes := #[] }
def k7m4 : Method := { name := "charAt", desc := "(I)C", sig := { parameters := [.int], returnType := some .char }, accessFlags := 1, code := some k7c4 }
def k7c5 : Code := { maxStack := 5, maxLocals := 4, code := jdk_42_method_147_code, exceptionTable := #[], attributes := #[] }
def k7m5 : Method := { name := "getBytes", desc := "([BIB)V", sig := { parameters := [(.array .byte), .int, .byte], returnType := none }, accessFlags := 0, code := some k7c5 }
def k7c6 : Code := { maxStack := 4, maxLocals := 6, code := jdk_42_method_149_code, exceptionTable := #[], attributes := #[] }
def k7m6 : Method := { name := "<init>", desc := "([CIILjava/lang/Void;)V", sig := { parameters := [(.array .char), .int, .int, (.object "java/lang/Void")], returnType := none }, accessFlags := 2, code := some k7c6 }
def k7c7 : Code := { maxStack := 5, maxLocals := 5, code := jdk_42_method_150_code, exceptionTable := #[], attributes := #[] }
def k7m7 : Method := { name := "<init>", desc := "(Ljava/lang/AbstractStringBuilder;Ljava/lang/Void;)V", sig := { parameters := [(.object "java/lang/AbstractStringBuilder"), (.object "java/lang/Void")], returnType := none }, accessFlags := 0, code := some k7c7 }
def k7c8 : Code := { maxStack := 1, maxLocals := 1, code := jdk_42_method_152_code, exceptionTable := #[], attributes := #[] }
def k7m8 : Method := { name := "coder", desc := "()B", sig := { parameters := [], returnType := some .byte }, accessFlags := 0, code := some k7c8 }
def k7c9 : Code := { maxStack := 1, maxLocals := 1, code := jdk_42_method_154_code, exceptionTable := #[], attributes := #[] }
def k7m9 : Method := { name := "isLatin1", desc := "()Z", sig := { parameters := [], returnType := some .boolean }, accessFlags := 0, code := some k7c9 }
def k7c10 : Code := { maxStack := 3, maxLocals := 2, code := jdk_42_method_155_code, exceptionTable := #[], attributes := #[] }
def k7m10 : Method := { name := "checkIndex", desc := "(II)V", sig := { parameters := [.int, .int], returnType := none }, accessFlags := 8, code := some k7c10 }
/-- java/lang/String -/
def k7 : Class := { plain "java/lang/String" (some 0) with
  accessFlags := 49
  interfaces := #[2, 3, 4, 5, 6]
  cf := some (fileOf pool7 10 #[.nestMembers #[1103]] #[{ accessFlags := 1, nameIndex := 5, descriptorIndex := 6, attributes := #[] }, { accessFlags := 1, nameIndex := 5, descriptorIndex := 1010, attributes := #[] }, { accessFlags := 1, nameIndex := 5, descriptorIndex := 1233, attributes := #[] }, { accessFlags := 1, nameIndex := 507, descriptorIndex := 334, attributes := #[] }, { accessFlags := 1, nameIndex := 497, descriptorIndex := 427, attributes := #[] }, { accessFlags := 0, nameIndex := 532, descriptorIndex := 821, attributes := #[] }, { accessFlags := 2, nameIndex := 5, descriptorIndex := 29, attributes := #[] }, { accessFlags := 0, nameIndex := 5, descriptorIndex := 491, attributes := #[] }, { accessFlags := 0, nameIndex := 17, descriptorIndex := 337, attributes := #[] }, { accessFlags := 0, nameIndex := 494, descriptorIndex := 142, attributes := #[] }, { accessFlags := 8, nameIndex := 501, descriptorIndex := 391, attributes := #[] }] 49 2 #[1106, 1108, 575, 1110, 1112] #[{ accessFlags := 18, nameIndex := 13, descriptorIndex := 14, attributes := #[] }, { accessFlags := 18, nameIndex := 17, descriptorIndex := 18, attributes := #[] }, { accessFlags := 2, nameIndex := 21, descriptorIndex := 22, attributes := #[] }, { accessFlags := 2, nameIndex := 25, descriptorIndex := 26, attributes := #[] }, { accessFlags := 26, nameIndex := 1116, descriptorIndex := 1117, attributes := #[] }, { accessFlags := 24, nameIndex := 40, descriptorIndex := 26, attributes := #[] }, { accessFlags := 26, nameIndex := 1101, descriptorIndex := 1102, attributes := #[] }, { accessFlags := 26, nameIndex := 1121, descriptorIndex := 1122, attributes := #[] }, { accessFlags := 25, nameIndex := 599, descriptorIndex := 600, attributes := #[] }, { accessFlags := 24, nameIndex := 1125, descriptorIndex := 18, attributes := #[] }, { accessFlags := 24, nameIndex := 1127, descriptorIndex := 18, attributes := #[] }])
  fields := #[{ name := "value", type := (.array .byte), accessFlags := 18, slot := 0, constantValue := 0 }, { name := "coder", type := .byte, accessFlags := 18, slot := 1, constantValue := 0 }, { name := "hash", type := .int, accessFlags := 2, slot := 2, constantValue := 0 }, { name := "hashIsZero", type := .boolean, accessFlags := 2, slot := 3, constantValue := 0 }, { name := "serialVersionUID", type := .long, accessFlags := 26, slot := 0, constantValue := 0 }, { name := "COMPACT_STRINGS", type := .boolean, accessFlags := 24, slot := 1, constantValue := 0 }, { name := "serialPersistentFields", type := (.array (.object "java/io/ObjectStreamField")), accessFlags := 26, slot := 2, constantValue := 0 }, { name := "REPL", type := .char, accessFlags := 26, slot := 3, constantValue := 0 }, { name := "CASE_INSENSITIVE_ORDER", type := (.object "java/util/Comparator"), accessFlags := 25, slot := 4, constantValue := 0 }, { name := "LATIN1", type := .byte, accessFlags := 24, slot := 5, constantValue := 0 }, { name := "UTF16", type := .byte, accessFlags := 24, slot := 6, constantValue := 0 }]
  methods := #[k7m0, k7m1, k7m2, k7m3, k7m4, k7m5, k7m6, k7m7, k7m8, k7m9, k7m10]
  instanceTypes := #[(.array .byte), .byte, .int, .boolean]
  staticTypes := #[.long, .boolean, (.array (.object "java/io/ObjectStreamField")), .char, (.object "java/util/Comparator"), .byte, .byte]
  resolved := Array.replicate 1451 none
  statics := some 0 }

def pool8 : Array CpInfo := pool [(6, .class_ 8), (1, u "java/lang/Object"), (0, u "<init>"), (0, u "()V"), (1, .class_ 14), (1, u "java/lang/StringUTF16"), (31, u "$assertionsDisabled"), (0, u "Z"), (13, u "HI_BYTE_SHIFT"), (0, u "I"), (2, u "LO_BYTE_SHIFT"), (49, .methodref 12 116), (0, .nameAndType 117 118), (0, u "compress"), (0, u "([CI[BII)I"), (3, u "([CII)[B"), (138, u "coderFromArrayLen"), (0, u "([BI)B"), (106, .class_ 371), (1, u "java/lang/StringUTF16$LinesSpliterator"), (58, u "MAX_LENGTH"), (196, .class_ 628), (0, u "java/lang/StringUTF16$CodePointsSpliterator"), (0, .class_ 630), (0, u "java/lang/StringUTF16$CharsSpliterator")] 4

def k8m0 : Method := { name := "<init>", desc := "()V", sig := { parameters := [], returnType := none }, accessFlags := 0, code := none }
def k8c1 : Code := { maxStack := 2, maxLocals := 2, code := jdk_52_method_15_code, exceptionTable := #[], attributes := #[] }
def k8m1 : Method := { name := "coderFromArrayLen", desc := "([BI)B", sig := { parameters := [(.array .byte), .int], returnType := some .byte }, accessFlags := 8, code := some k8c1 }
def k8c2 : Code := { maxStack := 5, maxLocals := 6, code := jdk_52_method_16_code, exceptionTable := #[], attributes := #[] }
def k8m2 : Method := { name := "compress", desc := "([CII)[B", sig := { parameters := [(.array .char), .int, .int], returnType := some (.array .byte) }, accessFlags := 9, code := some k8c2 }
def k8c3 : Code := { maxStack := 3, maxLocals := 7, code := jdk_52_method_21_code, exceptionTable := #[], attributes := #[] }
def k8m3 : Method := { name := "compress", desc := "([CI[BII)I", sig := { parameters := [(.array .char), .int, (.array .byte), .int, .int], returnType := some .int }, accessFlags := 9, code := some k8c3 }
/-- java/lang/StringUTF16 -/
def k8 : Class := { plain "java/lang/StringUTF16" (some 0) with
  accessFlags := 48
  interfaces := #[]
  cf := some (fileOf pool8 12 #[.nestMembers #[627, 629, 369]] #[{ accessFlags := 0, nameIndex := 9, descriptorIndex := 10, attributes := #[] }, { accessFlags := 8, nameIndex := 261, descriptorIndex := 262, attributes := #[] }, { accessFlags := 9, nameIndex := 117, descriptorIndex := 122, attributes := #[] }, { accessFlags := 9, nameIndex := 117, descriptorIndex := 118, attributes := #[] }] 48 6 #[] #[{ accessFlags := 26, nameIndex := 61, descriptorIndex := 62, attributes := #[] }, { accessFlags := 26, nameIndex := 65, descriptorIndex := 62, attributes := #[] }, { accessFlags := 24, nameIndex := 430, descriptorIndex := 62, attributes := #[] }, { accessFlags := 4120, nameIndex := 46, descriptorIndex := 47, attributes := #[] }])
  fields := #[{ name := "HI_BYTE_SHIFT", type := .int, accessFlags := 26, slot := 0, constantValue := 0 }, { name := "LO_BYTE_SHIFT", type := .int, accessFlags := 26, slot := 1, constantValue := 0 }, { name := "MAX_LENGTH", type := .int, accessFlags := 24, slot := 2, constantValue := 0 }, { name := "$assertionsDisabled", type := .boolean, accessFlags := 4120, slot := 3, constantValue := 0 }]
  methods := #[k8m0, k8m1, k8m2, k8m3]
  instanceTypes := #[]
  staticTypes := #[.int, .int, .int, .boolean]
  resolved := Array.replicate 635 none
  statics := none }

def pool9 : Array CpInfo := pool [(1, .methodref 2 3), (0, .class_ 4), (0, .nameAndType 5 6), (0, u "java/lang/Object"), (0, u "<init>"), (0, u "()V"), (0, .fieldref 8 9), (0, .class_ 10), (0, .nameAndType 11 12), (0, u "java/lang/Throwable"), (0, u "cause"), (0, u "Ljava/lang/Throwable;"), (0, .fieldref 8 14), (0, .nameAndType 15 16), (0, u "UNASSIGNED_STACK"), (0, u "[Ljava/lang/StackTraceElement;"), (0, .fieldref 8 18), (0, .nameAndType 19 16), (0, u "stackTrace"), (0, .fieldref 8 21), (0, .nameAndType 22 23), (0, u "SUPPRESSED_SENTINEL"), (0, u "Ljava/util/List;"), (0, .fieldref 8 25), (0, .nameAndType 26 23), (0, u "suppressedExceptions"), (0, .methodref 8 28), (0, .nameAndType 29 30), (0, u "fillInStackTrace"), (0, u "()Ljava/lang/Throwable;"), (2, u "detailMessage"), (0, u "Ljava/lang/String;"), (58, .class_ 94), (0, u "java/lang/Throwable$WrappedPrintStream"), (6, .class_ 103), (1, u "java/lang/Throwable$PrintStreamOrWriter"), (61, u "$assertionsDisabled"), (0, u "Z"), (26, .class_ 194), (0, u "java/lang/Throwable$WrappedPrintWriter"), (3, .fieldref 8 199), (0, .nameAndType 200 201), (0, u "backtrace"), (0, u "Ljava/lang/Object;"), (0, .methodref 8 203), (0, .nameAndType 29 204), (0, u "(I)Ljava/lang/Throwable;"), (6, u "depth"), (0, u "I"), (56, .class_ 271), (1, u "java/lang/Throwable$SentinelHolder"), (32, u "EMPTY_THROWABLE_ARRAY"), (0, u "[Ljava/lang/Throwable;"), (12, .class_ 319), (0, u "java/io/Serializable"), (0, u "serialVersionUID"), (0, u "J"), (5, u "NULL_CAUSE_MESSAGE"), (0, u "SELF_SUPPRESSION_MESSAGE"), (0, u "CAUSE_CAPTION"), (0, u "SUPPRESSED_CAPTION")] 73

def k9c0 : Code := { maxStack := 2, maxLocals := 1, code := jdk_78_method_1_code, exceptionTable := #[], attributes := #[] }
def k9m0 : Method := { name := "<init>", desc := "()V", sig := { parameters := [], returnType := none }, accessFlags := 1, code := some k9c0 }
def k9c1 : Code := { maxStack := 2, maxLocals := 1, code := ⟨#[0x2a, 0xb4, 0x00, 0x11, 0xc7, 0x00, 0x0a, 0x2a, 0xb4, 0x00, 0xc6, 0xc6, 0x00, 0x10, 0x2a, 0x03, 0xb6, 0x00, 0xca, 0x57, 0x2a, 0xb2, 0x00, 0x0d, 0xb5, 0x00, 0x11, 0x2a, 0xb0]⟩, exceptionTable := #[], attributes := #[] }
def k9m1 : Method := { name := "fillInStackTrace", desc := "()Ljava/lang/Throwable;", sig := { parameters := [], returnType := some (.object "java/lang/Throwable") }, accessFlags := 33, code := some k9c1 }
def k9m2 : Method := { name := "fillInStackTrace", desc := "(I)Ljava/lang/Throwable;", sig := { parameters := [.int], returnType := some (.object "java/lang/Throwable") }, accessFlags := 258, code := none }
/-- java/lang/Throwable -/
def k9 : Class := { plain "java/lang/Throwable" (some 0) with
  accessFlags := 33
  interfaces := #[2]
  cf := some (fileOf pool9 8 #[.nestMembers #[193, 93, 101, 269]] #[{ accessFlags := 1, nameIndex := 5, descriptorIndex := 6, attributes := #[] }, { accessFlags := 33, nameIndex := 29, descriptorIndex := 30, attributes := #[] }, { accessFlags := 258, nameIndex := 29, descriptorIndex := 204, attributes := #[] }] 33 2 #[318] #[{ accessFlags := 26, nameIndex := 320, descriptorIndex := 321, attributes := #[] }, { accessFlags := 130, nameIndex := 200, descriptorIndex := 201, attributes := #[] }, { accessFlags := 2, nameIndex := 33, descriptorIndex := 34, attributes := #[] }, { accessFlags := 26, nameIndex := 15, descriptorIndex := 16, attributes := #[] }, { accessFlags := 2, nameIndex := 11, descriptorIndex := 12, attributes := #[] }, { accessFlags := 2, nameIndex := 19, descriptorIndex := 16, attributes := #[] }, { accessFlags := 130, nameIndex := 211, descriptorIndex := 212, attributes := #[] }, { accessFlags := 26, nameIndex := 22, descriptorIndex := 23, attributes := #[] }, { accessFlags := 2, nameIndex := 26, descriptorIndex := 23, attributes := #[] }, { accessFlags := 26, nameIndex := 327, descriptorIndex := 34, attributes := #[] }, { accessFlags := 26, nameIndex := 328, descriptorIndex := 34, attributes := #[] }, { accessFlags := 26, nameIndex := 329, descriptorIndex := 34, attributes := #[] }, { accessFlags := 26, nameIndex := 330, descriptorIndex := 34, attributes := #[] }, { accessFlags := 26, nameIndex := 304, descriptorIndex := 305, attributes := #[] }, { accessFlags := 4120, nameIndex := 165, descriptorIndex := 166, attributes := #[] }])
  fields := #[{ name := "serialVersionUID", type := .long, accessFlags := 26, slot := 0, constantValue := 0 }, { name := "backtrace", type := (.object "java/lang/Object"), accessFlags := 130, slot := 0, constantValue := 0 }, { name := "detailMessage", type := (.object "java/lang/String"), accessFlags := 2, slot := 1, constantValue := 0 }, { name := "UNASSIGNED_STACK", type := (.array (.object "java/lang/StackTraceElement")), accessFlags := 26, slot := 1, constantValue := 0 }, { name := "cause", type := (.object "java/lang/Throwable"), accessFlags := 2, slot := 2, constantValue := 0 }, { name := "stackTrace", type := (.array (.object "java/lang/StackTraceElement")), accessFlags := 2, slot := 3, constantValue := 0 }, { name := "depth", type := .int, accessFlags := 130, slot := 4, constantValue := 0 }, { name := "SUPPRESSED_SENTINEL", type := (.object "java/util/List"), accessFlags := 26, slot := 2, constantValue := 0 }, { name := "suppressedExceptions", type := (.object "java/util/List"), accessFlags := 2, slot := 5, constantValue := 0 }, { name := "NULL_CAUSE_MESSAGE", type := (.object "java/lang/String"), accessFlags := 26, slot := 3, constantValue := 0 }, { name := "SELF_SUPPRESSION_MESSAGE", type := (.object "java/lang/String"), accessFlags := 26, slot := 4, constantValue := 0 }, { name := "CAUSE_CAPTION", type := (.object "java/lang/String"), accessFlags := 26, slot := 5, constantValue := 0 }, { name := "SUPPRESSED_CAPTION", type := (.object "java/lang/String"), accessFlags := 26, slot := 6, constantValue := 0 }, { name := "EMPTY_THROWABLE_ARRAY", type := (.array (.object "java/lang/Throwable")), accessFlags := 26, slot := 7, constantValue := 0 }, { name := "$assertionsDisabled", type := .boolean, accessFlags := 4120, slot := 8, constantValue := 0 }]
  methods := #[k9m0, k9m1, k9m2]
  instanceTypes := #[(.object "java/lang/Object"), (.object "java/lang/String"), (.object "java/lang/Throwable"), (.array (.object "java/lang/StackTraceElement")), .int, (.object "java/util/List")]
  staticTypes := #[.long, (.array (.object "java/lang/StackTraceElement")), (.object "java/util/List"), (.object "java/lang/String"), (.object "java/lang/String"), (.object "java/lang/String"), (.object "java/lang/String"), (.array (.object "java/lang/Throwable")), .boolean]
  resolved := Array.replicate 404 none
  statics := some 1 }

def pool10 : Array CpInfo := pool [(1, .methodref 2 3), (0, .class_ 4), (0, .nameAndType 5 6), (0, u "java/lang/Throwable"), (0, u "<init>"), (0, u "()V"), (12, .class_ 20), (0, u "java/lang/Exception"), (0, u "serialVersionUID"), (0, u "J")] 17

def k10c0 : Code := { maxStack := 1, maxLocals := 1, code := jdk_59_method_1_code, exceptionTable := #[], attributes := #[] }
def k10m0 : Method := { name := "<init>", desc := "()V", sig := { parameters := [], returnType := none }, accessFlags := 1, code := some k10c0 }
/-- java/lang/Exception -/
def k10 : Class := { plain "java/lang/Exception" (some 9) with
  accessFlags := 33
  interfaces := #[]
  cf := some (fileOf pool10 19 #[] #[{ accessFlags := 1, nameIndex := 5, descriptorIndex := 6, attributes := #[] }] 33 2 #[] #[{ accessFlags := 24, nameIndex := 21, descriptorIndex := 22, attributes := #[] }])
  fields := #[{ name := "serialVersionUID", type := .long, accessFlags := 24, slot := 0, constantValue := 0 }]
  methods := #[k10m0]
  instanceTypes := #[(.object "java/lang/Object"), (.object "java/lang/String"), (.object "java/lang/Throwable"), (.array (.object "java/lang/StackTraceElement")), .int, (.object "java/util/List")]
  staticTypes := #[.long]
  resolved := Array.replicate 40 none
  statics := none }

def pool11 : Array CpInfo := pool [(1, .methodref 2 3), (0, .class_ 4), (0, .nameAndType 5 6), (0, u "java/lang/Exception"), (0, u "<init>"), (0, u "()V"), (9, .class_ 17), (0, u "java/io/IOException"), (0, u "serialVersionUID"), (0, u "J")] 14

def k11c0 : Code := { maxStack := 1, maxLocals := 1, code := jdk_131_method_1_code, exceptionTable := #[], attributes := #[] }
def k11m0 : Method := { name := "<init>", desc := "()V", sig := { parameters := [], returnType := none }, accessFlags := 1, code := some k11c0 }
/-- java/io/IOException -/
def k11 : Class := { plain "java/io/IOException" (some 10) with
  accessFlags := 33
  interfaces := #[]
  cf := some (fileOf pool11 16 #[] #[{ accessFlags := 1, nameIndex := 5, descriptorIndex := 6, attributes := #[] }] 33 2 #[] #[{ accessFlags := 24, nameIndex := 18, descriptorIndex := 19, attributes := #[] }])
  fields := #[{ name := "serialVersionUID", type := .long, accessFlags := 24, slot := 0, constantValue := 0 }]
  methods := #[k11m0]
  instanceTypes := #[(.object "java/lang/Object"), (.object "java/lang/String"), (.object "java/lang/Throwable"), (.array (.object "java/lang/StackTraceElement")), .int, (.object "java/util/List")]
  staticTypes := #[.long]
  resolved := Array.replicate 34 none
  statics := none }

def pool12 : Array CpInfo := pool [(1, .methodref 2 3), (0, .class_ 4), (0, .nameAndType 5 6), (0, u "java/io/IOException"), (0, u "<init>"), (0, u "()V"), (0, .class_ 8), (0, u "java/nio/charset/CharacterCodingException"), (0, u "serialVersionUID"), (0, u "J")] 10

def k12c0 : Code := { maxStack := 1, maxLocals := 1, code := jdk_2189_method_1_code, exceptionTable := #[], attributes := #[] }
def k12m0 : Method := { name := "<init>", desc := "()V", sig := { parameters := [], returnType := none }, accessFlags := 1, code := some k12c0 }
/-- java/nio/charset/CharacterCodingException -/
def k12 : Class := { plain "java/nio/charset/CharacterCodingException" (some 11) with
  accessFlags := 33
  interfaces := #[]
  cf := some (fileOf pool12 7 #[] #[{ accessFlags := 1, nameIndex := 5, descriptorIndex := 6, attributes := #[] }] 33 2 #[] #[{ accessFlags := 26, nameIndex := 9, descriptorIndex := 10, attributes := #[] }])
  fields := #[{ name := "serialVersionUID", type := .long, accessFlags := 26, slot := 0, constantValue := 0 }]
  methods := #[k12m0]
  instanceTypes := #[(.object "java/lang/Object"), (.object "java/lang/String"), (.object "java/lang/Throwable"), (.array (.object "java/lang/StackTraceElement")), .int, (.object "java/util/List")]
  staticTypes := #[.long]
  resolved := Array.replicate 21 none
  statics := none }

def pool13 : Array CpInfo := pool [(1, .methodref 2 3), (0, .class_ 4), (0, .nameAndType 5 6), (0, u "java/nio/charset/CharacterCodingException"), (0, u "<init>"), (0, u "()V"), (0, .fieldref 8 9), (0, .class_ 10), (0, .nameAndType 11 12), (0, u "com/example/tallymark/tallymark/MalformedTextException"), (0, u "line"), (0, u "J"), (0, .fieldref 8 14), (0, .nameAndType 15 16), (0, u "encoding"), (0, u "Ljava/lang/String;"), (0, .class_ 18), (0, u "java/lang/StringBuilder"), (0, .methodref 17 3), (0, .string 21), (0, u "bytes that are not "), (0, .methodref 17 23), (0, .nameAndType 24 25), (0, u "append"), (0, u "(Ljava/lang/String;)Ljava/lang/StringBuilder;"), (0, .string 27), (0, u " text on line "), (0, .methodref 17 29), (0, .nameAndType 24 30), (0, u "(J)Ljava/lang/StringBuilder;"), (0, .methodref 17 32), (0, .nameAndType 33 34), (0, u "toString"), (0, u "()Ljava/lang/String;"), (0, u "serialVersionUID"), (3, u "(JLjava/lang/String;)V"), (3, u "getMessage")] 2

def k13c0 : Code := { maxStack := 3, maxLocals := 4, code := prog_10_method_1_code, exceptionTable := #[], attributes := #[] }
def k13m0 : Method := { name := "<init>", desc := "(JLjava/lang/String;)V", sig := { parameters := [.long, (.object "java/lang/String")], returnType := none }, accessFlags := 0, code := some k13c0 }
def k13c1 : Code := { maxStack := 3, maxLocals := 1, code := prog_10_method_4_code, exceptionTable := #[], attributes := #[] }
def k13m1 : Method := { name := "getMessage", desc := "()Ljava/lang/String;", sig := { parameters := [], returnType := some (.object "java/lang/String") }, accessFlags := 1, code := some k13c1 }
/-- com/example/tallymark/tallymark/MalformedTextException -/
def k13 : Class := { plain "com/example/tallymark/tallymark/MalformedTextException" (some 12) with
  accessFlags := 48
  interfaces := #[]
  cf := some (fileOf pool13 8 #[] #[{ accessFlags := 0, nameIndex := 5, descriptorIndex := 39, attributes := #[] }, { accessFlags := 1, nameIndex := 43, descriptorIndex := 34, attributes := #[] }] 48 2 #[] #[{ accessFlags := 26, nameIndex := 35, descriptorIndex := 12, attributes := #[] }, { accessFlags := 18, nameIndex := 11, descriptorIndex := 12, attributes := #[] }, { accessFlags := 18, nameIndex := 15, descriptorIndex := 16, attributes := #[] }])
  fields := #[{ name := "serialVersionUID", type := .long, accessFlags := 26, slot := 0, constantValue := 0 }, { name := "line", type := .long, accessFlags := 18, slot := 6, constantValue := 0 }, { name := "encoding", type := (.object "java/lang/String"), accessFlags := 18, slot := 7, constantValue := 0 }]
  methods := #[k13m0, k13m1]
  instanceTypes := #[(.object "java/lang/Object"), (.object "java/lang/String"), (.object "java/lang/Throwable"), (.array (.object "java/lang/StackTraceElement")), .int, (.object "java/util/List"), .long, (.object "java/lang/String")]
  staticTypes := #[.long]
  resolved := Array.replicate 46 none
  statics := none }

def pool14 : Array CpInfo := pool [(1, .class_ 2), (0, u "java/lang/Appendable"), (0, .class_ 4), (0, u "java/lang/Object")] 9

/-- java/lang/Appendable -/
def k14 : Class := { plain "java/lang/Appendable" (some 0) with
  accessFlags := 1537
  interfaces := #[]
  cf := some (fileOf pool14 1 #[] #[] 1537 3 #[] #[])
  fields := #[]
  methods := #[]
  instanceTypes := #[]
  staticTypes := #[]
  resolved := Array.replicate 14 none
  statics := none }

def pool15 : Array CpInfo := pool [(1, .class_ 2), (0, u "java/lang/String"), (0, .methodref 4 5), (0, .class_ 6), (0, .nameAndType 7 8), (0, u "java/lang/Object"), (0, u "<init>"), (0, u "()V"), (1, .class_ 12), (1, u "java/lang/AbstractStringBuilder"), (0, u "EMPTYVALUE"), (0, u "[B"), (0, .fieldref 10 16), (0, .nameAndType 17 14), (0, u "value"), (0, .fieldref 1 19), (0, .nameAndType 20 21), (0, u "COMPACT_STRINGS"), (0, u "Z"), (0, .fieldref 10 23), (0, .nameAndType 24 25), (0, u "coder"), (0, u "B"), (6, .methodref 1 33), (0, .nameAndType 34 35), (0, u "length"), (0, u "()I"), (3, .integer 2147483647), (0, .methodref 1 41), (0, .nameAndType 24 42), (0, u "()B"), (2, u "append"), (0, u "(Ljava/lang/String;)Ljava/lang/AbstractStringBuilder;"), (1, .class_ 49), (0, u "java/lang/CharSequence"), (19, u "(Ljava/lang/String;)V"), (5, u "maybeLatin1"), (3, .fieldref 10 80), (0, .nameAndType 81 82), (0, u "count"), (0, u "I"), (0, .methodref 10 84), (0, .nameAndType 85 86), (0, u "isLatin1"), (0, u "()Z"), (13, .methodref 10 101), (0, .nameAndType 102 103), (0, u "ensureCapacityInternal"), (0, u "(I)V"), (0, .methodref 10 105), (0, .nameAndType 106 107), (0, u "newCapacity"), (0, u "(I)I"), (0, .methodref 109 110), (0, .class_ 111), (0, .nameAndType 112 113), (0, u "java/util/Arrays"), (0, u "copyOf"), (0, u "([BI)[B"), (0, .methodref 115 116), (0, .class_ 117), (0, .nameAndType 118 119), (0, u "jdk/internal/util/ArraysSupport"), (0, u "newLength"), (0, u "(III)I"), (68, u "getChars"), (19, .methodref 10 209), (0, .nameAndType 210 211), (0, u "putStringAt"), (0, u "(ILjava/lang/String;)V"), (5, u "inflateIfNeededFor"), (2, .nameAndType 221 222), (0, u "getBytes"), (0, u "([BIB)V"), (24, u "stringSize"), (6, .methodref 255 256), (0, .class_ 257), (0, .nameAndType 247 258), (0, u "java/lang/Long"), (0, u "(J)I"), (0, .methodref 255 260), (0, .nameAndType 188 261), (0, u "(JI[B)I"), (135, .methodref 10 398), (0, .nameAndType 217 69), (0, .methodref 1 220), (3, u "()[B"), (40, .class_ 445), (0, u "java/lang/Appendable"), (67, u "(J)Ljava/lang/AbstractStringBuilder;"), (38, u "getValue")] 56

def k15m0 : Method := { name := "<init>", desc := "()V", sig := { parameters := [], returnType := none }, accessFlags := 0, code := none }
def k15c1 : Code := { maxStack := 2, maxLocals := 2, code := jdk_68_method_2_code, exceptionTable := #[], attributes := #[] }
def k15m1 : Method := { name := "<init>", desc := "(I)V", sig := { parameters := [.int], returnType := none }, accessFlags := 0, code := some k15c1 }
def k15c2 : Code := { maxStack := 1, maxLocals := 1, code := jdk_68_method_6_code, exceptionTable := #[], attributes := #[] }
def k15m2 : Method := { name := "length", desc := "()I", sig := { parameters := [], returnType := some .int }, accessFlags := 1, code := some k15c2 }
def k15c3 : Code := { maxStack := 4, maxLocals := 3, code := jdk_68_method_9_code, exceptionTable := #[], attributes := #[] }
def k15m3 : Method := { name := "ensureCapacityInternal", desc := "(I)V", sig := { parameters := [.int], returnType := none }, accessFlags := 2, code := some k15c3 }
def k15c4 : Code := { maxStack := 5, maxLocals := 6, code := jdk_68_method_10_code, exceptionTable := #[], attributes := #[] }
def k15m4 : Method := { name := "newCapacity", desc := "(I)I", sig := { parameters := [.int], returnType := some .int }, accessFlags := 2, code := some k15c4 }
def k15c5 : Code := { maxStack := 3, maxLocals := 3, code := jdk_68_method_22_code, exceptionTable := #[], attributes := #[] }
def k15m5 : Method := { name := "append", desc := "(Ljava/lang/String;)Ljava/lang/AbstractStringBuilder;", sig := { parameters := [(.object "java/lang/String")], returnType := some (.object "java/lang/AbstractStringBuilder") }, accessFlags := 1, code := some k15c5 }
def k15c6 : Code := { maxStack := 5, maxLocals := 5, code := jdk_68_method_33_code, exceptionTable := #[], attributes := #[] }
def k15m6 : Method := { name := "append", desc := "(J)Ljava/lang/AbstractStringBuilder;", sig := { parameters := [.long], returnType := some (.object "java/lang/AbstractStringBuilder") }, accessFlags := 1, code := some k15c6 }
def k15c7 : Code := { maxStack := 1, maxLocals := 1, code := jdk_68_method_64_code, exceptionTable := #[], attributes := #[] }
def k15m7 : Method := { name := "getValue", desc := "()[B", sig := { parameters := [], returnType := some (.array .byte) }, accessFlags := 16, code := some k15c7 }
def k15c8 : Code := { maxStack := 1, maxLocals := 1, code := jdk_68_method_68_code, exceptionTable := #[], attributes := #[] }
def k15m8 : Method := { name := "isLatin1", desc := "()Z", sig := { parameters := [], returnType := some .boolean }, accessFlags := 16, code := some k15c8 }
def k15c9 : Code := { maxStack := 2, maxLocals := 2, code := jdk_68_method_71_code, exceptionTable := #[], attributes := #[] }
def k15m9 : Method := { name := "inflateIfNeededFor", desc := "(Ljava/lang/String;)V", sig := { parameters := [(.object "java/lang/String")], returnType := none }, accessFlags := 2, code := some k15c9 }
def k15c10 : Code := { maxStack := 4, maxLocals := 3, code := jdk_68_method_73_code, exceptionTable := #[], attributes := #[] }
def k15m10 : Method := { name := "putStringAt", desc := "(ILjava/lang/String;)V", sig := { parameters := [.int, (.object "java/lang/String")], returnType := none }, accessFlags := 2, code := some k15c10 }
/-- java/lang/AbstractStringBuilder -/
def k15 : Class := { plain "java/lang/AbstractStringBuilder" (some 0) with
  accessFlags := 1056
  interfaces := #[14, 4]
  cf := some (fileOf pool15 10 #[] #[{ accessFlags := 0, nameIndex := 7, descriptorIndex := 8, attributes := #[] }, { accessFlags := 0, nameIndex := 7, descriptorIndex := 103, attributes := #[] }, { accessFlags := 1, nameIndex := 34, descriptorIndex := 35, attributes := #[] }, { accessFlags := 2, nameIndex := 102, descriptorIndex := 103, attributes := #[] }, { accessFlags := 2, nameIndex := 106, descriptorIndex := 107, attributes := #[] }, { accessFlags := 1, nameIndex := 45, descriptorIndex := 46, attributes := #[] }, { accessFlags := 1, nameIndex := 45, descriptorIndex := 513, attributes := #[] }, { accessFlags := 16, nameIndex := 552, descriptorIndex := 403, attributes := #[] }, { accessFlags := 16, nameIndex := 85, descriptorIndex := 86, attributes := #[] }, { accessFlags := 2, nameIndex := 217, descriptorIndex := 69, attributes := #[] }, { accessFlags := 2, nameIndex := 210, descriptorIndex := 211, attributes := #[] }] 1056 4 #[444, 48] #[{ accessFlags := 0, nameIndex := 17, descriptorIndex := 14, attributes := #[] }, { accessFlags := 0, nameIndex := 24, descriptorIndex := 25, attributes := #[] }, { accessFlags := 0, nameIndex := 75, descriptorIndex := 21, attributes := #[] }, { accessFlags := 0, nameIndex := 81, descriptorIndex := 82, attributes := #[] }, { accessFlags := 26, nameIndex := 13, descriptorIndex := 14, attributes := #[] }])
  fields := #[{ name := "value", type := (.array .byte), accessFlags := 0, slot := 0, constantValue := 0 }, { name := "coder", type := .byte, accessFlags := 0, slot := 1, constantValue := 0 }, { name := "maybeLatin1", type := .boolean, accessFlags := 0, slot := 2, constantValue := 0 }, { name := "count", type := .int, accessFlags := 0, slot := 3, constantValue := 0 }, { name := "EMPTYVALUE", type := (.array .byte), accessFlags := 26, slot := 0, constantValue := 0 }]
  methods := #[k15m0, k15m1, k15m2, k15m3, k15m4, k15m5, k15m6, k15m7, k15m8, k15m9, k15m10]
  instanceTypes := #[(.array .byte), .byte, .boolean, .int]
  staticTypes := #[(.array .byte)]
  resolved := Array.replicate 609 none
  statics := none }

def pool16 : Array CpInfo := pool [(1, .methodref 2 3), (0, .class_ 4), (0, .nameAndType 5 6), (0, u "java/lang/AbstractStringBuilder"), (0, u "<init>"), (0, u "(I)V"), (11, .class_ 20), (1, u "java/lang/String"), (3, .class_ 26), (1, u "java/lang/StringBuilder"), (0, u "append"), (0, u "(Ljava/lang/String;)Ljava/lang/StringBuilder;"), (0, .methodref 2 30), (0, .nameAndType 27 31), (0, u "(Ljava/lang/String;)Ljava/lang/AbstractStringBuilder;"), (24, .methodref 2 57), (0, .nameAndType 27 58), (0, u "(J)Ljava/lang/AbstractStringBuilder;"), (78, .methodref 18 138), (0, .nameAndType 5 139), (0, u "(Ljava/lang/StringBuilder;)V"), (5, u "()V"), (10, u "()I"), (124, u "(J)Ljava/lang/StringBuilder;"), (61, .methodref 2 344), (0, .nameAndType 345 156), (0, u "length"), (3, .class_ 350), (0, u "java/lang/Appendable"), (0, .class_ 352), (0, u "java/io/Serializable"), (0, .class_ 354), (0, u "java/lang/Comparable"), (0, .class_ 356), (0, u "java/lang/CharSequence"), (0, u "serialVersionUID"), (0, u "J"), (40, u "toString"), (0, u "()Ljava/lang/String;")] 21

def k16c0 : Code := { maxStack := 2, maxLocals := 1, code := jdk_67_method_1_code, exceptionTable := #[], attributes := #[] }
def k16m0 : Method := { name := "<init>", desc := "()V", sig := { parameters := [], returnType := none }, accessFlags := 1, code := some k16c0 }
def k16c1 : Code := { maxStack := 2, maxLocals := 2, code := jdk_67_method_7_code, exceptionTable := #[], attributes := #[] }
def k16m1 : Method := { name := "append", desc := "(Ljava/lang/String;)Ljava/lang/StringBuilder;", sig := { parameters := [(.object "java/lang/String")], returnType := some (.object "java/lang/StringBuilder") }, accessFlags := 1, code := some k16c1 }
def k16c2 : Code := { maxStack := 3, maxLocals := 3, code := jdk_67_method_16_code, exceptionTable := #[], attributes := #[] }
def k16m2 : Method := { name := "append", desc := "(J)Ljava/lang/StringBuilder;", sig := { parameters := [.long], returnType := some (.object "java/lang/StringBuilder") }, accessFlags := 1, code := some k16c2 }
def k16c3 : Code := { maxStack := 3, maxLocals := 1, code := jdk_67_method_42_code, exceptionTable := #[], attributes := #[] }
def k16m3 : Method := { name := "toString", desc := "()Ljava/lang/String;", sig := { parameters := [], returnType := some (.object "java/lang/String") }, accessFlags := 1, code := some k16c3 }
def k16c4 : Code := { maxStack := 1, maxLocals := 1, code := jdk_67_method_93_code, exceptionTable := #[], attributes := #[] }
def k16m4 : Method := { name := "length", desc := "()I", sig := { parameters := [], returnType := some .int }, accessFlags := 4161, code := some k16c4 }
/-- java/lang/StringBuilder -/
def k16 : Class := { plain "java/lang/StringBuilder" (some 15) with
  accessFlags := 49
  interfaces := #[14, 2, 3, 4]
  cf := some (fileOf pool16 24 #[] #[{ accessFlags := 1, nameIndex := 5, descriptorIndex := 145, attributes := #[] }, { accessFlags := 1, nameIndex := 27, descriptorIndex := 28, attributes := #[] }, { accessFlags := 1, nameIndex := 27, descriptorIndex := 281, attributes := #[] }, { accessFlags := 1, nameIndex := 399, descriptorIndex := 400, attributes := #[] }, { accessFlags := 4161, nameIndex := 345, descriptorIndex := 156, attributes := #[] }] 49 2 #[349, 351, 353, 355] #[{ accessFlags := 24, nameIndex := 357, descriptorIndex := 358, attributes := #[] }])
  fields := #[{ name := "serialVersionUID", type := .long, accessFlags := 24, slot := 0, constantValue := 0 }]
  methods := #[k16m0, k16m1, k16m2, k16m3, k16m4]
  instanceTypes := #[(.array .byte), .byte, .boolean, .int]
  staticTypes := #[.long]
  resolved := Array.replicate 422 none
  statics := none }

def pool17 : Array CpInfo := pool [(9, u "<init>"), (6, .class_ 18), (1, u "java/lang/Object"), (0, u "()V"), (1, .class_ 23), (1, u "jdk/internal/util/ArraysSupport"), (0, u "LOG2_ARRAY_LONG_INDEX_SCALE"), (0, u "I"), (2, u "U"), (0, u "Ljdk/internal/misc/Unsafe;"), (8, u "BIG_ENDIAN"), (0, u "Z"), (8, u "LOG2_BYTE_BIT_SIZE"), (4, u "LOG2_ARRAY_INT_INDEX_SCALE"), (54, u "JLA"), (0, u "Ljdk/internal/access/JavaLangAccess;"), (11, u "LOG2_ARRAY_BOOLEAN_INDEX_SCALE"), (9, u "LOG2_ARRAY_BYTE_INDEX_SCALE"), (5, u "LOG2_ARRAY_CHAR_INDEX_SCALE"), (5, u "LOG2_ARRAY_SHORT_INDEX_SCALE"), (18, u "LOG2_ARRAY_FLOAT_INDEX_SCALE"), (24, u "LOG2_ARRAY_DOUBLE_INDEX_SCALE"), (6, .methodref 195 196), (0, .class_ 197), (0, .nameAndType 198 199), (0, u "java/lang/Math"), (0, u "max"), (0, u "(II)I"), (0, .integer 2147483639), (76, u "T_BOOLEAN"), (2, u "T_CHAR"), (1, u "T_FLOAT"), (1, u "T_DOUBLE"), (1, u "T_BYTE"), (1, u "T_SHORT"), (1, u "T_INT"), (1, u "T_LONG"), (1, u "SOFT_MAX_ARRAY_LENGTH"), (56, u "newLength"), (0, u "(III)I")] 25

def k17m0 : Method := { name := "<init>", desc := "()V", sig := { parameters := [], returnType := none }, accessFlags := 2, code := none }
def k17c1 : Code := { maxStack := 3, maxLocals := 4, code := jdk_48_method_27_code, exceptionTable := #[], attributes := #[] }
def k17m1 : Method := { name := "newLength", desc := "(III)I", sig := { parameters := [.int, .int, .int], returnType := some .int }, accessFlags := 9, code := some k17c1 }
/-- jdk/internal/util/ArraysSupport -/
def k17 : Class := { plain "jdk/internal/util/ArraysSupport" (some 0) with
  accessFlags := 33
  interfaces := #[]
  cf := some (fileOf pool17 21 #[] #[{ accessFlags := 2, nameIndex := 9, descriptorIndex := 19, attributes := #[] }, { accessFlags := 9, nameIndex := 351, descriptorIndex := 352, attributes := #[] }] 33 16 #[] #[{ accessFlags := 24, nameIndex := 28, descriptorIndex := 29, attributes := #[] }, { accessFlags := 26, nameIndex := 38, descriptorIndex := 39, attributes := #[] }, { accessFlags := 25, nameIndex := 121, descriptorIndex := 25, attributes := #[] }, { accessFlags := 25, nameIndex := 131, descriptorIndex := 25, attributes := #[] }, { accessFlags := 25, nameIndex := 137, descriptorIndex := 25, attributes := #[] }, { accessFlags := 25, nameIndex := 143, descriptorIndex := 25, attributes := #[] }, { accessFlags := 25, nameIndex := 53, descriptorIndex := 25, attributes := #[] }, { accessFlags := 25, nameIndex := 24, descriptorIndex := 25, attributes := #[] }, { accessFlags := 25, nameIndex := 162, descriptorIndex := 25, attributes := #[] }, { accessFlags := 25, nameIndex := 187, descriptorIndex := 25, attributes := #[] }, { accessFlags := 26, nameIndex := 48, descriptorIndex := 25, attributes := #[] }, { accessFlags := 25, nameIndex := 277, descriptorIndex := 25, attributes := #[] }, { accessFlags := 25, nameIndex := 280, descriptorIndex := 25, attributes := #[] }, { accessFlags := 25, nameIndex := 282, descriptorIndex := 25, attributes := #[] }, { accessFlags := 25, nameIndex := 284, descriptorIndex := 25, attributes := #[] }, { accessFlags := 25, nameIndex := 286, descriptorIndex := 25, attributes := #[] }, { accessFlags := 25, nameIndex := 288, descriptorIndex := 25, attributes := #[] }, { accessFlags := 25, nameIndex := 290, descriptorIndex := 25, attributes := #[] }, { accessFlags := 25, nameIndex := 292, descriptorIndex := 25, attributes := #[] }, { accessFlags := 26, nameIndex := 108, descriptorIndex := 109, attributes := #[] }, { accessFlags := 25, nameIndex := 294, descriptorIndex := 25, attributes := #[] }])
  fields := #[{ name := "U", type := (.object "jdk/internal/misc/Unsafe"), accessFlags := 24, slot := 0, constantValue := 0 }, { name := "BIG_ENDIAN", type := .boolean, accessFlags := 26, slot := 1, constantValue := 0 }, { name := "LOG2_ARRAY_BOOLEAN_INDEX_SCALE", type := .int, accessFlags := 25, slot := 2, constantValue := 0 }, { name := "LOG2_ARRAY_BYTE_INDEX_SCALE", type := .int, accessFlags := 25, slot := 3, constantValue := 0 }, { name := "LOG2_ARRAY_CHAR_INDEX_SCALE", type := .int, accessFlags := 25, slot := 4, constantValue := 0 }, { name := "LOG2_ARRAY_SHORT_INDEX_SCALE", type := .int, accessFlags := 25, slot := 5, constantValue := 0 }, { name := "LOG2_ARRAY_INT_INDEX_SCALE", type := .int, accessFlags := 25, slot := 6, constantValue := 0 }, { name := "LOG2_ARRAY_LONG_INDEX_SCALE", type := .int, accessFlags := 25, slot := 7, constantValue := 0 }, { name := "LOG2_ARRAY_FLOAT_INDEX_SCALE", type := .int, accessFlags := 25, slot := 8, constantValue := 0 }, { name := "LOG2_ARRAY_DOUBLE_INDEX_SCALE", type := .int, accessFlags := 25, slot := 9, constantValue := 0 }, { name := "LOG2_BYTE_BIT_SIZE", type := .int, accessFlags := 26, slot := 10, constantValue := 0 }, { name := "T_BOOLEAN", type := .int, accessFlags := 25, slot := 11, constantValue := 0 }, { name := "T_CHAR", type := .int, accessFlags := 25, slot := 12, constantValue := 0 }, { name := "T_FLOAT", type := .int, accessFlags := 25, slot := 13, constantValue := 0 }, { name := "T_DOUBLE", type := .int, accessFlags := 25, slot := 14, constantValue := 0 }, { name := "T_BYTE", type := .int, accessFlags := 25, slot := 15, constantValue := 0 }, { name := "T_SHORT", type := .int, accessFlags := 25, slot := 16, constantValue := 0 }, { name := "T_INT", type := .int, accessFlags := 25, slot := 17, constantValue := 0 }, { name := "T_LONG", type := .int, accessFlags := 25, slot := 18, constantValue := 0 }, { name := "JLA", type := (.object "jdk/internal/access/JavaLangAccess"), accessFlags := 26, slot := 19, constantValue := 0 }, { name := "SOFT_MAX_ARRAY_LENGTH", type := .int, accessFlags := 25, slot := 20, constantValue := 0 }]
  methods := #[k17m0, k17m1]
  instanceTypes := #[]
  staticTypes := #[(.object "jdk/internal/misc/Unsafe"), .boolean, .int, .int, .int, .int, .int, .int, .int, .int, .int, .int, .int, .int, .int, .int, .int, .int, .int, (.object "jdk/internal/access/JavaLangAccess"), .int]
  resolved := Array.replicate 378 none
  statics := none }

def pool18 : Array CpInfo := pool [(1, .class_ 2), (0, u "java/lang/Math"), (1, .class_ 6), (1, u "java/lang/Object"), (0, u "<init>"), (0, u "()V"), (89, .class_ 100), (1, u "java/lang/Math$RandomNumberGeneratorHolder"), (71, u "negativeZeroFloatBits"), (0, u "J"), (2, u "negativeZeroDoubleBits"), (21, u "max"), (2, u "min"), (43, u "$assertionsDisabled"), (0, u "Z"), (88, u "(II)I"), (2, u "twoToTheDoubleScaleDown"), (0, u "D"), (4, u "twoToTheDoubleScaleUp"), (9, u "E"), (3, u "PI"), (2, u "TAU"), (2, u "DEGREES_TO_RADIANS"), (0, u "RADIANS_TO_DEGREES")] 94

def k18m0 : Method := { name := "<init>", desc := "()V", sig := { parameters := [], returnType := none }, accessFlags := 2, code := none }
def k18c1 : Code := { maxStack := 2, maxLocals := 2, code := jdk_29_method_65_code, exceptionTable := #[], attributes := #[] }
def k18m1 : Method := { name := "max", desc := "(II)I", sig := { parameters := [.int, .int], returnType := some .int }, accessFlags := 9, code := some k18c1 }
def k18c2 : Code := { maxStack := 2, maxLocals := 2, code := jdk_29_method_69_code, exceptionTable := #[], attributes := #[] }
def k18m2 : Method := { name := "min", desc := "(II)I", sig := { parameters := [.int, .int], returnType := some .int }, accessFlags := 9, code := some k18c2 }
/-- java/lang/Math -/
def k18 : Class := { plain "java/lang/Math" (some 0) with
  accessFlags := 49
  interfaces := #[]
  cf := some (fileOf pool18 1 #[.nestMembers #[98]] #[{ accessFlags := 2, nameIndex := 7, descriptorIndex := 8, attributes := #[] }, { accessFlags := 9, nameIndex := 198, descriptorIndex := 335, attributes := #[] }, { accessFlags := 9, nameIndex := 201, descriptorIndex := 335, attributes := #[] }] 49 4 #[] #[{ accessFlags := 25, nameIndex := 354, descriptorIndex := 339, attributes := #[] }, { accessFlags := 25, nameIndex := 358, descriptorIndex := 339, attributes := #[] }, { accessFlags := 25, nameIndex := 361, descriptorIndex := 339, attributes := #[] }, { accessFlags := 26, nameIndex := 364, descriptorIndex := 339, attributes := #[] }, { accessFlags := 26, nameIndex := 365, descriptorIndex := 339, attributes := #[] }, { accessFlags := 26, nameIndex := 172, descriptorIndex := 173, attributes := #[] }, { accessFlags := 26, nameIndex := 176, descriptorIndex := 173, attributes := #[] }, { accessFlags := 8, nameIndex := 344, descriptorIndex := 339, attributes := #[] }, { accessFlags := 8, nameIndex := 338, descriptorIndex := 339, attributes := #[] }, { accessFlags := 4120, nameIndex := 245, descriptorIndex := 246, attributes := #[] }])
  fields := #[{ name := "E", type := .double, accessFlags := 25, slot := 0, constantValue := 0 }, { name := "PI", type := .double, accessFlags := 25, slot := 1, constantValue := 0 }, { name := "TAU", type := .double, accessFlags := 25, slot := 2, constantValue := 0 }, { name := "DEGREES_TO_RADIANS", type := .double, accessFlags := 26, slot := 3, constantValue := 0 }, { name := "RADIANS_TO_DEGREES", type := .double, accessFlags := 26, slot := 4, constantValue := 0 }, { name := "negativeZeroFloatBits", type := .long, accessFlags := 26, slot := 5, constantValue := 0 }, { name := "negativeZeroDoubleBits", type := .long, accessFlags := 26, slot := 6, constantValue := 0 }, { name := "twoToTheDoubleScaleUp", type := .double, accessFlags := 8, slot := 7, constantValue := 0 }, { name := "twoToTheDoubleScaleDown", type := .double, accessFlags := 8, slot := 8, constantValue := 0 }, { name := "$assertionsDisabled", type := .boolean, accessFlags := 4120, slot := 9, constantValue := 0 }]
  methods := #[k18m0, k18m1, k18m2]
  instanceTypes := #[]
  staticTypes := #[.double, .double, .double, .double, .double, .long, .long, .double, .double, .boolean]
  resolved := Array.replicate 460 none
  statics := none }

def pool19 : Array CpInfo := pool [(2, .class_ 4), (1, u "java/lang/Object"), (0, u "<init>"), (0, u "()V"), (7, .class_ 16), (1, u "java/util/Arrays"), (57, .class_ 76), (1, u "java/util/Arrays$NaturalOrder"), (32, u "()Ljava/lang/Object;"), (3, .class_ 115), (1, u "java/util/Arrays$LegacyMergeSort"), (1, u "Z"), (10, .nameAndType 129 109), (0, u "clone"), (9, u "copyOfRange"), (10, .methodref 151 152), (0, .class_ 153), (0, .nameAndType 154 155), (0, u "java/lang/System"), (0, u "arraycopy"), (0, u "(Ljava/lang/Object;ILjava/lang/Object;II)V"), (146, u "copyOf"), (1, .methodref 305 306), (0, .class_ 307), (0, .nameAndType 308 309), (0, u "java/lang/Math"), (0, u "min"), (0, u "(II)I"), (0, .methodref 311 128), (0, .class_ 312), (0, u "[B"), (26, .methodref 14 340), (0, .nameAndType 341 342), (0, u "copyOfRangeByte"), (0, u "([BII)[B"), (0, .methodref 14 344), (0, .nameAndType 345 346), (0, u "checkLength"), (0, u "(II)V"), (28, .class_ 376), (0, u "java/util/Arrays$ArrayList"), (68, u "$assertionsDisabled"), (269, u "MIN_ARRAY_SORT_GRAN"), (0, u "I"), (2, u "INSERTIONSORT_THRESHOLD"), (149, u "([BI)[B"), (105, .class_ 976), (0, u "java/util/Arrays$ArrayItr")] 52

def k19m0 : Method := { name := "<init>", desc := "()V", sig := { parameters := [], returnType := none }, accessFlags := 2, code := none }
def k19c1 : Code := { maxStack := 6, maxLocals := 3, code := jdk_65_method_121_code, exceptionTable := #[], attributes := #[] }
def k19m1 : Method := { name := "copyOf", desc := "([BI)[B", sig := { parameters := [(.array .byte), .int], returnType := some (.array .byte) }, accessFlags := 9, code := some k19c1 }
def k19c2 : Code := { maxStack := 4, maxLocals := 2, code := jdk_65_method_131_code, exceptionTable := #[], attributes := #[] }
def k19m2 : Method := { name := "checkLength", desc := "(II)V", sig := { parameters := [.int, .int], returnType := none }, accessFlags := 10, code := some k19c2 }
def k19c3 : Code := { maxStack := 3, maxLocals := 3, code := jdk_65_method_132_code, exceptionTable := #[], attributes := #[] }
def k19m3 : Method := { name := "copyOfRange", desc := "([BII)[B", sig := { parameters := [(.array .byte), .int, .int], returnType := some (.array .byte) }, accessFlags := 9, code := some k19c3 }
def k19c4 : Code := { maxStack := 6, maxLocals := 5, code := jdk_65_method_133_code, exceptionTable := #[], attributes := #[] }
def k19m4 : Method := { name := "copyOfRangeByte", desc := "([BII)[B", sig := { parameters := [(.array .byte), .int, .int], returnType := some (.array .byte) }, accessFlags := 10, code := some k19c4 }
/-- java/util/Arrays -/
def k19 : Class := { plain "java/util/Arrays" (some 0) with
  accessFlags := 49
  interfaces := #[]
  cf := some (fileOf pool19 14 #[.nestMembers #[975, 375, 113, 74]] #[{ accessFlags := 2, nameIndex := 5, descriptorIndex := 6, attributes := #[] }, { accessFlags := 9, nameIndex := 302, descriptorIndex := 869, attributes := #[] }, { accessFlags := 10, nameIndex := 345, descriptorIndex := 346, attributes := #[] }, { accessFlags := 9, nameIndex := 139, descriptorIndex := 342, attributes := #[] }, { accessFlags := 10, nameIndex := 341, descriptorIndex := 342, attributes := #[] }] 49 2 #[] #[{ accessFlags := 26, nameIndex := 715, descriptorIndex := 716, attributes := #[] }, { accessFlags := 26, nameIndex := 719, descriptorIndex := 716, attributes := #[] }, { accessFlags := 4120, nameIndex := 445, descriptorIndex := 117, attributes := #[] }])
  fields := #[{ name := "MIN_ARRAY_SORT_GRAN", type := .int, accessFlags := 26, slot := 0, constantValue := 0 }, { name := "INSERTIONSORT_THRESHOLD", type := .int, accessFlags := 26, slot := 1, constantValue := 0 }, { name := "$assertionsDisabled", type := .boolean, accessFlags := 4120, slot := 2, constantValue := 0 }]
  methods := #[k19m0, k19m1, k19m2, k19m3, k19m4]
  instanceTypes := #[]
  staticTypes := #[.int, .int, .boolean]
  resolved := Array.replicate 1029 none
  statics := none }

def pool20 : Array CpInfo := pool [(2, .class_ 4), (1, u "java/lang/Object"), (0, u "<init>"), (0, u "()V"), (1, .class_ 10), (1, u "java/lang/System"), (0, u "allowSecurityManager"), (0, u "I"), (16, u "cons"), (0, u "Ljava/io/Console;"), (77, .class_ 110), (1, u "java/lang/System$CallersHolder"), (43, u "initialErrStream"), (0, u "Ljava/io/PrintStream;"), (19, u "security"), (0, u "Ljava/lang/SecurityManager;"), (31, .class_ 209), (0, u "java/lang/System$1"), (7, u "props"), (0, u "Ljava/util/Properties;"), (2, u "lineSeparator"), (0, u "Ljava/lang/String;"), (96, .class_ 321), (1, u "java/lang/System$LoggerFinder"), (5, .class_ 328), (0, u "java/lang/System$Logger"), (67, u "err"), (2, u "out"), (91, u "notSupportedJnuEncoding"), (15, u "in"), (17, u "initialIn"), (0, u "Ljava/io/InputStream;"), (35, u "bootLayer"), (0, u "Ljava/lang/ModuleLayer;"), (99, .class_ 664), (0, u "java/lang/System$2"), (9, u "NEVER"), (2, u "MAYBE"), (49, u "arraycopy"), (0, u "(Ljava/lang/Object;ILjava/lang/Object;II)V"), (72, .class_ 802), (0, u "java/lang/System$Logger$Level")] 31

def k20m0 : Method := { name := "<init>", desc := "()V", sig := { parameters := [], returnType := none }, accessFlags := 2, code := none }
def k20m1 : Method := { name := "arraycopy", desc := "(Ljava/lang/Object;ILjava/lang/Object;II)V", sig := { parameters := [(.object "java/lang/Object"), .int, (.object "java/lang/Object"), .int, .int], returnType := none }, accessFlags := 265, code := none }
/-- java/lang/System -/
def k20 : Class := { plain "java/lang/System" (some 0) with
  accessFlags := 49
  interfaces := #[]
  cf := some (fileOf pool20 8 #[.nestMembers #[319, 327, 801, 108, 663, 208]] #[{ accessFlags := 2, nameIndex := 5, descriptorIndex := 6, attributes := #[] }, { accessFlags := 265, nameIndex := 727, descriptorIndex := 728, attributes := #[] }] 49 2 #[] #[{ accessFlags := 25, nameIndex := 507, descriptorIndex := 526, attributes := #[] }, { accessFlags := 25, nameIndex := 399, descriptorIndex := 155, attributes := #[] }, { accessFlags := 25, nameIndex := 396, descriptorIndex := 155, attributes := #[] }, { accessFlags := 10, nameIndex := 525, descriptorIndex := 526, attributes := #[] }, { accessFlags := 26, nameIndex := 674, descriptorIndex := 12, attributes := #[] }, { accessFlags := 26, nameIndex := 677, descriptorIndex := 12, attributes := #[] }, { accessFlags := 10, nameIndex := 11, descriptorIndex := 12, attributes := #[] }, { accessFlags := 74, nameIndex := 175, descriptorIndex := 176, attributes := #[] }, { accessFlags := 10, nameIndex := 491, descriptorIndex := 222, attributes := #[] }, { accessFlags := 74, nameIndex := 29, descriptorIndex := 30, attributes := #[] }, { accessFlags := 74, nameIndex := 154, descriptorIndex := 155, attributes := #[] }, { accessFlags := 10, nameIndex := 217, descriptorIndex := 218, attributes := #[] }, { accessFlags := 10, nameIndex := 221, descriptorIndex := 222, attributes := #[] }, { accessFlags := 8, nameIndex := 562, descriptorIndex := 563, attributes := #[] }])
  fields := #[{ name := "in", type := (.object "java/io/InputStream"), accessFlags := 25, slot := 0, constantValue := 0 }, { name := "out", type := (.object "java/io/PrintStream"), accessFlags := 25, slot := 1, constantValue := 0 }, { name := "err", type := (.object "java/io/PrintStream"), accessFlags := 25, slot := 2, constantValue := 0 }, { name := "initialIn", type := (.object "java/io/InputStream"), accessFlags := 10, slot := 3, constantValue := 0 }, { name := "NEVER", type := .int, accessFlags := 26, slot := 4, constantValue := 0 }, { name := "MAYBE", type := .int, accessFlags := 26, slot := 5, constantValue := 0 }, { name := "allowSecurityManager", type := .int, accessFlags := 10, slot := 6, constantValue := 0 }, { name := "security", type := (.object "java/lang/SecurityManager"), accessFlags := 74, slot := 7, constantValue := 0 }, { name := "notSupportedJnuEncoding", type := (.object "java/lang/String"), accessFlags := 10, slot := 8, constantValue := 0 }, { name := "cons", type := (.object "java/io/Console"), accessFlags := 74, slot := 9, constantValue := 0 }, { name := "initialErrStream", type := (.object "java/io/PrintStream"), accessFlags := 74, slot := 10, constantValue := 0 }, { name := "props", type := (.object "java/util/Properties"), accessFlags := 10, slot := 11, constantValue := 0 }, { name := "lineSeparator", type := (.object "java/lang/String"), accessFlags := 10, slot := 12, constantValue := 0 }, { name := "bootLayer", type := (.object "java/lang/ModuleLayer"), accessFlags := 8, slot := 13, constantValue := 0 }]
  methods := #[k20m0, k20m1]
  instanceTypes := #[]
  staticTypes := #[(.object "java/io/InputStream"), (.object "java/io/PrintStream"), (.object "java/io/PrintStream"), (.object "java/io/InputStream"), .int, .int, .int, (.object "java/lang/SecurityManager"), (.object "java/lang/String"), (.object "java/io/Console"), (.object "java/io/PrintStream"), (.object "java/util/Properties"), (.object "java/lang/String"), (.object "java/lang/ModuleLayer")]
  resolved := Array.replicate 834 none
  statics := none }

def pool21 : Array CpInfo := pool [(2, .class_ 4), (1, u "java/lang/Object"), (0, u "<init>"), (0, u "()V"), (1, .class_ 10), (1, u "java/lang/Number"), (2, .class_ 14), (0, u "java/io/Serializable"), (0, u "serialVersionUID"), (0, u "J")] 20

def k21m0 : Method := { name := "<init>", desc := "()V", sig := { parameters := [], returnType := none }, accessFlags := 1, code := none }
/-- java/lang/Number -/
def k21 : Class := { plain "java/lang/Number" (some 0) with
  accessFlags := 1057
  interfaces := #[2]
  cf := some (fileOf pool21 8 #[] #[{ accessFlags := 1, nameIndex := 5, descriptorIndex := 6, attributes := #[] }] 1057 2 #[13] #[{ accessFlags := 26, nameIndex := 15, descriptorIndex := 16, attributes := #[] }])
  fields := #[{ name := "serialVersionUID", type := .long, accessFlags := 26, slot := 0, constantValue := 0 }]
  methods := #[k21m0]
  instanceTypes := #[]
  staticTypes := #[.long]
  resolved := Array.replicate 37 none
  statics := none }

def pool22 : Array CpInfo := pool [(1, .class_ 2), (0, u "java/lang/Long"), (15, .class_ 20), (1, u "java/lang/Integer"), (32, .long 10), (47, u "(J)I"), (18, u "stringSize"), (2, u "getChars"), (0, u "(JI[B)I"), (4, .long 18446744071562067968), (1, .long 100), (1, .fieldref 18 134), (0, .nameAndType 135 136), (0, u "DigitOnes"), (0, u "[B"), (0, .fieldref 18 138), (0, .nameAndType 139 136), (0, u "DigitTens"), (0, .long 18446744073709551606), (94, .class_ 237), (1, u "java/lang/Long$LongCache"), (33, .class_ 272), (0, u "java/lang/Number"), (2, u "value"), (0, u "J"), (84, u "TYPE"), (0, u "Ljava/lang/Class;"), (0, .class_ 364), (0, u "java/lang/Comparable"), (0, .class_ 366), (0, u "java/lang/constant/Constable"), (0, .class_ 368), (0, u "java/lang/constant/ConstantDesc"), (0, u "MIN_VALUE"), (1, u "MAX_VALUE"), (4, u "SIZE"), (0, u "I"), (1, u "BYTES"), (1, u "serialVersionUID")] 142

def k22c0 : Code := { maxStack := 4, maxLocals := 11, code := jdk_35_method_14_code, exceptionTable := #[], attributes := #[] }
def k22m0 : Method := { name := "getChars", desc := "(JI[B)I", sig := { parameters := [.long, .int, (.array .byte)], returnType := some .int }, accessFlags := 8, code := some k22c0 }
def k22c1 : Code := { maxStack := 4, maxLocals := 6, code := jdk_35_method_15_code, exceptionTable := #[], attributes := #[] }
def k22m1 : Method := { name := "stringSize", desc := "(J)I", sig := { parameters := [.long], returnType := some .int }, accessFlags := 8, code := some k22c1 }
/-- java/lang/Long -/
def k22 : Class := { plain "java/lang/Long" (some 21) with
  accessFlags := 49
  interfaces := #[3, 5, 6]
  cf := some (fileOf pool22 1 #[.nestMembers #[235]] #[{ accessFlags := 8, nameIndex := 123, descriptorIndex := 124, attributes := #[] }, { accessFlags := 8, nameIndex := 120, descriptorIndex := 101, attributes := #[] }] 49 271 #[363, 365, 367] #[{ accessFlags := 25, nameIndex := 369, descriptorIndex := 276, attributes := #[] }, { accessFlags := 25, nameIndex := 371, descriptorIndex := 276, attributes := #[] }, { accessFlags := 25, nameIndex := 361, descriptorIndex := 362, attributes := #[] }, { accessFlags := 18, nameIndex := 275, descriptorIndex := 276, attributes := #[] }, { accessFlags := 25, nameIndex := 376, descriptorIndex := 377, attributes := #[] }, { accessFlags := 25, nameIndex := 379, descriptorIndex := 377, attributes := #[] }, { accessFlags := 26, nameIndex := 381, descriptorIndex := 276, attributes := #[] }])
  fields := #[{ name := "MIN_VALUE", type := .long, accessFlags := 25, slot := 0, constantValue := 0 }, { name := "MAX_VALUE", type := .long, accessFlags := 25, slot := 1, constantValue := 0 }, { name := "TYPE", type := (.object "java/lang/Class"), accessFlags := 25, slot := 2, constantValue := 0 }, { name := "value", type := .long, accessFlags := 18, slot := 0, constantValue := 0 }, { name := "SIZE", type := .int, accessFlags := 25, slot := 3, constantValue := 0 }, { name := "BYTES", type := .int, accessFlags := 25, slot := 4, constantValue := 0 }, { name := "serialVersionUID", type := .long, accessFlags := 26, slot := 5, constantValue := 0 }]
  methods := #[k22m0, k22m1]
  instanceTypes := #[.long]
  staticTypes := #[.long, .long, (.object "java/lang/Class"), .int, .int, .long]
  resolved := Array.replicate 524 none
  statics := none }

def pool23 : Array CpInfo := pool [(1, .class_ 2), (0, u "java/lang/Integer"), (16, u "digits"), (0, u "[C"), (64, u "DigitOnes"), (0, u "[B"), (2, u "DigitTens"), (99, .class_ 190), (0, u "java/lang/Integer$IntegerCache"), (3, u "I"), (8, .class_ 204), (0, u "java/lang/Number"), (2, u "value"), (94, u "TYPE"), (0, u "Ljava/lang/Class;"), (0, .class_ 305), (0, u "java/lang/Comparable"), (0, .class_ 307), (0, u "java/lang/constant/Constable"), (0, .class_ 309), (0, u "java/lang/constant/ConstantDesc"), (0, u "MIN_VALUE"), (1, u "MAX_VALUE"), (3, u "SIZE"), (1, u "BYTES"), (1, u "serialVersionUID"), (0, u "J")] 131

/-- java/lang/Integer -/
def k23 : Class := { plain "java/lang/Integer" (some 21) with
  accessFlags := 49
  interfaces := #[3, 5, 6]
  cf := some (fileOf pool23 1 #[.nestMembers #[189]] #[] 49 203 #[304, 306, 308] #[{ accessFlags := 25, nameIndex := 310, descriptorIndex := 194, attributes := #[] }, { accessFlags := 25, nameIndex := 312, descriptorIndex := 194, attributes := #[] }, { accessFlags := 25, nameIndex := 302, descriptorIndex := 303, attributes := #[] }, { accessFlags := 24, nameIndex := 19, descriptorIndex := 20, attributes := #[] }, { accessFlags := 24, nameIndex := 89, descriptorIndex := 86, attributes := #[] }, { accessFlags := 24, nameIndex := 85, descriptorIndex := 86, attributes := #[] }, { accessFlags := 18, nameIndex := 207, descriptorIndex := 194, attributes := #[] }, { accessFlags := 25, nameIndex := 316, descriptorIndex := 194, attributes := #[] }, { accessFlags := 25, nameIndex := 318, descriptorIndex := 194, attributes := #[] }, { accessFlags := 26, nameIndex := 320, descriptorIndex := 321, attributes := #[] }])
  fields := #[{ name := "MIN_VALUE", type := .int, accessFlags := 25, slot := 0, constantValue := 0 }, { name := "MAX_VALUE", type := .int, accessFlags := 25, slot := 1, constantValue := 0 }, { name := "TYPE", type := (.object "java/lang/Class"), accessFlags := 25, slot := 2, constantValue := 0 }, { name := "digits", type := (.array .char), accessFlags := 24, slot := 3, constantValue := 0 }, { name := "DigitTens", type := (.array .byte), accessFlags := 24, slot := 4, constantValue := 0 }, { name := "DigitOnes", type := (.array .byte), accessFlags := 24, slot := 5, constantValue := 0 }, { name := "value", type := .int, accessFlags := 18, slot := 0, constantValue := 0 }, { name := "SIZE", type := .int, accessFlags := 25, slot := 6, constantValue := 0 }, { name := "BYTES", type := .int, accessFlags := 25, slot := 7, constantValue := 0 }, { name := "serialVersionUID", type := .long, accessFlags := 26, slot := 8, constantValue := 0 }]
  methods := #[]
  instanceTypes := #[.int]
  staticTypes := #[.int, .int, (.object "java/lang/Class"), (.array .char), (.array .byte), (.array .byte), .int, .int, .long]
  resolved := Array.replicate 453 none
  statics := some 2 }

def pool24 : Array CpInfo := pool [(1, .class_ 2), (0, u "java/lang/String"), (1, .class_ 6), (1, u "java/lang/Object"), (0, u "<init>"), (0, u "()V"), (0, .methodref 1 10), (0, .nameAndType 11 12), (0, u "checkIndex"), (0, u "(II)V"), (1, .class_ 16), (1, u "java/lang/StringLatin1"), (36, u "([BI)C"), (67, u "$assertionsDisabled"), (0, u "Z"), (98, .class_ 223), (1, u "java/lang/StringLatin1$LinesSpliterator"), (28, u "charAt"), (137, .class_ 391), (0, u "java/lang/StringLatin1$CharsSpliterator")] 3

def k24m0 : Method := { name := "<init>", desc := "()V", sig := { parameters := [], returnType := none }, accessFlags := 0, code := none }
def k24c1 : Code := { maxStack := 2, maxLocals := 2, code := jdk_43_method_2_code, exceptionTable := #[], attributes := #[] }
def k24m1 : Method := { name := "charAt", desc := "([BI)C", sig := { parameters := [(.array .byte), .int], returnType := some .char }, accessFlags := 9, code := some k24c1 }
/-- java/lang/StringLatin1 -/
def k24 : Class := { plain "java/lang/StringLatin1" (some 0) with
  accessFlags := 48
  interfaces := #[]
  cf := some (fileOf pool24 14 #[.nestMembers #[390, 221]] #[{ accessFlags := 0, nameIndex := 7, descriptorIndex := 8, attributes := #[] }, { accessFlags := 9, nameIndex := 252, descriptorIndex := 53, attributes := #[] }] 48 4 #[] #[{ accessFlags := 4120, nameIndex := 121, descriptorIndex := 122, attributes := #[] }])
  fields := #[{ name := "$assertionsDisabled", type := .boolean, accessFlags := 4120, slot := 0, constantValue := 0 }]
  methods := #[k24m0, k24m1]
  instanceTypes := #[]
  staticTypes := #[.boolean]
  resolved := Array.replicate 395 none
  statics := none }

def pool25 : Array CpInfo := pool [(2, .class_ 4), (1, u "java/lang/Object"), (0, u "<init>"), (0, u "()V"), (17, .class_ 26), (1, u "jdk/internal/util/Preconditions"), (6, u "checkIndex"), (21, .class_ 56), (0, u "jdk/internal/util/Preconditions$4"), (57, .class_ 115), (0, u "jdk/internal/util/Preconditions$1"), (7, u "SIOOBE_FORMATTER"), (0, u "Ljava/util/function/BiFunction;"), (0, .class_ 126), (0, u "jdk/internal/util/Preconditions$2"), (3, u "AIOOBE_FORMATTER"), (0, .class_ 132), (0, u "jdk/internal/util/Preconditions$3"), (3, u "IOOBE_FORMATTER"), (41, u "(IILjava/util/function/BiFunction;)I")] 15

def k25m0 : Method := { name := "<init>", desc := "()V", sig := { parameters := [], returnType := none }, accessFlags := 1, code := none }
def k25c1 : Code := { maxStack := 3, maxLocals := 3, code := jdk_41_method_11_code, exceptionTable := #[], attributes := #[] }
def k25m1 : Method := { name := "checkIndex", desc := "(IILjava/util/function/BiFunction;)I", sig := { parameters := [.int, .int, (.object "java/util/function/BiFunction")], returnType := some .int }, accessFlags := 9, code := some k25c1 }
/-- jdk/internal/util/Preconditions -/
def k25 : Class := { plain "jdk/internal/util/Preconditions" (some 0) with
  accessFlags := 33
  interfaces := #[]
  cf := some (fileOf pool25 24 #[.nestMembers #[55, 131, 125, 114]] #[{ accessFlags := 1, nameIndex := 5, descriptorIndex := 6, attributes := #[] }, { accessFlags := 9, nameIndex := 33, descriptorIndex := 178, attributes := #[] }] 33 2 #[] #[{ accessFlags := 25, nameIndex := 123, descriptorIndex := 124, attributes := #[] }, { accessFlags := 25, nameIndex := 130, descriptorIndex := 124, attributes := #[] }, { accessFlags := 25, nameIndex := 136, descriptorIndex := 124, attributes := #[] }])
  fields := #[{ name := "SIOOBE_FORMATTER", type := (.object "java/util/function/BiFunction"), accessFlags := 25, slot := 0, constantValue := 0 }, { name := "AIOOBE_FORMATTER", type := (.object "java/util/function/BiFunction"), accessFlags := 25, slot := 1, constantValue := 0 }, { name := "IOOBE_FORMATTER", type := (.object "java/util/function/BiFunction"), accessFlags := 25, slot := 2, constantValue := 0 }]
  methods := #[k25m0, k25m1]
  instanceTypes := #[]
  staticTypes := #[(.object "java/util/function/BiFunction"), (.object "java/util/function/BiFunction"), (.object "java/util/function/BiFunction")]
  resolved := Array.replicate 194 none
  statics := some 3 }

def pool26 : Array CpInfo := pool [(1, .class_ 2), (0, u "java/lang/Cloneable"), (0, .class_ 4), (0, u "java/lang/Object")] 2

/-- java/lang/Cloneable -/
def k26 : Class := { plain "java/lang/Cloneable" (some 0) with
  accessFlags := 1537
  interfaces := #[]
  cf := some (fileOf pool26 1 #[] #[] 1537 3 #[] #[])
  fields := #[]
  methods := #[]
  instanceTypes := #[]
  staticTypes := #[]
  resolved := Array.replicate 7 none
  statics := none }

def pool27 : Array CpInfo := pool [(2, .class_ 4), (1, u "java/lang/Object"), (0, u "<init>"), (0, u "()V"), (12, .class_ 20), (0, u "java/util/Collections"), (63, u "r"), (0, u "Ljava/util/Random;"), (80, .class_ 167), (0, u "java/util/Collections$UnmodifiableCollection"), (6, .class_ 175), (0, u "java/util/Collections$UnmodifiableSequencedCollection"), (6, .class_ 183), (0, u "java/util/Collections$UnmodifiableSet"), (6, .class_ 191), (0, u "java/util/Collections$UnmodifiableSequencedSet"), (6, .class_ 199), (0, u "java/util/Collections$UnmodifiableSortedSet"), (6, .class_ 207), (0, u "java/util/Collections$UnmodifiableNavigableSet"), (4, .class_ 213), (0, u "java/util/Collections$UnmodifiableList"), (1, .class_ 216), (0, u "java/util/Collections$UnmodifiableRandomAccessList"), (6, .class_ 224), (0, u "java/util/Collections$UnmodifiableMap"), (6, .class_ 232), (0, u "java/util/Collections$UnmodifiableSequencedMap"), (4, .class_ 238), (0, u "java/util/Collections$UnmodifiableSortedMap"), (6, .class_ 246), (0, u "java/util/Collections$UnmodifiableNavigableMap"), (3, .class_ 251), (0, u "java/util/Collections$SynchronizedCollection"), (4, .class_ 257), (0, u "java/util/Collections$SynchronizedSet"), (4, .class_ 263), (0, u "java/util/Collections$SynchronizedSortedSet"), (1, .class_ 266), (0, u "java/util/Collections$SynchronizedNavigableSet"), (1, .class_ 269), (0, u "java/util/Collections$SynchronizedRandomAccessList"), (1, .class_ 272), (0, u "java/util/Collections$SynchronizedList"), (5, .class_ 279), (0, u "java/util/Collections$SynchronizedMap"), (1, .class_ 282), (0, u "java/util/Collections$SynchronizedSortedMap"), (1, .class_ 285), (0, u "java/util/Collections$SynchronizedNavigableMap"), (1, .class_ 288), (0, u "java/util/Collections$CheckedCollection"), (11, .class_ 301), (0, u "java/util/Collections$CheckedQueue"), (3, .class_ 306), (0, u "java/util/Collections$CheckedSet"), (3, .class_ 311), (0, u "java/util/Collections$CheckedSortedSet"), (3, .class_ 316), (0, u "java/util/Collections$CheckedNavigableSet"), (3, .class_ 321), (0, u "java/util/Collections$CheckedRandomAccessList"), (3, .class_ 326), (0, u "java/util/Collections$CheckedList"), (1, .class_ 329), (0, u "java/util/Collections$CheckedMap"), (3, .class_ 334), (0, u "java/util/Collections$CheckedSortedMap"), (3, .class_ 339), (0, u "java/util/Collections$CheckedNavigableMap"), (4, .class_ 346), (1, u "java/util/Collections$EmptyIterator"), (3, .class_ 352), (1, u "java/util/Collections$EmptyListIterator"), (2, .class_ 357), (1, u "java/util/Collections$EmptyEnumeration"), (4, u "EMPTY_SET"), (0, u "Ljava/util/Set;"), (6, u "EMPTY_LIST"), (0, u "Ljava/util/List;"), (2, u "EMPTY_MAP"), (0, u "Ljava/util/Map;"), (4, .class_ 381), (0, u "java/util/Collections$SingletonSet"), (2, .class_ 385), (0, u "java/util/Collections$1"), (1, .class_ 388), (0, u "java/util/Collections$2"), (1, .class_ 391), (0, u "java/util/Collections$SingletonList"), (1, .class_ 394), (0, u "java/util/Collections$SingletonMap"), (22, .class_ 418), (0, u "java/util/Collections$CopiesList"), (4, .class_ 425), (1, u "java/util/Collections$ReverseComparator"), (8, .class_ 435), (0, u "java/util/Collections$ReverseComparator2"), (6, .class_ 443), (0, u "java/util/Collections$3"), (25, .class_ 470), (0, u "java/util/Collections$SetFromMap"), (2, .class_ 474), (0, u "java/util/Collections$SequencedSetFromMap"), (3, .class_ 479), (0, u "java/util/Collections$AsLIFOQueue"), (11, .class_ 492), (0, u "java/util/Collections$EmptySet"), (1, .class_ 495), (0, u "java/util/Collections$EmptyList"), (1, .class_ 498), (0, u "java/util/Collections$EmptyMap"), (1, u "BINARYSEARCH_THRESHOLD"), (0, u "I"), (2, u "REVERSE_THRESHOLD"), (1, u "SHUFFLE_THRESHOLD"), (1, u "FILL_THRESHOLD"), (1, u "ROTATE_THRESHOLD"), (1, u "COPY_THRESHOLD"), (1, u "REPLACEALL_THRESHOLD"), (1, u "INDEXOFSUBLIST_THRESHOLD"), (333, .class_ 851), (0, u "java/util/Collections$CheckedMap$CheckedEntrySet"), (0, .class_ 853), (0, u "java/util/Collections$CheckedMap$CheckedEntrySet$CheckedEntry"), (0, .class_ 855), (0, u "java/util/Collections$CheckedMap$CheckedEntrySet$1"), (0, .class_ 857), (0, u "java/util/Collections$CheckedList$1"), (0, .class_ 859), (0, u "java/util/Collections$CheckedCollection$1"), (0, .class_ 861), (0, u "java/util/Collections$UnmodifiableNavigableMap$EmptyNavigableMap"), (0, .class_ 863), (0, u "java/util/Collections$UnmodifiableMap$UnmodifiableEntrySet"), (0, .class_ 865), (0, u "java/util/Collections$UnmodifiableMap$UnmodifiableEntrySet$UnmodifiableEntry"), (0, .class_ 867), (0, u "java/util/Collections$UnmodifiableMap$UnmodifiableEntrySet$UnmodifiableEntrySetSpliterator"), (0, .class_ 869), (0, u "java/util/Collections$UnmodifiableMap$UnmodifiableEntrySet$1"), (0, .class_ 871), (0, u "java/util/Collections$UnmodifiableList$1"), (0, .class_ 873), (0, u "java/util/Collections$UnmodifiableNavigableSet$EmptyNavigableSet"), (0, .class_ 875), (0, u "java/util/Collections$UnmodifiableCollection$1")] 57

def k27m0 : Method := { name := "<init>", desc := "()V", sig := { parameters := [], returnType := none }, accessFlags := 2, code := none }
/-- java/util/Collections -/
def k27 : Class := { plain "java/util/Collections" (some 0) with
  accessFlags := 33
  interfaces := #[]
  cf := some (fileOf pool27 19 #[.nestMembers #[478, 473, 469, 434, 423, 417, 393, 390, 380, 497, 494, 491, 355, 350, 344, 338, 333, 328, 850, 852, 854, 320, 325, 856, 315, 310, 305, 300, 287, 858, 284, 281, 278, 268, 271, 265, 262, 256, 250, 245, 860, 237, 231, 223, 862, 864, 866, 868, 215, 212, 870, 206, 872, 198, 190, 182, 174, 166, 874, 442, 387, 384]] #[{ accessFlags := 2, nameIndex := 5, descriptorIndex := 6, attributes := #[] }] 33 2 #[] #[{ accessFlags := 26, nameIndex := 500, descriptorIndex := 501, attributes := #[] }, { accessFlags := 26, nameIndex := 504, descriptorIndex := 501, attributes := #[] }, { accessFlags := 26, nameIndex := 506, descriptorIndex := 501, attributes := #[] }, { accessFlags := 26, nameIndex := 508, descriptorIndex := 501, attributes := #[] }, { accessFlags := 26, nameIndex := 510, descriptorIndex := 501, attributes := #[] }, { accessFlags := 26, nameIndex := 512, descriptorIndex := 501, attributes := #[] }, { accessFlags := 26, nameIndex := 514, descriptorIndex := 501, attributes := #[] }, { accessFlags := 26, nameIndex := 516, descriptorIndex := 501, attributes := #[] }, { accessFlags := 10, nameIndex := 84, descriptorIndex := 85, attributes := #[] }, { accessFlags := 25, nameIndex := 362, descriptorIndex := 363, attributes := #[] }, { accessFlags := 25, nameIndex := 370, descriptorIndex := 371, attributes := #[] }, { accessFlags := 25, nameIndex := 374, descriptorIndex := 375, attributes := #[] }])
  fields := #[{ name := "BINARYSEARCH_THRESHOLD", type := .int, accessFlags := 26, slot := 0, constantValue := 0 }, { name := "REVERSE_THRESHOLD", type := .int, accessFlags := 26, slot := 1, constantValue := 0 }, { name := "SHUFFLE_THRESHOLD", type := .int, accessFlags := 26, slot := 2, constantValue := 0 }, { name := "FILL_THRESHOLD", type := .int, accessFlags := 26, slot := 3, constantValue := 0 }, { name := "ROTATE_THRESHOLD", type := .int, accessFlags := 26, slot := 4, constantValue := 0 }, { name := "COPY_THRESHOLD", type := .int, accessFlags := 26, slot := 5, constantValue := 0 }, { name := "REPLACEALL_THRESHOLD", type := .int, accessFlags := 26, slot := 6, constantValue := 0 }, { name := "INDEXOFSUBLIST_THRESHOLD", type := .int, accessFlags := 26, slot := 7, constantValue := 0 }, { name := "r", type := (.object "java/util/Random"), accessFlags := 10, slot := 8, constantValue := 0 }, { name := "EMPTY_SET", type := (.object "java/util/Set"), accessFlags := 25, slot := 9, constantValue := 0 }, { name := "EMPTY_LIST", type := (.object "java/util/List"), accessFlags := 25, slot := 10, constantValue := 0 }, { name := "EMPTY_MAP", type := (.object "java/util/Map"), accessFlags := 25, slot := 11, constantValue := 0 }]
  methods := #[k27m0]
  instanceTypes := #[]
  staticTypes := #[.int, .int, .int, .int, .int, .int, .int, .int, (.object "java/util/Random"), (.object "java/util/Set"), (.object "java/util/List"), (.object "java/util/Map")]
  resolved := Array.replicate 933 none
  statics := some 4 }

def pool28 : Array CpInfo := pool [(8, .class_ 10), (1, u "java/lang/Iterable"), (24, .class_ 36), (0, u "java/lang/Object")] 25

/-- java/lang/Iterable -/
def k28 : Class := { plain "java/lang/Iterable" (some 0) with
  accessFlags := 1537
  interfaces := #[]
  cf := some (fileOf pool28 8 #[] #[] 1537 35 #[] #[])
  fields := #[]
  methods := #[]
  instanceTypes := #[]
  staticTypes := #[]
  resolved := Array.replicate 62 none
  statics := none }

def pool29 : Array CpInfo := pool [(10, .class_ 12), (1, u "java/util/Collection"), (47, .class_ 61), (0, u "java/lang/Object"), (0, .class_ 63), (0, u "java/lang/Iterable")] 51

/-- java/util/Collection -/
def k29 : Class := { plain "java/util/Collection" (some 0) with
  accessFlags := 1537
  interfaces := #[28]
  cf := some (fileOf pool29 10 #[] #[] 1537 60 #[62] #[])
  fields := #[]
  methods := #[]
  instanceTypes := #[]
  staticTypes := #[]
  resolved := Array.replicate 115 none
  statics := none }

def pool30 : Array CpInfo := pool [(2, .class_ 4), (1, u "java/lang/Object"), (0, u "<init>"), (0, u "()V"), (1, .class_ 10), (1, u "java/util/AbstractCollection"), (66, .class_ 78), (0, u "java/util/Collection")] 81

def k30m0 : Method := { name := "<init>", desc := "()V", sig := { parameters := [], returnType := none }, accessFlags := 4, code := none }
/-- java/util/AbstractCollection -/
def k30 : Class := { plain "java/util/AbstractCollection" (some 0) with
  accessFlags := 1057
  interfaces := #[29]
  cf := some (fileOf pool30 8 #[] #[{ accessFlags := 4, nameIndex := 5, descriptorIndex := 6, attributes := #[] }] 1057 2 #[77] #[])
  fields := #[]
  methods := #[k30m0]
  instanceTypes := #[]
  staticTypes := #[]
  resolved := Array.replicate 160 none
  statics := none }

def pool31 : Array CpInfo := pool [(8, .class_ 10), (1, u "java/util/SequencedCollection"), (15, .class_ 27), (0, u "java/lang/Object"), (0, .class_ 29), (0, u "java/util/Collection")] 27

/-- java/util/SequencedCollection -/
def k31 : Class := { plain "java/util/SequencedCollection" (some 0) with
  accessFlags := 1537
  interfaces := #[29]
  cf := some (fileOf pool31 8 #[] #[] 1537 26 #[28] #[])
  fields := #[]
  methods := #[]
  instanceTypes := #[]
  staticTypes := #[]
  resolved := Array.replicate 57 none
  statics := none }

def pool32 : Array CpInfo := pool [(8, .class_ 10), (1, u "java/util/List"), (92, .class_ 104), (0, u "java/lang/Object"), (15, .class_ 121), (0, u "java/util/SequencedCollection")] 129

/-- java/util/List -/
def k32 : Class := { plain "java/util/List" (some 0) with
  accessFlags := 1537
  interfaces := #[31]
  cf := some (fileOf pool32 8 #[] #[] 1537 103 #[120] #[])
  fields := #[]
  methods := #[]
  instanceTypes := #[]
  staticTypes := #[]
  resolved := Array.replicate 251 none
  statics := none }

def pool33 : Array CpInfo := pool [(2, .class_ 4), (1, u "java/util/AbstractCollection"), (0, u "<init>"), (0, u "()V"), (1, .class_ 10), (1, u "java/util/AbstractList"), (0, u "modCount"), (0, u "I"), (64, .class_ 78), (0, u "java/util/AbstractList$Itr"), (3, .class_ 83), (0, u "java/util/AbstractList$ListItr"), (9, .class_ 94), (0, u "java/util/AbstractList$RandomAccessSubList"), (3, .class_ 99), (0, u "java/util/AbstractList$SubList"), (33, .class_ 134), (0, u "java/util/List"), (73, .class_ 209), (0, u "java/util/AbstractList$SubList$1"), (0, .class_ 211), (0, u "java/util/AbstractList$RandomAccessSpliterator")] 6

def k33m0 : Method := { name := "<init>", desc := "()V", sig := { parameters := [], returnType := none }, accessFlags := 4, code := none }
/-- java/util/AbstractList -/
def k33 : Class := { plain "java/util/AbstractList" (some 30) with
  accessFlags := 1057
  interfaces := #[32]
  cf := some (fileOf pool33 8 #[.nestMembers #[93, 98, 208, 210, 82, 77]] #[{ accessFlags := 4, nameIndex := 5, descriptorIndex := 6, attributes := #[] }] 1057 2 #[133] #[{ accessFlags := 132, nameIndex := 11, descriptorIndex := 12, attributes := #[] }])
  fields := #[{ name := "modCount", type := .int, accessFlags := 132, slot := 0, constantValue := 0 }]
  methods := #[k33m0]
  instanceTypes := #[.int]
  staticTypes := #[]
  resolved := Array.replicate 218 none
  statics := none }

def pool34 : Array CpInfo := pool [(1, .class_ 2), (0, u "java/util/RandomAccess"), (0, .class_ 4), (0, u "java/lang/Object")] 2

/-- java/util/RandomAccess -/
def k34 : Class := { plain "java/util/RandomAccess" (some 0) with
  accessFlags := 1537
  interfaces := #[]
  cf := some (fileOf pool34 1 #[] #[] 1537 3 #[] #[])
  fields := #[]
  methods := #[]
  instanceTypes := #[]
  staticTypes := #[]
  resolved := Array.replicate 7 none
  statics := none }

def pool35 : Array CpInfo := pool [(2, .class_ 4), (1, u "java/util/AbstractList"), (0, u "<init>"), (0, u "()V"), (1, .class_ 10), (1, u "java/util/Collections"), (54, .class_ 66), (0, u "java/util/Collections$EmptyList"), (0, .class_ 68), (0, u "java/util/RandomAccess"), (0, .class_ 70), (0, u "java/io/Serializable"), (0, u "serialVersionUID"), (0, u "J")] 77

def k35m0 : Method := { name := "<init>", desc := "()V", sig := { parameters := [], returnType := none }, accessFlags := 2, code := none }
/-- java/util/Collections$EmptyList -/
def k35 : Class := { plain "java/util/Collections$EmptyList" (some 33) with
  accessFlags := 32
  interfaces := #[34, 2]
  cf := some (fileOf pool35 65 #[.nestHost 8] #[{ accessFlags := 2, nameIndex := 5, descriptorIndex := 6, attributes := #[] }] 32 2 #[67, 69] #[{ accessFlags := 26, nameIndex := 71, descriptorIndex := 72, attributes := #[] }])
  fields := #[{ name := "serialVersionUID", type := .long, accessFlags := 26, slot := 0, constantValue := 0 }]
  methods := #[k35m0]
  instanceTypes := #[.int]
  staticTypes := #[.long]
  resolved := Array.replicate 150 none
  statics := none }

def pool36 : Array CpInfo := pool [(2, .class_ 4), (1, u "java/lang/StackTraceElement"), (0, u "<init>"), (2, .class_ 10), (1, u "java/lang/Object"), (0, u "()V"), (2, u "format"), (0, u "B"), (2, u "classLoaderName"), (0, u "Ljava/lang/String;"), (2, u "moduleName"), (2, u "moduleVersion"), (12, u "declaringClass"), (4, u "methodName"), (2, u "fileName"), (2, u "lineNumber"), (0, u "I"), (65, u "declaringClassObject"), (0, u "Ljava/lang/Class;"), (33, .class_ 153), (1, u "java/lang/StackTraceElement$HashedModules"), (17, .class_ 172), (0, u "java/io/Serializable"), (0, u "NATIVE_METHOD"), (1, u "UNKNOWN_SOURCE"), (2, u "BUILTIN_CLASS_LOADER"), (1, u "JDK_NON_UPGRADEABLE_MODULE"), (1, u "serialVersionUID"), (0, u "J")] 51

def k36m0 : Method := { name := "<init>", desc := "()V", sig := { parameters := [], returnType := none }, accessFlags := 2, code := none }
/-- java/lang/StackTraceElement -/
def k36 : Class := { plain "java/lang/StackTraceElement" (some 0) with
  accessFlags := 49
  interfaces := #[2]
  cf := some (fileOf pool36 2 #[.nestMembers #[151]] #[{ accessFlags := 2, nameIndex := 5, descriptorIndex := 11, attributes := #[] }] 49 8 #[171] #[{ accessFlags := 26, nameIndex := 173, descriptorIndex := 19, attributes := #[] }, { accessFlags := 26, nameIndex := 175, descriptorIndex := 19, attributes := #[] }, { accessFlags := 130, nameIndex := 116, descriptorIndex := 117, attributes := #[] }, { accessFlags := 2, nameIndex := 18, descriptorIndex := 19, attributes := #[] }, { accessFlags := 2, nameIndex := 22, descriptorIndex := 19, attributes := #[] }, { accessFlags := 2, nameIndex := 25, descriptorIndex := 19, attributes := #[] }, { accessFlags := 2, nameIndex := 38, descriptorIndex := 19, attributes := #[] }, { accessFlags := 2, nameIndex := 43, descriptorIndex := 19, attributes := #[] }, { accessFlags := 2, nameIndex := 46, descriptorIndex := 19, attributes := #[] }, { accessFlags := 2, nameIndex := 49, descriptorIndex := 50, attributes := #[] }, { accessFlags := 2, nameIndex := 14, descriptorIndex := 15, attributes := #[] }, { accessFlags := 26, nameIndex := 178, descriptorIndex := 15, attributes := #[] }, { accessFlags := 26, nameIndex := 180, descriptorIndex := 15, attributes := #[] }, { accessFlags := 26, nameIndex := 182, descriptorIndex := 183, attributes := #[] }])
  fields := #[{ name := "NATIVE_METHOD", type := (.object "java/lang/String"), accessFlags := 26, slot := 0, constantValue := 0 }, { name := "UNKNOWN_SOURCE", type := (.object "java/lang/String"), accessFlags := 26, slot := 1, constantValue := 0 }, { name := "declaringClassObject", type := (.object "java/lang/Class"), accessFlags := 130, slot := 0, constantValue := 0 }, { name := "classLoaderName", type := (.object "java/lang/String"), accessFlags := 2, slot := 1, constantValue := 0 }, { name := "moduleName", type := (.object "java/lang/String"), accessFlags := 2, slot := 2, constantValue := 0 }, { name := "moduleVersion", type := (.object "java/lang/String"), accessFlags := 2, slot := 3, constantValue := 0 }, { name := "declaringClass", type := (.object "java/lang/String"), accessFlags := 2, slot := 4, constantValue := 0 }, { name := "methodName", type := (.object "java/lang/String"), accessFlags := 2, slot := 5, constantValue := 0 }, { name := "fileName", type := (.object "java/lang/String"), accessFlags := 2, slot := 6, constantValue := 0 }, { name := "lineNumber", type := .int, accessFlags := 2, slot := 7, constantValue := 0 }, { name := "format", type := .byte, accessFlags := 2, slot := 8, constantValue := 0 }, { name := "BUILTIN_CLASS_LOADER", type := .byte, accessFlags := 26, slot := 2, constantValue := 0 }, { name := "JDK_NON_UPGRADEABLE_MODULE", type := .byte, accessFlags := 26, slot := 3, constantValue := 0 }, { name := "serialVersionUID", type := .long, accessFlags := 26, slot := 4, constantValue := 0 }]
  methods := #[k36m0]
  instanceTypes := #[(.object "java/lang/Class"), (.object "java/lang/String"), (.object "java/lang/String"), (.object "java/lang/String"), (.object "java/lang/String"), (.object "java/lang/String"), (.object "java/lang/String"), .int, .byte]
  staticTypes := #[(.object "java/lang/String"), (.object "java/lang/String"), .byte, .byte, .long]
  resolved := Array.replicate 235 none
  statics := none }

/-- the primitive byte -/
def k37 : Class := { plain "byte" none with kind := .primitive 'B', accessFlags := 0x411 }
/-- [B -/
def k38 : Class := { plain "[B" (some 0) with kind := .array 37 .byte, interfaces := #[26, 2], accessFlags := 1041 }

/-- the primitive char -/
def k39 : Class := { plain "char" none with kind := .primitive 'C', accessFlags := 0x411 }
/-- [C -/
def k40 : Class := { plain "[C" (some 0) with kind := .array 39 .char, interfaces := #[26, 2], accessFlags := 1041 }

/-- the primitive int -/
def k41 : Class := { plain "int" none with kind := .primitive 'I', accessFlags := 0x411 }
/-- [I -/
def k42 : Class := { plain "[I" (some 0) with kind := .array 41 .int, interfaces := #[26, 2], accessFlags := 1041 }

/-- [Ljava/lang/Object; -/
def k43 : Class := { plain "[Ljava/lang/Object;" (some 0) with kind := .array 0 (.object "java/lang/Object"), interfaces := #[26, 2], accessFlags := 1041 }

/-- [Ljava/lang/StackTraceElement; -/
def k44 : Class := { plain "[Ljava/lang/StackTraceElement;" (some 0) with kind := .array 36 (.object "java/lang/StackTraceElement"), interfaces := #[26, 2], accessFlags := 1041 }

/-- [Ljava/lang/Throwable; -/
def k45 : Class := { plain "[Ljava/lang/Throwable;" (some 0) with kind := .array 9 (.object "java/lang/Throwable"), interfaces := #[26, 2], accessFlags := 1041 }

def heap : Heap := #[{ cls := 7, slots := #[.long 0, .int 1, .null, .int 0, .null, .int 0, .int 0], vm := .statics 7 },
  { cls := 9, slots := #[.long 0, .ref 7, .ref 8, .null, .null, .null, .null, .ref 9, .int 1], vm := .statics 9 },
  { cls := 23, slots := #[.int 0, .int 0, .null, .null, .ref 6, .ref 5, .int 0, .int 0, .long 0], vm := .statics 23 },
  { cls := 25, slots := #[.null, .null, .null], vm := .statics 25 },
  { cls := 27, slots := #[.int 0, .int 0, .int 0, .int 0, .int 0, .int 0, .int 0, .int 0, .null, .null, .ref 8, .null], vm := .statics 27 },
  { cls := 38, slots := #[.int 48, .int 49, .int 50, .int 51, .int 52, .int 53, .int 54, .int 55, .int 56, .int 57, .int 48, .int 49, .int 50, .int 51, .int 52, .int 53, .int 54, .int 55, .int 56, .int 57, .int 48, .int 49, .int 50, .int 51, .int 52, .int 53, .int 54, .int 55, .int 56, .int 57, .int 48, .int 49, .int 50, .int 51, .int 52, .int 53, .int 54, .int 55, .int 56, .int 57, .int 48, .int 49, .int 50, .int 51, .int 52, .int 53, .int 54, .int 55, .int 56, .int 57, .int 48, .int 49, .int 50, .int 51, .int 52, .int 53, .int 54, .int 55, .int 56, .int 57, .int 48, .int 49, .int 50, .int 51, .int 52, .int 53, .int 54, .int 55, .int 56, .int 57, .int 48, .int 49, .int 50, .int 51, .int 52, .int 53, .int 54, .int 55, .int 56, .int 57, .int 48, .int 49, .int 50, .int 51, .int 52, .int 53, .int 54, .int 55, .int 56, .int 57, .int 48, .int 49, .int 50, .int 51, .int 52, .int 53, .int 54, .int 55, .int 56, .int 57], vm := .none },
  { cls := 38, slots := #[.int 48, .int 48, .int 48, .int 48, .int 48, .int 48, .int 48, .int 48, .int 48, .int 48, .int 49, .int 49, .int 49, .int 49, .int 49, .int 49, .int 49, .int 49, .int 49, .int 49, .int 50, .int 50, .int 50, .int 50, .int 50, .int 50, .int 50, .int 50, .int 50, .int 50, .int 51, .int 51, .int 51, .int 51, .int 51, .int 51, .int 51, .int 51, .int 51, .int 51, .int 52, .int 52, .int 52, .int 52, .int 52, .int 52, .int 52, .int 52, .int 52, .int 52, .int 53, .int 53, .int 53, .int 53, .int 53, .int 53, .int 53, .int 53, .int 53, .int 53, .int 54, .int 54, .int 54, .int 54, .int 54, .int 54, .int 54, .int 54, .int 54, .int 54, .int 55, .int 55, .int 55, .int 55, .int 55, .int 55, .int 55, .int 55, .int 55, .int 55, .int 56, .int 56, .int 56, .int 56, .int 56, .int 56, .int 56, .int 56, .int 56, .int 56, .int 57, .int 57, .int 57, .int 57, .int 57, .int 57, .int 57, .int 57, .int 57, .int 57], vm := .none },
  { cls := 44, slots := #[], vm := .none },
  { cls := 35, slots := #[.int 0], vm := .none },
  { cls := 45, slots := #[], vm := .none }]
def classes : Array Class := #[k0, k1, k2, k3, k4, k5, k6, k7, k8, k9, k10, k11, k12, k13, k14, k15, k16, k17, k18, k19, k20, k21, k22, k23, k24, k25, k26, k27, k28, k29, k30, k31, k32, k33, k34, k35, k36, k37, k38, k39, k40, k41, k42, k43, k44, k45]
def interned : List (Array UInt16 × Addr) := []
def slotsUsed : Nat := 241
def theMethod : MethodId := ⟨1, 1⟩
def args0 : Array Value := #[.long 5, .int 1, .int 2, .int 3, .int 0]
def aboutOver (below : List Frame) : State where
  vm := { classes := classes, interned := interned.toArray }
  heap := heap
  slotsUsed := slotsUsed
  threads := #[{ frames := .invoking theMethod args0 :: below }]
def below0 : List Frame := [.native { method := ⟨0, 0⟩, args := #[] }]
def about1 : State := aboutOver below0
def p0 : Program := .bare "" "" ""
def e0 : Env := launch0.env 0 0 0
theorem w_frames : about1.frames = Frame.invoking theMethod args0 :: below0 := rfl
set_option maxRecDepth 65536 in
theorem w_args : argsFit about1.vm theMethod args0 = true := by decide +kernel
set_option maxRecDepth 65536 in
theorem w_heap : heapFits about1 = true := by decide +kernel
set_option maxRecDepth 65536 in
theorem w_runnable : about1.curStatus? = some .runnable := by decide +kernel
set_option maxRecDepth 65536 in
theorem w_alone : about1.alone = true := by decide +kernel
set_option maxRecDepth 65536 in
theorem w_named : about1.methodNamed? x = some theMethod := by decide +kernel
set_option maxRecDepth 65536 in
theorem w_hears : about1.hears theMethod below0 = true := by decide +kernel
set_option maxRecDepth 65536 in
theorem w_ripe : about1.ripe theMethod args0 below0 = true := by decide +kernel
theorem w_running : about1.status = .running := rfl
set_option maxRecDepth 65536 in
theorem w_room : about1.hasRoom e0.platform room_1 = true :=
  launch0.hasRoom_least _ room_1 (by decide +kernel) (by decide +kernel) (by decide +kernel) (by decide +kernel) (by decide +kernel) (by decide +kernel)
theorem allAtoms_all (ts : List Jvm.Cond) (a : Array Jvm.Value) (st : Jvm.State) : (allAtoms ts).before a st = ts.all (fun c => c.before a st) := by
  induction ts with
  | nil => rfl
  | cons c t ih =>
    show (Jvm.Cond.and c (allAtoms t)).before a st = _
    rw [Jvm.Cond.before_and, ih, List.all_cons]
def words1 : List Jvm.Cond := Jvm.Cond.code x code maxLocals ret :: tables_1
/-- a 'code' word, met by the world's own term for the bytes: nothing is compared byte by byte -/
theorem code_word {y : MethodName} {bytes : ByteArray} {mx : Nat} {rt : Option FieldType} {a : Array Value} {s : State} {m : MethodId} {meth : Method} {c : Code} (h1 : s.methodNamed? y = some m) (h2 : s.vm.method? m = some meth) (h3 : meth.code = some c) (h4 : c.code = bytes)
    (h5 : (c.maxLocals == mx && c.exceptionTable.isEmpty && decide (c.maxStack ≤ mostOperands) && decide (meth.sig.returnType = rt) && !meth.locks && decide (parseMethodDescriptor y.desc = some meth.sig)) = true) : (Jvm.Cond.code y bytes mx rt).before a s = true := by
  simp only [Bool.and_eq_true, beq_iff_eq, Bool.not_eq_true', decide_eq_true_eq] at h5
  obtain ⟨⟨⟨⟨⟨g1, g2⟩, g3⟩, g4⟩, g5⟩, g6⟩ := h5
  simp [Cond.before, Cond.holds, Cond.value, h1, h2, h3, h4, g1, g2, g3, g4, g5, g6]
def isCode : Jvm.Cond → Bool
  | .code _ _ _ _ => true
  | _ => false
theorem all_split {L : List Jvm.Cond} {P : Jvm.Cond → Bool} (h1 : L.all (fun c => isCode c || P c) = true) (h2 : ∀ c ∈ L.filter isCode, P c = true) : L.all P = true := by
  refine List.all_eq_true.mpr fun c hc => ?_
  have h := List.all_eq_true.mp h1 c hc
  rcases Bool.eq_false_or_eq_true (isCode c) with hi | hi
  · exact h2 c (List.mem_filter.mpr ⟨hc, hi⟩)
  · simpa [hi] using h
set_option maxRecDepth 65536 in
theorem w_c0 : (Jvm.Cond.code x code maxLocals ret).before args0 about1 = true := code_word (m := ⟨1, 1⟩) (meth := k1m1) (c := k1c1) (by decide +kernel) rfl rfl rfl (by decide +kernel)
set_option maxRecDepth 65536 in
theorem w_c1 : (Jvm.Cond.code ({ cls := "java/lang/String", name := "<init>", desc := "([C)V" } : Jvm.MethodName) jdk_42_method_3_code (2 : Nat) (Option.none : Option Jvm.ClassFile.FieldType)).before args0 about1 = true := code_word (m := ⟨7, 1⟩) (meth := k7m1) (c := k7c1) (by decide +kernel) rfl rfl rfl (by decide +kernel)
set_option maxRecDepth 65536 in
theorem w_c2 : (Jvm.Cond.code ({ cls := "java/lang/String", name := "<init>", desc := "([CIILjava/lang/Void;)V" } : Jvm.MethodName) jdk_42_method_149_code (6 : Nat) (Option.none : Option Jvm.ClassFile.FieldType)).before args0 about1 = true := code_word (m := ⟨7, 6⟩) (meth := k7m6) (c := k7c6) (by decide +kernel) rfl rfl rfl (by decide +kernel)
set_option maxRecDepth 65536 in
theorem w_c3 : (Jvm.Cond.code ({ cls := "java/lang/Object", name := "<init>", desc := "()V" } : Jvm.MethodName) object_method_1_code (1 : Nat) (Option.none : Option Jvm.ClassFile.FieldType)).before args0 about1 = true := code_word (m := ⟨0, 0⟩) (meth := k0m0) (c := k0c0) (by decide +kernel) rfl rfl rfl (by decide +kernel)
set_option maxRecDepth 65536 in
theorem w_c4 : (Jvm.Cond.code ({ cls := "java/lang/StringUTF16", name := "compress", desc := "([CII)[B" } : Jvm.MethodName) jdk_52_method_16_code (6 : Nat) (Option.some (Jvm.ClassFile.FieldType.array Jvm.ClassFile.FieldType.byte))).before args0 about1 = true := code_word (m := ⟨8, 2⟩) (meth := k8m2) (c := k8c2) (by decide +kernel) rfl rfl rfl (by decide +kernel)
set_option maxRecDepth 65536 in
theorem w_c5 : (Jvm.Cond.code ({ cls := "java/lang/StringUTF16", name := "compress", desc := "([CI[BII)I" } : Jvm.MethodName) jdk_52_method_21_code (7 : Nat) (Option.some Jvm.ClassFile.FieldType.int)).before args0 about1 = true := code_word (m := ⟨8, 3⟩) (meth := k8m3) (c := k8c3) (by decide +kernel) rfl rfl rfl (by decide +kernel)
set_option maxRecDepth 65536 in
theorem w_c6 : (Jvm.Cond.code ({ cls := "java/lang/StringUTF16", name := "coderFromArrayLen", desc := "([BI)B" } : Jvm.MethodName) jdk_52_method_15_code (2 : Nat) (Option.some Jvm.ClassFile.FieldType.byte)).before args0 about1 = true := code_word (m := ⟨8, 1⟩) (meth := k8m1) (c := k8c1) (by decide +kernel) rfl rfl rfl (by decide +kernel)
set_option maxRecDepth 65536 in
theorem w_c7 : (Jvm.Cond.code ({ cls := "com/example/tallymark/tallymark/MalformedTextException", name := "<init>", desc := "(JLjava/lang/String;)V" } : Jvm.MethodName) prog_10_method_1_code (4 : Nat) (Option.none : Option Jvm.ClassFile.FieldType)).before args0 about1 = true := code_word (m := ⟨13, 0⟩) (meth := k13m0) (c := k13c0) (by decide +kernel) rfl rfl rfl (by decide +kernel)
set_option maxRecDepth 65536 in
theorem w_c8 : (Jvm.Cond.code ({ cls := "java/nio/charset/CharacterCodingException", name := "<init>", desc := "()V" } : Jvm.MethodName) jdk_2189_method_1_code (1 : Nat) (Option.none : Option Jvm.ClassFile.FieldType)).before args0 about1 = true := code_word (m := ⟨12, 0⟩) (meth := k12m0) (c := k12c0) (by decide +kernel) rfl rfl rfl (by decide +kernel)
set_option maxRecDepth 65536 in
theorem w_c9 : (Jvm.Cond.code ({ cls := "java/io/IOException", name := "<init>", desc := "()V" } : Jvm.MethodName) jdk_131_method_1_code (1 : Nat) (Option.none : Option Jvm.ClassFile.FieldType)).before args0 about1 = true := code_word (m := ⟨11, 0⟩) (meth := k11m0) (c := k11c0) (by decide +kernel) rfl rfl rfl (by decide +kernel)
set_option maxRecDepth 65536 in
theorem w_c10 : (Jvm.Cond.code ({ cls := "java/lang/Exception", name := "<init>", desc := "()V" } : Jvm.MethodName) jdk_59_method_1_code (1 : Nat) (Option.none : Option Jvm.ClassFile.FieldType)).before args0 about1 = true := code_word (m := ⟨10, 0⟩) (meth := k10m0) (c := k10c0) (by decide +kernel) rfl rfl rfl (by decide +kernel)
set_option maxRecDepth 65536 in
theorem w_c11 : (Jvm.Cond.code ({ cls := "java/lang/Throwable", name := "<init>", desc := "()V" } : Jvm.MethodName) jdk_78_method_1_code (1 : Nat) (Option.none : Option Jvm.ClassFile.FieldType)).before args0 about1 = true := code_word (m := ⟨9, 0⟩) (meth := k9m0) (c := k9c0) (by decide +kernel) rfl rfl rfl (by decide +kernel)
set_option maxRecDepth 65536 in
theorem w_c12 : (Jvm.Cond.code ({ cls := "com/example/tallymark/tallymark/MalformedTextException", name := "getMessage", desc := "()Ljava/lang/String;" } : Jvm.MethodName) prog_10_method_4_code (1 : Nat) (Option.some (Jvm.ClassFile.FieldType.object "java/lang/String"))).before args0 about1 = true := code_word (m := ⟨13, 1⟩) (meth := k13m1) (c := k13c1) (by decide +kernel) rfl rfl rfl (by decide +kernel)
set_option maxRecDepth 65536 in
theorem w_c13 : (Jvm.Cond.code ({ cls := "java/lang/StringBuilder", name := "<init>", desc := "()V" } : Jvm.MethodName) jdk_67_method_1_code (1 : Nat) (Option.none : Option Jvm.ClassFile.FieldType)).before args0 about1 = true := code_word (m := ⟨16, 0⟩) (meth := k16m0) (c := k16c0) (by decide +kernel) rfl rfl rfl (by decide +kernel)
set_option maxRecDepth 65536 in
theorem w_c14 : (Jvm.Cond.code ({ cls := "java/lang/AbstractStringBuilder", name := "<init>", desc := "(I)V" } : Jvm.MethodName) jdk_68_method_2_code (2 : Nat) (Option.none : Option Jvm.ClassFile.FieldType)).before args0 about1 = true := code_word (m := ⟨15, 1⟩) (meth := k15m1) (c := k15c1) (by decide +kernel) rfl rfl rfl (by decide +kernel)
set_option maxRecDepth 65536 in
theorem w_c15 : (Jvm.Cond.code ({ cls := "java/lang/StringBuilder", name := "append", desc := "(Ljava/lang/String;)Ljava/lang/StringBuilder;" } : Jvm.MethodName) jdk_67_method_7_code (2 : Nat) (Option.some (Jvm.ClassFile.FieldType.object "java/lang/StringBuilder"))).before args0 about1 = true := code_word (m := ⟨16, 1⟩) (meth := k16m1) (c := k16c1) (by decide +kernel) rfl rfl rfl (by decide +kernel)
set_option maxRecDepth 65536 in
theorem w_c16 : (Jvm.Cond.code ({ cls := "java/lang/AbstractStringBuilder", name := "append", desc := "(Ljava/lang/String;)Ljava/lang/AbstractStringBuilder;" } : Jvm.MethodName) jdk_68_method_22_code (3 : Nat) (Option.some (Jvm.ClassFile.FieldType.object "java/lang/AbstractStringBuilder"))).before args0 about1 = true := code_word (m := ⟨15, 5⟩) (meth := k15m5) (c := k15c5) (by decide +kernel) rfl rfl rfl (by decide +kernel)
set_option maxRecDepth 65536 in
theorem w_c17 : (Jvm.Cond.code ({ cls := "java/lang/String", name := "length", desc := "()I" } : Jvm.MethodName) jdk_42_method_54_code (1 : Nat) (Option.some Jvm.ClassFile.FieldType.int)).before args0 about1 = true := code_word (m := ⟨7, 3⟩) (meth := k7m3) (c := k7c3) (by decide +kernel) rfl rfl rfl (by decide +kernel)
set_option maxRecDepth 65536 in
theorem w_c18 : (Jvm.Cond.code ({ cls := "java/lang/String", name := "coder", desc := "()B" } : Jvm.MethodName) jdk_42_method_152_code (1 : Nat) (Option.some Jvm.ClassFile.FieldType.byte)).before args0 about1 = true := code_word (m := ⟨7, 8⟩) (meth := k7m8) (c := k7c8) (by decide +kernel) rfl rfl rfl (by decide +kernel)
set_option maxRecDepth 65536 in
theorem w_c19 : (Jvm.Cond.code ({ cls := "java/lang/AbstractStringBuilder", name := "ensureCapacityInternal", desc := "(I)V" } : Jvm.MethodName) jdk_68_method_9_code (3 : Nat) (Option.none : Option Jvm.ClassFile.FieldType)).before args0 about1 = true := code_word (m := ⟨15, 3⟩) (meth := k15m3) (c := k15c3) (by decide +kernel) rfl rfl rfl (by decide +kernel)
set_option maxRecDepth 65536 in
theorem w_c20 : (Jvm.Cond.code ({ cls := "java/lang/AbstractStringBuilder", name := "newCapacity", desc := "(I)I" } : Jvm.MethodName) jdk_68_method_10_code (6 : Nat) (Option.some Jvm.ClassFile.FieldType.int)).before args0 about1 = true := code_word (m := ⟨15, 4⟩) (meth := k15m4) (c := k15c4) (by decide +kernel) rfl rfl rfl (by decide +kernel)
set_option maxRecDepth 65536 in
theorem w_c21 : (Jvm.Cond.code ({ cls := "jdk/internal/util/ArraysSupport", name := "newLength", desc := "(III)I" } : Jvm.MethodName) jdk_48_method_27_code (4 : Nat) (Option.some Jvm.ClassFile.FieldType.int)).before args0 about1 = true := code_word (m := ⟨17, 1⟩) (meth := k17m1) (c := k17c1) (by decide +kernel) rfl rfl rfl (by decide +kernel)
set_option maxRecDepth 65536 in
theorem w_c22 : (Jvm.Cond.code ({ cls := "java/lang/Math", name := "max", desc := "(II)I" } : Jvm.MethodName) jdk_29_method_65_code (2 : Nat) (Option.some Jvm.ClassFile.FieldType.int)).before args0 about1 = true := code_word (m := ⟨18, 1⟩) (meth := k18m1) (c := k18c1) (by decide +kernel) rfl rfl rfl (by decide +kernel)
set_option maxRecDepth 65536 in
theorem w_c23 : (Jvm.Cond.code ({ cls := "java/util/Arrays", name := "copyOf", desc := "([BI)[B" } : Jvm.MethodName) jdk_65_method_121_code (3 : Nat) (Option.some (Jvm.ClassFile.FieldType.array Jvm.ClassFile.FieldType.byte))).before args0 about1 = true := code_word (m := ⟨19, 1⟩) (meth := k19m1) (c := k19c1) (by decide +kernel) rfl rfl rfl (by decide +kernel)
set_option maxRecDepth 65536 in
theorem w_c24 : (Jvm.Cond.code ({ cls := "java/lang/Math", name := "min", desc := "(II)I" } : Jvm.MethodName) jdk_29_method_69_code (2 : Nat) (Option.some Jvm.ClassFile.FieldType.int)).before args0 about1 = true := code_word (m := ⟨18, 2⟩) (meth := k18m2) (c := k18c2) (by decide +kernel) rfl rfl rfl (by decide +kernel)
set_option maxRecDepth 65536 in
theorem w_c25 : (Jvm.Cond.code ({ cls := "java/lang/AbstractStringBuilder", name := "putStringAt", desc := "(ILjava/lang/String;)V" } : Jvm.MethodName) jdk_68_method_73_code (3 : Nat) (Option.none : Option Jvm.ClassFile.FieldType)).before args0 about1 = true := code_word (m := ⟨15, 10⟩) (meth := k15m10) (c := k15c10) (by decide +kernel) rfl rfl rfl (by decide +kernel)
set_option maxRecDepth 65536 in
theorem w_c26 : (Jvm.Cond.code ({ cls := "java/lang/AbstractStringBuilder", name := "inflateIfNeededFor", desc := "(Ljava/lang/String;)V" } : Jvm.MethodName) jdk_68_method_71_code (2 : Nat) (Option.none : Option Jvm.ClassFile.FieldType)).before args0 about1 = true := code_word (m := ⟨15, 9⟩) (meth := k15m9) (c := k15c9) (by decide +kernel) rfl rfl rfl (by decide +kernel)
set_option maxRecDepth 65536 in
theorem w_c27 : (Jvm.Cond.code ({ cls := "java/lang/String", name := "getBytes", desc := "([BIB)V" } : Jvm.MethodName) jdk_42_method_147_code (4 : Nat) (Option.none : Option Jvm.ClassFile.FieldType)).before args0 about1 = true := code_word (m := ⟨7, 5⟩) (meth := k7m5) (c := k7c5) (by decide +kernel) rfl rfl rfl (by decide +kernel)
set_option maxRecDepth 65536 in
theorem w_c28 : (Jvm.Cond.code ({ cls := "java/lang/StringBuilder", name := "append", desc := "(J)Ljava/lang/StringBuilder;" } : Jvm.MethodName) jdk_67_method_16_code (3 : Nat) (Option.some (Jvm.ClassFile.FieldType.object "java/lang/StringBuilder"))).before args0 about1 = true := code_word (m := ⟨16, 2⟩) (meth := k16m2) (c := k16c2) (by decide +kernel) rfl rfl rfl (by decide +kernel)
set_option maxRecDepth 65536 in
theorem w_c29 : (Jvm.Cond.code ({ cls := "java/lang/AbstractStringBuilder", name := "append", desc := "(J)Ljava/lang/AbstractStringBuilder;" } : Jvm.MethodName) jdk_68_method_33_code (5 : Nat) (Option.some (Jvm.ClassFile.FieldType.object "java/lang/AbstractStringBuilder"))).before args0 about1 = true := code_word (m := ⟨15, 6⟩) (meth := k15m6) (c := k15c6) (by decide +kernel) rfl rfl rfl (by decide +kernel)
set_option maxRecDepth 65536 in
theorem w_c30 : (Jvm.Cond.code ({ cls := "java/lang/Long", name := "stringSize", desc := "(J)I" } : Jvm.MethodName) jdk_35_method_15_code (6 : Nat) (Option.some Jvm.ClassFile.FieldType.int)).before args0 about1 = true := code_word (m := ⟨22, 1⟩) (meth := k22m1) (c := k22c1) (by decide +kernel) rfl rfl rfl (by decide +kernel)
set_option maxRecDepth 65536 in
theorem w_c31 : (Jvm.Cond.code ({ cls := "java/lang/AbstractStringBuilder", name := "isLatin1", desc := "()Z" } : Jvm.MethodName) jdk_68_method_68_code (1 : Nat) (Option.some Jvm.ClassFile.FieldType.boolean)).before args0 about1 = true := code_word (m := ⟨15, 8⟩) (meth := k15m8) (c := k15c8) (by decide +kernel) rfl rfl rfl (by decide +kernel)
set_option maxRecDepth 65536 in
theorem w_c32 : (Jvm.Cond.code ({ cls := "java/lang/Long", name := "getChars", desc := "(JI[B)I" } : Jvm.MethodName) jdk_35_method_14_code (11 : Nat) (Option.some Jvm.ClassFile.FieldType.int)).before args0 about1 = true := code_word (m := ⟨22, 0⟩) (meth := k22m0) (c := k22c0) (by decide +kernel) rfl rfl rfl (by decide +kernel)
set_option maxRecDepth 65536 in
theorem w_c33 : (Jvm.Cond.code ({ cls := "java/lang/StringBuilder", name := "toString", desc := "()Ljava/lang/String;" } : Jvm.MethodName) jdk_67_method_42_code (1 : Nat) (Option.some (Jvm.ClassFile.FieldType.object "java/lang/String"))).before args0 about1 = true := code_word (m := ⟨16, 3⟩) (meth := k16m3) (c := k16c3) (by decide +kernel) rfl rfl rfl (by decide +kernel)
set_option maxRecDepth 65536 in
theorem w_c34 : (Jvm.Cond.code ({ cls := "java/lang/String", name := "<init>", desc := "(Ljava/lang/StringBuilder;)V" } : Jvm.MethodName) jdk_42_method_53_code (2 : Nat) (Option.none : Option Jvm.ClassFile.FieldType)).before args0 about1 = true := code_word (m := ⟨7, 2⟩) (meth := k7m2) (c := k7c2) (by decide +kernel) rfl rfl rfl (by decide +kernel)
set_option maxRecDepth 65536 in
theorem w_c35 : (Jvm.Cond.code ({ cls := "java/lang/String", name := "<init>", desc := "(Ljava/lang/AbstractStringBuilder;Ljava/lang/Void;)V" } : Jvm.MethodName) jdk_42_method_150_code (5 : Nat) (Option.none : Option Jvm.ClassFile.FieldType)).before args0 about1 = true := code_word (m := ⟨7, 7⟩) (meth := k7m7) (c := k7c7) (by decide +kernel) rfl rfl rfl (by decide +kernel)
set_option maxRecDepth 65536 in
theorem w_c36 : (Jvm.Cond.code ({ cls := "java/lang/AbstractStringBuilder", name := "getValue", desc := "()[B" } : Jvm.MethodName) jdk_68_method_64_code (1 : Nat) (Option.some (Jvm.ClassFile.FieldType.array Jvm.ClassFile.FieldType.byte))).before args0 about1 = true := code_word (m := ⟨15, 7⟩) (meth := k15m7) (c := k15c7) (by decide +kernel) rfl rfl rfl (by decide +kernel)
set_option maxRecDepth 65536 in
theorem w_c37 : (Jvm.Cond.code ({ cls := "java/lang/StringBuilder", name := "length", desc := "()I" } : Jvm.MethodName) jdk_67_method_93_code (1 : Nat) (Option.some Jvm.ClassFile.FieldType.int)).before args0 about1 = true := code_word (m := ⟨16, 4⟩) (meth := k16m4) (c := k16c4) (by decide +kernel) rfl rfl rfl (by decide +kernel)
set_option maxRecDepth 65536 in
theorem w_c38 : (Jvm.Cond.code ({ cls := "java/lang/AbstractStringBuilder", name := "length", desc := "()I" } : Jvm.MethodName) jdk_68_method_6_code (1 : Nat) (Option.some Jvm.ClassFile.FieldType.int)).before args0 about1 = true := code_word (m := ⟨15, 2⟩) (meth := k15m2) (c := k15c2) (by decide +kernel) rfl rfl rfl (by decide +kernel)
set_option maxRecDepth 65536 in
theorem w_c39 : (Jvm.Cond.code ({ cls := "java/util/Arrays", name := "copyOfRange", desc := "([BII)[B" } : Jvm.MethodName) jdk_65_method_132_code (3 : Nat) (Option.some (Jvm.ClassFile.FieldType.array Jvm.ClassFile.FieldType.byte))).before args0 about1 = true := code_word (m := ⟨19, 3⟩) (meth := k19m3) (c := k19c3) (by decide +kernel) rfl rfl rfl (by decide +kernel)
set_option maxRecDepth 65536 in
theorem w_c40 : (Jvm.Cond.code ({ cls := "java/util/Arrays", name := "copyOfRangeByte", desc := "([BII)[B" } : Jvm.MethodName) jdk_65_method_133_code (5 : Nat) (Option.some (Jvm.ClassFile.FieldType.array Jvm.ClassFile.FieldType.byte))).before args0 about1 = true := code_word (m := ⟨19, 4⟩) (meth := k19m4) (c := k19c4) (by decide +kernel) rfl rfl rfl (by decide +kernel)
set_option maxRecDepth 65536 in
theorem w_c41 : (Jvm.Cond.code ({ cls := "java/util/Arrays", name := "checkLength", desc := "(II)V" } : Jvm.MethodName) jdk_65_method_131_code (2 : Nat) (Option.none : Option Jvm.ClassFile.FieldType)).before args0 about1 = true := code_word (m := ⟨19, 2⟩) (meth := k19m2) (c := k19c2) (by decide +kernel) rfl rfl rfl (by decide +kernel)
set_option maxRecDepth 65536 in
theorem w_c42 : (Jvm.Cond.code ({ cls := "com/example/tallymark/tallymark/MalformedTextExceptionGetMessagePinLaw", name := "digits", desc := "(J)I" } : Jvm.MethodName) method_3_code (3 : Nat) (Option.some Jvm.ClassFile.FieldType.int)).before args0 about1 = true := code_word (m := ⟨1, 2⟩) (meth := k1m2) (c := k1c2) (by decide +kernel) rfl rfl rfl (by decide +kernel)
set_option maxRecDepth 65536 in
theorem w_c43 : (Jvm.Cond.code ({ cls := "com/example/tallymark/tallymark/MalformedTextExceptionGetMessagePinLaw", name := "lit", desc := "(Ljava/lang/String;ILjava/lang/String;)Z" } : Jvm.MethodName) method_6_code (3 : Nat) (Option.some Jvm.ClassFile.FieldType.boolean)).before args0 about1 = true := code_word (m := ⟨1, 5⟩) (meth := k1m5) (c := k1c5) (by decide +kernel) rfl rfl rfl (by decide +kernel)
set_option maxRecDepth 65536 in
theorem w_c44 : (Jvm.Cond.code ({ cls := "com/example/tallymark/tallymark/MalformedTextExceptionGetMessagePinLaw", name := "at", desc := "(Ljava/lang/String;ILjava/lang/String;I)Z" } : Jvm.MethodName) method_5_code (4 : Nat) (Option.some Jvm.ClassFile.FieldType.boolean)).before args0 about1 = true := code_word (m := ⟨1, 4⟩) (meth := k1m4) (c := k1c4) (by decide +kernel) rfl rfl rfl (by decide +kernel)
set_option maxRecDepth 65536 in
theorem w_c45 : (Jvm.Cond.code ({ cls := "java/lang/String", name := "charAt", desc := "(I)C" } : Jvm.MethodName) jdk_42_method_56_code (2 : Nat) (Option.some Jvm.ClassFile.FieldType.char)).before args0 about1 = true := code_word (m := ⟨7, 4⟩) (meth := k7m4) (c := k7c4) (by decide +kernel) rfl rfl rfl (by decide +kernel)
set_option maxRecDepth 65536 in
theorem w_c46 : (Jvm.Cond.code ({ cls := "java/lang/String", name := "isLatin1", desc := "()Z" } : Jvm.MethodName) jdk_42_method_154_code (1 : Nat) (Option.some Jvm.ClassFile.FieldType.boolean)).before args0 about1 = true := code_word (m := ⟨7, 9⟩) (meth := k7m9) (c := k7c9) (by decide +kernel) rfl rfl rfl (by decide +kernel)
set_option maxRecDepth 65536 in
theorem w_c47 : (Jvm.Cond.code ({ cls := "java/lang/StringLatin1", name := "charAt", desc := "([BI)C" } : Jvm.MethodName) jdk_43_method_2_code (2 : Nat) (Option.some Jvm.ClassFile.FieldType.char)).before args0 about1 = true := code_word (m := ⟨24, 1⟩) (meth := k24m1) (c := k24c1) (by decide +kernel) rfl rfl rfl (by decide +kernel)
set_option maxRecDepth 65536 in
theorem w_c48 : (Jvm.Cond.code ({ cls := "java/lang/String", name := "checkIndex", desc := "(II)V" } : Jvm.MethodName) jdk_42_method_155_code (2 : Nat) (Option.none : Option Jvm.ClassFile.FieldType)).before args0 about1 = true := code_word (m := ⟨7, 10⟩) (meth := k7m10) (c := k7c10) (by decide +kernel) rfl rfl rfl (by decide +kernel)
set_option maxRecDepth 65536 in
theorem w_c49 : (Jvm.Cond.code ({ cls := "jdk/internal/util/Preconditions", name := "checkIndex", desc := "(IILjava/util/function/BiFunction;)I" } : Jvm.MethodName) jdk_41_method_11_code (3 : Nat) (Option.some Jvm.ClassFile.FieldType.int)).before args0 about1 = true := code_word (m := ⟨25, 1⟩) (meth := k25m1) (c := k25c1) (by decide +kernel) rfl rfl rfl (by decide +kernel)
set_option maxRecDepth 65536 in
theorem w_c50 : (Jvm.Cond.code ({ cls := "com/example/tallymark/tallymark/MalformedTextExceptionGetMessagePinLaw", name := "dig", desc := "(Ljava/lang/String;IJIIJ)Z" } : Jvm.MethodName) method_4_code (8 : Nat) (Option.some Jvm.ClassFile.FieldType.boolean)).before args0 about1 = true := code_word (m := ⟨1, 3⟩) (meth := k1m3) (c := k1c3) (by decide +kernel) rfl rfl rfl (by decide +kernel)
def codes1 : List Jvm.Cond := [Jvm.Cond.code x code maxLocals ret, Jvm.Cond.code ({ cls := "java/lang/String", name := "<init>", desc := "([C)V" } : Jvm.MethodName) jdk_42_method_3_code (2 : Nat) (Option.none : Option Jvm.ClassFile.FieldType), Jvm.Cond.code ({ cls := "java/lang/String", name := "<init>", desc := "([CIILjava/lang/Void;)V" } : Jvm.MethodName) jdk_42_method_149_code (6 : Nat) (Option.none : Option Jvm.ClassFile.FieldType), Jvm.Cond.code ({ cls := "java/lang/Object", name := "<init>", desc := "()V" } : Jvm.MethodName) object_method_1_code (1 : Nat) (Option.none : Option Jvm.ClassFile.FieldType), Jvm.Cond.code ({ cls := "java/lang/StringUTF16", name := "compress", desc := "([CII)[B" } : Jvm.MethodName) jdk_52_method_16_code (6 : Nat) (Option.some (Jvm.ClassFile.FieldType.array Jvm.ClassFile.FieldType.byte)), Jvm.Cond.code ({ cls := "java/lang/StringUTF16", name := "compress", desc := "([CI[BII)I" } : Jvm.MethodName) jdk_52_method_21_code (7 : Nat) (Option.some Jvm.ClassFile.FieldType.int), Jvm.Cond.code ({ cls := "java/lang/StringUTF16", name := "coderFromArrayLen", desc := "([BI)B" } : Jvm.MethodName) jdk_52_method_15_code (2 : Nat) (Option.some Jvm.ClassFile.FieldType.byte), Jvm.Cond.code ({ cls := "com/example/tallymark/tallymark/MalformedTextException", name := "<init>", desc := "(JLjava/lang/String;)V" } : Jvm.MethodName) prog_10_method_1_code (4 : Nat) (Option.none : Option Jvm.ClassFile.FieldType), Jvm.Cond.code ({ cls := "java/nio/charset/CharacterCodingException", name := "<init>", desc := "()V" } : Jvm.MethodName) jdk_2189_method_1_code (1 : Nat) (Option.none : Option Jvm.ClassFile.FieldType), Jvm.Cond.code ({ cls := "java/io/IOException", name := "<init>", desc := "()V" } : Jvm.MethodName) jdk_131_method_1_code (1 : Nat) (Option.none : Option Jvm.ClassFile.FieldType), Jvm.Cond.code ({ cls := "java/lang/Exception", name := "<init>", desc := "()V" } : Jvm.MethodName) jdk_59_method_1_code (1 : Nat) (Option.none : Option Jvm.ClassFile.FieldType), Jvm.Cond.code ({ cls := "java/lang/Throwable", name := "<init>", desc := "()V" } : Jvm.MethodName) jdk_78_method_1_code (1 : Nat) (Option.none : Option Jvm.ClassFile.FieldType), Jvm.Cond.code ({ cls := "com/example/tallymark/tallymark/MalformedTextException", name := "getMessage", desc := "()Ljava/lang/String;" } : Jvm.MethodName) prog_10_method_4_code (1 : Nat) (Option.some (Jvm.ClassFile.FieldType.object "java/lang/String")), Jvm.Cond.code ({ cls := "java/lang/StringBuilder", name := "<init>", desc := "()V" } : Jvm.MethodName) jdk_67_method_1_code (1 : Nat) (Option.none : Option Jvm.ClassFile.FieldType), Jvm.Cond.code ({ cls := "java/lang/AbstractStringBuilder", name := "<init>", desc := "(I)V" } : Jvm.MethodName) jdk_68_method_2_code (2 : Nat) (Option.none : Option Jvm.ClassFile.FieldType), Jvm.Cond.code ({ cls := "java/lang/StringBuilder", name := "append", desc := "(Ljava/lang/String;)Ljava/lang/StringBuilder;" } : Jvm.MethodName) jdk_67_method_7_code (2 : Nat) (Option.some (Jvm.ClassFile.FieldType.object "java/lang/StringBuilder")), Jvm.Cond.code ({ cls := "java/lang/AbstractStringBuilder", name := "append", desc := "(Ljava/lang/String;)Ljava/lang/AbstractStringBuilder;" } : Jvm.MethodName) jdk_68_method_22_code (3 : Nat) (Option.some (Jvm.ClassFile.FieldType.object "java/lang/AbstractStringBuilder")), Jvm.Cond.code ({ cls := "java/lang/String", name := "length", desc := "()I" } : Jvm.MethodName) jdk_42_method_54_code (1 : Nat) (Option.some Jvm.ClassFile.FieldType.int), Jvm.Cond.code ({ cls := "java/lang/String", name := "coder", desc := "()B" } : Jvm.MethodName) jdk_42_method_152_code (1 : Nat) (Option.some Jvm.ClassFile.FieldType.byte), Jvm.Cond.code ({ cls := "java/lang/AbstractStringBuilder", name := "ensureCapacityInternal", desc := "(I)V" } : Jvm.MethodName) jdk_68_method_9_code (3 : Nat) (Option.none : Option Jvm.ClassFile.FieldType), Jvm.Cond.code ({ cls := "java/lang/AbstractStringBuilder", name := "newCapacity", desc := "(I)I" } : Jvm.MethodName) jdk_68_method_10_code (6 : Nat) (Option.some Jvm.ClassFile.FieldType.int), Jvm.Cond.code ({ cls := "jdk/internal/util/ArraysSupport", name := "newLength", desc := "(III)I" } : Jvm.MethodName) jdk_48_method_27_code (4 : Nat) (Option.some Jvm.ClassFile.FieldType.int), Jvm.Cond.code ({ cls := "java/lang/Math", name := "max", desc := "(II)I" } : Jvm.MethodName) jdk_29_method_65_code (2 : Nat) (Option.some Jvm.ClassFile.FieldType.int), Jvm.Cond.code ({ cls := "java/util/Arrays", name := "copyOf", desc := "([BI)[B" } : Jvm.MethodName) jdk_65_method_121_code (3 : Nat) (Option.some (Jvm.ClassFile.FieldType.array Jvm.ClassFile.FieldType.byte)), Jvm.Cond.code ({ cls := "java/lang/Math", name := "min", desc := "(II)I" } : Jvm.MethodName) jdk_29_method_69_code (2 : Nat) (Option.some Jvm.ClassFile.FieldType.int), Jvm.Cond.code ({ cls := "java/lang/AbstractStringBuilder", name := "putStringAt", desc := "(ILjava/lang/String;)V" } : Jvm.MethodName) jdk_68_method_73_code (3 : Nat) (Option.none : Option Jvm.ClassFile.FieldType), Jvm.Cond.code ({ cls := "java/lang/AbstractStringBuilder", name := "inflateIfNeededFor", desc := "(Ljava/lang/String;)V" } : Jvm.MethodName) jdk_68_method_71_code (2 : Nat) (Option.none : Option Jvm.ClassFile.FieldType), Jvm.Cond.code ({ cls := "java/lang/String", name := "getBytes", desc := "([BIB)V" } : Jvm.MethodName) jdk_42_method_147_code (4 : Nat) (Option.none : Option Jvm.ClassFile.FieldType), Jvm.Cond.code ({ cls := "java/lang/StringBuilder", name := "append", desc := "(J)Ljava/lang/StringBuilder;" } : Jvm.MethodName) jdk_67_method_16_code (3 : Nat) (Option.some (Jvm.ClassFile.FieldType.object "java/lang/StringBuilder")), Jvm.Cond.code ({ cls := "java/lang/AbstractStringBuilder", name := "append", desc := "(J)Ljava/lang/AbstractStringBuilder;" } : Jvm.MethodName) jdk_68_method_33_code (5 : Nat) (Option.some (Jvm.ClassFile.FieldType.object "java/lang/AbstractStringBuilder")), Jvm.Cond.code ({ cls := "java/lang/Long", name := "stringSize", desc := "(J)I" } : Jvm.MethodName) jdk_35_method_15_code (6 : Nat) (Option.some Jvm.ClassFile.FieldType.int), Jvm.Cond.code ({ cls := "java/lang/AbstractStringBuilder", name := "isLatin1", desc := "()Z" } : Jvm.MethodName) jdk_68_method_68_code (1 : Nat) (Option.some Jvm.ClassFile.FieldType.boolean), Jvm.Cond.code ({ cls := "java/lang/Long", name := "getChars", desc := "(JI[B)I" } : Jvm.MethodName) jdk_35_method_14_code (11 : Nat) (Option.some Jvm.ClassFile.FieldType.int), Jvm.Cond.code ({ cls := "java/lang/StringBuilder", name := "toString", desc := "()Ljava/lang/String;" } : Jvm.MethodName) jdk_67_method_42_code (1 : Nat) (Option.some (Jvm.ClassFile.FieldType.object "java/lang/String")), Jvm.Cond.code ({ cls := "java/lang/String", name := "<init>", desc := "(Ljava/lang/StringBuilder;)V" } : Jvm.MethodName) jdk_42_method_53_code (2 : Nat) (Option.none : Option Jvm.ClassFile.FieldType), Jvm.Cond.code ({ cls := "java/lang/String", name := "<init>", desc := "(Ljava/lang/AbstractStringBuilder;Ljava/lang/Void;)V" } : Jvm.MethodName) jdk_42_method_150_code (5 : Nat) (Option.none : Option Jvm.ClassFile.FieldType), Jvm.Cond.code ({ cls := "java/lang/AbstractStringBuilder", name := "getValue", desc := "()[B" } : Jvm.MethodName) jdk_68_method_64_code (1 : Nat) (Option.some (Jvm.ClassFile.FieldType.array Jvm.ClassFile.FieldType.byte)), Jvm.Cond.code ({ cls := "java/lang/StringBuilder", name := "length", desc := "()I" } : Jvm.MethodName) jdk_67_method_93_code (1 : Nat) (Option.some Jvm.ClassFile.FieldType.int), Jvm.Cond.code ({ cls := "java/lang/AbstractStringBuilder", name := "length", desc := "()I" } : Jvm.MethodName) jdk_68_method_6_code (1 : Nat) (Option.some Jvm.ClassFile.FieldType.int), Jvm.Cond.code ({ cls := "java/util/Arrays", name := "copyOfRange", desc := "([BII)[B" } : Jvm.MethodName) jdk_65_method_132_code (3 : Nat) (Option.some (Jvm.ClassFile.FieldType.array Jvm.ClassFile.FieldType.byte)), Jvm.Cond.code ({ cls := "java/util/Arrays", name := "copyOfRangeByte", desc := "([BII)[B" } : Jvm.MethodName) jdk_65_method_133_code (5 : Nat) (Option.some (Jvm.ClassFile.FieldType.array Jvm.ClassFile.FieldType.byte)), Jvm.Cond.code ({ cls := "java/util/Arrays", name := "checkLength", desc := "(II)V" } : Jvm.MethodName) jdk_65_method_131_code (2 : Nat) (Option.none : Option Jvm.ClassFile.FieldType), Jvm.Cond.code ({ cls := "com/example/tallymark/tallymark/MalformedTextExceptionGetMessagePinLaw", name := "digits", desc := "(J)I" } : Jvm.MethodName) method_3_code (3 : Nat) (Option.some Jvm.ClassFile.FieldType.int), Jvm.Cond.code ({ cls := "com/example/tallymark/tallymark/MalformedTextExceptionGetMessagePinLaw", name := "lit", desc := "(Ljava/lang/String;ILjava/lang/String;)Z" } : Jvm.MethodName) method_6_code (3 : Nat) (Option.some Jvm.ClassFile.FieldType.boolean), Jvm.Cond.code ({ cls := "com/example/tallymark/tallymark/MalformedTextExceptionGetMessagePinLaw", name := "at", desc := "(Ljava/lang/String;ILjava/lang/String;I)Z" } : Jvm.MethodName) method_5_code (4 : Nat) (Option.some Jvm.ClassFile.FieldType.boolean), Jvm.Cond.code ({ cls := "java/lang/String", name := "charAt", desc := "(I)C" } : Jvm.MethodName) jdk_42_method_56_code (2 : Nat) (Option.some Jvm.ClassFile.FieldType.char), Jvm.Cond.code ({ cls := "java/lang/String", name := "isLatin1", desc := "()Z" } : Jvm.MethodName) jdk_42_method_154_code (1 : Nat) (Option.some Jvm.ClassFile.FieldType.boolean), Jvm.Cond.code ({ cls := "java/lang/StringLatin1", name := "charAt", desc := "([BI)C" } : Jvm.MethodName) jdk_43_method_2_code (2 : Nat) (Option.some Jvm.ClassFile.FieldType.char), Jvm.Cond.code ({ cls := "java/lang/String", name := "checkIndex", desc := "(II)V" } : Jvm.MethodName) jdk_42_method_155_code (2 : Nat) (Option.none : Option Jvm.ClassFile.FieldType), Jvm.Cond.code ({ cls := "jdk/internal/util/Preconditions", name := "checkIndex", desc := "(IILjava/util/function/BiFunction;)I" } : Jvm.MethodName) jdk_41_method_11_code (3 : Nat) (Option.some Jvm.ClassFile.FieldType.int), Jvm.Cond.code ({ cls := "com/example/tallymark/tallymark/MalformedTextExceptionGetMessagePinLaw", name := "dig", desc := "(Ljava/lang/String;IJIIJ)Z" } : Jvm.MethodName) method_4_code (8 : Nat) (Option.some Jvm.ClassFile.FieldType.boolean)]
set_option maxRecDepth 65536 in
theorem codes_eq : words1.filter isCode = codes1 := rfl
theorem w_codes : ∀ c ∈ words1.filter isCode, c.before args0 about1 = true := by
  rw [codes_eq]
  intro c hc
  simp only [codes1, List.mem_cons, List.not_mem_nil, or_false] at hc
  rcases hc with rfl | rfl | rfl | rfl | rfl | rfl | rfl | rfl | rfl | rfl | rfl | rfl | rfl | rfl | rfl | rfl | rfl | rfl | rfl | rfl | rfl | rfl | rfl | rfl | rfl | rfl | rfl | rfl | rfl | rfl | rfl | rfl | rfl | rfl | rfl | rfl | rfl | rfl | rfl | rfl | rfl | rfl | rfl | rfl | rfl | rfl | rfl | rfl | rfl | rfl | rfl
  · exact w_c0
  · exact w_c1
  · exact w_c2
  · exact w_c3
  · exact w_c4
  · exact w_c5
  · exact w_c6
  · exact w_c7
  · exact w_c8
  · exact w_c9
  · exact w_c10
  · exact w_c11
  · exact w_c12
  · exact w_c13
  · exact w_c14
  · exact w_c15
  · exact w_c16
  · exact w_c17
  · exact w_c18
  · exact w_c19
  · exact w_c20
  · exact w_c21
  · exact w_c22
  · exact w_c23
  · exact w_c24
  · exact w_c25
  · exact w_c26
  · exact w_c27
  · exact w_c28
  · exact w_c29
  · exact w_c30
  · exact w_c31
  · exact w_c32
  · exact w_c33
  · exact w_c34
  · exact w_c35
  · exact w_c36
  · exact w_c37
  · exact w_c38
  · exact w_c39
  · exact w_c40
  · exact w_c41
  · exact w_c42
  · exact w_c43
  · exact w_c44
  · exact w_c45
  · exact w_c46
  · exact w_c47
  · exact w_c48
  · exact w_c49
  · exact w_c50
set_option maxRecDepth 65536 in
theorem w_t1 : (words1.take 24).all (fun c => isCode c || c.before args0 about1) = true := by decide +kernel
set_option maxRecDepth 65536 in
theorem w_t2 : ((words1.drop 24).take 24).all (fun c => isCode c || c.before args0 about1) = true := by decide +kernel
set_option maxRecDepth 65536 in
theorem w_t3 : (((words1.drop 24).drop 24).take 24).all (fun c => isCode c || c.before args0 about1) = true := by decide +kernel
set_option maxRecDepth 65536 in
theorem w_t4 : ((((words1.drop 24).drop 24).drop 24).take 24).all (fun c => isCode c || c.before args0 about1) = true := by decide +kernel
set_option maxRecDepth 65536 in
theorem w_t5 : (((((words1.drop 24).drop 24).drop 24).drop 24).take 24).all (fun c => isCode c || c.before args0 about1) = true := by decide +kernel
set_option maxRecDepth 65536 in
theorem w_t6 : ((((((words1.drop 24).drop 24).drop 24).drop 24).drop 24).take 24).all (fun c => isCode c || c.before args0 about1) = true := by decide +kernel
set_option maxRecDepth 65536 in
theorem w_t7 : (((((((words1.drop 24).drop 24).drop 24).drop 24).drop 24).drop 24).take 24).all (fun c => isCode c || c.before args0 about1) = true := by decide +kernel
set_option maxRecDepth 65536 in
theorem w_t8 : ((((((((words1.drop 24).drop 24).drop 24).drop 24).drop 24).drop 24).drop 24).take 24).all (fun c => isCode c || c.before args0 about1) = true := by decide +kernel
set_option maxRecDepth 65536 in
theorem w_t9 : (((((((((words1.drop 24).drop 24).drop 24).drop 24).drop 24).drop 24).drop 24).drop 24).take 24).all (fun c => isCode c || c.before args0 about1) = true := by decide +kernel
set_option maxRecDepth 65536 in
theorem w_t10 : ((((((((((words1.drop 24).drop 24).drop 24).drop 24).drop 24).drop 24).drop 24).drop 24).drop 24).take 24).all (fun c => isCode c || c.before args0 about1) = true := by decide +kernel
set_option maxRecDepth 65536 in
theorem w_t11 : (((((((((((words1.drop 24).drop 24).drop 24).drop 24).drop 24).drop 24).drop 24).drop 24).drop 24).drop 24).take 24).all (fun c => isCode c || c.before args0 about1) = true := by decide +kernel
set_option maxRecDepth 65536 in
theorem w_t12 : ((((((((((((words1.drop 24).drop 24).drop 24).drop 24).drop 24).drop 24).drop 24).drop 24).drop 24).drop 24).drop 24).take 24).all (fun c => isCode c || c.before args0 about1) = true := by decide +kernel
set_option maxRecDepth 65536 in
theorem w_t13 : (((((((((((((words1.drop 24).drop 24).drop 24).drop 24).drop 24).drop 24).drop 24).drop 24).drop 24).drop 24).drop 24).drop 24).take 24).all (fun c => isCode c || c.before args0 about1) = true := by decide +kernel
set_option maxRecDepth 65536 in
theorem w_t14 : (((((((((((((words1.drop 24).drop 24).drop 24).drop 24).drop 24).drop 24).drop 24).drop 24).drop 24).drop 24).drop 24).drop 24).drop 24).all (fun c => isCode c || c.before args0 about1) = true := by decide +kernel
theorem w_tables : (allAtoms (Jvm.Cond.code x code maxLocals ret :: tables_1)).before args0 about1 = true := by
  rw [allAtoms_all]
  show words1.all (fun c => c.before args0 about1) = true
  refine all_split ?_ w_codes
  rw [← List.take_append_drop 24 words1, List.all_append, w_t1, ← List.take_append_drop 24 (words1.drop 24), List.all_append, w_t2, ← List.take_append_drop 24 ((words1.drop 24).drop 24), List.all_append, w_t3, ← List.take_append_drop 24 (((words1.drop 24).drop 24).drop 24), List.all_append, w_t4, ← List.take_append_drop 24 ((((words1.drop 24).drop 24).drop 24).drop 24), List.all_append, w_t5, ← List.take_append_drop 24 (((((words1.drop 24).drop 24).drop 24).drop 24).drop 24), List.all_append, w_t6, ← List.take_append_drop 24 ((((((words1.drop 24).drop 24).drop 24).drop 24).drop 24).drop 24), List.all_append, w_t7, ← List.take_append_drop 24 (((((((words1.drop 24).drop 24).drop 24).drop 24).drop 24).drop 24).drop 24), List.all_append, w_t8, ← List.take_append_drop 24 ((((((((words1.drop 24).drop 24).drop 24).drop 24).drop 24).drop 24).drop 24).drop 24), List.all_append, w_t9, ← List.take_append_drop 24 (((((((((words1.drop 24).drop 24).drop 24).drop 24).drop 24).drop 24).drop 24).drop 24).drop 24), List.all_append, w_t10, ← List.take_append_drop 24 ((((((((((words1.drop 24).drop 24).drop 24).drop 24).drop 24).drop 24).drop 24).drop 24).drop 24).drop 24), List.all_append, w_t11, ← List.take_append_drop 24 (((((((((((words1.drop 24).drop 24).drop 24).drop 24).drop 24).drop 24).drop 24).drop 24).drop 24).drop 24).drop 24), List.all_append, w_t12, ← List.take_append_drop 24 ((((((((((((words1.drop 24).drop 24).drop 24).drop 24).drop 24).drop 24).drop 24).drop 24).drop 24).drop 24).drop 24).drop 24), List.all_append, w_t13, w_t14]
  rfl
set_option maxRecDepth 65536 in
theorem w_rest : rest_1_c.before args0 about1 = true := by decide +kernel
set_option maxRecDepth 65536 in
theorem w_case : (Jvm.Cond.and given_1 narrow_1).before args0 about1 = true := by decide +kernel
set_option maxRecDepth 65536 in
theorem w_consts : constsHeld consts_1 about1 := Jvm.Lit.constsHeldB_iff.mp (by decide +kernel)
theorem w_applies : (headSpec (Jvm.Cond.code x code maxLocals ret :: tables_1) room_1).applies x e0.platform about1 = true :=
  (Spec.applies_iff w_frames).mpr ⟨w_running, w_runnable, w_alone, w_named, w_hears, w_ripe, w_room, w_tables⟩
theorem atStart : AtStart classFile x code maxLocals ret World_1 tables_1 room_1 Calls_1 rest_1 Pre_1 launch0 p0 e0 about1 theMethod args0 below0 :=
  ⟨lists_1, trivial, launch0.admits_env _ _ _, launch0.least_env, fairChoices_fair.cas, fairChoices_fair.clock, w_frames, w_args, w_heap, w_applies, ⟨(by decide +kernel : framesKnown about1 = true), ⟨(by decide +kernel : tablesKnown about1 = true), ⟨w_consts, trivial⟩⟩⟩, w_rest, w_case⟩
end start1
theorem witness_1 : WitnessClaimed_1 := ⟨start1.p0, start1.e0, start1.about1, start1.theMethod, start1.args0, start1.below0, start1.atStart⟩
end Jvm.Pilot.@@N@@
