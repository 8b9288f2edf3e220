import JvmDerived
import JvmDerived.Pilot.@@N@@Statement
import JvmDerived.Pilot.@@N@@Code
set_option linter.unusedVariables false
set_option linter.unusedSimpArgs false
namespace Jvm.Pilot.@@N@@
open Jvm Jvm.ClassFile Sem Op Lib Jvm.Free Jvm.Stand Jvm.LawKit Jvm.RoadKit Bundle Jvm.Pilot.@@N@@.Jvm.D

/-! own_K: where a walk stands, with all that its steps ask; own_Ct: a body's contract. -/
section Own
def own_Cl (p : Program) (e : Env) (below : List Frame) (G : State → Prop) : Prop := ∀ S S', (∀ t, Steps p.tables e below S' t → Steps p.tables e below S t) → G S' → G S
def own_Out (p : Program) (e : Env) (m : MethodId) (below : List Frame) (T : State) (v : Option Value) (S : State) : Prop := ∀ fs : List Frame, (∀ (f : JFrame) (acts : List Action), f.method = m → f.locked = none → f.entered = [] → (doReturn e (T.setTop f) acts v).1 = T.setFrames fs) → Steps p.tables e below S (T.setFrames fs)
def own_Fin (p : Program) (l : Launch) (e : Env) (R : Room) (s : State) (m : MethodId) (args : Array Value) (below : List Frame) (meth : Method) (c : Code) (Q : Option Value → Heap → Prop) (G : State → Prop) (Z : State) : Prop :=
  ∀ (T : State) (L : List Loc) (k n : Nat) (v : Option Value) (S : State), Stand p l e R s m args below meth c T L k n → Fr Z.heap.size L → Ext Z.heap T.heap → k ≤ R.cells → n ≤ R.slots → (meth.sig.returnType = none → v = none) → Q v T.heap → own_Out p e m below T v S → G S
def own_K (p : Program) (l : Launch) (e : Env) (R : Room) (s : State) (m : MethodId) (args : Array Value) (below : List Frame) (meth : Method) (c : Code) (bytes : ByteArray) (own nm : String) (mx : Nat) (ret : Option FieldType) (Q : Option Value → Heap → Prop) (G : State → Prop) (Z T : State) (L : List Loc) (k n : Nat) (h : Heap) : Prop :=
  Stand p l e R s m args below meth c T L k n ∧ p.tables.exec = Jvm.exec ∧ c.code = bytes ∧ c.maxLocals = mx ∧ s.vm.findClass own = some m.cls ∧ meth.name = nm ∧ meth.sig.returnType = ret ∧ Z.Warmed39 s.vm ∧ T.heap = h ∧ Fr Z.heap.size L ∧ Ext Z.heap h ∧ own_Cl p e below G ∧ own_Fin p l e R s m args below meth c Q G Z
def own_Ct (l : Launch) (Z : State) (y : MethodName) (bytes : ByteArray) (mx : Nat) (ret : Option FieldType) (ws : List Jvm.Cond) (rm : Room) (as' : Array Value) (h0 : Heap) (Q : Option Value → Heap → Prop) : Prop :=
  MetFree l y (head1 (Jvm.Cond.code y bytes mx ret :: ws) rm) (fun a U => a = as' ∧ Z.Warmed39 U.vm ∧ U.heap = h0) (fun _ _ _ _ _ => True) (fun _ U o U' => ∃ v L, o = .returned v ∧ (Fr Z.heap.size L ∧ Ext Z.heap U'.heap ∧ Q v U'.heap) ∧ FrameEnd U o U' L rm.cells rm.slots)
def own_CtK (l : Launch) (Z : State) (y : MethodName) (bytes : ByteArray) (mx : Nat) (ret : Option FieldType) (ws : List Jvm.Cond) (rm : Room) (as' : Array Value) (h0 : Heap) (Q : Option Value → Heap → Prop) : Prop :=
  MetFree l y (head1 (Jvm.Cond.code y bytes mx ret :: ws) rm) (fun a U => a = as' ∧ Z.Warmed39 U.vm ∧ U.heap = h0) (fun _ _ bl s _ => s.vm.MethodsKnown ∧ s.vm.FramesKnown bl) (fun _ U o U' => ∃ v L, o = .returned v ∧ (Fr Z.heap.size L ∧ Ext Z.heap U'.heap ∧ Q v U'.heap) ∧ FrameEnd U o U' L rm.cells rm.slots)
variable {p : Program} {l : Launch} {e : Env} {R : Room} {s : State} {m : MethodId} {args : Array Value} {below : List Frame} {meth : Method} {c : Code} {bytes : ByteArray} {own nm : String} {mx : Nat} {ret : Option FieldType} {Q : Option Value → Heap → Prop} {G : State → Prop} {Z T T' : State} {L L' : List Loc} {k n k' n' : Nat} {h h' h1 h2 : Heap} {a0 : Array Value} {pc pc' : Nat} {Ls Ls' : Array Slot} {st rest : List Value}
theorem own_K.X (K : own_K p l e R s m args below meth c bytes own nm mx ret Q G Z T L k n h) : Stand p l e R s m args below meth c T L k n := K.1
theorem own_K.here (K : own_K p l e R s m args below meth c bytes own nm mx ret Q G Z T L k n h) : At T m c below := K.1.here
theorem own_K.hx (K : own_K p l e R s m args below meth c bytes own nm mx ret Q G Z T L k n h) : p.tables.exec = Jvm.exec := K.2.1
theorem own_K.hby (K : own_K p l e R s m args below meth c bytes own nm mx ret Q G Z T L k n h) : c.code = bytes := K.2.2.1
theorem own_K.hml (K : own_K p l e R s m args below meth c bytes own nm mx ret Q G Z T L k n h) : c.maxLocals = mx := K.2.2.2.1
theorem own_K.hown (K : own_K p l e R s m args below meth c bytes own nm mx ret Q G Z T L k n h) : s.vm.findClass own = some m.cls := K.2.2.2.2.1
theorem own_K.hnm (K : own_K p l e R s m args below meth c bytes own nm mx ret Q G Z T L k n h) : meth.name = nm := K.2.2.2.2.2.1
theorem own_K.hret (K : own_K p l e R s m args below meth c bytes own nm mx ret Q G Z T L k n h) : meth.sig.returnType = ret := K.2.2.2.2.2.2.1
theorem own_K.hZ (K : own_K p l e R s m args below meth c bytes own nm mx ret Q G Z T L k n h) : Z.Warmed39 s.vm := K.2.2.2.2.2.2.2.1
theorem own_K.eh (K : own_K p l e R s m args below meth c bytes own nm mx ret Q G Z T L k n h) : T.heap = h := K.2.2.2.2.2.2.2.2.1
theorem own_K.fr (K : own_K p l e R s m args below meth c bytes own nm mx ret Q G Z T L k n h) : Fr Z.heap.size L := K.2.2.2.2.2.2.2.2.2.1
theorem own_K.O (K : own_K p l e R s m args below meth c bytes own nm mx ret Q G Z T L k n h) : Ext Z.heap h := K.2.2.2.2.2.2.2.2.2.2.1
theorem own_K.cl (K : own_K p l e R s m args below meth c bytes own nm mx ret Q G Z T L k n h) : own_Cl p e below G := K.2.2.2.2.2.2.2.2.2.2.2.1
theorem own_K.fin (K : own_K p l e R s m args below meth c bytes own nm mx ret Q G Z T L k n h) : own_Fin p l e R s m args below meth c Q G Z := K.2.2.2.2.2.2.2.2.2.2.2.2
theorem own_K.nx (K : own_K p l e R s m args below meth c bytes own nm mx ret Q G Z T L k n h) (X' : Stand p l e R s m args below meth c T' L' k' n') (e' : T'.heap = h') (N' : Fr Z.heap.size L') (O' : Ext Z.heap h') : own_K p l e R s m args below meth c bytes own nm mx ret Q G Z T' L' k' n' h' :=
  ⟨X', K.hx, K.hby, K.hml, K.hown, K.hnm, K.hret, K.hZ, e', N', O', K.cl, K.fin⟩
theorem own_K.more (K : own_K p l e R s m args below meth c bytes own nm mx ret Q G Z T L k n h) (hk : k ≤ k') (hn : n ≤ n') : own_K p l e R s m args below meth c bytes own nm mx ret Q G Z T L k' n' h :=
  K.nx (K.X.more hk hn) K.eh K.fr K.O
theorem own_cat1 {v : Value} (h : v.isRef = true) : v.category = 1 := by cases v <;> simp [Value.isRef] at h <;> rfl
/-- the heap goes on: what was written lies in cells at or above the elder heap's end -/
theorem own_ext_refl (h : Heap) : Ext h h := ⟨Nat.le_refl _, fun _ _ q => q⟩
theorem own_ext_trans (E : Ext h h1) (E' : Ext h1 h2) : Ext h h2 := ⟨Nat.le_trans E.1 E'.1, fun a c q => E'.2 a c (E.2 a c q)⟩
theorem own_ext_keep {ws : List Addr} (E : Ext h h1) (K : Keep h1 h2 ws) (q : ∀ x ∈ ws, h.size ≤ x) : Ext h h2 := ⟨Nat.le_trans E.1 K.1, fun a c r => K.2.1 a c (E.2 a c r) fun z => absurd (Array.getElem?_eq_some_iff.mp r).1 (Nat.not_lt.mpr (q a z))⟩
theorem own_ext_wr {a : Addr} {sl : Nat} {v : Value} (E : Ext h h1) (W : Wr h1 h2 a sl v) (q : h.size ≤ a) : Ext h h2 := own_ext_keep E (Keep.of_wr W) fun x hx => by cases List.mem_singleton.mp hx; exact q
theorem own_keep_ext (K : Keep h h1 []) : Ext h h1 := ⟨K.1, fun a c q => K.2.1 a c q (fun z => nomatch z)⟩
theorem own_ext_of_keep (E : Ext h h1) : Keep h h1 [] := (Keep.refl h []).ext E
/-- a body's contract, from its walk -/
theorem own_body {y : MethodName} {ws : List Jvm.Cond} {rm : Room} {as' : Array Value} {h0 : Heap} (hpl : plainFor y = true) (hef : ∀ m, entryFrame m as' mx = mkF m 0 Ls []) (O0 : Ext Z.heap h0)
    (H : ∀ (p : Program) (e : Env) (s : State) (m : MethodId) (below : List Frame) (meth : Method) (c : Code) (T : State) (G : State → Prop), own_K p l e rm s m as' below meth c bytes y.cls y.name mx ret Q G Z T [] 0 0 h0 → G (T.setTop (mkF m 0 Ls []))) :
    own_Ct l Z y bytes mx ret ws rm as' h0 Q := by
  refine MetFree.of_bodySF hpl hisR ?_
  intro p e s m args below meth c s₁ Bd hml0 hP hK
  obtain ⟨rfl, hZ, hh⟩ := hP
  have X0 : Stand p l e rm s m args below meth c s₁ [] 0 0 := Stand.of_body Bd
  have e0 : s₁.heap = h0 := by rw [← hh, Bd.state]; rfl
  have hlocks := BodyLoose.notSynchronized Bd
  have q := H p e s m below meth c s₁ (fun S => ∃ (T : State) (L : List Loc) (k n : Nat) (v : Option Value), Stand p l e rm s m args below meth c T L k n ∧ Fr Z.heap.size L ∧ Ext Z.heap T.heap ∧ k ≤ rm.cells ∧ n ≤ rm.slots ∧ (meth.sig.returnType = none → v = none) ∧ Q v T.heap ∧ own_Out p e m below T v S)
    ⟨X0, Bd.exec, Bd.bytes, hml0, findClass_of_methodNamed Bd.named, (name_of_methodNamed Bd.named Bd.method).1, Bd.returns, hZ, e0, Fr.nil _, O0, fun S S' hs ⟨T, L, k, n, v, h1, h2, h3, h4, h5, h6, h7, h8⟩ => ⟨T, L, k, n, v, h1, h2, h3, h4, h5, h6, h7, fun fs hfs => hs _ (h8 fs hfs)⟩, fun T L k n v S h1 h2 h3 h4 h5 h6 h7 h8 => ⟨T, L, k, n, v, h1, h2, h3, h4, h5, h6, h7, h8⟩⟩
  obtain ⟨T, L, k, n, v, X, N, O, hk, hn, hv, hQ, hout⟩ := q
  obtain ⟨fs, hr, hrun, hended, hW, hsame⟩ := X.leave (v := v) hv
  refine ⟨_, _, castTop (hef m) (hout fs hr), hrun, hended, _, _, rfl, ⟨N, O, hQ⟩, ⟨_, rfl⟩, hW, hsame.mono hk hn⟩
/-- the same, where a stack trace is filled in beneath -/
theorem own_bodyK {y : MethodName} {ws : List Jvm.Cond} {rm : Room} {as' : Array Value} {h0 : Heap} (hpl : plainFor y = true) (hef : ∀ m, entryFrame m as' mx = mkF m 0 Ls []) (O0 : Ext Z.heap h0)
    (H : ∀ (p : Program) (e : Env) (s : State) (m : MethodId) (below : List Frame) (meth : Method) (c : Code) (T : State) (G : State → Prop), s.vm.MethodsKnown ∧ s.vm.FramesKnown below → s.heap = h0 → own_K p l e rm s m as' below meth c bytes y.cls y.name mx ret Q G Z T [] 0 0 h0 → G (T.setTop (mkF m 0 Ls []))) :
    own_CtK l Z y bytes mx ret ws rm as' h0 Q := by
  refine MetFree.of_bodySF hpl hisR ?_
  intro p e s m args below meth c s₁ Bd hml0 hP hK
  obtain ⟨rfl, hZ, hh⟩ := hP
  have X0 : Stand p l e rm s m args below meth c s₁ [] 0 0 := Stand.of_body Bd
  have e0 : s₁.heap = h0 := by rw [← hh, Bd.state]; rfl
  have hlocks := BodyLoose.notSynchronized Bd
  have q := H p e s m below meth c s₁ (fun S => ∃ (T : State) (L : List Loc) (k n : Nat) (v : Option Value), Stand p l e rm s m args below meth c T L k n ∧ Fr Z.heap.size L ∧ Ext Z.heap T.heap ∧ k ≤ rm.cells ∧ n ≤ rm.slots ∧ (meth.sig.returnType = none → v = none) ∧ Q v T.heap ∧ own_Out p e m below T v S) hK hh
    ⟨X0, Bd.exec, Bd.bytes, hml0, findClass_of_methodNamed Bd.named, (name_of_methodNamed Bd.named Bd.method).1, Bd.returns, hZ, e0, Fr.nil _, O0, fun S S' hs ⟨T, L, k, n, v, h1, h2, h3, h4, h5, h6, h7, h8⟩ => ⟨T, L, k, n, v, h1, h2, h3, h4, h5, h6, h7, fun fs hfs => hs _ (h8 fs hfs)⟩, fun T L k n v S h1 h2 h3 h4 h5 h6 h7 h8 => ⟨T, L, k, n, v, h1, h2, h3, h4, h5, h6, h7, h8⟩⟩
  obtain ⟨T, L, k, n, v, X, N, O, hk, hn, hv, hQ, hout⟩ := q
  obtain ⟨fs, hr, hrun, hended, hW, hsame⟩ := X.leave (v := v) hv
  refine ⟨_, _, castTop (hef m) (hout fs hr), hrun, hended, _, _, rfl, ⟨N, O, hQ⟩, ⟨_, rfl⟩, hW, hsame.mono hk hn⟩

theorem own_iadd (K : own_K p l e R s m args below meth c bytes own nm mx ret Q G Z T L k n h) {x y : Int32} (hd : decode bytes pc = .ok (.iadd, 1)) (hp : pc + 1 = pc') (kk : G (T.setTop (mkF m pc' Ls (.int (x + y) :: rest)))) : G (T.setTop (mkF m pc Ls (.int y :: .int x :: rest))) := by
  subst hp
  exact K.cl _ _ (fun t q => XS.iadd K.here K.hx rfl (hb K.hby hd) rfl q) kk
theorem own_isub (K : own_K p l e R s m args below meth c bytes own nm mx ret Q G Z T L k n h) {x y : Int32} (hd : decode bytes pc = .ok (.isub, 1)) (hp : pc + 1 = pc') (kk : G (T.setTop (mkF m pc' Ls (.int (x - y) :: rest)))) : G (T.setTop (mkF m pc Ls (.int y :: .int x :: rest))) := by
  subst hp
  exact K.cl _ _ (fun t q => XS.isub K.here K.hx rfl (hb K.hby hd) rfl q) kk
theorem own_imul (K : own_K p l e R s m args below meth c bytes own nm mx ret Q G Z T L k n h) {x y : Int32} (hd : decode bytes pc = .ok (.imul, 1)) (hp : pc + 1 = pc') (kk : G (T.setTop (mkF m pc' Ls (.int (x * y) :: rest)))) : G (T.setTop (mkF m pc Ls (.int y :: .int x :: rest))) := by
  subst hp
  exact K.cl _ _ (fun t q => XS.imul K.here K.hx rfl (hb K.hby hd) rfl q) kk
theorem own_iand (K : own_K p l e R s m args below meth c bytes own nm mx ret Q G Z T L k n h) {x y : Int32} (hd : decode bytes pc = .ok (.iand, 1)) (hp : pc + 1 = pc') (kk : G (T.setTop (mkF m pc' Ls (.int (x &&& y) :: rest)))) : G (T.setTop (mkF m pc Ls (.int y :: .int x :: rest))) := by
  subst hp
  exact K.cl _ _ (fun t q => XS.iand K.here K.hx rfl (hb K.hby hd) rfl q) kk
theorem own_ior (K : own_K p l e R s m args below meth c bytes own nm mx ret Q G Z T L k n h) {x y : Int32} (hd : decode bytes pc = .ok (.ior, 1)) (hp : pc + 1 = pc') (kk : G (T.setTop (mkF m pc' Ls (.int (x ||| y) :: rest)))) : G (T.setTop (mkF m pc Ls (.int y :: .int x :: rest))) := by
  subst hp
  exact K.cl _ _ (fun t q => XS.ior K.here K.hx rfl (hb K.hby hd) rfl q) kk
theorem own_ixor (K : own_K p l e R s m args below meth c bytes own nm mx ret Q G Z T L k n h) {x y : Int32} (hd : decode bytes pc = .ok (.ixor, 1)) (hp : pc + 1 = pc') (kk : G (T.setTop (mkF m pc' Ls (.int (x ^^^ y) :: rest)))) : G (T.setTop (mkF m pc Ls (.int y :: .int x :: rest))) := by
  subst hp
  exact K.cl _ _ (fun t q => XS.ixor K.here K.hx rfl (hb K.hby hd) rfl q) kk
theorem own_ishl (K : own_K p l e R s m args below meth c bytes own nm mx ret Q G Z T L k n h) {x y : Int32} (hd : decode bytes pc = .ok (.ishl, 1)) (hp : pc + 1 = pc') (kk : G (T.setTop (mkF m pc' Ls (.int (x <<< (y &&& 31)) :: rest)))) : G (T.setTop (mkF m pc Ls (.int y :: .int x :: rest))) := by
  subst hp
  exact K.cl _ _ (fun t q => XS.ishl K.here K.hx rfl (hb K.hby hd) rfl q) kk
theorem own_ishr (K : own_K p l e R s m args below meth c bytes own nm mx ret Q G Z T L k n h) {x y : Int32} (hd : decode bytes pc = .ok (.ishr, 1)) (hp : pc + 1 = pc') (kk : G (T.setTop (mkF m pc' Ls (.int (x >>> (y &&& 31)) :: rest)))) : G (T.setTop (mkF m pc Ls (.int y :: .int x :: rest))) := by
  subst hp
  exact K.cl _ _ (fun t q => XS.ishr K.here K.hx rfl (hb K.hby hd) rfl q) kk
theorem own_iushr (K : own_K p l e R s m args below meth c bytes own nm mx ret Q G Z T L k n h) {x y : Int32} (hd : decode bytes pc = .ok (.iushr, 1)) (hp : pc + 1 = pc') (kk : G (T.setTop (mkF m pc' Ls (.int ((x.toUInt32 >>> (y &&& 31).toUInt32).toInt32) :: rest)))) : G (T.setTop (mkF m pc Ls (.int y :: .int x :: rest))) := by
  subst hp
  exact K.cl _ _ (fun t q => XS.iushr K.here K.hx rfl (hb K.hby hd) rfl q) kk
theorem own_ladd (K : own_K p l e R s m args below meth c bytes own nm mx ret Q G Z T L k n h) {x y : Int64} (hd : decode bytes pc = .ok (.ladd, 1)) (hp : pc + 1 = pc') (kk : G (T.setTop (mkF m pc' Ls (.long (x + y) :: rest)))) : G (T.setTop (mkF m pc Ls (.long y :: .long x :: rest))) := by
  subst hp
  exact K.cl _ _ (fun t q => XS.ladd K.here K.hx rfl (hb K.hby hd) rfl q) kk
theorem own_lsub (K : own_K p l e R s m args below meth c bytes own nm mx ret Q G Z T L k n h) {x y : Int64} (hd : decode bytes pc = .ok (.lsub, 1)) (hp : pc + 1 = pc') (kk : G (T.setTop (mkF m pc' Ls (.long (x - y) :: rest)))) : G (T.setTop (mkF m pc Ls (.long y :: .long x :: rest))) := by
  subst hp
  exact K.cl _ _ (fun t q => XS.lsub K.here K.hx rfl (hb K.hby hd) rfl q) kk
theorem own_lmul (K : own_K p l e R s m args below meth c bytes own nm mx ret Q G Z T L k n h) {x y : Int64} (hd : decode bytes pc = .ok (.lmul, 1)) (hp : pc + 1 = pc') (kk : G (T.setTop (mkF m pc' Ls (.long (x * y) :: rest)))) : G (T.setTop (mkF m pc Ls (.long y :: .long x :: rest))) := by
  subst hp
  exact K.cl _ _ (fun t q => XS.lmul K.here K.hx rfl (hb K.hby hd) rfl q) kk
theorem own_land (K : own_K p l e R s m args below meth c bytes own nm mx ret Q G Z T L k n h) {x y : Int64} (hd : decode bytes pc = .ok (.land, 1)) (hp : pc + 1 = pc') (kk : G (T.setTop (mkF m pc' Ls (.long (x &&& y) :: rest)))) : G (T.setTop (mkF m pc Ls (.long y :: .long x :: rest))) := by
  subst hp
  exact K.cl _ _ (fun t q => XS.land K.here K.hx rfl (hb K.hby hd) rfl q) kk
theorem own_lor (K : own_K p l e R s m args below meth c bytes own nm mx ret Q G Z T L k n h) {x y : Int64} (hd : decode bytes pc = .ok (.lor, 1)) (hp : pc + 1 = pc') (kk : G (T.setTop (mkF m pc' Ls (.long (x ||| y) :: rest)))) : G (T.setTop (mkF m pc Ls (.long y :: .long x :: rest))) := by
  subst hp
  exact K.cl _ _ (fun t q => XS.lor K.here K.hx rfl (hb K.hby hd) rfl q) kk
theorem own_lxor (K : own_K p l e R s m args below meth c bytes own nm mx ret Q G Z T L k n h) {x y : Int64} (hd : decode bytes pc = .ok (.lxor, 1)) (hp : pc + 1 = pc') (kk : G (T.setTop (mkF m pc' Ls (.long (x ^^^ y) :: rest)))) : G (T.setTop (mkF m pc Ls (.long y :: .long x :: rest))) := by
  subst hp
  exact K.cl _ _ (fun t q => XS.lxor K.here K.hx rfl (hb K.hby hd) rfl q) kk
theorem own_lshl (K : own_K p l e R s m args below meth c bytes own nm mx ret Q G Z T L k n h) {x : Int64} {y : Int32} (hd : decode bytes pc = .ok (.lshl, 1)) (hp : pc + 1 = pc') (kk : G (T.setTop (mkF m pc' Ls (.long (x <<< (y &&& 0x3f).toInt64) :: rest)))) : G (T.setTop (mkF m pc Ls (.int y :: .long x :: rest))) := by
  subst hp
  exact K.cl _ _ (fun t q => XS.lshl K.here K.hx rfl (hb K.hby hd) rfl q) kk
theorem own_lshr (K : own_K p l e R s m args below meth c bytes own nm mx ret Q G Z T L k n h) {x : Int64} {y : Int32} (hd : decode bytes pc = .ok (.lshr, 1)) (hp : pc + 1 = pc') (kk : G (T.setTop (mkF m pc' Ls (.long (x >>> (y &&& 0x3f).toInt64) :: rest)))) : G (T.setTop (mkF m pc Ls (.int y :: .long x :: rest))) := by
  subst hp
  exact K.cl _ _ (fun t q => XS.lshr K.here K.hx rfl (hb K.hby hd) rfl q) kk
theorem own_lushr (K : own_K p l e R s m args below meth c bytes own nm mx ret Q G Z T L k n h) {x : Int64} {y : Int32} (hd : decode bytes pc = .ok (.lushr, 1)) (hp : pc + 1 = pc') (kk : G (T.setTop (mkF m pc' Ls (.long ((x.toUInt64 >>> (y &&& 0x3f).toInt64.toUInt64).toInt64) :: rest)))) : G (T.setTop (mkF m pc Ls (.int y :: .long x :: rest))) := by
  subst hp
  exact K.cl _ _ (fun t q => XS.lushr K.here K.hx rfl (hb K.hby hd) rfl q) kk
theorem own_idiv (K : own_K p l e R s m args below meth c bytes own nm mx ret Q G Z T L k n h) {x y : Int32} (hd : decode bytes pc = .ok (.idiv, 1)) (hp : pc + 1 = pc') (hy : y ≠ 0) (kk : G (T.setTop (mkF m pc' Ls (.int (x / y) :: rest)))) : G (T.setTop (mkF m pc Ls (.int y :: .int x :: rest))) := by
  subst hp
  exact K.cl _ _ (fun t q => XS.idiv K.here K.hx rfl (hb K.hby hd) rfl hy q) kk
theorem own_ldiv (K : own_K p l e R s m args below meth c bytes own nm mx ret Q G Z T L k n h) {x y : Int64} (hd : decode bytes pc = .ok (.ldiv, 1)) (hp : pc + 1 = pc') (hy : y ≠ 0) (kk : G (T.setTop (mkF m pc' Ls (.long (x / y) :: rest)))) : G (T.setTop (mkF m pc Ls (.long y :: .long x :: rest))) := by
  subst hp
  exact K.cl _ _ (fun t q => XS.ldiv K.here K.hx rfl (hb K.hby hd) rfl hy q) kk
theorem own_irem (K : own_K p l e R s m args below meth c bytes own nm mx ret Q G Z T L k n h) {x y : Int32} (hd : decode bytes pc = .ok (.irem, 1)) (hp : pc + 1 = pc') (hy : y ≠ 0) (kk : G (T.setTop (mkF m pc' Ls (.int (x % y) :: rest)))) : G (T.setTop (mkF m pc Ls (.int y :: .int x :: rest))) := by
  subst hp
  exact K.cl _ _ (fun t q => iremM K.X K.hx rfl (hb K.hby hd) rfl hy q) kk
theorem own_lrem (K : own_K p l e R s m args below meth c bytes own nm mx ret Q G Z T L k n h) {x y : Int64} (hd : decode bytes pc = .ok (.lrem, 1)) (hp : pc + 1 = pc') (hy : y ≠ 0) (kk : G (T.setTop (mkF m pc' Ls (.long (x % y) :: rest)))) : G (T.setTop (mkF m pc Ls (.long y :: .long x :: rest))) := by
  subst hp
  exact K.cl _ _ (fun t q => XS.lrem K.here K.hx rfl (hb K.hby hd) rfl hy (by rw [lrem_mod]; exact q)) kk
theorem own_ineg (K : own_K p l e R s m args below meth c bytes own nm mx ret Q G Z T L k n h) {x : Int32} (hd : decode bytes pc = .ok (.ineg, 1)) (hp : pc + 1 = pc') (kk : G (T.setTop (mkF m pc' Ls (.int (-x) :: rest)))) : G (T.setTop (mkF m pc Ls (.int x :: rest))) := by
  subst hp
  exact K.cl _ _ (fun t q => XS.ineg K.here K.hx rfl (hb K.hby hd) rfl q) kk
theorem own_lneg (K : own_K p l e R s m args below meth c bytes own nm mx ret Q G Z T L k n h) {x : Int64} (hd : decode bytes pc = .ok (.lneg, 1)) (hp : pc + 1 = pc') (kk : G (T.setTop (mkF m pc' Ls (.long (-x) :: rest)))) : G (T.setTop (mkF m pc Ls (.long x :: rest))) := by
  subst hp
  exact K.cl _ _ (fun t q => XS.lneg K.here K.hx rfl (hb K.hby hd) rfl q) kk
theorem own_i2l (K : own_K p l e R s m args below meth c bytes own nm mx ret Q G Z T L k n h) {x : Int32} (hd : decode bytes pc = .ok (.i2l, 1)) (hp : pc + 1 = pc') (kk : G (T.setTop (mkF m pc' Ls (.long x.toInt64 :: rest)))) : G (T.setTop (mkF m pc Ls (.int x :: rest))) := by
  subst hp
  exact K.cl _ _ (fun t q => XS.i2l K.here K.hx rfl (hb K.hby hd) rfl q) kk
theorem own_l2i (K : own_K p l e R s m args below meth c bytes own nm mx ret Q G Z T L k n h) {x : Int64} (hd : decode bytes pc = .ok (.l2i, 1)) (hp : pc + 1 = pc') (kk : G (T.setTop (mkF m pc' Ls (.int x.toInt32 :: rest)))) : G (T.setTop (mkF m pc Ls (.long x :: rest))) := by
  subst hp
  exact K.cl _ _ (fun t q => XS.l2i K.here K.hx rfl (hb K.hby hd) rfl q) kk
theorem own_i2b (K : own_K p l e R s m args below meth c bytes own nm mx ret Q G Z T L k n h) {x : Int32} (hd : decode bytes pc = .ok (.i2b, 1)) (hp : pc + 1 = pc') (kk : G (T.setTop (mkF m pc' Ls (.int x.toInt8.toInt32 :: rest)))) : G (T.setTop (mkF m pc Ls (.int x :: rest))) := by
  subst hp
  exact K.cl _ _ (fun t q => XS.i2b K.here K.hx rfl (hb K.hby hd) rfl q) kk
theorem own_i2c (K : own_K p l e R s m args below meth c bytes own nm mx ret Q G Z T L k n h) {x : Int32} (hd : decode bytes pc = .ok (.i2c, 1)) (hp : pc + 1 = pc') (kk : G (T.setTop (mkF m pc' Ls (.int x.toUInt32.toUInt16.toUInt32.toInt32 :: rest)))) : G (T.setTop (mkF m pc Ls (.int x :: rest))) := by
  subst hp
  exact K.cl _ _ (fun t q => XS.i2c K.here K.hx rfl (hb K.hby hd) rfl q) kk
theorem own_i2s (K : own_K p l e R s m args below meth c bytes own nm mx ret Q G Z T L k n h) {x : Int32} (hd : decode bytes pc = .ok (.i2s, 1)) (hp : pc + 1 = pc') (kk : G (T.setTop (mkF m pc' Ls (.int x.toInt16.toInt32 :: rest)))) : G (T.setTop (mkF m pc Ls (.int x :: rest))) := by
  subst hp
  exact K.cl _ _ (fun t q => XS.i2s K.here K.hx rfl (hb K.hby hd) rfl q) kk
theorem own_lcmp (K : own_K p l e R s m args below meth c bytes own nm mx ret Q G Z T L k n h) {x y : Int64} (hd : decode bytes pc = .ok (.lcmp, 1)) (hp : pc + 1 = pc') (kk : G (T.setTop (mkF m pc' Ls (.int (lcmpW x y) :: rest)))) : G (T.setTop (mkF m pc Ls (.long y :: .long x :: rest))) := by
  subst hp
  exact K.cl _ _ (fun t q => XS.lcmp K.here K.hx rfl (hb K.hby hd) rfl q) kk
theorem own_pop (K : own_K p l e R s m args below meth c bytes own nm mx ret Q G Z T L k n h) {x : Value} (hd : decode bytes pc = .ok (.pop, 1)) (hp : pc + 1 = pc') (hc : x.category = 1) (kk : G (T.setTop (mkF m pc' Ls rest))) : G (T.setTop (mkF m pc Ls (x :: rest))) := by
  subst hp
  exact K.cl _ _ (fun t q => XS.pop K.here K.hx rfl (hb K.hby hd) rfl hc q) kk
theorem own_dup (K : own_K p l e R s m args below meth c bytes own nm mx ret Q G Z T L k n h) {x : Value} (hd : decode bytes pc = .ok (.dup, 1)) (hp : pc + 1 = pc') (hc : x.category = 1) (kk : G (T.setTop (mkF m pc' Ls (x :: x :: rest)))) : G (T.setTop (mkF m pc Ls (x :: rest))) := by
  subst hp
  exact K.cl _ _ (fun t q => XS.dup K.here K.hx rfl (hb K.hby hd) rfl hc q) kk
theorem own_dupX1 (K : own_K p l e R s m args below meth c bytes own nm mx ret Q G Z T L k n h) {x y : Value} (hd : decode bytes pc = .ok (.dup_x1, 1)) (hp : pc + 1 = pc') (hc : x.category = 1) (hc' : y.category = 1) (kk : G (T.setTop (mkF m pc' Ls (x :: y :: x :: rest)))) : G (T.setTop (mkF m pc Ls (x :: y :: rest))) := by
  subst hp
  exact K.cl _ _ (fun t q => XS.dupX1 K.here K.hx rfl (hb K.hby hd) rfl hc hc' q) kk
theorem own_aconstNull (K : own_K p l e R s m args below meth c bytes own nm mx ret Q G Z T L k n h)  (hd : decode bytes pc = .ok (.aconst_null, 1)) (hp : pc + 1 = pc') (kk : G (T.setTop (mkF m pc' Ls (.null :: st)))) : G (T.setTop (mkF m pc Ls st)) := by
  subst hp
  exact K.cl _ _ (fun t q => XS.aconstNull K.here K.hx rfl (hb K.hby hd)  q) kk
theorem own_iconst (K : own_K p l e R s m args below meth c bytes own nm mx ret Q G Z T L k n h) {i : Int} {v : Int32} (hd : decode bytes pc = .ok (.iconst i, 1)) (hp : pc + 1 = pc') (hv : Int32.ofInt i = v) (kk : G (T.setTop (mkF m pc' Ls (.int v :: st)))) : G (T.setTop (mkF m pc Ls st)) := by
  subst hp hv
  exact K.cl _ _ (fun t q => XS.iconst K.here K.hx rfl (hb K.hby hd) q) kk
theorem own_bipush (K : own_K p l e R s m args below meth c bytes own nm mx ret Q G Z T L k n h) {i : Int} {v : Int32} (hd : decode bytes pc = .ok (.bipush i, 2)) (hp : pc + 2 = pc') (hv : (Int8.ofInt i).toInt32 = v) (kk : G (T.setTop (mkF m pc' Ls (.int v :: st)))) : G (T.setTop (mkF m pc Ls st)) := by
  subst hp hv
  exact K.cl _ _ (fun t q => XS.bipush K.here K.hx rfl (hb K.hby hd) q) kk
theorem own_sipush (K : own_K p l e R s m args below meth c bytes own nm mx ret Q G Z T L k n h) {i : Int} {v : Int32} (hd : decode bytes pc = .ok (.sipush i, 3)) (hp : pc + 3 = pc') (hv : (Int16.ofInt i).toInt32 = v) (kk : G (T.setTop (mkF m pc' Ls (.int v :: st)))) : G (T.setTop (mkF m pc Ls st)) := by
  subst hp hv
  exact K.cl _ _ (fun t q => XS.sipush K.here K.hx rfl (hb K.hby hd) q) kk
theorem own_lconst (K : own_K p l e R s m args below meth c bytes own nm mx ret Q G Z T L k n h) {i : Fin 2} {v : Int64} (hd : decode bytes pc = .ok (.lconst i, 1)) (hp : pc + 1 = pc') (hv : Int64.ofNat i = v) (kk : G (T.setTop (mkF m pc' Ls (.long v :: st)))) : G (T.setTop (mkF m pc Ls st)) := by
  subst hp hv
  exact K.cl _ _ (fun t q => XS.lconst K.here K.hx rfl (hb K.hby hd) q) kk
theorem own_iload (K : own_K p l e R s m args below meth c bytes own nm mx ret Q G Z T L k n h) {j : Nat} {v : Int32} (hd : decode bytes pc = .ok (.iload j, 2)) (hp : pc + 2 = pc') (hl : Ls[j]? = some (.val (.int v))) (kk : G (T.setTop (mkF m pc' Ls (.int v :: st)))) : G (T.setTop (mkF m pc Ls st)) := by
  subst hp
  exact K.cl _ _ (fun t q => XS.iload K.here K.hx rfl (hb K.hby hd) hl q) kk
theorem own_iloadN (K : own_K p l e R s m args below meth c bytes own nm mx ret Q G Z T L k n h) {j : Fin 4} {v : Int32} (hd : decode bytes pc = .ok (.iload_n j, 1)) (hp : pc + 1 = pc') (hl : Ls[j.val]? = some (.val (.int v))) (kk : G (T.setTop (mkF m pc' Ls (.int v :: st)))) : G (T.setTop (mkF m pc Ls st)) := by
  subst hp
  exact K.cl _ _ (fun t q => XS.iloadN K.here K.hx rfl (hb K.hby hd) hl q) kk
theorem own_lload (K : own_K p l e R s m args below meth c bytes own nm mx ret Q G Z T L k n h) {j : Nat} {v : Int64} (hd : decode bytes pc = .ok (.lload j, 2)) (hp : pc + 2 = pc') (hl : Ls[j]? = some (.val (.long v))) (kk : G (T.setTop (mkF m pc' Ls (.long v :: st)))) : G (T.setTop (mkF m pc Ls st)) := by
  subst hp
  exact K.cl _ _ (fun t q => XS.lload K.here K.hx rfl (hb K.hby hd) hl q) kk
theorem own_lloadN (K : own_K p l e R s m args below meth c bytes own nm mx ret Q G Z T L k n h) {j : Fin 4} {v : Int64} (hd : decode bytes pc = .ok (.lload_n j, 1)) (hp : pc + 1 = pc') (hl : Ls[j.val]? = some (.val (.long v))) (kk : G (T.setTop (mkF m pc' Ls (.long v :: st)))) : G (T.setTop (mkF m pc Ls st)) := by
  subst hp
  exact K.cl _ _ (fun t q => XS.lloadN K.here K.hx rfl (hb K.hby hd) hl q) kk
theorem own_aload (K : own_K p l e R s m args below meth c bytes own nm mx ret Q G Z T L k n h) {j : Nat} {v : Value} (hd : decode bytes pc = .ok (.aload j, 2)) (hp : pc + 2 = pc') (hl : Ls[j]? = some (.val v)) (hv : v.isRef = true) (kk : G (T.setTop (mkF m pc' Ls (v :: st)))) : G (T.setTop (mkF m pc Ls st)) := by
  subst hp
  exact K.cl _ _ (fun t q => XS.aload K.here K.hx rfl (hb K.hby hd) hl hv q) kk
theorem own_aloadN (K : own_K p l e R s m args below meth c bytes own nm mx ret Q G Z T L k n h) {j : Fin 4} {v : Value} (hd : decode bytes pc = .ok (.aload_n j, 1)) (hp : pc + 1 = pc') (hl : Ls[j.val]? = some (.val v)) (hv : v.isRef = true) (kk : G (T.setTop (mkF m pc' Ls (v :: st)))) : G (T.setTop (mkF m pc Ls st)) := by
  subst hp
  exact K.cl _ _ (fun t q => XS.aloadN K.here K.hx rfl (hb K.hby hd) hl hv q) kk
theorem own_istore (K : own_K p l e R s m args below meth c bytes own nm mx ret Q G Z T L k n h) {j : Nat} {v : Int32} (hd : decode bytes pc = .ok (.istore j, 2)) (hp : pc + 2 = pc') (hl : storeLocals Ls j (.int v) = some Ls') (kk : G (T.setTop (mkF m pc' Ls' rest))) : G (T.setTop (mkF m pc Ls (.int v :: rest))) := by
  subst hp
  exact K.cl _ _ (fun t q => XS.istore K.here K.hx rfl (hb K.hby hd) rfl hl q) kk
theorem own_istoreN (K : own_K p l e R s m args below meth c bytes own nm mx ret Q G Z T L k n h) {j : Fin 4} {v : Int32} (hd : decode bytes pc = .ok (.istore_n j, 1)) (hp : pc + 1 = pc') (hl : storeLocals Ls j.val (.int v) = some Ls') (kk : G (T.setTop (mkF m pc' Ls' rest))) : G (T.setTop (mkF m pc Ls (.int v :: rest))) := by
  subst hp
  exact K.cl _ _ (fun t q => XS.istoreN K.here K.hx rfl (hb K.hby hd) rfl hl q) kk
theorem own_lstore (K : own_K p l e R s m args below meth c bytes own nm mx ret Q G Z T L k n h) {j : Nat} {v : Int64} (hd : decode bytes pc = .ok (.lstore j, 2)) (hp : pc + 2 = pc') (hl : storeLocals Ls j (.long v) = some Ls') (kk : G (T.setTop (mkF m pc' Ls' rest))) : G (T.setTop (mkF m pc Ls (.long v :: rest))) := by
  subst hp
  exact K.cl _ _ (fun t q => XS.lstore K.here K.hx rfl (hb K.hby hd) rfl hl q) kk
theorem own_lstoreN (K : own_K p l e R s m args below meth c bytes own nm mx ret Q G Z T L k n h) {j : Fin 4} {v : Int64} (hd : decode bytes pc = .ok (.lstore_n j, 1)) (hp : pc + 1 = pc') (hl : storeLocals Ls j.val (.long v) = some Ls') (kk : G (T.setTop (mkF m pc' Ls' rest))) : G (T.setTop (mkF m pc Ls (.long v :: rest))) := by
  subst hp
  exact K.cl _ _ (fun t q => XS.lstoreN K.here K.hx rfl (hb K.hby hd) rfl hl q) kk
theorem own_astore (K : own_K p l e R s m args below meth c bytes own nm mx ret Q G Z T L k n h) {j : Nat} {v : Value} (hd : decode bytes pc = .ok (.astore j, 2)) (hp : pc + 2 = pc') (hv : v.isRef = true) (hl : storeLocals Ls j v = some Ls') (kk : G (T.setTop (mkF m pc' Ls' rest))) : G (T.setTop (mkF m pc Ls (v :: rest))) := by
  subst hp
  exact K.cl _ _ (fun t q => XS.astore K.here K.hx rfl (hb K.hby hd) rfl hv hl q) kk
theorem own_astoreN (K : own_K p l e R s m args below meth c bytes own nm mx ret Q G Z T L k n h) {j : Fin 4} {v : Value} (hd : decode bytes pc = .ok (.astore_n j, 1)) (hp : pc + 1 = pc') (hv : v.isRef = true) (hl : storeLocals Ls j.val v = some Ls') (kk : G (T.setTop (mkF m pc' Ls' rest))) : G (T.setTop (mkF m pc Ls (v :: rest))) := by
  subst hp
  exact K.cl _ _ (fun t q => XS.astoreN K.here K.hx rfl (hb K.hby hd) rfl hv hl q) kk
theorem own_iinc (K : own_K p l e R s m args below meth c bytes own nm mx ret Q G Z T L k n h) {j : Nat} {cst : Int} {x v : Int32} (hd : decode bytes pc = .ok (.iinc j cst, 3)) (hp : pc + 3 = pc') (hl : Ls[j]? = some (.val (.int x))) (hl' : storeLocals Ls j (.int (x + Int32.ofInt cst)) = some Ls') (kk : G (T.setTop (mkF m pc' Ls' st))) : G (T.setTop (mkF m pc Ls st)) := by
  subst hp
  exact K.cl _ _ (fun t q => XS.iinc K.here K.hx rfl (hb K.hby hd) hl hl' q) kk
theorem own_goto (K : own_K p l e R s m args below meth c bytes own nm mx ret Q G Z T L k n h) {o : Int} (hd : decode bytes pc = .ok (.goto o, 3)) (hp : ((pc : Int) + o).toNat = pc') (ho : 0 ≤ (pc : Int) + o) (kk : G (T.setTop (mkF m pc' Ls st))) : G (T.setTop (mkF m pc Ls st)) :=
  K.cl _ _ (fun t q => XS.goto K.here K.hx rfl rfl (hb K.hby hd) ho hp q) kk
theorem own_ifYes (K : own_K p l e R s m args below meth c bytes own nm mx ret Q G Z T L k n h) {cd : ClassFile.Cond} {x : Int32} {o : Int} (hd : decode bytes pc = .ok (.ifCond cd o, 3)) (hp : ((pc : Int) + o).toNat = pc') (ho : 0 ≤ (pc : Int) + o) (hc : ifCond.holds cd x = true) (kk : G (T.setTop (mkF m pc' Ls rest))) : G (T.setTop (mkF m pc Ls (.int x :: rest))) :=
  K.cl _ _ (fun t q => XS.ifYes K.here K.hx rfl rfl (hb K.hby hd) rfl hc ho hp q) kk
theorem own_ifNo (K : own_K p l e R s m args below meth c bytes own nm mx ret Q G Z T L k n h) {cd : ClassFile.Cond} {x : Int32} {o : Int} (hd : decode bytes pc = .ok (.ifCond cd o, 3)) (hp : pc + 3 = pc') (hc : ifCond.holds cd x = false) (kk : G (T.setTop (mkF m pc' Ls rest))) : G (T.setTop (mkF m pc Ls (.int x :: rest))) := by
  subst hp
  exact K.cl _ _ (fun t q => XS.ifNo K.here K.hx rfl (hb K.hby hd) rfl hc q) kk
theorem own_icmpYes (K : own_K p l e R s m args below meth c bytes own nm mx ret Q G Z T L k n h) {cd : ClassFile.Cond} {x y : Int32} {o : Int} (hd : decode bytes pc = .ok (.if_icmp cd o, 3)) (hp : ((pc : Int) + o).toNat = pc') (ho : 0 ≤ (pc : Int) + o) (hc : if_icmp.holds cd x y = true) (kk : G (T.setTop (mkF m pc' Ls rest))) : G (T.setTop (mkF m pc Ls (.int y :: .int x :: rest))) :=
  K.cl _ _ (fun t q => XS.icmpYes K.here K.hx rfl rfl (hb K.hby hd) rfl hc ho hp q) kk
theorem own_icmpNo (K : own_K p l e R s m args below meth c bytes own nm mx ret Q G Z T L k n h) {cd : ClassFile.Cond} {x y : Int32} {o : Int} (hd : decode bytes pc = .ok (.if_icmp cd o, 3)) (hp : pc + 3 = pc') (hc : if_icmp.holds cd x y = false) (kk : G (T.setTop (mkF m pc' Ls rest))) : G (T.setTop (mkF m pc Ls (.int y :: .int x :: rest))) := by
  subst hp
  exact K.cl _ _ (fun t q => XS.icmpNo K.here K.hx rfl (hb K.hby hd) rfl hc q) kk
theorem own_ifnullYes (K : own_K p l e R s m args below meth c bytes own nm mx ret Q G Z T L k n h) {o : Int} (hd : decode bytes pc = .ok (.ifnull o, 3)) (hp : ((pc : Int) + o).toNat = pc') (ho : 0 ≤ (pc : Int) + o) (kk : G (T.setTop (mkF m pc' Ls rest))) : G (T.setTop (mkF m pc Ls (.null :: rest))) :=
  K.cl _ _ (fun t q => XS.ifnullYes K.here K.hx rfl rfl (hb K.hby hd) rfl ho hp q) kk
theorem own_ifnullNo (K : own_K p l e R s m args below meth c bytes own nm mx ret Q G Z T L k n h) {o : Int} {b : Addr} (hd : decode bytes pc = .ok (.ifnull o, 3)) (hp : pc + 3 = pc') (kk : G (T.setTop (mkF m pc' Ls rest))) : G (T.setTop (mkF m pc Ls (.ref b :: rest))) := by
  subst hp
  exact K.cl _ _ (fun t q => XS.ifnullNo K.here K.hx rfl (hb K.hby hd) rfl q) kk
theorem own_ifnonnullYes (K : own_K p l e R s m args below meth c bytes own nm mx ret Q G Z T L k n h) {o : Int} {b : Addr} (hd : decode bytes pc = .ok (.ifnonnull o, 3)) (hp : ((pc : Int) + o).toNat = pc') (ho : 0 ≤ (pc : Int) + o) (kk : G (T.setTop (mkF m pc' Ls rest))) : G (T.setTop (mkF m pc Ls (.ref b :: rest))) :=
  K.cl _ _ (fun t q => XS.ifnonnullYes K.here K.hx rfl rfl (hb K.hby hd) rfl ho hp q) kk
theorem own_ifnonnullNo (K : own_K p l e R s m args below meth c bytes own nm mx ret Q G Z T L k n h) {o : Int} (hd : decode bytes pc = .ok (.ifnonnull o, 3)) (hp : pc + 3 = pc') (kk : G (T.setTop (mkF m pc' Ls rest))) : G (T.setTop (mkF m pc Ls (.null :: rest))) := by
  subst hp
  exact K.cl _ _ (fun t q => XS.ifnonnullNo K.here K.hx rfl (hb K.hby hd) rfl q) kk
theorem own_acmp (K : own_K p l e R s m args below meth c bytes own nm mx ret Q G Z T L k n h) {cd : ACond} {x y : Value} {o : Int} {same : Bool} (hd : decode bytes pc = .ok (.if_acmp cd o, 3)) (h1 : x.isRef = true) (h2 : y.isRef = true) (hq : decide (x = y) = same) (ho : 0 ≤ (pc : Int) + o) (hp : pc' = if acV cd same = true then ((pc : Int) + o).toNat else pc + 3) (kk : G (T.setTop (mkF m pc' Ls rest))) : G (T.setTop (mkF m pc Ls (y :: x :: rest))) :=
  K.cl _ _ (fun t q => RoadKit.acmp K.X K.hx rfl h1 h2 rfl (hb K.hby hd) rfl hq ho hp q) kk
theorem own_getF (K : own_K p l e R s m args below meth c bytes own nm mx ret Q G Z T L k n h) {R0 O nf d host : String} {index : Nat} {a : Addr} {v : Value} (w : (Cond.fieldLink own index R0 nf d).before a0 Z = true ∨ (Cond.fieldLinkNest own index R0 nf d host).before a0 Z = true) (via : Via Z R0 O nf d) (F : Fld Z h a O nf d v) (hd : decode bytes pc = .ok (.getfield index, 3)) (hp : pc + 3 = pc') (kk : ∀ T', own_K p l e R s m args below meth c bytes own nm mx ret Q G Z T' L k n h → G (T'.setTop (mkF m pc' Ls (v :: rest)))) : G (T.setTop (mkF m pc Ls (.ref a :: rest))) := by
  subst hp
  obtain ⟨T', X', e', st'⟩ := getF K.X K.hx K.hZ K.hown w via K.eh F (g := mkF m pc Ls (.ref a :: rest)) rfl rfl (hb K.hby hd)
  exact K.cl _ _ st' (kk T' (K.nx X' e' K.fr K.O))
theorem own_getS (K : own_K p l e R s m args below meth c bytes own nm mx ret Q G Z T L k n h) {R0 O nf d : String} {index : Nat} {v : Value} (w : (Cond.fieldLink own index R0 nf d).before a0 Z = true) (via : Via Z R0 O nf d) (F : Sta Z h O nf d v) (hd : decode bytes pc = .ok (.getstatic index, 3)) (hp : pc + 3 = pc') (kk : ∀ T', own_K p l e R s m args below meth c bytes own nm mx ret Q G Z T' L k n h → G (T'.setTop (mkF m pc' Ls (v :: st)))) : G (T.setTop (mkF m pc Ls st)) := by
  subst hp
  obtain ⟨T', X', e', st'⟩ := getS (host := "") K.X K.hx K.hZ K.hown w via K.eh F (g := mkF m pc Ls st) rfl (hb K.hby hd)
  exact K.cl _ _ st' (kk T' (K.nx X' e' K.fr K.O))
theorem own_putF (K : own_K p l e R s m args below meth c bytes own nm mx ret Q G Z T L k n h) {R0 O nf d host C : String} {index kk0 : Nat} {ty : FieldType} {a : Addr} {v old : Value} (w : (Cond.fieldLink own index R0 nf d).before a0 Z = true ∨ (Cond.fieldLinkNest own index R0 nf d host).before a0 Z = true) (via : Via Z R0 O nf d) (F : Fld Z h a O nf d old) (E : Exa Z h a C) (Ly : (Cond.lays C O nf d).before a0 Z = true ∨ ((Cond.laysFinal C O nf d).before a0 Z = true ∧ own = O ∧ nm = "<init>")) (wi : (Cond.instantiable C kk0).before a0 Z = true) (hty : parseFieldDescriptor d = some ty) (hn : narrow ty v = v) (hf : fits ty v = true) (ha : Z.heap.size ≤ a) (hd : decode bytes pc = .ok (.putfield index, 3)) (hp : pc + 3 = pc') (kk : ∀ T' h', own_K p l e R s m args below meth c bytes own nm mx ret Q G Z T' (L ++ [⟨a, RoadKit.slotOf Z O nf d⟩]) k n h' → Wr h h' a (RoadKit.slotOf Z O nf d) v → G (T'.setTop (mkF m pc' Ls rest))) : G (T.setTop (mkF m pc Ls (v :: .ref a :: rest))) := by
  subst hp
  obtain ⟨T', h', X', e', W', st'⟩ := putF K.X K.hx K.hZ K.hown w via K.eh F E (Ly.imp id fun q => ⟨q.1, q.2.1, K.hnm.trans q.2.2⟩) wi hty hn hf (g := mkF m pc Ls (v :: .ref a :: rest)) rfl rfl (hb K.hby hd)
  exact K.cl _ _ st' (kk T' h' (K.nx X' e' (Fr.snoc X' K.fr ha) (own_ext_wr K.O W' ha)) W')
theorem own_putFN (K : own_K p l e R s m args below meth c bytes own nm mx ret Q G Z T L k n h) {R0 O nf d C : String} {index kk0 : Nat} {ty : FieldType} {a : Addr} {v v' old : Value} (w : (Cond.fieldLink own index R0 nf d).before a0 Z = true) (via : Via Z R0 O nf d) (F : Fld Z h a O nf d old) (E : Exa Z h a C) (Ly : (Cond.lays C O nf d).before a0 Z = true ∨ ((Cond.laysFinal C O nf d).before a0 Z = true ∧ own = O ∧ nm = "<init>")) (wi : (Cond.instantiable C kk0).before a0 Z = true) (hty : parseFieldDescriptor d = some ty) (hn : narrow ty v = v') (hf : fits ty v' = true) (ha : Z.heap.size ≤ a) (hd : decode bytes pc = .ok (.putfield index, 3)) (hp : pc + 3 = pc') (kk : ∀ T' h', own_K p l e R s m args below meth c bytes own nm mx ret Q G Z T' (L ++ [⟨a, RoadKit.slotOf Z O nf d⟩]) k n h' → Wr h h' a (RoadKit.slotOf Z O nf d) v' → G (T'.setTop (mkF m pc' Ls rest))) : G (T.setTop (mkF m pc Ls (v :: .ref a :: rest))) := by
  subst hp
  obtain ⟨T', h', X', e', W', st'⟩ := putFN K.X K.hx K.hZ K.hown w via K.eh F E (Ly.imp id fun q => ⟨q.1, q.2.1, K.hnm.trans q.2.2⟩) wi hty hn hf (g := mkF m pc Ls (v :: .ref a :: rest)) rfl rfl (hb K.hby hd)
  exact K.cl _ _ st' (kk T' h' (K.nx X' e' (Fr.snoc X' K.fr ha) (own_ext_wr K.O W' ha)) W')
theorem own_newO (K : own_K p l e R s m args below meth c bytes own nm mx ret Q G Z T L k n h) {C : String} {index j : Nat} (w : (Cond.classLink own index C).before a0 Z = true) (wi : (Cond.instantiable C j).before a0 Z = true) (wz : (Cond.initialized C).before a0 Z = true) (hd : decode bytes pc = .ok (.new index, 3)) (hc : k + 1 ≤ R.cells) (hl : n + j ≤ R.slots) (hp : pc + 3 = pc') (kk : ∀ T' h' (a : Addr), own_K p l e R s m args below meth c bytes own nm mx ret Q G Z T' L (k + 1) (n + j) h' → a = h.size → Ext h h' → Exa Z h' a C → (∀ {O nf d : String} {ty : FieldType}, Laid Z a0 C O nf d → parseFieldDescriptor d = some ty → Fld Z h' a O nf d (defaultValue ty)) → Unt h' a → G (T'.setTop (mkF m pc' Ls (.ref a :: st)))) : G (T.setTop (mkF m pc Ls st)) := by
  subst hp
  obtain ⟨T', h', X', e', E', A', D', U', st'⟩ := newO K.X K.hx K.hZ K.hown w wi wz K.eh (g := mkF m pc Ls st) rfl (hb K.hby hd) hc hl
  exact K.cl _ _ st' (kk T' h' h.size (K.nx X' e' K.fr (own_ext_trans K.O E')) rfl E' A' D' U')
theorem own_newP (K : own_K p l e R s m args below meth c bytes own nm mx ret Q G Z T L k n h) {aty : ArrayType} {z : Int32} {cap : Nat} (w : (Cond.arrayClass (newarray.typeOf aty)).before a0 Z = true) (hd : decode bytes pc = .ok (.newarray aty, 2)) (hz : ¬ z < 0) (hcap : z.toNatClampNeg ≤ cap) (hcb : cap * 8 ≤ 536870912) (hc : k + 1 ≤ R.cells) (hl : n + cap ≤ R.slots) (hp : pc + 2 = pc') (kk : ∀ T' h' (a : Addr) (cA : ClassId), own_K p l e R s m args below meth c bytes own nm mx ret Q G Z T' L (k + 1) (n + cap) h' → a = h.size → Ext h h' → Arv Z h' a cA (newarray.typeOf aty) z [] (defaultValue (newarray.typeOf aty)) → G (T'.setTop (mkF m pc' Ls (.ref a :: rest)))) : G (T.setTop (mkF m pc Ls (.int z :: rest))) := by
  subst hp
  obtain ⟨T', h', cA, X', e', E', A', st'⟩ := newP K.X K.hx K.hZ w K.eh (g := mkF m pc Ls (.int z :: rest)) rfl (hb K.hby hd) rfl hz hcap hcb hc hl
  exact K.cl _ _ st' (kk T' h' h.size cA (K.nx X' e' K.fr (own_ext_trans K.O E')) rfl E' (Arv.new A' hz))
theorem own_newR (K : own_K p l e R s m args below meth c bytes own nm mx ret Q G Z T L k n h) {C : String} {index : Nat} {z : Int32} {cap : Nat} (w1 : (Cond.classLink own index C).before a0 Z = true) (w2 : (Cond.arrayOver (.object C)).before a0 Z = true) (hd : decode bytes pc = .ok (.anewarray index, 3)) (hz : ¬ z < 0) (hcap : z.toNatClampNeg ≤ cap) (hcb : cap * 8 ≤ 536870912) (hc : k + 1 ≤ R.cells) (hl : n + cap ≤ R.slots) (hp : pc + 3 = pc') (kk : ∀ T' h' (a : Addr) (cA : ClassId), own_K p l e R s m args below meth c bytes own nm mx ret Q G Z T' L (k + 1) (n + cap) h' → a = h.size → Ext h h' → Arv Z h' a cA (.object C) z [] .null → Ovr Z cA C → G (T'.setTop (mkF m pc' Ls (.ref a :: rest)))) : G (T.setTop (mkF m pc Ls (.int z :: rest))) := by
  subst hp
  obtain ⟨T', h', cA, X', e', E', A', O', st'⟩ := newR K.X K.hx K.hZ K.hown w1 w2 K.eh (g := mkF m pc Ls (.int z :: rest)) rfl (hb K.hby hd) rfl hz hcap hcb hc hl
  exact K.cl _ _ st' (kk T' h' h.size cA (K.nx X' e' K.fr (own_ext_trans K.O E')) rfl E' (Arv.new A' hz) O')
theorem own_castY (K : own_K p l e R s m args below meth c bytes own nm mx ret Q G Z T L k n h) {Kc : String} {index : Nat} {a : Addr} (w : (Cond.classLink own index Kc).before a0 Z = true) (F : Ins Z h a Kc true) (hd : decode bytes pc = .ok (.checkcast index, 3)) (hp : pc + 3 = pc') (kk : ∀ T', own_K p l e R s m args below meth c bytes own nm mx ret Q G Z T' L k n h → G (T'.setTop (mkF m pc' Ls (.ref a :: rest)))) : G (T.setTop (mkF m pc Ls (.ref a :: rest))) := by
  subst hp
  obtain ⟨T', X', e', st'⟩ := castY K.X K.hx K.hZ K.hown w K.eh F (g := mkF m pc Ls (.ref a :: rest)) rfl rfl (hb K.hby hd)
  exact K.cl _ _ st' (kk T' (K.nx X' e' K.fr K.O))
theorem own_instY (K : own_K p l e R s m args below meth c bytes own nm mx ret Q G Z T L k n h) {Kc : String} {index : Nat} {a : Addr} (w : (Cond.classLink own index Kc).before a0 Z = true) (F : Ins Z h a Kc true) (hd : decode bytes pc = .ok (.instanceof index, 3)) (hp : pc + 3 = pc') (kk : ∀ T', own_K p l e R s m args below meth c bytes own nm mx ret Q G Z T' L k n h → G (T'.setTop (mkF m pc' Ls (.int 1 :: rest)))) : G (T.setTop (mkF m pc Ls (.ref a :: rest))) := by
  subst hp
  obtain ⟨T', X', e', st'⟩ := instY K.X K.hx K.hZ K.hown w K.eh F (g := mkF m pc Ls (.ref a :: rest)) rfl rfl (hb K.hby hd)
  exact K.cl _ _ st' (kk T' (K.nx X' e' K.fr K.O))
theorem own_castNull (K : own_K p l e R s m args below meth c bytes own nm mx ret Q G Z T L k n h) {index : Nat} (hd : decode bytes pc = .ok (.checkcast index, 3)) (hp : pc + 3 = pc') (kk : G (T.setTop (mkF m pc' Ls (.null :: rest)))) : G (T.setTop (mkF m pc Ls (.null :: rest))) := by
  subst hp
  exact K.cl _ _ (K.X.checkcastNull K.hx (g := mkF m pc Ls (.null :: rest)) rfl rfl (hb K.hby hd)) kk
theorem own_ldcInt (K : own_K p l e R s m args below meth c bytes own nm mx ret Q G Z T L k n h) {index : Nat} {v : Int32} (w : (Cond.constant own index v).before a0 Z = true) (hd : decode bytes pc = .ok (.ldc index, 2)) (hp : pc + 2 = pc') (kk : G (T.setTop (mkF m pc' Ls (.int v :: st)))) : G (T.setTop (mkF m pc Ls st)) := by
  subst hp
  exact K.cl _ _ (K.X.ldcInt K.hx K.hown (mvT K.hZ w) (g := mkF m pc Ls st) rfl (hb K.hby hd)) kk
theorem own_ldcwInt (K : own_K p l e R s m args below meth c bytes own nm mx ret Q G Z T L k n h) {index : Nat} {v : Int32} (w : (Cond.constant own index v).before a0 Z = true) (hd : decode bytes pc = .ok (.ldc_w index, 3)) (hp : pc + 3 = pc') (kk : G (T.setTop (mkF m pc' Ls (.int v :: st)))) : G (T.setTop (mkF m pc Ls st)) := by
  subst hp
  exact K.cl _ _ (K.X.ldcwInt K.hx K.hown (mvT K.hZ w) (g := mkF m pc Ls st) rfl (hb K.hby hd)) kk
theorem own_ldc2Long (K : own_K p l e R s m args below meth c bytes own nm mx ret Q G Z T L k n h) {index : Nat} {v : Int64} (w : (Cond.constantLong own index v).before a0 Z = true) (hd : decode bytes pc = .ok (.ldc2_w index, 3)) (hp : pc + 3 = pc') (kk : G (T.setTop (mkF m pc' Ls (.long v :: st)))) : G (T.setTop (mkF m pc Ls st)) := by
  subst hp
  exact K.cl _ _ (K.X.ldc2Long K.hx K.hown (mvT K.hZ w) (g := mkF m pc Ls st) rfl (hb K.hby hd)) kk
theorem own_inb {z j : Int32} {cl : Cell} (S : cl.slots.size = z.toNatClampNeg) (q : ¬ j < 0 ∧ j < z) : ¬ (j < 0 ∨ cl.slots.size ≤ j.toNatClampNeg) := inb_of S q
theorem own_at {z j : Int32} {cl : Cell} {vs : List Value} {dv v : Value} (S : cl.slots.size = z.toNatClampNeg) (H : Has cl vs dv) (q : ¬ j < 0 ∧ j < z) (hv : vs.getD j.toNatClampNeg dv = v) : cl.slots[j.toNatClampNeg]? = some v := by
  have h1 := inb_of S q
  rw [← hv]; exact H _ (by omega)
theorem own_iaload (K : own_K p l e R s m args below meth c bytes own nm mx ret Q G Z T L k n h) {a : Addr} {kA : ClassId} {z j : Int32} {vs : List Value} {dv : Value} {x : Int32} (V : Arv Z h a kA .int z vs dv) (hj : ¬ j < 0 ∧ j < z) (hv : vs.getD j.toNatClampNeg dv = .int x) (hd : decode bytes pc = .ok (.iaload, 1)) (hp : pc + 1 = pc') (kk : G (T.setTop (mkF m pc' Ls (.int x :: rest)))) : G (T.setTop (mkF m pc Ls (.int j :: .ref a :: rest))) := by
  subst hp
  obtain ⟨cl, A, -, S, -, H, -⟩ := V
  exact K.cl _ _ (K.X.iaload K.hx (j := j) (v := .int x) (by rw [K.eh]; exact A.1) (State.isArrayOf_alike K.hZ.alike A.2.1) A.2.2 (own_inb S hj) (own_at S H hj hv) (g := mkF m pc Ls (.int j :: .ref a :: rest)) rfl rfl (hb K.hby hd)) kk
theorem own_caload (K : own_K p l e R s m args below meth c bytes own nm mx ret Q G Z T L k n h) {a : Addr} {kA : ClassId} {z j : Int32} {vs : List Value} {dv : Value} {x : Int32} (V : Arv Z h a kA .char z vs dv) (hj : ¬ j < 0 ∧ j < z) (hv : vs.getD j.toNatClampNeg dv = .int x) (hd : decode bytes pc = .ok (.caload, 1)) (hp : pc + 1 = pc') (kk : G (T.setTop (mkF m pc' Ls (.int x :: rest)))) : G (T.setTop (mkF m pc Ls (.int j :: .ref a :: rest))) := by
  subst hp
  obtain ⟨cl, A, -, S, -, H, -⟩ := V
  exact K.cl _ _ (K.X.caload K.hx (j := j) (v := .int x) (by rw [K.eh]; exact A.1) (State.isArrayOf_alike K.hZ.alike A.2.1) A.2.2 (own_inb S hj) (own_at S H hj hv) (g := mkF m pc Ls (.int j :: .ref a :: rest)) rfl rfl (hb K.hby hd)) kk
theorem own_baload (K : own_K p l e R s m args below meth c bytes own nm mx ret Q G Z T L k n h) {a : Addr} {kA : ClassId} {z j : Int32} {vs : List Value} {dv : Value} {x : Int32} (V : Arv Z h a kA .byte z vs dv) (hj : ¬ j < 0 ∧ j < z) (hv : vs.getD j.toNatClampNeg dv = .int x) (hd : decode bytes pc = .ok (.baload, 1)) (hp : pc + 1 = pc') (kk : G (T.setTop (mkF m pc' Ls (.int x :: rest)))) : G (T.setTop (mkF m pc Ls (.int j :: .ref a :: rest))) := by
  subst hp
  obtain ⟨cl, A, -, S, -, H, -⟩ := V
  exact K.cl _ _ (K.X.baloadBytes K.hx (j := j) (v := .int x) (by rw [K.eh]; exact A.1) (State.isArrayOf_alike K.hZ.alike A.2.1) A.2.2 (own_inb S hj) (own_at S H hj hv) (g := mkF m pc Ls (.int j :: .ref a :: rest)) rfl rfl (hb K.hby hd)) kk
theorem own_laload (K : own_K p l e R s m args below meth c bytes own nm mx ret Q G Z T L k n h) {a : Addr} {kA : ClassId} {z j : Int32} {vs : List Value} {dv : Value} {x : Int64} (V : Arv Z h a kA .long z vs dv) (hj : ¬ j < 0 ∧ j < z) (hv : vs.getD j.toNatClampNeg dv = .long x) (hd : decode bytes pc = .ok (.laload, 1)) (hp : pc + 1 = pc') (kk : G (T.setTop (mkF m pc' Ls (.long x :: rest)))) : G (T.setTop (mkF m pc Ls (.int j :: .ref a :: rest))) := by
  subst hp
  obtain ⟨cl, A, -, S, -, H, -⟩ := V
  exact K.cl _ _ (K.X.laload K.hx (j := j) (v := .long x) (by rw [K.eh]; exact A.1) (State.isArrayOf_alike K.hZ.alike A.2.1) A.2.2 (own_inb S hj) (own_at S H hj hv) (g := mkF m pc Ls (.int j :: .ref a :: rest)) rfl rfl (hb K.hby hd)) kk
theorem own_aaload (K : own_K p l e R s m args below meth c bytes own nm mx ret Q G Z T L k n h) {a : Addr} {kA : ClassId} {ty : FieldType} {z j : Int32} {vs : List Value} {dv v : Value} (V : Arv Z h a kA ty z vs dv) (hty : ty.isReference = true) (hj : ¬ j < 0 ∧ j < z) (hv : vs.getD j.toNatClampNeg dv = v) (hr : v.isRef = true) (hd : decode bytes pc = .ok (.aaload, 1)) (hp : pc + 1 = pc') (kk : G (T.setTop (mkF m pc' Ls (v :: rest)))) : G (T.setTop (mkF m pc Ls (.int j :: .ref a :: rest))) := by
  subst hp
  obtain ⟨cl, A, -, S, -, H, -⟩ := V
  exact K.cl _ _ (K.X.aaload K.hx (j := j) (v := v) (by rw [K.eh]; exact A.1) (State.isArrayOf_alike K.hZ.alike A.2.1) hty A.2.2 (own_inb S hj) (own_at S H hj hv) (g := mkF m pc Ls (.int j :: .ref a :: rest)) rfl rfl (hb K.hby hd)) kk
theorem own_arraylength (K : own_K p l e R s m args below meth c bytes own nm mx ret Q G Z T L k n h) {a : Addr} {kA : ClassId} {ty : FieldType} {z : Int32} {vs : List Value} {dv : Value} (V : Arv Z h a kA ty z vs dv) (hd : decode bytes pc = .ok (.arraylength, 1)) (hp : pc + 1 = pc') (kk : G (T.setTop (mkF m pc' Ls (.int z :: rest)))) : G (T.setTop (mkF m pc Ls (.ref a :: rest))) := by
  subst hp
  obtain ⟨cl, A, -, S, hz, H, -⟩ := V
  refine K.cl _ _ (K.X.arraylength K.hx (by rw [K.eh]; exact A.1) (State.isArrayOf_alike K.hZ.alike A.2.1) (g := mkF m pc Ls (.ref a :: rest)) rfl rfl (hb K.hby hd)) ?_
  rw [len_of S hz]; exact kk
theorem own_castore (K : own_K p l e R s m args below meth c bytes own nm mx ret Q G Z T L k n h) {a : Addr} {kA : ClassId} {z j x x' : Int32} {vs : List Value} {dv : Value} (V : Arv Z h a kA .char z vs dv) (hj : ¬ j < 0 ∧ j < z) (i : Nat) (hi : j.toNatClampNeg = i) (hl : i < vs.length) (hx' : nar .char x = x') (ha : Z.heap.size ≤ a) (hd : decode bytes pc = .ok (.castore, 1)) (hp : pc + 1 = pc')
    (kk : ∀ T' h', own_K p l e R s m args below meth c bytes own nm mx ret Q G Z T' (L ++ [⟨a, i⟩]) k n h' → Wr h h' a i (.int x') → Arv Z h' a kA .char z (vs.set i (.int x')) dv → G (T'.setTop (mkF m pc' Ls rest))) : G (T.setTop (mkF m pc Ls (.int x :: .int j :: .ref a :: rest))) := by
  subst hp hx' hi
  obtain ⟨cl, A, q1, S, hz, H, Gf⟩ := V
  obtain ⟨T', h', X', e', W', st'⟩ := stC K.X K.hx K.hZ K.eh A (j := j) (own_inb S hj) (g := mkF m pc Ls (.int x :: .int j :: .ref a :: rest)) rfl rfl (hb K.hby hd)
  exact K.cl _ _ st' (kk T' h' (K.nx X' e' (Fr.snoc X' K.fr ha) (own_ext_wr K.O W' ha)) W' (Arv.set A q1 S hz H Gf (fits_nar_char _) W' _ rfl hl))
theorem own_bastore (K : own_K p l e R s m args below meth c bytes own nm mx ret Q G Z T L k n h) {a : Addr} {kA : ClassId} {z j x x' : Int32} {vs : List Value} {dv : Value} (V : Arv Z h a kA .byte z vs dv) (hj : ¬ j < 0 ∧ j < z) (i : Nat) (hi : j.toNatClampNeg = i) (hl : i < vs.length) (hx' : nar .byte x = x') (ha : Z.heap.size ≤ a) (hd : decode bytes pc = .ok (.bastore, 1)) (hp : pc + 1 = pc')
    (kk : ∀ T' h', own_K p l e R s m args below meth c bytes own nm mx ret Q G Z T' (L ++ [⟨a, i⟩]) k n h' → Wr h h' a i (.int x') → Arv Z h' a kA .byte z (vs.set i (.int x')) dv → G (T'.setTop (mkF m pc' Ls rest))) : G (T.setTop (mkF m pc Ls (.int x :: .int j :: .ref a :: rest))) := by
  subst hp hx' hi
  obtain ⟨cl, A, q1, S, hz, H, Gf⟩ := V
  obtain ⟨T', h', X', e', W', st'⟩ := stB K.X K.hx K.hZ K.eh A (j := j) (own_inb S hj) (g := mkF m pc Ls (.int x :: .int j :: .ref a :: rest)) rfl rfl (hb K.hby hd)
  exact K.cl _ _ st' (kk T' h' (K.nx X' e' (Fr.snoc X' K.fr ha) (own_ext_wr K.O W' ha)) W' (Arv.set A q1 S hz H Gf (fits_nar_byte _) W' _ rfl hl))
theorem own_zastore (K : own_K p l e R s m args below meth c bytes own nm mx ret Q G Z T L k n h) {a : Addr} {kA : ClassId} {z j x x' : Int32} {vs : List Value} {dv : Value} (V : Arv Z h a kA .boolean z vs dv) (hj : ¬ j < 0 ∧ j < z) (i : Nat) (hi : j.toNatClampNeg = i) (hl : i < vs.length) (hx' : nar .boolean x = x') (ha : Z.heap.size ≤ a) (hd : decode bytes pc = .ok (.bastore, 1)) (hp : pc + 1 = pc')
    (kk : ∀ T' h', own_K p l e R s m args below meth c bytes own nm mx ret Q G Z T' (L ++ [⟨a, i⟩]) k n h' → Wr h h' a i (.int x') → Arv Z h' a kA .boolean z (vs.set i (.int x')) dv → G (T'.setTop (mkF m pc' Ls rest))) : G (T.setTop (mkF m pc Ls (.int x :: .int j :: .ref a :: rest))) := by
  subst hp hx' hi
  obtain ⟨cl, A, q1, S, hz, H, Gf⟩ := V
  obtain ⟨T', h', X', e', W', st'⟩ := stZ K.X K.hx K.hZ K.eh A (j := j) (own_inb S hj) (g := mkF m pc Ls (.int x :: .int j :: .ref a :: rest)) rfl rfl (hb K.hby hd)
  exact K.cl _ _ st' (kk T' h' (K.nx X' e' (Fr.snoc X' K.fr ha) (own_ext_wr K.O W' ha)) W' (Arv.set A q1 S hz H Gf (fits_nar_bool _) W' _ rfl hl))
theorem own_aastore (K : own_K p l e R s m args below meth c bytes own nm mx ret Q G Z T L k n h) {a : Addr} {kA : ClassId} {ty : FieldType} {z j : Int32} {v : Value} {vs : List Value} {dv : Value} (V : Arv Z h a kA ty z vs dv) (hty : ty.isReference = true) (hf : fits ty v = true) (F : Sto Z h a v) (hj : ¬ j < 0 ∧ j < z) (i : Nat) (hi : j.toNatClampNeg = i) (hl : i < vs.length) (ha : Z.heap.size ≤ a) (hd : decode bytes pc = .ok (.aastore, 1)) (hp : pc + 1 = pc')
    (kk : ∀ T' h', own_K p l e R s m args below meth c bytes own nm mx ret Q G Z T' (L ++ [⟨a, i⟩]) k n h' → Wr h h' a i v → Arv Z h' a kA ty z (vs.set i v) dv → G (T'.setTop (mkF m pc' Ls rest))) : G (T.setTop (mkF m pc Ls (v :: .int j :: .ref a :: rest))) := by
  subst hp hi
  obtain ⟨cl, A, q1, S, hz, H, Gf⟩ := V
  obtain ⟨T', h', X', e', W', st'⟩ := stR K.X K.hx K.hZ K.eh A (j := j) (own_inb S hj) hty F (g := mkF m pc Ls (v :: .int j :: .ref a :: rest)) rfl rfl (hb K.hby hd)
  exact K.cl _ _ st' (kk T' h' (K.nx X' e' (Fr.snoc X' K.fr ha) (own_ext_wr K.O W' ha)) W' (Arv.set A q1 S hz H Gf hf W' _ rfl hl))
theorem own_initO (K : own_K p l e R s m args below meth c bytes own nm mx ret Q G Z T L k n h) {idx : Nat} {a : Addr} {W : Nat} (w1 : (Cond.methodLink own idx Lib.objectInit).before a0 Z = true) (w2 : (Cond.instanceMethod Lib.objectInit).before a0 Z = true) (w3 : (Cond.code Lib.objectInit ⟨#[0xb1]⟩ 1 none).before a0 Z = true) (hsz : Ls.size = mx) (hW : (rest.map fun v => v.category).sum = W) (hf : 1 ≤ R.frames) (hl : W + 12 ≤ R.locals) (hd : decode bytes pc = .ok (.invokespecial idx, 3)) (hp : pc + 3 = pc')
    (kk : ∀ T', own_K p l e R s m args below meth c bytes own nm mx ret Q G Z T' L k n h → G (T'.setTop (mkF m pc' Ls rest))) : G (T.setTop (mkF m pc Ls (.ref a :: rest))) := by
  subst hp
  obtain ⟨T', X', e', st'⟩ := initO K.X K.hx K.hZ K.hown w1 w2 w3 K.eh (g := mkF m pc Ls (.ref a :: rest)) rfl (by rw [K.hml]; exact hsz) rfl (hb K.hby hd) hf (W := W) (by show 2 * 0 + _ ≤ _; rw [hW]; omega) hl
  exact K.cl _ _ st' (kk T' (K.nx X' e' K.fr K.O))
theorem own_callS (K : own_K p l e R s m args below meth c bytes own nm mx ret Q G Z T L k n h) {index W mx' : Nat} {y : MethodName} {bytes' : ByteArray} {ret' : Option FieldType} {rm : Room} {ps : List FieldType} {rr : Option FieldType} {Qc : Option Value → Heap → Prop} {argsL : List Value} (wl : (Cond.methodLink own index y).before a0 Z = true) (ws : (Cond.static y).before a0 Z = true) (C : own_Ct l Z y bytes' mx' ret' [] rm argsL.toArray h Qc) (hcd : (Cond.code y bytes' mx' ret').before a0 Z = true) (hin : (Cond.initialized (y).cls).before a0 Z = true) (hy : y.cls ≠ "java/lang/invoke/MethodHandle" ∧ y.cls ≠ "java/lang/invoke/VarHandle")  (hstk : st = (argsL.reverse ++ rest)) (hpd : parseMethodDescriptor y.desc = some ⟨ps, rr⟩) (hal : argsL.length = ps.length) (hsz : Ls.size = mx) (hW : (rest.map fun v => v.category).sum = W) (hrf : rm.frames + 1 ≤ R.frames) (hrl : W + (mx' + 11) + rm.locals ≤ R.locals) (hrc : k + rm.cells ≤ R.cells) (hrs : n + rm.slots ≤ R.slots) (hd : decode bytes pc = .ok (.invokestatic index, 3)) (hp : pc + 3 = pc')
    (kk : ∀ T' h' L' v, own_K p l e R s m args below meth c bytes own nm mx ret Q G Z T' (L ++ L') (k + rm.cells) (n + rm.slots) h' → Qc v h' → G (T'.setTop (mkF m pc' Ls (v.toList ++ rest)))) : G (T.setTop (mkF m pc Ls st)) := by
  subst hp hstk
  obtain ⟨v, _, ⟨T', L1, k1, n1⟩, -, X', ⟨L', hQ, l1, l2, l3⟩, st'⟩ := Jvm.LawKit.callS K.X K.hx (y := y) K.hown (mvT K.hZ wl) (mvT K.hZ ws) (mvT K.hZ hin) (mvT K.hZ hcd) hy (backOf (W := W) (Q := fun v h L => Fr Z.heap.size L ∧ Ext Z.heap h ∧ Qc v h) C K.hZ hcd hin hrf hrl) (g := mkF m pc Ls (argsL.reverse ++ rest)) rfl (by rw [K.hml]; exact hsz) (argsL := argsL) (rest := rest) (fun sig q => by rw [hpd] at q; cases q; exact hal) rfl (by show 2 * 0 + _ ≤ _; rw [hW]; omega) (hb K.hby hd) (fun _ _ => ⟨rfl, K.eh, hrc, hrs⟩)
  dsimp only [Pt.U, Pt.locs, Pt.cells, Pt.slots] at X' l1 l2 l3 st' hQ
  subst l1 l2 l3
  obtain ⟨hN, hO, hq⟩ := hQ
  exact K.cl _ _ (fun t q => st' t q) (kk T' T'.heap L' v (K.nx X' rfl (Fr.app K.fr hN) hO) hq)
theorem own_callI (K : own_K p l e R s m args below meth c bytes own nm mx ret Q G Z T L k n h) {index W mx' : Nat} {y : MethodName} {bytes' : ByteArray} {rm : Room} {ps : List FieldType} {rr : Option FieldType} {Qc : Option Value → Heap → Prop} {argsL : List Value} {a : Addr} (wl : (Cond.methodLink own index y).before a0 Z = true) (wi : (Cond.instanceMethod y).before a0 Z = true) (C : own_Ct l Z y bytes' mx' none [] rm (.ref a :: argsL).toArray h Qc) (hcd : (Cond.code y bytes' mx' none).before a0 Z = true) (hin : (Cond.initialized (y).cls).before a0 Z = true) (hy : y.cls ≠ "java/lang/invoke/MethodHandle" ∧ y.cls ≠ "java/lang/invoke/VarHandle") (hy1 : y.name = "<init>")  (hstk : st = (argsL.reverse ++ .ref a :: rest)) (hpd : parseMethodDescriptor y.desc = some ⟨ps, rr⟩) (hal : argsL.length = ps.length) (hsz : Ls.size = mx) (hW : (rest.map fun v => v.category).sum = W) (hrf : rm.frames + 1 ≤ R.frames) (hrl : W + (mx' + 11) + rm.locals ≤ R.locals) (hrc : k + rm.cells ≤ R.cells) (hrs : n + rm.slots ≤ R.slots) (hd : decode bytes pc = .ok (.invokespecial index, 3)) (hp : pc + 3 = pc')
    (kk : ∀ T' h' L' v, own_K p l e R s m args below meth c bytes own nm mx ret Q G Z T' (L ++ L') (k + rm.cells) (n + rm.slots) h' → Qc v h' → G (T'.setTop (mkF m pc' Ls (v.toList ++ rest)))) : G (T.setTop (mkF m pc Ls st)) := by
  subst hp hstk
  obtain ⟨v, _, ⟨T', L1, k1, n1⟩, -, X', ⟨L', hQ, l1, l2, l3⟩, st'⟩ := K.X.specialBack K.hx (y := y) hy1 K.hown (mvT K.hZ wl) (mvT K.hZ wi) (mvT K.hZ hcd) hy (backOf (W := W) (Q := fun v h L => Fr Z.heap.size L ∧ Ext Z.heap h ∧ Qc v h) C K.hZ hcd hin hrf hrl) (g := mkF m pc Ls (argsL.reverse ++ .ref a :: rest)) rfl (by rw [K.hml]; exact hsz) (Steps.refl _) (a := a) (argsL := argsL) (rest := rest) (fun sig q => by rw [hpd] at q; cases q; exact hal) rfl (by show 2 * 0 + _ ≤ _; rw [hW]; omega) (hb K.hby hd) (fun _ _ => ⟨rfl, K.eh, hrc, hrs⟩)
  dsimp only [Pt.U, Pt.locs, Pt.cells, Pt.slots] at X' l1 l2 l3 st' hQ
  subst l1 l2 l3
  obtain ⟨hN, hO, hq⟩ := hQ
  exact K.cl _ _ (fun t q => st'.trans q) (kk T' T'.heap L' v (K.nx X' rfl (Fr.app K.fr hN) hO) hq)
theorem own_callV (K : own_K p l e R s m args below meth c bytes own nm mx ret Q G Z T L k n h) {index W mx' : Nat} {y : MethodName} {bytes' : ByteArray} {ret' : Option FieldType} {rm : Room} {ps : List FieldType} {rr : Option FieldType} {Qc : Option Value → Heap → Prop} {argsL : List Value} {a : Addr} {Cc : String} {x0 : MethodName} (wl : (Cond.methodLink own index x0).before a0 Z = true) (wd : (Cond.declares x0).before a0 Z = true) (hnf : ∀ {s : State}, Z.Warmed39 s.vm → NotFace s x0) (wsel : (Cond.selects Cc x0 y).before a0 Z = true) (wi : (Cond.instanceMethod y).before a0 Z = true) (C : own_Ct l Z y bytes' mx' ret' [] rm (.ref a :: argsL).toArray h Qc) (hcd : (Cond.code y bytes' mx' ret').before a0 Z = true) (hin : (Cond.initialized (y).cls).before a0 Z = true) (hy : x0.cls ≠ "java/lang/invoke/MethodHandle" ∧ x0.cls ≠ "java/lang/invoke/VarHandle") (E : Exa Z h a Cc)  (hstk : st = (argsL.reverse ++ .ref a :: rest)) (hpd : parseMethodDescriptor x0.desc = some ⟨ps, rr⟩) (hal : argsL.length = ps.length) (hsz : Ls.size = mx) (hW : (rest.map fun v => v.category).sum = W) (hrf : rm.frames + 1 ≤ R.frames) (hrl : W + (mx' + 11) + rm.locals ≤ R.locals) (hrc : k + rm.cells ≤ R.cells) (hrs : n + rm.slots ≤ R.slots) (hd : decode bytes pc = .ok (.invokevirtual index, 3)) (hp : pc + 3 = pc')
    (kk : ∀ T' h' L' v, own_K p l e R s m args below meth c bytes own nm mx ret Q G Z T' (L ++ L') (k + rm.cells) (n + rm.slots) h' → Qc v h' → G (T'.setTop (mkF m pc' Ls (v.toList ++ rest)))) : G (T.setTop (mkF m pc Ls st)) := by
  subst hp hstk
  obtain ⟨v, _, ⟨T', L1, k1, n1⟩, -, X', ⟨L', hQ, l1, l2, l3⟩, st'⟩ := (isOf K.hZ K.eh E).elim fun cB q => q.elim fun kB q => K.X.virtualBack K.hx (y := x0) (z := y) K.hown (mvT K.hZ wl) (mvT K.hZ wd) (hnf K.hZ) (mvT K.hZ wsel) (mvT K.hZ wi) hy (backOf (W := W) (Q := fun v h L => Fr Z.heap.size L ∧ Ext Z.heap h ∧ Qc v h) C K.hZ hcd hin hrf hrl) q.1 q.2.2 (g := mkF m pc Ls (argsL.reverse ++ .ref a :: rest)) rfl (by rw [K.hml]; exact hsz) (Steps.refl _) (argsL := argsL) (rest := rest) (fun sig q => by rw [hpd] at q; cases q; exact hal) rfl (by show 2 * 0 + _ ≤ _; rw [hW]; omega) (hb K.hby hd) (fun _ _ => ⟨rfl, K.eh, hrc, hrs⟩)
  dsimp only [Pt.U, Pt.locs, Pt.cells, Pt.slots] at X' l1 l2 l3 st' hQ
  subst l1 l2 l3
  obtain ⟨hN, hO, hq⟩ := hQ
  exact K.cl _ _ (fun t q => st'.trans q) (kk T' T'.heap L' v (K.nx X' rfl (Fr.app K.fr hN) hO) hq)
theorem own_callVU (K : own_K p l e R s m args below meth c bytes own nm mx ret Q G Z T L k n h) {index W mx' : Nat} {y : MethodName} {bytes' : ByteArray} {ret' : Option FieldType} {rm : Room} {ps : List FieldType} {rr : Option FieldType} {Qc : Option Value → Heap → Prop} {argsL : List Value} {a : Addr} {Cc owner : String} {x0 : MethodName} (wl : (Cond.methodLink own index x0).before a0 Z = true) (wsm : (Cond.sameMethod x0.cls owner x0.name x0.desc).before a0 Z = true) (wd : (Cond.declares ⟨owner, x0.name, x0.desc⟩).before a0 Z = true) (wsel : (Cond.selects Cc x0 y).before a0 Z = true) (wi : (Cond.instanceMethod y).before a0 Z = true) (C : own_Ct l Z y bytes' mx' ret' [] rm (.ref a :: argsL).toArray h Qc) (hcd : (Cond.code y bytes' mx' ret').before a0 Z = true) (hin : (Cond.initialized (y).cls).before a0 Z = true) (hy : owner ≠ "java/lang/invoke/MethodHandle" ∧ owner ≠ "java/lang/invoke/VarHandle") (E : Exa Z h a Cc)  (hstk : st = (argsL.reverse ++ .ref a :: rest)) (hpd : parseMethodDescriptor x0.desc = some ⟨ps, rr⟩) (hal : argsL.length = ps.length) (hsz : Ls.size = mx) (hW : (rest.map fun v => v.category).sum = W) (hrf : rm.frames + 1 ≤ R.frames) (hrl : W + (mx' + 11) + rm.locals ≤ R.locals) (hrc : k + rm.cells ≤ R.cells) (hrs : n + rm.slots ≤ R.slots) (hd : decode bytes pc = .ok (.invokevirtual index, 3)) (hp : pc + 3 = pc')
    (kk : ∀ T' h' L' v, own_K p l e R s m args below meth c bytes own nm mx ret Q G Z T' (L ++ L') (k + rm.cells) (n + rm.slots) h' → Qc v h' → G (T'.setTop (mkF m pc' Ls (v.toList ++ rest)))) : G (T.setTop (mkF m pc Ls st)) := by
  subst hp hstk
  obtain ⟨v, _, ⟨T', L1, k1, n1⟩, -, X', ⟨L', hQ, l1, l2, l3⟩, st'⟩ := (isOf K.hZ K.eh E).elim fun cB q => q.elim fun kB q => K.X.virtualBackUp K.hx (x := x0) (y := y) K.hown (mvT K.hZ wl) (mvT K.hZ wsm) (mvT K.hZ wd) hy (mvT K.hZ wsel) (mvT K.hZ wi) (backOf (W := W) (Q := fun v h L => Fr Z.heap.size L ∧ Ext Z.heap h ∧ Qc v h) C K.hZ hcd hin hrf hrl) q.1 q.2.2 (g := mkF m pc Ls (argsL.reverse ++ .ref a :: rest)) rfl (by rw [K.hml]; exact hsz) (Steps.refl _) (argsL := argsL) (rest := rest) (fun sig q => by rw [hpd] at q; cases q; exact hal) rfl (by show 2 * 0 + _ ≤ _; rw [hW]; omega) (hb K.hby hd) (fun _ _ => ⟨rfl, K.eh, hrc, hrs⟩)
  dsimp only [Pt.U, Pt.locs, Pt.cells, Pt.slots] at X' l1 l2 l3 st' hQ
  subst l1 l2 l3
  obtain ⟨hN, hO, hq⟩ := hQ
  exact K.cl _ _ (fun t q => st'.trans q) (kk T' T'.heap L' v (K.nx X' rfl (Fr.app K.fr hN) hO) hq)
theorem own_callF (K : own_K p l e R s m args below meth c bytes own nm mx ret Q G Z T L k n h) {index W mx' : Nat} {y : MethodName} {bytes' : ByteArray} {ret' : Option FieldType} {rm : Room} {ps : List FieldType} {rr : Option FieldType} {Qc : Option Value → Heap → Prop} {argsL : List Value} {cnt : Nat} {a : Addr} {Cc : String} {x0 : MethodName} (wl : (Cond.methodLink own index x0).before a0 Z = true) (wd : (Cond.declares x0).before a0 Z = true) (wf : ∀ {s : State} {args : Array Value}, Z.Warmed39 s.vm → (Cond.interfaceMethod x0.cls x0.cls x0.name x0.desc).before args s = true) (wsel : (Cond.selects Cc x0 y).before a0 Z = true) (wi : (Cond.instanceMethod y).before a0 Z = true) (wp : (Cond.publicMethod y).before a0 Z = true) (wu : (Cond.unhidden Cc x0.name x0.desc).before a0 Z = true) (wc : (Cond.castable Cc x0.cls).before a0 Z = true) (C : own_Ct l Z y bytes' mx' ret' [] rm (.ref a :: argsL).toArray h Qc) (hcd : (Cond.code y bytes' mx' ret').before a0 Z = true) (hin : (Cond.initialized (y).cls).before a0 Z = true) (hy : x0.cls ≠ "java/lang/invoke/MethodHandle" ∧ x0.cls ≠ "java/lang/invoke/VarHandle") (E : Exa Z h a Cc)  (hstk : st = (argsL.reverse ++ .ref a :: rest)) (hpd : parseMethodDescriptor x0.desc = some ⟨ps, rr⟩) (hal : argsL.length = ps.length) (hsz : Ls.size = mx) (hW : (rest.map fun v => v.category).sum = W) (hrf : rm.frames + 1 ≤ R.frames) (hrl : W + (mx' + 11) + rm.locals ≤ R.locals) (hrc : k + rm.cells ≤ R.cells) (hrs : n + rm.slots ≤ R.slots) (hd : decode bytes pc = .ok (.invokeinterface index cnt, 5)) (hp : pc + 5 = pc')
    (kk : ∀ T' h' L' v, own_K p l e R s m args below meth c bytes own nm mx ret Q G Z T' (L ++ L') (k + rm.cells) (n + rm.slots) h' → Qc v h' → G (T'.setTop (mkF m pc' Ls (v.toList ++ rest)))) : G (T.setTop (mkF m pc Ls st)) := by
  subst hp hstk
  obtain ⟨v, _, ⟨T', L1, k1, n1⟩, -, X', ⟨L', hQ, l1, l2, l3⟩, st'⟩ := (isOf K.hZ K.eh E).elim fun cB q => q.elim fun kB q => K.X.interfaceBack K.hx (xi := x0) (y := y) K.hown (mvT K.hZ wl) (mvT K.hZ wd) (wf K.hZ) (mvT K.hZ wsel) (mvT K.hZ wi) (mvT K.hZ wp) (mvT K.hZ wu) (mvT K.hZ wc) hy (backOf (W := W) (Q := fun v h L => Fr Z.heap.size L ∧ Ext Z.heap h ∧ Qc v h) C K.hZ hcd hin hrf hrl) q.1 q.2.1 q.2.2 (g := mkF m pc Ls (argsL.reverse ++ .ref a :: rest)) rfl (by rw [K.hml]; exact hsz) (Steps.refl _) (argsL := argsL) (rest := rest) (fun sig q => by rw [hpd] at q; cases q; exact hal) rfl (by show 2 * 0 + _ ≤ _; rw [hW]; omega) (hb K.hby hd) (fun _ _ => ⟨rfl, K.eh, hrc, hrs⟩)
  dsimp only [Pt.U, Pt.locs, Pt.cells, Pt.slots] at X' l1 l2 l3 st' hQ
  subst l1 l2 l3
  obtain ⟨hN, hO, hq⟩ := hQ
  exact K.cl _ _ (fun t q => st'.trans q) (kk T' T'.heap L' v (K.nx X' rfl (Fr.app K.fr hN) hO) hq)
theorem own_callP (K : own_K p l e R s m args below meth c bytes own nm mx ret Q G Z T L k n h) {index W mx' : Nat} {y : MethodName} {bytes' : ByteArray} {ret' : Option FieldType} {rm : Room} {ps : List FieldType} {rr : Option FieldType} {Qc : Option Value → Heap → Prop} {argsL : List Value} {a : Addr} {Cc : String} (wl : (Cond.methodLink own index y).before a0 Z = true) (wi : (Cond.instanceMethod y).before a0 Z = true) (wsel : (Cond.selects y.cls y y).before a0 Z = true) (wp : (Cond.privateMethod y).before a0 Z = true) (C : own_Ct l Z y bytes' mx' ret' [] rm (.ref a :: argsL).toArray h Qc) (hcd : (Cond.code y bytes' mx' ret').before a0 Z = true) (hin : (Cond.initialized (y).cls).before a0 Z = true) (hy : y.cls ≠ "java/lang/invoke/MethodHandle" ∧ y.cls ≠ "java/lang/invoke/VarHandle") (E : Exa Z h a Cc)  (hstk : st = (argsL.reverse ++ .ref a :: rest)) (hpd : parseMethodDescriptor y.desc = some ⟨ps, rr⟩) (hal : argsL.length = ps.length) (hsz : Ls.size = mx) (hW : (rest.map fun v => v.category).sum = W) (hrf : rm.frames + 1 ≤ R.frames) (hrl : W + (mx' + 11) + rm.locals ≤ R.locals) (hrc : k + rm.cells ≤ R.cells) (hrs : n + rm.slots ≤ R.slots) (hd : decode bytes pc = .ok (.invokevirtual index, 3)) (hp : pc + 3 = pc')
    (kk : ∀ T' h' L' v, own_K p l e R s m args below meth c bytes own nm mx ret Q G Z T' (L ++ L') (k + rm.cells) (n + rm.slots) h' → Qc v h' → G (T'.setTop (mkF m pc' Ls (v.toList ++ rest)))) : G (T.setTop (mkF m pc Ls st)) := by
  subst hp hstk
  obtain ⟨v, _, ⟨T', L1, k1, n1⟩, -, X', ⟨L', hQ, l1, l2, l3⟩, st'⟩ := E.cell.elim fun cq q => K.X.privateBack K.hx (y := y) K.hown (mvT K.hZ wl) (mvT K.hZ wi) (mvT K.hZ wsel) (Cond.privateMethod_at (mvP K.hZ wp (args := #[]))) (mvT K.hZ hcd) hy (backOf (W := W) (Q := fun v h L => Fr Z.heap.size L ∧ Ext Z.heap h ∧ Qc v h) C K.hZ hcd hin hrf hrl) (g := mkF m pc Ls (argsL.reverse ++ .ref a :: rest)) rfl (by rw [K.hml]; exact hsz) (Steps.refl _) (a := a) (by rw [K.eh]; exact q.1) q.2 (argsL := argsL) (rest := rest) (fun sig q => by rw [hpd] at q; cases q; exact hal) rfl (by show 2 * 0 + _ ≤ _; rw [hW]; omega) (hb K.hby hd) (fun _ _ => ⟨rfl, K.eh, hrc, hrs⟩)
  dsimp only [Pt.U, Pt.locs, Pt.cells, Pt.slots] at X' l1 l2 l3 st' hQ
  subst l1 l2 l3
  obtain ⟨hN, hO, hq⟩ := hQ
  exact K.cl _ _ (fun t q => st'.trans q) (kk T' T'.heap L' v (K.nx X' rfl (Fr.app K.fr hN) hO) hq)
theorem own_callSup (K : own_K p l e R s m args below meth c bytes own nm mx ret Q G Z T L k n h) {index W mx' : Nat} {y : MethodName} {bytes' : ByteArray} {ret' : Option FieldType} {rm : Room} {ps : List FieldType} {rr : Option FieldType} {Qc : Option Value → Heap → Prop} {argsL : List Value} {a : Addr} {Cc : String} (wl : (Cond.methodLink own index y).before a0 Z = true) (wsm : (Cond.sameMethod y.cls y.cls y.name y.desc).before a0 Z = true) (wi : (Cond.instanceMethod y).before a0 Z = true) (wsup : (Cond.superclass own y.cls).before a0 Z = true) (C : own_Ct l Z y bytes' mx' ret' [] rm (.ref a :: argsL).toArray h Qc) (hcd : (Cond.code y bytes' mx' ret').before a0 Z = true) (hin : (Cond.initialized (y).cls).before a0 Z = true) (hy : y.name ≠ "<init>") (E : Exa Z h a Cc)  (hstk : st = (argsL.reverse ++ .ref a :: rest)) (hpd : parseMethodDescriptor y.desc = some ⟨ps, rr⟩) (hal : argsL.length = ps.length) (hsz : Ls.size = mx) (hW : (rest.map fun v => v.category).sum = W) (hrf : rm.frames + 1 ≤ R.frames) (hrl : W + (mx' + 11) + rm.locals ≤ R.locals) (hrc : k + rm.cells ≤ R.cells) (hrs : n + rm.slots ≤ R.slots) (hd : decode bytes pc = .ok (.invokespecial index, 3)) (hp : pc + 3 = pc')
    (kk : ∀ T' h' L' v, own_K p l e R s m args below meth c bytes own nm mx ret Q G Z T' (L ++ L') (k + rm.cells) (n + rm.slots) h' → Qc v h' → G (T'.setTop (mkF m pc' Ls (v.toList ++ rest)))) : G (T.setTop (mkF m pc Ls st)) := by
  subst hp hstk
  obtain ⟨v, _, ⟨T', L1, k1, n1⟩, -, X', ⟨L', hQ, l1, l2, l3⟩, st'⟩ := RoadKit.superBack K.X K.hx K.hZ (y := y) K.hown wl wsm wi wsup hy (backOf (W := W) (Q := fun v h L => Fr Z.heap.size L ∧ Ext Z.heap h ∧ Qc v h) C K.hZ hcd hin hrf hrl) K.eh (Ins.self E) (g := mkF m pc Ls (argsL.reverse ++ .ref a :: rest)) rfl (by rw [K.hml]; exact hsz) hcd (argsL := argsL) (rest := rest) (fun sig q => by rw [hpd] at q; cases q; exact hal) rfl (by show 2 * 0 + _ ≤ _; rw [hW]; omega) (hb K.hby hd) (fun _ _ => ⟨rfl, K.eh, hrc, hrs⟩)
  dsimp only [Pt.U, Pt.locs, Pt.cells, Pt.slots] at X' l1 l2 l3 st' hQ
  subst l1 l2 l3
  obtain ⟨hN, hO, hq⟩ := hQ
  exact K.cl _ _ (fun t q => st'.trans q) (kk T' T'.heap L' v (K.nx X' rfl (Fr.app K.fr hN) hO) hq)
theorem own_callSK (K : own_K p l e R s m args below meth c bytes own nm mx ret Q G Z T L k n h) {index W mx' : Nat} {y : MethodName} {bytes' : ByteArray} {ret' : Option FieldType} {rm : Room} {ps : List FieldType} {rr : Option FieldType} {Qc : Option Value → Heap → Prop} {argsL : List Value} (hkn : s.vm.MethodsKnown ∧ s.vm.FramesKnown below) (wl : (Cond.methodLink own index y).before a0 Z = true) (ws : (Cond.static y).before a0 Z = true) (C : own_CtK l Z y bytes' mx' ret' [] rm argsL.toArray h Qc) (hcd : (Cond.code y bytes' mx' ret').before a0 Z = true) (hin : (Cond.initialized (y).cls).before a0 Z = true) (hy : y.cls ≠ "java/lang/invoke/MethodHandle" ∧ y.cls ≠ "java/lang/invoke/VarHandle")  (hstk : st = (argsL.reverse ++ rest)) (hpd : parseMethodDescriptor y.desc = some ⟨ps, rr⟩) (hal : argsL.length = ps.length) (hsz : Ls.size = mx) (hW : (rest.map fun v => v.category).sum = W) (hrf : rm.frames + 1 ≤ R.frames) (hrl : W + (mx' + 11) + rm.locals ≤ R.locals) (hrc : k + rm.cells ≤ R.cells) (hrs : n + rm.slots ≤ R.slots) (hd : decode bytes pc = .ok (.invokestatic index, 3)) (hp : pc + 3 = pc')
    (kk : ∀ T' h' L' v, own_K p l e R s m args below meth c bytes own nm mx ret Q G Z T' (L ++ L') (k + rm.cells) (n + rm.slots) h' → Qc v h' → G (T'.setTop (mkF m pc' Ls (v.toList ++ rest)))) : G (T.setTop (mkF m pc Ls st)) := by
  subst hp hstk
  obtain ⟨v, _, ⟨T', L1, k1, n1⟩, -, X', ⟨L', hQ, l1, l2, l3⟩, st'⟩ := Jvm.LawKit.callS K.X K.hx (y := y) K.hown (mvT K.hZ wl) (mvT K.hZ ws) (mvT K.hZ hin) (mvT K.hZ hcd) hy (backOfKL (W := W) (Q := fun v h L => Fr Z.heap.size L ∧ Ext Z.heap h ∧ Qc v h) C K.hZ hcd hin hrf hrl hkn.1 hkn.2) (g := mkF m pc Ls (argsL.reverse ++ rest)) rfl (by rw [K.hml]; exact hsz) (argsL := argsL) (rest := rest) (fun sig q => by rw [hpd] at q; cases q; exact hal) rfl (by show 2 * 0 + _ ≤ _; rw [hW]; omega) (hb K.hby hd) (fun _ _ => ⟨rfl, K.eh, hrc, hrs⟩)
  dsimp only [Pt.U, Pt.locs, Pt.cells, Pt.slots] at X' l1 l2 l3 st' hQ
  subst l1 l2 l3
  obtain ⟨hN, hO, hq⟩ := hQ
  exact K.cl _ _ (fun t q => st' t q) (kk T' T'.heap L' v (K.nx X' rfl (Fr.app K.fr hN) hO) hq)
theorem own_callIK (K : own_K p l e R s m args below meth c bytes own nm mx ret Q G Z T L k n h) {index W mx' : Nat} {y : MethodName} {bytes' : ByteArray} {rm : Room} {ps : List FieldType} {rr : Option FieldType} {Qc : Option Value → Heap → Prop} {argsL : List Value} (hkn : s.vm.MethodsKnown ∧ s.vm.FramesKnown below) {a : Addr} (wl : (Cond.methodLink own index y).before a0 Z = true) (wi : (Cond.instanceMethod y).before a0 Z = true) (C : own_CtK l Z y bytes' mx' none [] rm (.ref a :: argsL).toArray h Qc) (hcd : (Cond.code y bytes' mx' none).before a0 Z = true) (hin : (Cond.initialized (y).cls).before a0 Z = true) (hy : y.cls ≠ "java/lang/invoke/MethodHandle" ∧ y.cls ≠ "java/lang/invoke/VarHandle") (hy1 : y.name = "<init>")  (hstk : st = (argsL.reverse ++ .ref a :: rest)) (hpd : parseMethodDescriptor y.desc = some ⟨ps, rr⟩) (hal : argsL.length = ps.length) (hsz : Ls.size = mx) (hW : (rest.map fun v => v.category).sum = W) (hrf : rm.frames + 1 ≤ R.frames) (hrl : W + (mx' + 11) + rm.locals ≤ R.locals) (hrc : k + rm.cells ≤ R.cells) (hrs : n + rm.slots ≤ R.slots) (hd : decode bytes pc = .ok (.invokespecial index, 3)) (hp : pc + 3 = pc')
    (kk : ∀ T' h' L' v, own_K p l e R s m args below meth c bytes own nm mx ret Q G Z T' (L ++ L') (k + rm.cells) (n + rm.slots) h' → Qc v h' → G (T'.setTop (mkF m pc' Ls (v.toList ++ rest)))) : G (T.setTop (mkF m pc Ls st)) := by
  subst hp hstk
  obtain ⟨v, _, ⟨T', L1, k1, n1⟩, -, X', ⟨L', hQ, l1, l2, l3⟩, st'⟩ := K.X.specialBack K.hx (y := y) hy1 K.hown (mvT K.hZ wl) (mvT K.hZ wi) (mvT K.hZ hcd) hy (backOfKL (W := W) (Q := fun v h L => Fr Z.heap.size L ∧ Ext Z.heap h ∧ Qc v h) C K.hZ hcd hin hrf hrl hkn.1 hkn.2) (g := mkF m pc Ls (argsL.reverse ++ .ref a :: rest)) rfl (by rw [K.hml]; exact hsz) (Steps.refl _) (a := a) (argsL := argsL) (rest := rest) (fun sig q => by rw [hpd] at q; cases q; exact hal) rfl (by show 2 * 0 + _ ≤ _; rw [hW]; omega) (hb K.hby hd) (fun _ _ => ⟨rfl, K.eh, hrc, hrs⟩)
  dsimp only [Pt.U, Pt.locs, Pt.cells, Pt.slots] at X' l1 l2 l3 st' hQ
  subst l1 l2 l3
  obtain ⟨hN, hO, hq⟩ := hQ
  exact K.cl _ _ (fun t q => st'.trans q) (kk T' T'.heap L' v (K.nx X' rfl (Fr.app K.fr hN) hO) hq)
theorem own_excL1 (K : own_K p l e R s m args below meth c bytes own nm mx ret Q G Z T L k n h) (hkn : s.vm.MethodsKnown ∧ s.vm.FramesKnown below) (hl : l.stackTraces = true) {rc : String} {links : List Jvm.Free.Exc.Link} {ic j W : Nat} {a : Addr} {msg : Value} (hok : Jvm.Free.Exc.linksOk 1 links = true) (w1 : (Cond.methodLink own ic (Jvm.Free.Exc.ctor 1 (Jvm.Free.Exc.headName links))).before a0 Z = true) (w2 : (Cond.instanceMethod (Jvm.Free.Exc.ctor 1 (Jvm.Free.Exc.headName links))).before a0 Z = true) (wT : (Jvm.Free.Exc.chainTab 1 rc links).before a0 Z = true) (wi : (Cond.instantiable rc j).before a0 Z = true) (r : ∀ d ∈ twoRefs, d.before a0 Z = true) (hT0 : ThS Z s.heap) (E : Exa Z h a rc) (N : Unt h a) (B : Fld Z h a "java/lang/Throwable" "backtrace" "Ljava/lang/Object;" .null) (B2 : Fld Z h a "java/lang/Throwable" "detailMessage" "Ljava/lang/String;" .null) (hmsg : msg.isRef = true) (ha : Z.heap.size ≤ a) (hsz : Ls.size = mx) (hW : (rest.map fun v => v.category).sum = W) (hf : 4 + links.length ≤ R.frames) (hlo : W + (56 + 14 * links.length) ≤ R.locals) (hc : k + 1 ≤ R.cells) (hsl : n + 2752 ≤ R.slots) (hd : decode bytes pc = .ok (.invokespecial ic, 3)) (hp : pc + 3 = pc')
    (kk : ∀ T' h', own_K p l e R s m args below meth c bytes own nm mx ret Q G Z T' (L ++ sixLocs Z a) (k + 1) (n + 2752) h' → Kp Z h h' a → Exa Z h' a rc → Unt h' a → Fld Z h' a "java/lang/Throwable" "detailMessage" "Ljava/lang/String;" msg → G (T'.setTop (mkF m pc' Ls rest))) : G (T.setTop (mkF m pc Ls (msg :: .ref a :: rest))) := by
  subst hp
  obtain ⟨T', h', X', e', Kp', E', U', F', -, -, st'⟩ := excL1 K.X K.hx hl K.hZ K.hown (links := links) hok w1 w2 wT wi r hT0 (ThS.start.ext K.O) hkn.1 hkn.2 K.eh E N B B2 hmsg (g := mkF m pc Ls (msg :: .ref a :: rest)) rfl (by rw [K.hml]; exact hsz) (rest := rest) rfl (hb K.hby hd) hf (by show 2 * 0 + _ + _ ≤ _; rw [hW]; omega) hc hsl
  exact K.cl _ _ st' (kk T' h' (K.nx X' e' (Fr.six K.fr ha) (own_ext_keep K.O (keep_of_kp Kp') (fun x hx => by cases List.mem_singleton.mp hx; exact ha))) Kp' E' U' F')
theorem own_retI (K : own_K p l e R s m args below meth c bytes own nm mx ret Q G Z T L k n h) {z : Int32} (hd : decode bytes pc = .ok (.ireturn, 1)) (hr : ret = some .int) (hc : k ≤ R.cells) (hn : n ≤ R.slots) (hq : Q (some (.int z)) h) : G (T.setTop (mkF m pc Ls (.int z :: rest))) :=
  K.fin T L k n (some (.int z)) _ K.X K.fr (by rw [K.eh]; exact K.O) hc hn (fun q => by rw [K.hret, hr] at q; cases q) (by rw [K.eh]; exact hq) (fun fs hfs => retOut K.X K.hx (K.hret.trans hr) rfl (Or.inl ⟨rfl, Or.inl rfl, _, rfl⟩) (hb K.hby hd) hfs)
theorem own_retJ (K : own_K p l e R s m args below meth c bytes own nm mx ret Q G Z T L k n h) {z : Int64} (hd : decode bytes pc = .ok (.lreturn, 1)) (hr : ret = some .long) (hc : k ≤ R.cells) (hn : n ≤ R.slots) (hq : Q (some (.long z)) h) : G (T.setTop (mkF m pc Ls (.long z :: rest))) :=
  K.fin T L k n (some (.long z)) _ K.X K.fr (by rw [K.eh]; exact K.O) hc hn (fun q => by rw [K.hret, hr] at q; cases q) (by rw [K.eh]; exact hq) (fun fs hfs => retOut K.X K.hx (K.hret.trans hr) rfl (Or.inr (Or.inl ⟨rfl, rfl, _, rfl⟩)) (hb K.hby hd) hfs)
theorem own_retA (K : own_K p l e R s m args below meth c bytes own nm mx ret Q G Z T L k n h) {w : Value} {t : FieldType} (hd : decode bytes pc = .ok (.areturn, 1)) (hr : ret = some t) (ht : t.isReference = true) (hw : w.isRef = true) (hnw : narrow t w = w) (hc : k ≤ R.cells) (hn : n ≤ R.slots) (hq : Q (some (w)) h) : G (T.setTop (mkF m pc Ls (w :: rest))) :=
  K.fin T L k n (some (w)) _ K.X K.fr (by rw [K.eh]; exact K.O) hc hn (fun q => by rw [K.hret, hr] at q; cases q) (by rw [K.eh]; exact hq) (fun fs hfs => retOut K.X K.hx (K.hret.trans hr) hnw (Or.inr (Or.inr (Or.inr (Or.inr ⟨rfl, ht, hw⟩)))) (hb K.hby hd) hfs)
theorem own_retN (K : own_K p l e R s m args below meth c bytes own nm mx ret Q G Z T L k n h) {z z' : Int32} {t : FieldType} (hd : decode bytes pc = .ok (.ireturn, 1)) (hr : ret = some t) (ht : t = .boolean ∨ t = .byte ∨ t = .char ∨ t = .short) (hz : nar t z = z') (hc : k ≤ R.cells) (hn : n ≤ R.slots) (hq : Q (some (.int z')) h) : G (T.setTop (mkF m pc Ls (.int z :: rest))) := by
  subst hz
  exact K.fin T L k n (some (.int (nar t z))) _ K.X K.fr (by rw [K.eh]; exact K.O) hc hn (fun q => by rw [K.hret, hr] at q; cases q) (by rw [K.eh]; exact hq) (fun fs hfs => retN K.X K.hx (K.hret.trans hr) ht (hb K.hby hd) hfs)
theorem own_ret0 (K : own_K p l e R s m args below meth c bytes own nm mx ret Q G Z T L k n h) (hd : decode bytes pc = .ok (.return_, 1)) (hr : ret = none) (hc : k ≤ R.cells) (hn : n ≤ R.slots) (hq : Q none h) : G (T.setTop (mkF m pc Ls [])) :=
  K.fin T L k n none _ K.X K.fr (by rw [K.eh]; exact K.O) hc hn (fun _ => rfl) (by rw [K.eh]; exact hq) (fun fs hfs => K.X.returnOut K.hx (K.hret.trans hr) (hb K.hby hd) hfs)
end Own
section OwnNum
theorem own_lt {i n : Nat} (h : i < n) (hn : n < 2147483648) : Int32.ofNat i < Int32.ofNat n := by
  rw [Int32.lt_iff_toInt_lt, Int32.toInt_ofNat_of_lt (by omega), Int32.toInt_ofNat_of_lt (by omega)]
  omega
theorem own_nlt {i n : Nat} (h : n ≤ i) (hn : i < 2147483648) : ¬ Int32.ofNat i < Int32.ofNat n := by
  rw [Int32.lt_iff_toInt_lt, Int32.toInt_ofNat_of_lt (by omega), Int32.toInt_ofNat_of_lt (by omega)]
  omega
theorem own_nn {i : Nat} (h : i < 2147483648) : ¬ Int32.ofNat i < 0 := by
  rw [Int32.lt_iff_toInt_lt, Int32.toInt_ofNat_of_lt (by omega)]
  show ¬ (i : Int) < 0
  omega
theorem own_clamp {i : Nat} (h : i < 2147483648) : (Int32.ofNat i).toNatClampNeg = i := by
  rw [Int32.toNatClampNeg, Int32.toInt_ofNat_of_lt (by omega)]; rfl
theorem own_one (i : Nat) : Int32.ofNat i + (1 : Int32) = Int32.ofNat (i + 1) := (Int32.ofNat_add i 1).symm
theorem own_ofNat_inj {i n : Nat} (hi : i < 2147483648) (hn : n < 2147483648) (h : Int32.ofNat i = Int32.ofNat n) : i = n := by
  have := congrArg Int32.toInt h
  rw [Int32.toInt_ofNat_of_lt (by omega), Int32.toInt_ofNat_of_lt (by omega)] at this; omega
theorem own_i2c255 (x : Int32) : ¬ (x &&& (255 : Int32)).toUInt32.toUInt16.toUInt32.toInt32 < 0 ∧ (x &&& (255 : Int32)).toUInt32.toUInt16.toUInt32.toInt32 < 256 := by
  have h1 := c_mask x 255 8 (by decide) (by decide)
  have h2 := c_i2c (x &&& 255)
  rw [Int32.lt_iff_toInt_lt, Int32.lt_iff_toInt_lt]
  rw [show (0 : Int32).toInt = 0 from rfl, show (256 : Int32).toInt = 256 from rfl]
  omega
theorem own_nar_char {x : Int32} (h : ¬ x < 0 ∧ x < 65536) : nar .char x = x := by
  have h2 := c_i2c x
  rw [Int32.lt_iff_toInt_lt, Int32.lt_iff_toInt_lt, show (0 : Int32).toInt = 0 from rfl, show (65536 : Int32).toInt = 65536 from rfl] at h
  apply Int32.toInt_inj.mp
  show (x.toUInt32.toUInt16.toUInt32.toInt32).toInt = _
  omega
theorem own_lt_trans {x a b : Int32} (h : x < a) (h2 : a ≤ b) : x < b := by
  rw [Int32.lt_iff_toInt_lt] at *; rw [Int32.le_iff_toInt_le] at h2; omega
theorem own_nar_char8 {x : Int32} (h : ¬ x < 0 ∧ x < 256) : nar .char x = x := own_nar_char ⟨h.1, own_lt_trans h.2 (by decide)⟩
theorem own_n255 {x : Int32} (h : ¬ x < 0 ∧ x < 256) : ¬ (255 : Int32) < x := by
  obtain ⟨h1, h2⟩ := h
  rw [Int32.lt_iff_toInt_lt] at *; rw [show (256 : Int32).toInt = 256 from rfl] at h2; rw [show (255 : Int32).toInt = 255 from rfl]; omega
theorem own_nar_byte (x : Int32) : nar .byte x.toInt8.toInt32 = x.toInt8.toInt32 := by
  show (x.toInt8.toInt32).toInt8.toInt32 = _
  simp
theorem own_shr0 (x : Int32) : x >>> ((0 : Int32) &&& 31) = x := by
  have := c_ishr x 0 0 (by decide)
  apply Int32.toInt_inj.mp
  rw [this]; simp
end OwnNum
section OwnStr
/-- the bytes that a Latin-1 String keeps of its chars -/
def own_by (cs : List Int32) : List Value := cs.map fun c => Value.int c.toInt8.toInt32
theorem own_by_len (cs : List Int32) : (own_by cs).length = cs.length := by simp [own_by]
/-- a String of these chars, none above 255 -/
def own_Str (Z : State) (h : Heap) (a : Addr) (cs : List Int32) : Prop := Exa Z h a "java/lang/String" ∧ Fld Z h a "java/lang/String" "coder" "B" (.int 0) ∧ ∃ (b : Addr) (kb : ClassId), Fld Z h a "java/lang/String" "value" "[B" (.ref b) ∧ Arv Z h b kb .byte (Int32.ofNat cs.length) (own_by cs) (.int 0)
variable {Z : State} {h h' : Heap} {a : Addr} {cs : List Int32}
theorem own_Str.ext (S : own_Str Z h a cs) (E : Ext h h') : own_Str Z h' a cs := by
  obtain ⟨h1, h2, b, kb, h3, h4⟩ := S
  exact ⟨h1.ext E, h2.ext E, b, kb, h3.ext E, h4.ext E⟩
theorem own_Str.exa (S : own_Str Z h a cs) : Exa Z h a "java/lang/String" := S.1
theorem own_fill {cs : List Int32} {i : Nat} (hi : i < cs.length) : ((own_by (cs.take i)) ++ List.replicate (cs.length - i) (Value.int 0)).set i (.int (cs[i]).toInt8.toInt32) = (own_by (cs.take (i + 1))) ++ List.replicate (cs.length - (i + 1)) (Value.int 0) := by
  have hl : (own_by (cs.take i)).length = i := by rw [own_by_len, List.length_take]; omega
  rw [List.set_append_right _ _ (by omega), hl, Nat.sub_self, show cs.length - i = (cs.length - (i + 1)) + 1 by omega, List.replicate_succ, List.set_cons_zero]
  have e : own_by (cs.take (i + 1)) = own_by (cs.take i) ++ [.int (cs[i]).toInt8.toInt32] := by
    unfold own_by; rw [List.map_take, List.map_take, List.take_add_one, List.getElem?_map, List.getElem?_eq_getElem hi]; rfl
  rw [e, List.append_assoc, List.singleton_append]
end OwnStr
section OwnNum3
theorem own_ch_lt {x : Int32} (h : ¬ x < 0 ∧ x < 65536) : 0 ≤ x.toInt ∧ x.toInt < 65536 := by
  rw [Int32.lt_iff_toInt_lt, Int32.lt_iff_toInt_lt, show (0 : Int32).toInt = 0 from rfl, show (65536 : Int32).toInt = 65536 from rfl] at h; omega
theorem own_lo_lt {x : Int32} (h : ¬ x < 0 ∧ x < 256) : 0 ≤ x.toInt ∧ x.toInt < 256 := by
  rw [Int32.lt_iff_toInt_lt, Int32.lt_iff_toInt_lt, show (0 : Int32).toInt = 0 from rfl, show (256 : Int32).toInt = 256 from rfl] at h; omega
theorem own_lo_ch {x : Int32} (h : ¬ x < 0 ∧ x < 256) : ¬ x < 0 ∧ x < 65536 := ⟨h.1, own_lt_trans h.2 (by decide)⟩
theorem own_g255 {x : Int32} (h : ¬ x < 256) : (255 : Int32) < x := by
  rw [Int32.lt_iff_toInt_lt] at *; rw [show (256 : Int32).toInt = 256 from rfl] at h; rw [show (255 : Int32).toInt = 255 from rfl]; omega
/-- a Latin-1 byte, read -/
theorem own_rd1 {x : Int32} (h : ¬ x < 0 ∧ x < 256) : x.toInt8.toInt32 &&& 255 = x := by
  have h1 := c_mask x.toInt8.toInt32 255 8 (by decide) (by decide)
  have h2 := c_i2b x
  have h3 := own_lo_lt h
  apply Int32.toInt_inj.mp
  omega
theorem own_i2c_id {x : Int32} (h : ¬ x < 0 ∧ x < 65536) : x.toUInt32.toUInt16.toUInt32.toInt32 = x := by
  have h2 := c_i2c x
  have h3 := own_ch_lt h
  apply Int32.toInt_inj.mp
  omega
/-- the two bytes of a char -/
def own_b0 (x : Int32) : Int32 := (x >>> ((0 : Int32) &&& 31)).toInt8.toInt32
def own_b1 (x : Int32) : Int32 := (x >>> ((8 : Int32) &&& 31)).toInt8.toInt32
theorem own_rd2 {x : Int32} (h : ¬ x < 0 ∧ x < 65536) : nar .char (((own_b0 x &&& 255) <<< ((0 : Int32) &&& 31)) ||| ((own_b1 x &&& 255) <<< ((8 : Int32) &&& 31))).toUInt32.toUInt16.toUInt32.toInt32 = x := by
  have h3 := own_ch_lt h
  have a1 := c_ishr x 0 0 (by decide)
  have a2 := c_ishr x 8 8 (by decide)
  have b1 := c_i2b (x >>> ((0 : Int32) &&& 31))
  have b2 := c_i2b (x >>> ((8 : Int32) &&& 31))
  have m1 := c_mask (own_b0 x) 255 8 (by decide) (by decide)
  have m2 := c_mask (own_b1 x) 255 8 (by decide) (by decide)
  have s1 := c_ishl (own_b0 x &&& 255) 0 0 (by decide)
  have s2 := c_ishl (own_b1 x &&& 255) 8 8 (by decide)
  have r1 : ∀ y : Int32, -2147483648 ≤ y.toInt ∧ y.toInt < 2147483648 := fun y => ⟨Int32.le_toInt y, Int32.toInt_lt y⟩
  have r2 := r1 ((own_b0 x &&& 255) <<< ((0 : Int32) &&& 31))
  have r3 := r1 ((own_b1 x &&& 255) <<< ((8 : Int32) &&& 31))
  have e0 : own_b0 x = (x >>> ((0 : Int32) &&& 31)).toInt8.toInt32 := rfl
  have e1 : own_b1 x = (x >>> ((8 : Int32) &&& 31)).toInt8.toInt32 := rfl
  rw [← e0] at b1; rw [← e1] at b2
  have o := c_or' ((own_b0 x &&& 255) <<< ((0 : Int32) &&& 31)) ((own_b1 x &&& 255) <<< ((8 : Int32) &&& 31)) 8 (by decide) 256 rfl (by omega) (by omega) (by omega)
  generalize ((own_b0 x &&& 255) <<< ((0 : Int32) &&& 31)) ||| ((own_b1 x &&& 255) <<< ((8 : Int32) &&& 31)) = y at o
  have q := c_i2c y
  have r4 := r1 y
  have q2 := c_i2c y.toUInt32.toUInt16.toUInt32.toInt32
  apply Int32.toInt_inj.mp
  show (y.toUInt32.toUInt16.toUInt32.toInt32.toUInt32.toUInt16.toUInt32.toInt32).toInt = _
  omega
theorem own_nar_b0 (x : Int32) : nar .byte (own_b0 x) = own_b0 x := own_nar_byte _
theorem own_nar_b1 (x : Int32) : nar .byte (own_b1 x) = own_b1 x := own_nar_byte _
theorem own_shl1 {i : Nat} (h : i < 1073741824) : Int32.ofNat i <<< ((1 : Int32) &&& 31) = Int32.ofNat (2 * i) := by
  have := c_ishl (Int32.ofNat i) 1 1 (by decide)
  have r1 : ∀ y : Int32, -2147483648 ≤ y.toInt ∧ y.toInt < 2147483648 := fun y => ⟨Int32.le_toInt y, Int32.toInt_lt y⟩
  have r := r1 (Int32.ofNat i <<< ((1 : Int32) &&& 31))
  rw [Int32.toInt_ofNat_of_lt (by omega)] at this
  apply Int32.toInt_inj.mp
  rw [Int32.toInt_ofNat_of_lt (by omega)]
  omega
theorem own_shl0 (x : Int32) : x <<< ((0 : Int32) &&& 31) = x := by
  have := c_ishl x 0 0 (by decide)
  have r1 : ∀ y : Int32, -2147483648 ≤ y.toInt ∧ y.toInt < 2147483648 := fun y => ⟨Int32.le_toInt y, Int32.toInt_lt y⟩
  have r := r1 (x <<< ((0 : Int32) &&& 31))
  have r2 := r1 x
  apply Int32.toInt_inj.mp
  omega
theorem own_shr1 {i : Nat} (h : i < 1073741824) : Int32.ofNat (2 * i) >>> ((1 : Int32) &&& 31) = Int32.ofNat i := by
  have := c_ishr (Int32.ofNat (2 * i)) 1 1 (by decide)
  rw [Int32.toInt_ofNat_of_lt (by omega)] at this
  apply Int32.toInt_inj.mp
  rw [Int32.toInt_ofNat_of_lt (by omega)]
  omega
theorem own_addN (i j : Nat) : Int32.ofNat i + Int32.ofNat j = Int32.ofNat (i + j) := (Int32.ofNat_add i j).symm
theorem own_subN {i j : Nat} (h : j ≤ i) : Int32.ofNat i - Int32.ofNat j = Int32.ofNat (i - j) := by
  obtain ⟨k, rfl⟩ := Nat.exists_eq_add_of_le h
  rw [← own_addN, Nat.add_sub_cancel_left, Int32.add_comm, Int32.add_sub_cancel]
theorem own_orNN {i j : Nat} (hi : i < 2147483648) (hj : j < 2147483648) : ¬ (Int32.ofNat i ||| Int32.ofNat j) < 0 := by
  have := (c_orS (Int32.ofNat i) (Int32.ofNat j)).1
  rw [Int32.toInt_ofNat_of_lt (by omega), Int32.toInt_ofNat_of_lt (by omega)] at this
  rw [Int32.lt_iff_toInt_lt, show (0 : Int32).toInt = 0 from rfl]
  omega
theorem own_orNN3 {i j k : Nat} (hi : i < 2147483648) (hj : j < 2147483648) (hk : k < 2147483648) : ¬ (Int32.ofNat i ||| Int32.ofNat j ||| Int32.ofNat k) < 0 := by
  have h1 := own_orNN hi hj
  have := (c_orS (Int32.ofNat i ||| Int32.ofNat j) (Int32.ofNat k)).1
  rw [Int32.lt_iff_toInt_lt, show (0 : Int32).toInt = 0 from rfl] at h1
  rw [Int32.toInt_ofNat_of_lt (by omega)] at this
  rw [Int32.lt_iff_toInt_lt, show (0 : Int32).toInt = 0 from rfl]
  omega
theorem own_ne0 {i : Nat} (h : 0 < i) (hn : i < 2147483648) : ¬ Int32.ofNat i = 0 := fun q => by have := own_ofNat_inj hn (by decide : 0 < 2147483648) q; omega
end OwnNum3
section OwnStr3
/-- the bytes of a UTF-16 String's chars -/
def own_by2 : List Int32 → List Value
  | [] => []
  | c :: cs => .int (own_b0 c) :: .int (own_b1 c) :: own_by2 cs
theorem own_by2_len : ∀ cs : List Int32, (own_by2 cs).length = 2 * cs.length
  | [] => rfl
  | c :: cs => by simp only [own_by2, List.length_cons, own_by2_len cs]; omega
theorem own_by2_app : ∀ cs ds : List Int32, own_by2 (cs ++ ds) = own_by2 cs ++ own_by2 ds
  | [], ds => rfl
  | c :: cs, ds => by simp only [own_by2, List.cons_append, own_by2_app cs ds]
theorem own_by_app (cs ds : List Int32) : own_by (cs ++ ds) = own_by cs ++ own_by ds := by simp [own_by]
theorem own_by2_get : ∀ (cs : List Int32) (i : Nat) (h : i < cs.length), (own_by2 cs).getD (2 * i) (.int 0) = .int (own_b0 cs[i]) ∧ (own_by2 cs).getD (2 * i + 1) (.int 0) = .int (own_b1 cs[i])
  | c :: cs, 0, _ => ⟨rfl, rfl⟩
  | c :: cs, i + 1, h => by
    have := own_by2_get cs i (by simpa using h)
    rw [show 2 * (i + 1) = (2 * i) + 1 + 1 by omega]
    exact this
theorem own_by_get (cs : List Int32) (i : Nat) (h : i < cs.length) : (own_by cs).getD i (.int 0) = .int (cs[i]).toInt8.toInt32 := by
  simp [own_by, h]
/-- coder, bytes and how many, by whether the String is UTF-16 -/
def own_cd (u : Bool) : Int32 := cond u 1 0
def own_bs (u : Bool) (cs : List Int32) : List Value := cond u (own_by2 cs) (own_by cs)
def own_bn (u : Bool) (n : Nat) : Nat := cond u (2 * n) n
theorem own_bs_len (u : Bool) (cs : List Int32) : (own_bs u cs).length = own_bn u cs.length := by cases u; exact own_by_len cs; exact own_by2_len cs
theorem own_bs_app (u : Bool) (cs ds : List Int32) : own_bs u (cs ++ ds) = own_bs u cs ++ own_bs u ds := by cases u; exact own_by_app cs ds; exact own_by2_app cs ds
theorem own_bn_le (u : Bool) {n m : Nat} (h : n ≤ m) : own_bn u n ≤ own_bn u m := by cases u <;> simp only [own_bn, cond] <;> omega
theorem own_bn_2 (u : Bool) (n : Nat) : own_bn u n ≤ 2 * n := by cases u <;> simp only [own_bn, cond] <;> omega
/-- each is a char; no char of a Latin-1 one is above 255 -/
def own_ok (u : Bool) (cs : List Int32) : Prop := ∀ c ∈ cs, ¬ c < 0 ∧ c < cond u 65536 256
/-- a String of these chars -/
def own_StrG (Z : State) (h : Heap) (a : Addr) (u : Bool) (cs : List Int32) : Prop := Exa Z h a "java/lang/String" ∧ Fld Z h a "java/lang/String" "coder" "B" (.int (own_cd u)) ∧ ∃ (b : Addr) (kb : ClassId), Fld Z h a "java/lang/String" "value" "[B" (.ref b) ∧ Arv Z h b kb .byte (Int32.ofNat (own_bn u cs.length)) (own_bs u cs) (.int 0)
variable {Z : State} {h h' : Heap} {a : Addr} {cs : List Int32} {u : Bool}
theorem own_StrG.ext (S : own_StrG Z h a u cs) (E : Ext h h') : own_StrG Z h' a u cs := by
  obtain ⟨h1, h2, b, kb, h3, h4⟩ := S
  exact ⟨h1.ext E, h2.ext E, b, kb, h3.ext E, h4.ext E⟩
theorem own_StrG.exa (S : own_StrG Z h a u cs) : Exa Z h a "java/lang/String" := S.1
theorem own_set_end (vs : List Value) (x d : Value) : (vs ++ List.replicate 1 d).set vs.length x = vs ++ [x] := by
  rw [List.set_append_right _ _ (Nat.le_refl _), Nat.sub_self]; rfl
theorem own_set_end2 (vs : List Value) (x y d : Value) : ((vs ++ List.replicate 2 d).set vs.length x).set (vs.length + 1) y = vs ++ [x, y] := by
  rw [List.set_append_right _ _ (Nat.le_refl _), Nat.sub_self, List.set_append_right _ _ (by omega), Nat.add_sub_cancel_left]; rfl
end OwnStr3
section OwnStep3
theorem own_nfS {args : Array Value} {s : State} {C : String} {y1 y2 y : MethodName} (hsel : (Cond.selects C y1 y2).before args s = true) (hc : y2.cls = y.cls) : NotFace s y := fun r0 h0 => by
  obtain ⟨c, r, m, -, -, q3, -, mk, q4, q5⟩ := Cond.selects_spec hsel
  have e1 := findClass_of_methodNamed q3
  have e2 := findClass_of_methodNamed h0
  rw [hc, e2] at e1
  rw [← Option.some.inj e1] at q4
  exact ⟨mk, q4, q5⟩
theorem own_sameSelf {args : Array Value} {s : State} {y : MethodName} (hi : (Cond.instanceMethod y).before args s = true) (hn : NotFace s y) (hx : y.cls ≠ "java/lang/invoke/MethodHandle" ∧ y.cls ≠ "java/lang/invoke/VarHandle") : (Cond.sameMethod y.cls y.cls y.name y.desc).before args s = true := by
  obtain ⟨mk, methM, hnamed, hmethM, -, -⟩ := Cond.instanceMethod_spec hi
  obtain ⟨kr, q1, q2⟩ := hn mk hnamed
  have hf := State.methodFound?_of_named hnamed hx
  have hc := findClass_of_methodNamed hnamed
  have hnamed' : s.methodNamed? ⟨y.cls, y.name, y.desc⟩ = some mk := hnamed
  simp [Cond.before, Cond.holds, Cond.value, hf, hc, hnamed', q1, q2]
theorem own_selfSel {args : Array Value} {s : State} {y : MethodName} (hi : (Cond.instanceMethod y).before args s = true) (hp : (Cond.privateMethod y).before args s = true) (hn : NotFace s y) (hx : y.cls ≠ "java/lang/invoke/MethodHandle" ∧ y.cls ≠ "java/lang/invoke/VarHandle") : (Cond.selects y.cls y y).before args s = true := by
  obtain ⟨mk, methM, hnamed, hmethM, -, -⟩ := Cond.instanceMethod_spec hi
  obtain ⟨kr, q1, q2⟩ := hn mk hnamed
  have hf := State.methodFound?_of_named hnamed hx
  have hc := findClass_of_methodNamed hnamed
  have hs : selectMethod {} s.vm mk.cls mk = .method mk := selectMethod_private hmethM (Cond.privateMethod_at hp mk methM hnamed hmethM)
  simp [Cond.before, Cond.holds, Cond.value, hf, hc, hnamed, q1, q2, hs]
variable {p : Program} {l : Launch} {e : Env} {R : Room} {s : State} {m : MethodId} {args : Array Value} {below : List Frame} {meth : Method} {c : Code} {bytes : ByteArray} {own nm : String} {mx : Nat} {ret : Option FieldType} {Q : Option Value → Heap → Prop} {G : State → Prop} {Z T T' : State} {L L' : List Loc} {k n k' n' : Nat} {h h' h1 h2 : Heap} {a0 : Array Value} {pc pc' : Nat} {Ls Ls' : Array Slot} {st rest : List Value}
theorem own_lookup (K : own_K p l e R s m args below meth c bytes own nm mx ret Q G Z T L k n h) {df off : Int} {ps : Array (Int × Int)} {ln : Nat} {i : Int32} (hd : decode bytes pc = .ok (.lookupswitch df ps, ln)) (hso : (ps.toList.zip ps.toList.tail).all (fun q => decide (q.1.1 < q.2.1)) = true) (ho : lookupswitch.offset ps.toList df i.toInt = off) (h0 : 0 ≤ (pc : Int) + off) (hp : ((pc : Int) + off).toNat = pc') (kk : G (T.setTop (mkF m pc' Ls rest))) : G (T.setTop (mkF m pc Ls (.int i :: rest))) := by
  subst hp ho
  refine K.cl _ _ (fun t q => ?_) kk
  have hh := K.here
  have hd' : decode c.code pc = .ok (.lookupswitch df ps, ln) := by rw [K.hby]; exact hd
  have hz : 0 ≤ ((mkF m pc Ls (.int i :: rest)).pc : Int) + lookupswitch.offset ps.toList df i.toInt := h0
  jvm_step hh [hh.top, K.hx, hd', lookupswitch.wp_chain, hz, mkF]
  exact ⟨fun a b a1 b1 hm => of_decide_eq_true (List.all_eq_true.mp hso _ hm), q⟩
theorem own_arraycopy (K : own_K p l e R s m args below meth c bytes own nm mx ret Q G Z T L k n h) {index W : Nat} (w1 : (Cond.methodLink own index Jvm.Stand.acN).before a0 Z = true) (w2 : (Cond.native Jvm.Stand.acN).before a0 Z = true) (w3 : (Cond.static Jvm.Stand.acN).before a0 Z = true) (w4 : (Cond.initialized "java/lang/System").before a0 Z = true)
    {a b : Addr} {ka kb : ClassId} {z z' : Int32} {vs vd us : List Value} {dv dd : Value} {sp dp nn : Nat} (A : Arv Z h a ka .byte z vs dv) (B : Arv Z h b kb .byte z' vd dd) (hsp : sp < 2147483648) (hdp : dp < 2147483648) (hnn : nn < 2147483648) (h4 : sp + nn ≤ z.toNatClampNeg) (h5 : dp + nn ≤ z'.toNatClampNeg) (hus : (List.range nn).map (fun i => vs.getD (sp + i) dv) = us) (hl : dp + nn ≤ vd.length) (gb : Z.heap.size ≤ b) (hsz : Ls.size = mx) (hW : (rest.map fun v => v.category).sum = W) (hf : 1 ≤ R.frames) (hlo : W + (nativeFrameWords "java/lang/System" "arraycopy" 5 + 11) ≤ R.locals) (hd : decode bytes pc = .ok (.invokestatic index, 3)) (hp : pc + 3 = pc')
    (kk : ∀ T' h' L', own_K p l e R s m args below meth c bytes own nm mx ret Q G Z T' L' k n h' → Keep h h' [b] → Arv Z h' b kb .byte z' (vd.take dp ++ us ++ vd.drop (dp + nn)) dd → G (T'.setTop (mkF m pc' Ls rest))) : G (T.setTop (mkF m pc Ls (.int (Int32.ofNat nn) :: .int (Int32.ofNat dp) :: .ref b :: .int (Int32.ofNat sp) :: .ref a :: rest))) := by
  subst hp hus
  obtain ⟨T', h', L', X', e', N', Kp, V, st'⟩ := cpA K.X K.hx K.hZ K.hown w1 w2 w3 w4 K.eh A B (sp := Int32.ofNat sp) (dp := Int32.ofNat dp) (nn := Int32.ofNat nn) (us := (List.range nn).map fun i => vs.getD (sp + i) dv) (Or.inl ⟨rfl, rfl⟩) (own_nn hsp) (own_nn hdp) (own_nn hnn) (by rw [own_clamp hsp, own_clamp hnn]; exact h4) (by rw [own_clamp hdp, own_clamp hnn]; exact h5) (by rw [own_clamp hsp, own_clamp hnn]) (by rw [own_clamp hdp, own_clamp hnn]; exact hl) K.fr gb (g := mkF m pc Ls (.int (Int32.ofNat nn) :: .int (Int32.ofNat dp) :: .ref b :: .int (Int32.ofNat sp) :: .ref a :: rest)) rfl (by rw [K.hml]; exact hsz) (rest := rest) rfl (hb K.hby hd) hf (W := W) (by show 2 * 0 + _ ≤ _; rw [hW]; omega) hlo
  rw [own_clamp hdp, own_clamp hnn] at V
  exact K.cl _ _ st' (kk T' h' L' (K.nx X' e' N' (own_ext_keep K.O Kp (fun x hx => by cases List.mem_singleton.mp hx; exact gb))) Kp V)
end OwnStep3
section OwnAc
theorem own_ext_of_keep' {h h1 : Heap} (E : Ext h h1) (ws : List Addr) : Keep h h1 ws := (Keep.refl h ws).ext E
theorem own_acw : nativeFrameWords "java/lang/System" "arraycopy" 5 + 11 ≤ 40 := by decide +kernel
end OwnAc
section OwnSta
theorem own_staR {a0 : Array Value} {Z : State} {C F D : String} (q : (Jvm.Cond.isRef (.static C F D)).before a0 Z = true) (w1 : (Cond.initializedFor C F D).before a0 Z = true) : ∃ u, Sta Z Z.heap C F D u ∧ u.isRef = true := by
  obtain ⟨u, e, r⟩ := isR_v (Cond.before_iff.mp q)
  exact ⟨u, Sta.start e (Or.inl w1), r⟩
theorem own_staI {a0 : Array Value} {Z : State} {C F D : String} {v : Int32} (q : (Jvm.Cond.eq (.static C F D) (.int v)).before a0 Z = true) (w1 : (Cond.initializedFor C F D).before a0 Z = true) : Sta Z Z.heap C F D (.int v) := by
  exact Sta.start (eqv_i (Term.int_eval v) (Cond.before_iff.mp q)) (Or.inl w1)
end OwnSta
section OwnClone
variable {p : Program} {l : Launch} {e : Env} {R : Room} {s : State} {m : MethodId} {args : Array Value} {below : List Frame} {meth : Method} {c : Code} {bytes : ByteArray} {own nm : String} {mx : Nat} {ret : Option FieldType} {Q : Option Value → Heap → Prop} {G : State → Prop} {Z T T' : State} {L L' : List Loc} {k n k' n' : Nat} {h h' h1 h2 : Heap} {a0 : Array Value} {pc pc' : Nat} {Ls Ls' : Array Slot} {st rest : List Value}
theorem own_newPB (K : own_K p l e R s m args below meth c bytes own nm mx ret Q G Z T L k n h) {z : Int32} {cap : Nat} (w : (Cond.arrayClass .byte).before a0 Z = true) (hd : decode bytes pc = .ok (.newarray .byte, 2)) (hz : ¬ z < 0) (hcap : z.toNatClampNeg ≤ cap) (hcb : cap * 8 ≤ 536870912) (hc : k + 1 ≤ R.cells) (hl : n + cap ≤ R.slots) (hp : pc + 2 = pc')
    (kk : ∀ T' h' (a : Addr) (cA : ClassId), own_K p l e R s m args below meth c bytes own nm mx ret Q G Z T' L (k + 1) (n + cap) h' → a = h.size → Ext h h' → Arv Z h' a cA .byte z [] (.int 0) → Exa Z h' a "[B" → G (T'.setTop (mkF m pc' Ls (.ref a :: rest)))) : G (T.setTop (mkF m pc Ls (.int z :: rest))) := by
  subst hp
  obtain ⟨T', h', cA, X', e', E', A', B', st'⟩ := newPE K.X K.hx K.hZ (aty := .byte) w K.eh (g := mkF m pc Ls (.int z :: rest)) rfl (hb K.hby hd) rfl hz hcap hcb hc hl (ad := "[B") (by decide)
  exact K.cl _ _ st' (kk T' h' h.size cA (K.nx X' e' K.fr (own_ext_trans K.O E')) rfl E' (Arv.new A' hz) B')
theorem own_clone (K : own_K p l e R s m args below meth c bytes own nm mx ret Q G Z T L k n h) {ad : String} {index W cap : Nat} {a : Addr} {kA : ClassId} {ty : FieldType} {z : Int32} {vs : List Value} {dv : Value}
    (w1 : (Cond.methodLink own index ⟨ad, "clone", "()Ljava/lang/Object;"⟩).before a0 Z = true) (w2 : (Cond.sameMethod ad "java/lang/Object" "clone" "()Ljava/lang/Object;").before a0 Z = true) (w3 : (Cond.native ⟨"java/lang/Object", "clone", "()Ljava/lang/Object;"⟩).before a0 Z = true)
    (w4 : (Cond.instanceMethod ⟨"java/lang/Object", "clone", "()Ljava/lang/Object;"⟩).before a0 Z = true) (w5 : (Cond.selects ad ⟨ad, "clone", "()Ljava/lang/Object;"⟩ ⟨"java/lang/Object", "clone", "()Ljava/lang/Object;"⟩).before a0 Z = true) (w6 : (Cond.castable ad "java/lang/Cloneable").before a0 Z = true)
    (V : Arv Z h a kA ty z vs dv) (E : Exa Z h a ad) (hsz : Ls.size = mx) (hW : (rest.map fun v => v.category).sum = W) (hf : 1 ≤ R.frames) (hlo : W + 14 ≤ R.locals) (hcap : z.toNatClampNeg ≤ cap) (hc : k + 1 ≤ R.cells) (hl : n + cap ≤ R.slots) (hd : decode bytes pc = .ok (.invokevirtual index, 3)) (hp : pc + 3 = pc')
    (kk : ∀ T' h' (b : Addr), own_K p l e R s m args below meth c bytes own nm mx ret Q G Z T' L (k + 1) (n + cap) h' → b = h.size → Ext h h' → Arv Z h' b kA ty z vs dv → Exa Z h' b ad → G (T'.setTop (mkF m pc' Ls (.ref b :: rest)))) : G (T.setTop (mkF m pc Ls (.ref a :: rest))) := by
  subst hp
  obtain ⟨cl, A, q1, S, q3, H, Gf⟩ := V
  have FC : FitC Z cl := fitC_of A fun i hi v hv => by rw [H i hi] at hv; cases hv; exact Gf i hi
  obtain ⟨T', h', X', e', E', A', B', st'⟩ := cloneA K.X K.hx K.hZ K.hown w1 w2 w3 w4 w5 w6 K.eh A E FC (g := mkF m pc Ls (.ref a :: rest)) rfl (by rw [K.hml]; exact hsz) rfl (hb K.hby hd) hf (W := W) (by show 2 * 0 + _ ≤ _; rw [hW]; omega) hlo (by rw [S]; exact hcap) hc hl
  exact K.cl _ _ st' (kk T' h' h.size (K.nx X' e' K.fr (own_ext_trans K.O E')) rfl E' ⟨cloneOf cl, A', q1, S, q3, H, Gf⟩ B')
end OwnClone

section OwnW
open Jvm.Free.SB Jvm.Free.SBG
/-- a wide contract: kc: the constants' invariant is handed on at the end; kn: known frames are asked -/
def own_CtW (l : Launch) (Z : State) (EL : List (String × Nat)) (kc kn : Bool) (y : MethodName) (bytes : ByteArray) (mx : Nat) (ret : Option FieldType) (ws : List Jvm.Cond) (rm : Room) (as' : Array Value) (h0 : Heap) (Q : Option Value → Heap → Prop) : Prop :=
  MetFree l y (head1 (Jvm.Cond.code y bytes mx ret :: ws) rm) (fun a U => a = as' ∧ Z.Warmed39 U.vm ∧ U.heap = h0 ∧ CHv Z EL U.vm h0) (fun _ _ bl s _ => kn = true → s.vm.MethodsKnown ∧ s.vm.FramesKnown bl) (fun _ U o U' => ∃ v L, o = .returned v ∧ (Fr Z.heap.size L ∧ Ext Z.heap U'.heap ∧ Q v U'.heap) ∧ (kc = true → CHr Z EL U.vm U.heap U'.vm U'.heap) ∧ ReturnedEndW U o U' L rm.cells rm.slots)
/-- what the body's end asks where the tables stand at vm -/
def own_QW (Z : State) (EL : List (String × Nat)) (kc : Bool) (vm0 : Vm) (h0 : Heap) (vm : Vm) (k1 : Nat) (Q : Option Value → Heap → Prop) : Option Value → Heap → Prop := fun v h => (Q v h ∧ k1 ≤ h.size) ∧ (kc = true → CHr Z EL vm0 h0 vm h)
def own_FW (p : Program) (l : Launch) (e : Env) (R : Room) (s : State) (m : MethodId) (args : Array Value) (below : List Frame) (meth : Method) (c : Code) (Q : Option Value → Heap → Prop) (G : State → Prop) (Z : State) (EL : List (String × Nat)) (kc : Bool) (vm0 : Vm) (h0 : Heap) : Prop :=
  ∀ (vm : Vm) (k1 : Nat), s.Since vm k1 → Z.Warmed39 vm → own_Fin p l e R (s.setVm vm) m args below meth c (own_QW Z EL kc vm0 h0 vm k1 Q) G Z
/-- where a walk that may intern stands -/
def own_KW (p : Program) (l : Launch) (e : Env) (R : Room) (s : State) (m : MethodId) (args : Array Value) (below : List Frame) (meth : Method) (c : Code) (bytes : ByteArray) (own nm : String) (mx : Nat) (ret : Option FieldType) (Q : Option Value → Heap → Prop) (G : State → Prop) (Z : State) (EL : List (String × Nat)) (kc : Bool) (vm0 : Vm) (h0 : Heap) (vm : Vm) (k1 : Nat) (T : State) (L : List Loc) (k n : Nat) (h : Heap) : Prop :=
  own_K p l e R (s.setVm vm) m args below meth c bytes own nm mx ret (own_QW Z EL kc vm0 h0 vm k1 Q) G Z T L k n h ∧ own_FW p l e R s m args below meth c Q G Z EL kc vm0 h0 ∧ s.Since vm k1 ∧ k1 ≤ h.size ∧ CHr Z EL vm0 h0 vm h
variable {p : Program} {l : Launch} {e : Env} {R : Room} {s : State} {m : MethodId} {args : Array Value} {below : List Frame} {meth : Method} {c : Code} {bytes : ByteArray} {own nm : String} {mx : Nat} {ret : Option FieldType} {Q : Option Value → Heap → Prop} {G : State → Prop} {Z T T' : State} {L L' : List Loc} {k n k' n' : Nat} {h h' h0 h1 h2 : Heap} {a0 : Array Value} {pc pc' : Nat} {Ls Ls' : Array Slot} {st rest : List Value} {EL : List (String × Nat)} {kc : Bool} {vm0 vm vm' : Vm} {k1 : Nat}
theorem own_KW.K (W : own_KW p l e R s m args below meth c bytes own nm mx ret Q G Z EL kc vm0 h0 vm k1 T L k n h) : own_K p l e R (s.setVm vm) m args below meth c bytes own nm mx ret (own_QW Z EL kc vm0 h0 vm k1 Q) G Z T L k n h := W.1
theorem own_KW.F (W : own_KW p l e R s m args below meth c bytes own nm mx ret Q G Z EL kc vm0 h0 vm k1 T L k n h) : own_FW p l e R s m args below meth c Q G Z EL kc vm0 h0 := W.2.1
theorem own_KW.S (W : own_KW p l e R s m args below meth c bytes own nm mx ret Q G Z EL kc vm0 h0 vm k1 T L k n h) : s.Since vm k1 := W.2.2.1
theorem own_KW.le (W : own_KW p l e R s m args below meth c bytes own nm mx ret Q G Z EL kc vm0 h0 vm k1 T L k n h) : k1 ≤ h.size := W.2.2.2.1
theorem own_KW.C (W : own_KW p l e R s m args below meth c bytes own nm mx ret Q G Z EL kc vm0 h0 vm k1 T L k n h) : CHr Z EL vm0 h0 vm h := W.2.2.2.2
theorem own_KW.hZ (W : own_KW p l e R s m args below meth c bytes own nm mx ret Q G Z EL kc vm0 h0 vm k1 T L k n h) : Z.Warmed39 vm := W.1.hZ
/-- narrow steps behind: the heap has gone on as the constants' invariant allows -/
theorem own_KW.nx (W : own_KW p l e R s m args below meth c bytes own nm mx ret Q G Z EL kc vm0 h0 vm k1 T L k n h) (K' : own_K p l e R (s.setVm vm) m args below meth c bytes own nm mx ret (own_QW Z EL kc vm0 h0 vm k1 Q) G Z T' L' k' n' h') (C' : CHr Z EL vm h vm h') : own_KW p l e R s m args below meth c bytes own nm mx ret Q G Z EL kc vm0 h0 vm k1 T' L' k' n' h' :=
  ⟨K', W.F, W.S, Nat.le_trans W.le C'.2.1, W.C.trans C'⟩
theorem own_KW.same (W : own_KW p l e R s m args below meth c bytes own nm mx ret Q G Z EL kc vm0 h0 vm k1 T L k n h) (K' : own_K p l e R (s.setVm vm) m args below meth c bytes own nm mx ret (own_QW Z EL kc vm0 h0 vm k1 Q) G Z T' L' k' n' h) : own_KW p l e R s m args below meth c bytes own nm mx ret Q G Z EL kc vm0 h0 vm k1 T' L' k' n' h := W.nx K' (CHr.refl W.C.1)
theorem own_KW.ext (W : own_KW p l e R s m args below meth c bytes own nm mx ret Q G Z EL kc vm0 h0 vm k1 T L k n h) (K' : own_K p l e R (s.setVm vm) m args below meth c bytes own nm mx ret (own_QW Z EL kc vm0 h0 vm k1 Q) G Z T' L' k' n' h') (E : Ext h h') : own_KW p l e R s m args below meth c bytes own nm mx ret Q G Z EL kc vm0 h0 vm k1 T' L' k' n' h' := W.nx K' (CHr.ext E W.C.1)
theorem own_KW.wr (W : own_KW p l e R s m args below meth c bytes own nm mx ret Q G Z EL kc vm0 h0 vm k1 T L k n h) (K' : own_K p l e R (s.setVm vm) m args below meth c bytes own nm mx ret (own_QW Z EL kc vm0 h0 vm k1 Q) G Z T' L' k' n' h') {a : Addr} {sl : Nat} {v : Value} (X : Wr h h' a sl v) (S : Safe Z EL vm h a) : own_KW p l e R s m args below meth c bytes own nm mx ret Q G Z EL kc vm0 h0 vm k1 T' L' k' n' h' := W.nx K' (CHr.wr X S W.C.1)
theorem own_KW.keep (W : own_KW p l e R s m args below meth c bytes own nm mx ret Q G Z EL kc vm0 h0 vm k1 T L k n h) (K' : own_K p l e R (s.setVm vm) m args below meth c bytes own nm mx ret (own_QW Z EL kc vm0 h0 vm k1 Q) G Z T' L' k' n' h') {ws : List Addr} (X : Keep h h' ws) (S : ∀ x ∈ ws, Safe Z EL vm h x) : own_KW p l e R s m args below meth c bytes own nm mx ret Q G Z EL kc vm0 h0 vm k1 T' L' k' n' h' := W.nx K' (CHr.keep X S W.C.1)
theorem own_KW.kn (W : own_KW p l e R s m args below meth c bytes own nm mx ret Q G Z EL kc vm0 h0 vm k1 T L k n h) (hk : s.vm.MethodsKnown ∧ s.vm.FramesKnown below) : (s.setVm vm).vm.MethodsKnown ∧ (s.setVm vm).vm.FramesKnown below := ⟨hk.1.alikeC W.S.1.alike, hk.2.alikeC W.S.1.alike⟩
theorem own_bodyW {y : MethodName} {ws : List Jvm.Cond} {rm : Room} {as' : Array Value} {kn : Bool} (hEL : EW Z a0 EL) (hpl : plainFor y = true) (hef : ∀ m, entryFrame m as' mx = mkF m 0 Ls []) (O0 : Ext Z.heap h0)
    (H : ∀ (p : Program) (e : Env) (s : State) (m : MethodId) (below : List Frame) (meth : Method) (c : Code) (T : State) (G : State → Prop), (kn = true → s.vm.MethodsKnown ∧ s.vm.FramesKnown below) → s.heap = h0 → own_KW p l e rm s m as' below meth c bytes y.cls y.name mx ret Q G Z EL kc s.vm h0 s.vm 0 T [] 0 0 h0 → G (T.setTop (mkF m 0 Ls []))) :
    own_CtW l Z EL kc kn y bytes mx ret ws rm as' h0 Q := by
  refine MetFree.of_bodySF hpl hisR ?_
  intro p e s m args below meth c s₁ Bd hml0 hP hK
  obtain ⟨rfl, hZ, hh, hC⟩ := hP
  have X0 : Stand p l e rm s m args below meth c s₁ [] 0 0 := Stand.of_body Bd
  have e0 : s₁.heap = h0 := by rw [← hh, Bd.state]; rfl
  have hlocks := BodyLoose.notSynchronized Bd
  have hS0 : s.Since s.vm 0 := (State.WarmedH.refl s).since 0
  have q := H p e s m below meth c s₁ (fun S => ∃ (vm : Vm) (k1 : Nat) (T : State) (L : List Loc) (k n : Nat) (v : Option Value), s.Since vm k1 ∧ Z.Warmed39 vm ∧ Stand p l e rm (s.setVm vm) m args below meth c T L k n ∧ Fr Z.heap.size L ∧ Ext Z.heap T.heap ∧ k ≤ rm.cells ∧ n ≤ rm.slots ∧ (meth.sig.returnType = none → v = none) ∧ own_QW Z EL kc s.vm h0 vm k1 Q v T.heap ∧ own_Out p e m below T v S) hK hh
    ⟨⟨X0, Bd.exec, Bd.bytes, hml0, findClass_of_methodNamed Bd.named, (name_of_methodNamed Bd.named Bd.method).1, Bd.returns, hZ, e0, Fr.nil _, O0, fun S S' hs ⟨vmx, k1, T, L, k, n, v, g1, g2, g3, g4, g5, g6, g7, g8, g9, g10⟩ => ⟨vmx, k1, T, L, k, n, v, g1, g2, g3, g4, g5, g6, g7, g8, g9, fun fs hfs => hs _ (g10 fs hfs)⟩, fun T L k n v S g1 g2 g3 g4 g5 g6 g7 g8 => ⟨s.vm, 0, T, L, k, n, v, hS0, hZ, g1, g2, g3, g4, g5, g6, g7, g8⟩⟩,
      fun vmx k1 hS hZ' T L k n v S g1 g2 g3 g4 g5 g6 g7 g8 => ⟨vmx, k1, T, L, k, n, v, hS, hZ', g1, g2, g3, g4, g5, g6, g7, g8⟩, hS0, Nat.zero_le _, CHr.refl hC⟩
  obtain ⟨vmx, k1, T, L, k, n, v, hS, hZ', X, N, O, hk, hn, hv, ⟨⟨hQ, hle⟩, hCH⟩, hout⟩ := q
  obtain ⟨fs, hr, hrun, hended, hend⟩ := X.leaveW hS hle (v := v) hv
  refine ⟨_, _, castTop (hef m) (hout fs hr), hrun, hended, _, _, rfl, ⟨N, O, hQ⟩, fun q => ?_, hend.1, hend.2.1, hend.2.2.1, hend.2.2.2.mono hk hn⟩
  have hC1 := hCH q
  have := CHv.at (h := T.heap) X hZ' hEL hC1.1
  rw [hh]
  exact hC1.trans this
/-- ldc of any String constant, unread -/
theorem own_ldcO (W : own_KW p l e R s m args below meth c bytes own nm mx ret Q G Z EL kc vm0 h0 vm k1 T L k n h) (hEL : EW Z a0 EL) {text : String} {index nn : Nat} (w : (Cond.stringLink own index text).before a0 Z = true) (wS : ∀ a ∈ Bundle.stringAtoms, a.before a0 Z = true) (hn : 4 * text.toList.length ≤ nn) (hbig : nn ≤ 536870912) (hc : k + 2 ≤ R.cells) (hl : n + (nn + 4) ≤ R.slots) (hd : decode bytes pc = .ok (.ldc index, 2)) (hp : pc + 2 = pc')
    (kk : ∀ T' h' k1' (a : Addr), own_KW p l e R s m args below meth c bytes own nm mx ret Q G Z EL kc vm0 h0 T'.vm k1' T' L (k + 2) (n + (nn + 4)) h' → Ext h h' → CHr Z EL vm h T'.vm h' → G (T'.setTop (mkF m pc' Ls (.ref a :: st)))) : G (T.setTop (mkF m pc Ls st)) := by
  subst hp
  obtain ⟨a, T', h', k1', X', e', E', S', le', hZ', hown', C', -, st'⟩ := ldcOH W.K.X W.K.hx W.hZ W.K.hown w wS W.K.eh W.S W.le hEL W.C.1 (g := mkF m pc Ls st) rfl (hb W.K.hby hd) hn hbig hc hl
  exact W.K.cl _ _ st' (kk T' h' k1' a ⟨⟨X', W.K.hx, W.K.hby, W.K.hml, hown', W.K.hnm, W.K.hret, hZ', e', W.K.fr, own_ext_trans W.K.O E', W.K.cl, W.F _ _ S' hZ'⟩, W.F, S', le', W.C.trans C'⟩ E' C')
/-- ldc of a constant of EL, its text read -/
theorem own_ldcC (W : own_KW p l e R s m args below meth c bytes own nm mx ret Q G Z EL kc vm0 h0 vm k1 T L k n h) (hEL : EW Z a0 EL) {text : String} {index nn : Nat} (hmem : (own, index) ∈ EL) (w : (Cond.stringLink own index text).before a0 Z = true) (wS : ∀ a ∈ Bundle.stringAtoms, a.before a0 Z = true) {vs : List Value} {z : Int32} (ht : (∀ c ∈ text.toList, c.toNat < 256) ∧ text.toList.map (fun c => Value.int (Jvm.Lit.byteI c.toNat.toUInt16)) = vs) (hz : ¬ z < 0) (hlv : z.toNatClampNeg = vs.length) (hn : 4 * text.toList.length ≤ nn) (hbig : nn ≤ 536870912) (hc : k + 2 ≤ R.cells) (hl : n + (nn + 4) ≤ R.slots) (hd : decode bytes pc = .ok (.ldc index, 2)) (hp : pc + 2 = pc')
    (kk : ∀ T' h' k1' (a b : Addr) (kb : ClassId), own_KW p l e R s m args below meth c bytes own nm mx ret Q G Z EL kc vm0 h0 T'.vm k1' T' L (k + 2) (n + (nn + 4)) h' → Ext h h' → CHr Z EL vm h T'.vm h' → Exa Z h' a "java/lang/String" → Fld Z h' a "java/lang/String" "coder" "B" (.int 0) → Fld Z h' a "java/lang/String" "value" "[B" (.ref b) → Arv Z h' b kb .byte z vs (.int 0) → (∀ x, Safe Z EL T'.vm h' x → x ≠ a ∧ x ≠ b) → G (T'.setTop (mkF m pc' Ls (.ref a :: st)))) : G (T.setTop (mkF m pc Ls st)) := by
  subst hp
  obtain ⟨a, T', h', k1', b, kb, X', e', E', S', le', hZ', hown', A1, A2, A3, A4, -, -, C', -, sf, st'⟩ := ldcCH W.K.X W.K.hx W.hZ W.K.hown w wS W.K.eh W.S W.le hEL hmem W.C.1 ht hz hlv (g := mkF m pc Ls st) rfl (hb W.K.hby hd) hn hbig hc hl
  exact W.K.cl _ _ st' (kk T' h' k1' a b kb ⟨⟨X', W.K.hx, W.K.hby, W.K.hml, hown', W.K.hnm, W.K.hret, hZ', e', W.K.fr, own_ext_trans W.K.O E', W.K.cl, W.F _ _ S' hZ'⟩, W.F, S', le', W.C.trans C'⟩ E' C' A1 A2 A3 A4 sf)
theorem own_backW {y : MethodName} {bytes' : ByteArray} {mx' : Nat} {ret' : Option FieldType} {rm : Room} {len Wd : Nat} {as' : Array Value} {Qc : Option Value → Heap → Prop} {kn : Bool} (C : own_CtW l Z EL true kn y bytes' mx' ret' [] rm as' h Qc) (hZ : Z.Warmed39 vm) (wc : (Cond.code y bytes' mx' ret').before a0 Z = true) (wz : (Cond.initialized y.cls).before a0 Z = true) (hf : rm.frames + 1 ≤ R.frames) (hl : Wd + (mx' + 11) + rm.locals ≤ R.locals) (hEL : EW Z a0 EL) (H : CHv Z EL vm h) (hkn : kn = true → vm.MethodsKnown ∧ vm.FramesKnown below) :
    BackS l R p e below (s.setVm vm) args y len Wd (fun A a => a = as' ∧ A.U.heap = h ∧ A.cells + rm.cells ≤ R.cells ∧ A.slots + rm.slots ≤ R.slots)
      (fun A _ v B => ∃ L, (Fr Z.heap.size L ∧ Ext Z.heap B.U.heap ∧ Qc v B.U.heap) ∧ B.locs = A.locs ++ L ∧ B.cells = A.cells + rm.cells ∧ B.slots = A.slots + rm.slots ∧ CHr Z EL vm h B.U.vm B.U.heap) := by
  cases kn with
  | false =>
    refine backOfSH (Q := fun v h L => Fr Z.heap.size L ∧ Ext Z.heap h ∧ Qc v h) (fun p e q1 q2 q3 s m args below q4 q5 q6 _ => ?_) hZ wc wz hf hl hEL H
    obtain ⟨n, o, z1, z2, z3, v, L, z4, z5, z6, z7⟩ := C p e q1 q2 q3 s m args below q4 q5 q6 (fun q => nomatch q)
    exact ⟨n, o, z1, z2, z3, v, L, z4, z5, z6 rfl, z7⟩
  | true =>
    refine backOfSKH (Q := fun v h L => Fr Z.heap.size L ∧ Ext Z.heap h ∧ Qc v h) (fun p e q1 q2 q3 s m args below q4 q5 q6 q7 => ?_) hZ wc wz hf hl hEL H (hkn rfl).1 (hkn rfl).2
    obtain ⟨n, o, z1, z2, z3, v, L, z4, z5, z6, z7⟩ := C p e q1 q2 q3 s m args below q4 q5 q6 (fun _ => q7)
    exact ⟨n, o, z1, z2, z3, v, L, z4, z5, z6 rfl, z7⟩

theorem own_callSW (W : own_KW p l e R s m args below meth c bytes own nm mx ret Q G Z EL kc vm0 h0 vm k1 T L k n h) (hEL : EW Z a0 EL) {index Wd mx' : Nat} {kn : Bool} {y : MethodName} {bytes' : ByteArray} {ret' : Option FieldType} {rm : Room} {ps : List FieldType} {rr : Option FieldType} {Qc : Option Value → Heap → Prop} {argsL : List Value} (hkn : kn = true → vm.MethodsKnown ∧ vm.FramesKnown below) (wl : (Cond.methodLink own index y).before a0 Z = true) (ws : (Cond.static y).before a0 Z = true) (C : own_CtW l Z EL true kn y bytes' mx' ret' [] rm argsL.toArray h Qc) (hcd : (Cond.code y bytes' mx' ret').before a0 Z = true) (hin : (Cond.initialized y.cls).before a0 Z = true) (hy : y.cls ≠ "java/lang/invoke/MethodHandle" ∧ y.cls ≠ "java/lang/invoke/VarHandle") (hstk : st = (argsL.reverse ++ rest)) (hpd : parseMethodDescriptor y.desc = some ⟨ps, rr⟩) (hal : argsL.length = ps.length) (hsz : Ls.size = mx) (hW : (rest.map fun v => v.category).sum = Wd) (hrf : rm.frames + 1 ≤ R.frames) (hrl : Wd + (mx' + 11) + rm.locals ≤ R.locals) (hrc : k + rm.cells ≤ R.cells) (hrs : n + rm.slots ≤ R.slots) (hd : decode bytes pc = .ok (.invokestatic index, 3)) (hp : pc + 3 = pc')
    (kk : ∀ T' h' L' v k1', own_KW p l e R s m args below meth c bytes own nm mx ret Q G Z EL kc vm0 h0 T'.vm k1' T' (L ++ L') (k + rm.cells) (n + rm.slots) h' → CHr Z EL vm h T'.vm h' → Qc v h' → G (T'.setTop (mkF m pc' Ls (v.toList ++ rest)))) : G (T.setTop (mkF m pc Ls st)) := by
  subst hp hstk
  obtain ⟨v, _, ⟨T', L1, k2, n2⟩, -, X', S', gr, ⟨L', hQ, l1, l2, l3, C'⟩, st'⟩ := callSS W.K.X W.K.hx (y := y) W.K.hown (mvT W.K.hZ wl) (mvT W.K.hZ ws) (mvT W.K.hZ hin) (mvT W.K.hZ hcd) hy (own_backW (Wd := Wd) C W.hZ hcd hin hrf hrl hEL W.C.1 hkn) (g := mkF m pc Ls (argsL.reverse ++ rest)) rfl (by rw [W.K.hml]; exact hsz) (argsL := argsL) (rest := rest) (fun sig q => by rw [hpd] at q; cases q; exact hal) rfl (by show 2 * 0 + _ ≤ _; rw [hW]; omega) (hb W.K.hby hd) (fun _ _ => ⟨rfl, W.K.eh, hrc, hrs⟩)
  dsimp only [Pt.U, Pt.locs, Pt.cells, Pt.slots] at X' S' gr l1 l2 l3 st' hQ C'
  subst l1 l2 l3
  obtain ⟨hN, hO, hq⟩ := hQ
  have hZ' : Z.Warmed39 T'.vm := State.Warmed39.trans (t := s.setVm vm) W.hZ S'.1
  have S2 : s.Since T'.vm T'.heap.size := W.S.trans S' (Nat.le_trans W.le (by rw [← W.K.eh]; exact gr))
  have hown' : (s.setVm T'.vm).vm.findClass own = some m.cls := (S'.1.alike.findClass _ _).trans W.K.hown
  exact W.K.cl _ _ (fun t q => st'.trans q) (kk T' T'.heap L' v T'.heap.size ⟨⟨X', W.K.hx, W.K.hby, W.K.hml, hown', W.K.hnm, W.K.hret, hZ', rfl, Fr.app W.K.fr hN, hO, W.K.cl, W.F _ _ S2 hZ'⟩, W.F, S2, Nat.le_refl _, W.C.trans C'⟩ C' hq)
theorem own_callIW (W : own_KW p l e R s m args below meth c bytes own nm mx ret Q G Z EL kc vm0 h0 vm k1 T L k n h) (hEL : EW Z a0 EL) {index Wd mx' : Nat} {kn : Bool} {y : MethodName} {bytes' : ByteArray} {rm : Room} {ps : List FieldType} {rr : Option FieldType} {Qc : Option Value → Heap → Prop} {argsL : List Value} (hkn : kn = true → vm.MethodsKnown ∧ vm.FramesKnown below) {a : Addr} (wl : (Cond.methodLink own index y).before a0 Z = true) (wi : (Cond.instanceMethod y).before a0 Z = true) (C : own_CtW l Z EL true kn y bytes' mx' none [] rm (.ref a :: argsL).toArray h Qc) (hcd : (Cond.code y bytes' mx' none).before a0 Z = true) (hin : (Cond.initialized y.cls).before a0 Z = true) (hy : y.cls ≠ "java/lang/invoke/MethodHandle" ∧ y.cls ≠ "java/lang/invoke/VarHandle") (hy1 : y.name = "<init>") (hstk : st = (argsL.reverse ++ .ref a :: rest)) (hpd : parseMethodDescriptor y.desc = some ⟨ps, rr⟩) (hal : argsL.length = ps.length) (hsz : Ls.size = mx) (hW : (rest.map fun v => v.category).sum = Wd) (hrf : rm.frames + 1 ≤ R.frames) (hrl : Wd + (mx' + 11) + rm.locals ≤ R.locals) (hrc : k + rm.cells ≤ R.cells) (hrs : n + rm.slots ≤ R.slots) (hd : decode bytes pc = .ok (.invokespecial index, 3)) (hp : pc + 3 = pc')
    (kk : ∀ T' h' L' v k1', own_KW p l e R s m args below meth c bytes own nm mx ret Q G Z EL kc vm0 h0 T'.vm k1' T' (L ++ L') (k + rm.cells) (n + rm.slots) h' → CHr Z EL vm h T'.vm h' → Qc v h' → G (T'.setTop (mkF m pc' Ls (v.toList ++ rest)))) : G (T.setTop (mkF m pc Ls st)) := by
  subst hp hstk
  obtain ⟨v, _, ⟨T', L1, k2, n2⟩, -, X', S', gr, ⟨L', hQ, l1, l2, l3, C'⟩, st'⟩ := W.K.X.specialBackS W.K.hx (y := y) hy1 W.K.hown (mvT W.K.hZ wl) (mvT W.K.hZ wi) (mvT W.K.hZ hcd) hy (own_backW (Wd := Wd) C W.hZ hcd hin hrf hrl hEL W.C.1 hkn) (g := mkF m pc Ls (argsL.reverse ++ .ref a :: rest)) rfl (by rw [W.K.hml]; exact hsz) (Steps.refl _) (a := a) (argsL := argsL) (rest := rest) (fun sig q => by rw [hpd] at q; cases q; exact hal) rfl (by show 2 * 0 + _ ≤ _; rw [hW]; omega) (hb W.K.hby hd) (fun _ _ => ⟨rfl, W.K.eh, hrc, hrs⟩)
  dsimp only [Pt.U, Pt.locs, Pt.cells, Pt.slots] at X' S' gr l1 l2 l3 st' hQ C'
  subst l1 l2 l3
  obtain ⟨hN, hO, hq⟩ := hQ
  have hZ' : Z.Warmed39 T'.vm := State.Warmed39.trans (t := s.setVm vm) W.hZ S'.1
  have S2 : s.Since T'.vm T'.heap.size := W.S.trans S' (Nat.le_trans W.le (by rw [← W.K.eh]; exact gr))
  have hown' : (s.setVm T'.vm).vm.findClass own = some m.cls := (S'.1.alike.findClass _ _).trans W.K.hown
  exact W.K.cl _ _ (fun t q => st'.trans q) (kk T' T'.heap L' v T'.heap.size ⟨⟨X', W.K.hx, W.K.hby, W.K.hml, hown', W.K.hnm, W.K.hret, hZ', rfl, Fr.app W.K.fr hN, hO, W.K.cl, W.F _ _ S2 hZ'⟩, W.F, S2, Nat.le_refl _, W.C.trans C'⟩ C' hq)
theorem own_callVW (W : own_KW p l e R s m args below meth c bytes own nm mx ret Q G Z EL kc vm0 h0 vm k1 T L k n h) (hEL : EW Z a0 EL) {index Wd mx' : Nat} {kn : Bool} {y : MethodName} {bytes' : ByteArray} {ret' : Option FieldType} {rm : Room} {ps : List FieldType} {rr : Option FieldType} {Qc : Option Value → Heap → Prop} {argsL : List Value} (hkn : kn = true → vm.MethodsKnown ∧ vm.FramesKnown below) {a : Addr} {Cc : String} {x0 : MethodName} (wl : (Cond.methodLink own index x0).before a0 Z = true) (wd : (Cond.declares x0).before a0 Z = true) (hnf : ∀ {s : State}, Z.Warmed39 s.vm → NotFace s x0) (wsel : (Cond.selects Cc x0 y).before a0 Z = true) (wi : (Cond.instanceMethod y).before a0 Z = true) (C : own_CtW l Z EL true kn y bytes' mx' ret' [] rm (.ref a :: argsL).toArray h Qc) (hcd : (Cond.code y bytes' mx' ret').before a0 Z = true) (hin : (Cond.initialized y.cls).before a0 Z = true) (hy : x0.cls ≠ "java/lang/invoke/MethodHandle" ∧ x0.cls ≠ "java/lang/invoke/VarHandle") (E : Exa Z h a Cc) (hstk : st = (argsL.reverse ++ .ref a :: rest)) (hpd : parseMethodDescriptor x0.desc = some ⟨ps, rr⟩) (hal : argsL.length = ps.length) (hsz : Ls.size = mx) (hW : (rest.map fun v => v.category).sum = Wd) (hrf : rm.frames + 1 ≤ R.frames) (hrl : Wd + (mx' + 11) + rm.locals ≤ R.locals) (hrc : k + rm.cells ≤ R.cells) (hrs : n + rm.slots ≤ R.slots) (hd : decode bytes pc = .ok (.invokevirtual index, 3)) (hp : pc + 3 = pc')
    (kk : ∀ T' h' L' v k1', own_KW p l e R s m args below meth c bytes own nm mx ret Q G Z EL kc vm0 h0 T'.vm k1' T' (L ++ L') (k + rm.cells) (n + rm.slots) h' → CHr Z EL vm h T'.vm h' → Qc v h' → G (T'.setTop (mkF m pc' Ls (v.toList ++ rest)))) : G (T.setTop (mkF m pc Ls st)) := by
  subst hp hstk
  obtain ⟨v, _, ⟨T', L1, k2, n2⟩, -, X', S', gr, ⟨L', hQ, l1, l2, l3, C'⟩, st'⟩ := (isOf W.K.hZ W.K.eh E).elim fun cB q => q.elim fun kB q => W.K.X.virtualBackS W.K.hx (y := x0) (z := y) W.K.hown (mvT W.K.hZ wl) (mvT W.K.hZ wd) (hnf W.K.hZ) (mvT W.K.hZ wsel) (mvT W.K.hZ wi) hy (own_backW (Wd := Wd) C W.hZ hcd hin hrf hrl hEL W.C.1 hkn) q.1 q.2.2 (g := mkF m pc Ls (argsL.reverse ++ .ref a :: rest)) rfl (by rw [W.K.hml]; exact hsz) (Steps.refl _) (argsL := argsL) (rest := rest) (fun sig q => by rw [hpd] at q; cases q; exact hal) rfl (by show 2 * 0 + _ ≤ _; rw [hW]; omega) (hb W.K.hby hd) (fun _ _ => ⟨rfl, W.K.eh, hrc, hrs⟩)
  dsimp only [Pt.U, Pt.locs, Pt.cells, Pt.slots] at X' S' gr l1 l2 l3 st' hQ C'
  subst l1 l2 l3
  obtain ⟨hN, hO, hq⟩ := hQ
  have hZ' : Z.Warmed39 T'.vm := State.Warmed39.trans (t := s.setVm vm) W.hZ S'.1
  have S2 : s.Since T'.vm T'.heap.size := W.S.trans S' (Nat.le_trans W.le (by rw [← W.K.eh]; exact gr))
  have hown' : (s.setVm T'.vm).vm.findClass own = some m.cls := (S'.1.alike.findClass _ _).trans W.K.hown
  exact W.K.cl _ _ (fun t q => st'.trans q) (kk T' T'.heap L' v T'.heap.size ⟨⟨X', W.K.hx, W.K.hby, W.K.hml, hown', W.K.hnm, W.K.hret, hZ', rfl, Fr.app W.K.fr hN, hO, W.K.cl, W.F _ _ S2 hZ'⟩, W.F, S2, Nat.le_refl _, W.C.trans C'⟩ C' hq)
end OwnW
section OwnSafe
open Jvm.Free.SB Jvm.Free.SBG
/-- a String whose value is null is no booked one -/
theorem own_safe_null {Z : State} {EL : List (String × Nat)} {vm : Vm} {h : Heap} {x : Addr} (hal : Z.vm.Alike vm) (E : Exa Z h x "java/lang/String") (F : Fld Z h x "java/lang/String" "value" "[B" .null) : Safe Z EL vm h x := fun B => by
  obtain ⟨p, -, u, a, -, q, -, G, rfl | rfl⟩ := B
  · obtain ⟨cell, cf, k, i, f, e1, e2, -, -, -, -, e7⟩ := F
    cases (show h[q.sa]? = some q.sC from G.ha).symm.trans e1
    obtain ⟨cS, ⟨⟨-, -, -, ⟨c1, k1, i1, f1, -⟩, -, -, -, v1, -⟩, -⟩, -⟩ := G
    obtain ⟨k3, e3, -⟩ := State.fieldFound?_setVm (s := ({ Z with heap := h } : State)) hal e2
    have e4 := (show (Wst Z vm h).fieldFound? _ _ _ = _ from e3).symm.trans f1
    simp only [Option.some.injEq, Prod.mk.injEq] at e4
    rw [← e4.2.2.2, e7] at v1
    cases v1
  · obtain ⟨cell, k, e1, e2, e3, -, -⟩ := E
    cases (show h[q.sd]? = some q.SA from G.hd).symm.trans e1
    obtain ⟨cS, -, -, f, -⟩ := G
    have f' : vm.findClass "[B" = some q.SA.cls := f
    rw [hal.findClass] at f'
    obtain ⟨k1, q1, q2⟩ := Vm.findClass_spec f'
    obtain ⟨k2, q3, q4⟩ := Vm.findClass_spec e2
    cases q1.symm.trans q3
    exact absurd (q2.symm.trans q4) (by decide)
end OwnSafe
section Own6
variable {p : Program} {l : Launch} {e : Env} {R : Room} {s : State} {m : MethodId} {args : Array Value} {below : List Frame} {meth : Method} {c : Code} {bytes : ByteArray} {own nm : String} {mx : Nat} {ret : Option FieldType} {Q : Option Value → Heap → Prop} {G : State → Prop} {Z T T' : State} {L L' : List Loc} {k n k' n' : Nat} {h h' h1 h2 : Heap} {a0 : Array Value} {pc pc' : Nat} {Ls Ls' : Array Slot} {st rest : List Value}
theorem own_nfO {args : Array Value} {s : State} {y : MethodName} {C : String} (w : (Cond.noSuperclass C).before args s = true) (hc : C = y.cls) : NotFace s y := fun r0 h0 => by
  subst hc
  obtain ⟨c, k, h1, h2, -, -, h5⟩ := Cond.noSuperclass_spec w
  have e2 := findClass_of_methodNamed h0
  cases h1.symm.trans e2
  exact ⟨k, h2, h5⟩
theorem own_notAsg {X Y : String} {t : List String} {n : Nat} (hw : ∀ w ∈ Cond.chainWords (X :: t), w.before a0 Z = true) (hi : (Cond.instantiable Y n).before a0 Z = true) (hn : Y ∉ X :: t) : ∃ c t', Z.vm.findClass X = some c ∧ Z.vm.findClass Y = some t' ∧ Z.vm.assignable c t' = false := by
  obtain ⟨cx, k, hx, -, -, -⟩ := Cond.chain_head hw
  obtain ⟨cy, ky, h1, h2, h3, h4, -, -⟩ := Cond.instantiable_spec hi
  have h5 : ky.isInterface = false := by
    simp only [Bool.or_eq_false_iff] at h4; exact h4.1
  exact ⟨cx, cy, hx, h1, Vm.notAssignable_of_chain hx h1 h2 h3 h5 hw hn⟩
theorem own_instN (K : own_K p l e R s m args below meth c bytes own nm mx ret Q G Z T L k n h) {Kc C : String} {index : Nat} {a : Addr} (w : (Cond.classLink own index Kc).before a0 Z = true) (E : Exa Z h a C) (F : ∃ c t, Z.vm.findClass C = some c ∧ Z.vm.findClass Kc = some t ∧ Z.vm.assignable c t = false) (hd : decode bytes pc = .ok (.instanceof index, 3)) (hp : pc + 3 = pc')
    (kk : ∀ T', own_K p l e R s m args below meth c bytes own nm mx ret Q G Z T' L k n h → G (T'.setTop (mkF m pc' Ls (.int 0 :: rest)))) : G (T.setTop (mkF m pc Ls (.ref a :: rest))) := by
  subst hp
  obtain ⟨T', X', e', st'⟩ := instNo K.X K.hx K.hZ K.hown w K.eh E F (g := mkF m pc Ls (.ref a :: rest)) rfl rfl (hb K.hby hd)
  exact K.cl _ _ st' (kk T' (K.nx X' e' K.fr K.O))
theorem own_tsw (K : own_K p l e R s m args below meth c bytes own nm mx ret Q G Z T L k n h) {df lo hi o : Int} {offs : Array Int} {ln : Nat} {i : Int32} (hd : decode bytes pc = .ok (.tableswitch df lo hi offs, ln)) (hin : ¬ (i.toInt < lo ∨ i.toInt > hi)) (hoff : offs[(i.toInt - lo).toNat]? = some o) (ho : 0 ≤ (pc : Int) + o) (hp : ((pc : Int) + o).toNat = pc') (kk : G (T.setTop (mkF m pc' Ls rest))) : G (T.setTop (mkF m pc Ls (.int i :: rest))) :=
  K.cl _ _ (fun t q => XS.tswIn K.here K.hx rfl rfl (hb K.hby hd) rfl hin hoff ho hp q) kk
theorem own_ldcFloat (K : own_K p l e R s m args below meth c bytes own nm mx ret Q G Z T L k n h) {index : Nat} {v : UInt32} (w : (Cond.constantFloat own index v).before a0 Z = true) (hd : decode bytes pc = .ok (.ldc index, 2)) (hp : pc + 2 = pc') (kk : G (T.setTop (mkF m pc' Ls (.float v :: st)))) : G (T.setTop (mkF m pc Ls st)) := by
  subst hp
  exact K.cl _ _ (K.X.ldcFloatC K.hx K.hown (mvT K.hZ w) (g := mkF m pc Ls st) rfl (hb K.hby hd)) kk
theorem own_getSN (K : own_K p l e R s m args below meth c bytes own nm mx ret Q G Z T L k n h) {R0 O nf d host : String} {index : Nat} {v : Value} (w : (Cond.fieldLinkNest own index R0 nf d host).before a0 Z = true) (via : Via Z R0 O nf d) (F : Sta Z h O nf d v) (hd : decode bytes pc = .ok (.getstatic index, 3)) (hp : pc + 3 = pc')
    (kk : ∀ T', own_K p l e R s m args below meth c bytes own nm mx ret Q G Z T' L k n h → G (T'.setTop (mkF m pc' Ls (v :: st)))) : G (T.setTop (mkF m pc Ls st)) := by
  subst hp
  obtain ⟨cf, i, k0, f, st0, cell, q1, q2, q3, q4, q5, q6, q7⟩ := F
  obtain ⟨k1, hi, ek⟩ := State.fieldFound?_setVm (s := Z) K.hZ.alike (via _ q1)
  obtain ⟨vm', X', stp⟩ := K.X.getstaticNest K.hx K.hown (mvN K.hZ w) hi q2 (by rw [ek]; exact q3) (a₁ := st0) (by rw [ek]; exact q4) (by rw [K.eh]; exact q5) (fun q => by rw [q] at q6; cases q6) q7 (g := mkF m pc Ls st) rfl (hb K.hby hd)
  exact K.cl _ _ stp (kk _ (K.nx X' K.eh K.fr K.O))
theorem own_sto {a y : Addr} {kA : ClassId} {ty : FieldType} {z : Int32} {vs : List Value} {dv : Value} {C : String} (V : Arv Z h a kA ty z vs dv) (O : Ovr Z kA C) (I : Ins Z h y C true) : Sto Z h a (.ref y) := by
  obtain ⟨cl, A, q1, -⟩ := V
  exact Sto.ofV A q1 O I
theorem own_staX {C F D Kc : String} (q : (Jvm.Cond.exactly (.static C F D) Kc).before a0 Z = true) (w1 : (Cond.initializedFor C F D).before a0 Z = true) : ∃ u, Sta Z Z.heap C F D (.ref u) ∧ Exa Z Z.heap u Kc := by
  obtain ⟨u, e⟩ := exa_v (Cond.before_iff.mp q)
  exact ⟨u, Sta.start e (Or.inl w1), Exa.start e (Cond.before_iff.mp q)⟩
theorem own_len {t : Term} {a : Addr} {cl : Cell} {v : Value} (ht : t.eval args Z none [] Z = some (.ref a)) (hA : Z.arrayAt? a = some cl) (hv : (Term.length t).eval args Z none [] Z = some v) : cl.slots.size < 2 ^ 31 ∧ v = .int cl.slots.size.toInt32 := by
  by_cases q : cl.slots.size < 2 ^ 31
  · rw [len_f ht hA q] at hv; exact ⟨q, (Option.some.inj hv).symm⟩
  · simp [Term.eval, ht, hA, q] at hv
theorem own_nin {x y : Addr} (h : x ≠ y) : x ∉ [y] := fun q => h (List.mem_singleton.mp q)
end Own6
section OwnHash
def own_hash (cs : List Int32) : Int32 := cs.foldl (fun x c => 31 * x + c) 0
theorem own_hash_snoc (cs : List Int32) (c : Int32) : own_hash (cs ++ [c]) = 31 * own_hash cs + c := by simp [own_hash]
theorem own_hash_take {cs : List Int32} {i : Nat} (h : i < cs.length) : own_hash (cs.take (i + 1)) = 31 * own_hash (cs.take i) + cs[i] := by
  rw [← own_hash_snoc, List.take_add_one, List.getElem?_eq_getElem h]; rfl
def own_spr (x : Int32) : Int32 := x ^^^ ((x.toUInt32 >>> ((16 : Int32) &&& 31).toUInt32).toInt32)
theorem own_ix (x : Int32) : ¬ ((15 : Int32) &&& x) < 0 ∧ ((15 : Int32) &&& x) < 16 := by
  rw [Int32.and_comm]
  have h := c_mask x 15 4 (by decide) (by decide)
  rw [Int32.lt_iff_toInt_lt, Int32.lt_iff_toInt_lt, show (0 : Int32).toInt = 0 from rfl, show (16 : Int32).toInt = 16 from rfl]; omega
theorem own_ixn (x : Int32) : ((15 : Int32) &&& x).toNatClampNeg < 16 := by
  have h := own_ix x
  rw [Int32.lt_iff_toInt_lt, Int32.lt_iff_toInt_lt, show (0 : Int32).toInt = 0 from rfl, show (16 : Int32).toInt = 16 from rfl] at h
  show ((15 : Int32) &&& x).toInt.toNat < 16
  omega
def own_tab (x : Int32) (nd : Addr) : List Value := (List.replicate 16 Value.null).set ((15 : Int32) &&& x).toNatClampNeg (.ref nd)
theorem own_tab_at (x : Int32) (nd : Addr) : (own_tab x nd).getD ((15 : Int32) &&& x).toNatClampNeg .null = .ref nd := by
  have h := own_ixn x
  unfold own_tab
  rw [List.getD_eq_getElem?_getD, List.getElem?_set_self (by simpa using h)]; rfl
theorem own_tab_ne {x y : Int32} (nd : Addr) (h : ¬ ((15 : Int32) &&& x).toNatClampNeg = ((15 : Int32) &&& y).toNatClampNeg) : (own_tab x nd).getD ((15 : Int32) &&& y).toNatClampNeg .null = .null := by
  have h2 := own_ixn y
  unfold own_tab
  rw [List.getD_eq_getElem?_getD, List.getElem?_set_ne h, List.getElem?_replicate_of_lt h2]; rfl
end OwnHash
abbrev u : Bool := false
abbrev us : Bool := false
/-- a Latin-1 String, with what its hash fields hold -/
def own_StX (Z : State) (h : Heap) (x : Addr) (cs : List Int32) (hv zv : Int32) : Prop := Exa Z h x "java/lang/String" ∧ Fld Z h x "java/lang/String" "coder" "B" (.int 0) ∧ Fld Z h x "java/lang/String" "hash" "I" (.int hv) ∧ Fld Z h x "java/lang/String" "hashIsZero" "Z" (.int zv) ∧ ∃ (b : Addr) (kb : ClassId), Fld Z h x "java/lang/String" "value" "[B" (.ref b) ∧ Arv Z h b kb .byte (Int32.ofNat cs.length) (own_by cs) (.int 0) ∧ (2 ≤ cs.length → Exa Z h b "[B")
def own_StS (Z : State) (h : Heap) (x : Addr) (cs : List Int32) : Prop := ∃ hv zv, own_StX Z h x cs hv zv ∧ (hv = 0 ∧ zv = 0 ∨ hv = own_hash cs ∧ (hv ≠ 0 ∨ zv ≠ 0))
theorem own_StX.s {Z : State} {h : Heap} {x : Addr} {cs : List Int32} (S : own_StX Z h x cs 0 0) : own_StS Z h x cs := ⟨0, 0, S, Or.inl ⟨rfl, rfl⟩⟩
theorem own_StS.g {Z : State} {h : Heap} {x : Addr} {cs : List Int32} (S : own_StS Z h x cs) : own_StrG Z h x false cs := by
  obtain ⟨hv, zv, ⟨E, Fc, -, -, b, kb, Fv, V, -⟩, -⟩ := S
  exact ⟨E, Fc, b, kb, Fv, V⟩
theorem own_StS.exa {Z : State} {h : Heap} {x : Addr} {cs : List Int32} (S : own_StS Z h x cs) : Exa Z h x "java/lang/String" := S.g.exa
theorem own_StX.ext {Z : State} {h h' : Heap} {x : Addr} {cs : List Int32} {hv zv : Int32} (S : own_StX Z h x cs hv zv) (E : Ext h h') : own_StX Z h' x cs hv zv := by
  obtain ⟨e0, f1, f2, f3, b, kb, f4, V, hx⟩ := S
  exact ⟨e0.ext E, f1.ext E, f2.ext E, f3.ext E, b, kb, f4.ext E, V.ext E, fun q => (hx q).ext E⟩
theorem own_StS.ext {Z : State} {h h' : Heap} {x : Addr} {cs : List Int32} (S : own_StS Z h x cs) (E : Ext h h') : own_StS Z h' x cs := by
  obtain ⟨hv, zv, X, q⟩ := S
  exact ⟨hv, zv, X.ext E, q⟩
theorem own_StS.keep {Z : State} {a0 : Array Value} {h h' : Heap} {x y : Addr} {cs : List Int32} (w : (Cond.instantiable "java/lang/String" (4 : Nat)).before a0 Z = true) (S : own_StS Z h x cs) (K : Keep h h' [y]) (Ey : Exa Z h y "java/lang/String") (hne : x ≠ y) : own_StS Z h' x cs := by
  obtain ⟨hv, zv, ⟨e0, f1, f2, f3, b, kb, f4, V, hx⟩, q⟩ := S
  have n1 := own_nin hne
  have n2 := own_nin (Exa.neArv Ey V w).symm
  exact ⟨hv, zv, ⟨e0.keep K, f1.keep K n1, f2.keep K n1, f3.keep K n1, b, kb, f4.keep K n1, V.keep K n2, fun q => (hx q).keep K⟩, q⟩
theorem d_jdk_48_m5_8 : decode jdk_48_method_5_code 8 = .ok (.iload 5, 2) := by decide +kernel
theorem d_jdk_48_m5_10 : decode jdk_48_method_5_code 10 = .ok (.iload 4, 2) := by decide +kernel
theorem d_jdk_48_m5_12 : decode jdk_48_method_5_code 12 = .ok (.if_icmp .ge 23, 3) := by decide +kernel
theorem d_jdk_48_m5_15 : decode jdk_48_method_5_code 15 = .ok (.bipush 31, 2) := by decide +kernel
theorem d_jdk_48_m5_17 : decode jdk_48_method_5_code 17 = .ok (.iload_n 0, 1) := by decide +kernel
theorem d_jdk_48_m5_18 : decode jdk_48_method_5_code 18 = .ok (.imul, 1) := by decide +kernel
theorem d_jdk_48_m5_19 : decode jdk_48_method_5_code 19 = .ok (.aload_n 1, 1) := by decide +kernel
theorem d_jdk_48_m5_20 : decode jdk_48_method_5_code 20 = .ok (.iload 5, 2) := by decide +kernel
theorem d_jdk_48_m5_22 : decode jdk_48_method_5_code 22 = .ok (.baload, 1) := by decide +kernel
theorem d_jdk_48_m5_23 : decode jdk_48_method_5_code 23 = .ok (.sipush 255, 3) := by decide +kernel
theorem d_jdk_48_m5_26 : decode jdk_48_method_5_code 26 = .ok (.iand, 1) := by decide +kernel
theorem d_jdk_48_m5_27 : decode jdk_48_method_5_code 27 = .ok (.iadd, 1) := by decide +kernel
theorem d_jdk_48_m5_28 : decode jdk_48_method_5_code 28 = .ok (.istore_n 0, 1) := by decide +kernel
theorem d_jdk_48_m5_29 : decode jdk_48_method_5_code 29 = .ok (.iinc 5 1, 3) := by decide +kernel
theorem d_jdk_48_m5_32 : decode jdk_48_method_5_code 32 = .ok (.goto (-24), 3) := by decide +kernel
section Lp
variable {p : Program} {l : Launch} {e : Env} {R : Room} {s : State} {m : MethodId} {args : Array Value} {below : List Frame} {meth : Method} {c : Code} {nm : String} {ret : Option FieldType} {Q : Option Value → Heap → Prop} {G : State → Prop} {Z T : State} {L : List Loc} {k n : Nat} {h h0 : Heap} {a0 : Array Value}
set_option maxRecDepth 65536 in
set_option maxHeartbeats 40000000 in
theorem lp_hash (hw : ∀ d ∈ tables_1, d.before a0 Z = true) (hs : ∀ d ∈ jdkStatics_1, d.before a0 Z = true) (hRf : 0 ≤ R.frames) (hRl : 0 ≤ R.locals) (hRc : k ≤ R.cells) (hRs : n ≤ R.slots) {b : Addr} {kb : ClassId} {cs : List Int32} (hok : own_ok false cs) (hlen : cs.length ≤ 4000)
    (ex : ∀ (T' : State) (L' : List Loc) (h' : Heap), own_K p l e R s m args below meth c jdk_48_method_5_code "jdk/internal/util/ArraysSupport" nm 6 ret Q G Z T' L' k n h' → h' = h0 → ∀ (x5 : Int32) {z : Int32} (hz : z = own_hash cs), G (T'.setTop (mkF m 35 #[.val (.int z), .val (.ref b), .val (.int (0 : Int32)), .val (.int (Int32.ofNat cs.length)), .val (.int (Int32.ofNat cs.length)), .val (.int x5)] [])))
    (j : Nat) : ∀ (i : Nat), i + j = cs.length → ∀ {T : State} {L : List Loc} {h : Heap} , own_K p l e R s m args below meth c jdk_48_method_5_code "jdk/internal/util/ArraysSupport" nm 6 ret Q G Z T L k n h → Arv Z h b kb .byte (Int32.ofNat cs.length) (own_by cs) (.int 0) → h = h0 → G (T.setTop (mkF m 8 #[.val (.int (own_hash (cs.take i))), .val (.ref b), .val (.int (0 : Int32)), .val (.int (Int32.ofNat cs.length)), .val (.int (Int32.ofNat cs.length)), .val (.int (Int32.ofNat i))] [])) := by
  induction j with
  | zero =>
    intro i hij T L h  K V eh 
    refine own_iload K d_jdk_48_m5_8 rfl rfl ?_
    refine own_iload K d_jdk_48_m5_10 rfl rfl ?_
    refine own_icmpYes K d_jdk_48_m5_12 (pc' := 35) (by decide) (by decide) (flt (own_nlt (by omega) (by omega))).2.1 ?_
    exact ex _ _ _ K eh _ (by rw [List.take_of_length_le (by omega)])
  | succ j ih =>
    intro i hij T L h  K V eh 
    have hin : i < cs.length := by omega
    refine own_iload K d_jdk_48_m5_8 rfl rfl ?_
    refine own_iload K d_jdk_48_m5_10 rfl rfl ?_
    refine own_icmpNo K d_jdk_48_m5_12 rfl (tlt (own_lt hin (by omega))).2.1 ?_
    refine own_bipush K (v := (31 : Int32)) d_jdk_48_m5_15 rfl rfl ?_
    refine own_iloadN K d_jdk_48_m5_17 rfl rfl ?_
    refine own_imul K d_jdk_48_m5_18 rfl ?_
    refine own_aloadN K d_jdk_48_m5_19 rfl rfl rfl ?_
    refine own_iload K d_jdk_48_m5_20 rfl rfl ?_
    refine own_baload K (x := (cs[i]).toInt8.toInt32) V ⟨own_nn (by omega), own_lt hin (by omega)⟩ (by rw [own_clamp (by omega)]; exact own_by_get cs i hin) d_jdk_48_m5_22 rfl ?_
    refine own_sipush K (v := (255 : Int32)) d_jdk_48_m5_23 rfl rfl ?_
    refine own_iand K d_jdk_48_m5_26 rfl ?_
    rw [own_rd1 (hok _ (List.getElem_mem hin))]
    refine own_iadd K d_jdk_48_m5_27 rfl ?_
    rw [← own_hash_take hin]
    refine own_istoreN K (Ls' := #[.val (.int (own_hash (cs.take (i + 1)))), .val (.ref b), .val (.int (0 : Int32)), .val (.int (Int32.ofNat cs.length)), .val (.int (Int32.ofNat cs.length)), .val (.int (Int32.ofNat i))]) d_jdk_48_m5_28 rfl rfl ?_
    refine own_iinc K (Ls' := #[.val (.int (own_hash (cs.take (i + 1)))), .val (.ref b), .val (.int (0 : Int32)), .val (.int (Int32.ofNat cs.length)), .val (.int (Int32.ofNat cs.length)), .val (.int ((Int32.ofNat i) + (1 : Int32)))]) (x := (Int32.ofNat i)) (v := (Int32.ofNat i)) d_jdk_48_m5_29 rfl rfl rfl ?_
    refine own_goto K d_jdk_48_m5_32 (pc' := 8) (by decide) (by decide) ?_
    rw [own_one]
    exact ih (i + 1) (by omega) K V eh
end Lp
theorem d_jdk_48_m5_0 : decode jdk_48_method_5_code 0 = .ok (.iload_n 2, 1) := by decide +kernel
theorem d_jdk_48_m5_1 : decode jdk_48_method_5_code 1 = .ok (.iload_n 3, 1) := by decide +kernel
theorem d_jdk_48_m5_2 : decode jdk_48_method_5_code 2 = .ok (.iadd, 1) := by decide +kernel
theorem d_jdk_48_m5_3 : decode jdk_48_method_5_code 3 = .ok (.istore 4, 2) := by decide +kernel
theorem d_jdk_48_m5_5 : decode jdk_48_method_5_code 5 = .ok (.iload_n 2, 1) := by decide +kernel
theorem d_jdk_48_m5_6 : decode jdk_48_method_5_code 6 = .ok (.istore 5, 2) := by decide +kernel
theorem d_jdk_48_m5_35 : decode jdk_48_method_5_code 35 = .ok (.iload_n 0, 1) := by decide +kernel
theorem d_jdk_48_m5_36 : decode jdk_48_method_5_code 36 = .ok (.ireturn, 1) := by decide +kernel
theorem pn_jdk_internal_util_ArraysSupport : plainName "jdk/internal/util/ArraysSupport" = true := by first | (simp [plainName, overriddenIn]; done) | decide +kernel
set_option maxRecDepth 65536 in
set_option maxHeartbeats 40000000 in
theorem rm_signedHash {l : Launch} {Z : State} {a0 : Array Value} (hw : ∀ d ∈ tables_1, d.before a0 Z = true) (hs : ∀ d ∈ jdkStatics_1, d.before a0 Z = true) {b : Addr} {kb : ClassId} {cs : List Int32} {h0 : Heap} (O0 : Ext Z.heap h0) (V : Arv Z h0 b kb .byte (Int32.ofNat cs.length) (own_by cs) (.int 0)) (hok : own_ok false cs) (hlen : cs.length ≤ 4000) :
    own_Ct l Z (⟨"jdk/internal/util/ArraysSupport", "signedHashCode", "(I[BII)I"⟩ : MethodName) jdk_48_method_5_code 6 (some .int) [] ({ frames := 0, locals := 0, cells := 0, slots := 0 } : Room) #[(.int (0 : Int32)), (.ref b), (.int (0 : Int32)), (.int (Int32.ofNat cs.length))] h0 (fun v h => v = some (.int (own_hash cs)) ∧ h = h0) := by
  refine own_body (Ls := #[.val (.int (0 : Int32)), .val (.ref b), .val (.int (0 : Int32)), .val (.int (Int32.ofNat cs.length)), .unset, .unset]) (plainFor_of_name pn_jdk_internal_util_ArraysSupport) (fun m => by first | (simp [entryFrame, mkF, argsToLocals, Value.category]; done) | rfl) O0 ?_
  intro p e s m below meth c T0 G K0
  refine own_iloadN K0 d_jdk_48_m5_0 rfl rfl ?_
  refine own_iloadN K0 d_jdk_48_m5_1 rfl rfl ?_
  refine own_iadd K0 d_jdk_48_m5_2 rfl ?_
  rw [show (0 : Int32) + Int32.ofNat cs.length = Int32.ofNat cs.length from Int32.zero_add _]
  refine own_istore K0 (Ls' := #[.val (.int (0 : Int32)), .val (.ref b), .val (.int (0 : Int32)), .val (.int (Int32.ofNat cs.length)), .val (.int (Int32.ofNat cs.length)), .unset]) d_jdk_48_m5_3 rfl rfl ?_
  refine own_iloadN K0 d_jdk_48_m5_5 rfl rfl ?_
  refine own_istore K0 (Ls' := #[.val (.int (0 : Int32)), .val (.ref b), .val (.int (0 : Int32)), .val (.int (Int32.ofNat cs.length)), .val (.int (Int32.ofNat cs.length)), .val (.int (0 : Int32))]) d_jdk_48_m5_6 rfl rfl ?_
  refine lp_hash hw hs (by first | decide | omega | (dsimp only; omega)) (by first | decide | omega | (dsimp only; omega)) (by first | decide | omega | (dsimp only; omega)) (by first | decide | omega | (dsimp only; omega)) hok hlen (fun T1 L1 h1 K1 q1 x5 z hz => ?_) cs.length 0 (Nat.zero_add _) K0 V rfl
  refine own_iloadN K1 d_jdk_48_m5_35 rfl rfl ?_
  exact own_retI K1 d_jdk_48_m5_36 rfl (by decide) (by decide) ⟨by rw [hz], q1⟩
theorem d_jdk_48_m4_0 : decode jdk_48_method_4_code 0 = .ok (.iload 4, 2) := by decide +kernel
theorem d_jdk_48_m4_2 : decode jdk_48_method_4_code 2 = .ok (.tableswitch 127 4 10 #[42, 55, 127, 127, 88, 101, 114], 42) := by decide +kernel
theorem d_jdk_48_m4_44 : decode jdk_48_method_4_code 44 = .ok (.iload_n 3, 1) := by decide +kernel
theorem d_jdk_48_m4_45 : decode jdk_48_method_4_code 45 = .ok (.aload_n 0, 1) := by decide +kernel
theorem d_jdk_48_m4_46 : decode jdk_48_method_4_code 46 = .ok (.checkcast 60, 3) := by decide +kernel
theorem wd157 {a0 : Array Value} {Z : State} (hw : ∀ d ∈ tables_1, d.before a0 Z = true) : (Jvm.Cond.classLink "jdk/internal/util/ArraysSupport" (60 : Nat) "[B").before a0 Z = true := hw _ (List.mem_of_getElem? (i := 157) rfl)
theorem d_jdk_48_m4_49 : decode jdk_48_method_4_code 49 = .ok (.iload_n 1, 1) := by decide +kernel
theorem d_jdk_48_m4_50 : decode jdk_48_method_4_code 50 = .ok (.iload_n 2, 1) := by decide +kernel
theorem d_jdk_48_m4_51 : decode jdk_48_method_4_code 51 = .ok (.invokestatic 62, 3) := by decide +kernel
theorem wd161 {a0 : Array Value} {Z : State} (hw : ∀ d ∈ tables_1, d.before a0 Z = true) : (Jvm.Cond.code ({ cls := "jdk/internal/util/ArraysSupport", name := "signedHashCode", desc := "(I[BII)I" } : Jvm.MethodName) jdk_48_method_5_code (6 : Nat) (Option.some Jvm.ClassFile.FieldType.int)).before a0 Z = true := hw _ (List.mem_of_getElem? (i := 161) rfl)
theorem wd155 {a0 : Array Value} {Z : State} (hw : ∀ d ∈ tables_1, d.before a0 Z = true) : (Jvm.Cond.initialized "jdk/internal/util/ArraysSupport").before a0 Z = true := hw _ (List.mem_of_getElem? (i := 155) rfl)
theorem pd_28I5bBII29I : parseMethodDescriptor "(I[BII)I" = some ⟨[.int, (.array .byte), .int, .int], some .int⟩ := by decide +kernel
theorem wd159 {a0 : Array Value} {Z : State} (hw : ∀ d ∈ tables_1, d.before a0 Z = true) : (Jvm.Cond.methodLink "jdk/internal/util/ArraysSupport" (62 : Nat) ({ cls := "jdk/internal/util/ArraysSupport", name := "signedHashCode", desc := "(I[BII)I" } : Jvm.MethodName)).before a0 Z = true := hw _ (List.mem_of_getElem? (i := 159) rfl)
theorem wd160 {a0 : Array Value} {Z : State} (hw : ∀ d ∈ tables_1, d.before a0 Z = true) : (Jvm.Cond.static ({ cls := "jdk/internal/util/ArraysSupport", name := "signedHashCode", desc := "(I[BII)I" } : Jvm.MethodName)).before a0 Z = true := hw _ (List.mem_of_getElem? (i := 160) rfl)
theorem d_jdk_48_m4_54 : decode jdk_48_method_4_code 54 = .ok (.goto 103, 3) := by decide +kernel
theorem d_jdk_48_m4_157 : decode jdk_48_method_4_code 157 = .ok (.ireturn, 1) := by decide +kernel
set_option maxRecDepth 65536 in
set_option maxHeartbeats 40000000 in
theorem rm_vecHash {l : Launch} {Z : State} {a0 : Array Value} (hw : ∀ d ∈ tables_1, d.before a0 Z = true) (hs : ∀ d ∈ jdkStatics_1, d.before a0 Z = true) {b : Addr} {kb : ClassId} {cs : List Int32} {h0 : Heap} (O0 : Ext Z.heap h0) (V : Arv Z h0 b kb .byte (Int32.ofNat cs.length) (own_by cs) (.int 0)) (hok : own_ok false cs) (hlen : cs.length ≤ 4000) (X : Exa Z h0 b "[B") :
    own_Ct l Z (⟨"jdk/internal/util/ArraysSupport", "vectorizedHashCode", "(Ljava/lang/Object;IIII)I"⟩ : MethodName) jdk_48_method_4_code 5 (some .int) [] ({ frames := 1, locals := 17, cells := 0, slots := 0 } : Room) #[(.ref b), (.int (0 : Int32)), (.int (Int32.ofNat cs.length)), (.int (0 : Int32)), (.int (4 : Int32))] h0 (fun v h => v = some (.int (own_hash cs)) ∧ h = h0) := by
  refine own_body (Ls := #[.val (.ref b), .val (.int (0 : Int32)), .val (.int (Int32.ofNat cs.length)), .val (.int (0 : Int32)), .val (.int (4 : Int32))]) (plainFor_of_name pn_jdk_internal_util_ArraysSupport) (fun m => by first | (simp [entryFrame, mkF, argsToLocals, Value.category]; done) | rfl) O0 ?_
  intro p e s m below meth c T0 G K0
  refine own_iload K0 d_jdk_48_m4_0 rfl rfl ?_
  refine own_tsw K0 d_jdk_48_m4_2 (by decide) (o := 42) rfl (by decide) (pc' := 44) (by decide) ?_
  refine own_iloadN K0 d_jdk_48_m4_44 rfl rfl ?_
  refine own_aloadN K0 d_jdk_48_m4_45 rfl rfl rfl ?_
  refine own_castY K0 (wd157 hw) (Ins.self X) d_jdk_48_m4_46 rfl ?_
  intro T1 K1
  refine own_iloadN K1 d_jdk_48_m4_49 rfl rfl ?_
  refine own_iloadN K1 d_jdk_48_m4_50 rfl rfl ?_
  refine own_callS K1 (wd159 hw) (wd160 hw) (rm_signedHash hw hs K1.O V hok hlen) (wd161 hw) (wd155 hw) (by decide) (argsL := [(.int (0 : Int32)), (.ref b), (.int (0 : Int32)), (.int (Int32.ofNat cs.length))]) (rest := []) rfl pd_28I5bBII29I rfl rfl (W := 0) rfl (by decide) (by decide) (by decide) (by decide) d_jdk_48_m4_51 rfl ?_
  intro T2 h2 L2 v2 K2 q2
  obtain ⟨rfl, e2⟩ := q2
  have f2 := e2.symm
  subst f2
  show G (T2.setTop (mkF m 54 #[.val (.ref b), .val (.int (0 : Int32)), .val (.int (Int32.ofNat cs.length)), .val (.int (0 : Int32)), .val (.int (4 : Int32))] [(.int (own_hash cs))]))
  refine own_goto K2 d_jdk_48_m4_54 (pc' := 157) (by decide) (by decide) ?_
  exact own_retI K2 d_jdk_48_m4_157 rfl (by decide) (by decide) ⟨rfl, rfl⟩
theorem own_sw2 {i : Nat} (h : 2 ≤ i) (hn : i ≤ 4000) : lookupswitch.offset [(0, 26), (1, 30)] 40 (Int32.ofNat i).toInt = 40 := by
  rw [Int32.toInt_ofNat_of_lt (by omega), lookupswitch.offset_cons, if_neg (by omega), lookupswitch.offset_cons, if_neg (by omega), lookupswitch.offset_nil]
theorem own_hash1 {cs : List Int32} (h : cs.length = 1) : own_hash cs = cs[0]'(by omega) := by
  match cs, h with
  | [c], _ => simp [own_hash]
theorem own_hash0 {cs : List Int32} (h : cs.length = 0) : own_hash cs = 0 := by
  rw [List.eq_nil_of_length_eq_zero h]; rfl
theorem d_jdk_43_m21_0 : decode jdk_43_method_21_code 0 = .ok (.aload_n 0, 1) := by decide +kernel
theorem d_jdk_43_m21_1 : decode jdk_43_method_21_code 1 = .ok (.arraylength, 1) := by decide +kernel
theorem d_jdk_43_m21_2 : decode jdk_43_method_21_code 2 = .ok (.lookupswitch 40 #[(0, 26), (1, 30)], 26) := by decide +kernel
theorem d_jdk_43_m21_28 : decode jdk_43_method_21_code 28 = .ok (.iconst 0, 1) := by decide +kernel
theorem d_jdk_43_m21_29 : decode jdk_43_method_21_code 29 = .ok (.goto 22, 3) := by decide +kernel
theorem d_jdk_43_m21_51 : decode jdk_43_method_21_code 51 = .ok (.ireturn, 1) := by decide +kernel
theorem d_jdk_43_m21_32 : decode jdk_43_method_21_code 32 = .ok (.aload_n 0, 1) := by decide +kernel
theorem d_jdk_43_m21_33 : decode jdk_43_method_21_code 33 = .ok (.iconst 0, 1) := by decide +kernel
theorem d_jdk_43_m21_34 : decode jdk_43_method_21_code 34 = .ok (.baload, 1) := by decide +kernel
theorem d_jdk_43_m21_35 : decode jdk_43_method_21_code 35 = .ok (.sipush 255, 3) := by decide +kernel
theorem d_jdk_43_m21_38 : decode jdk_43_method_21_code 38 = .ok (.iand, 1) := by decide +kernel
theorem d_jdk_43_m21_39 : decode jdk_43_method_21_code 39 = .ok (.goto 12, 3) := by decide +kernel
theorem d_jdk_43_m21_42 : decode jdk_43_method_21_code 42 = .ok (.aload_n 0, 1) := by decide +kernel
theorem d_jdk_43_m21_43 : decode jdk_43_method_21_code 43 = .ok (.iconst 0, 1) := by decide +kernel
theorem d_jdk_43_m21_44 : decode jdk_43_method_21_code 44 = .ok (.aload_n 0, 1) := by decide +kernel
theorem d_jdk_43_m21_45 : decode jdk_43_method_21_code 45 = .ok (.arraylength, 1) := by decide +kernel
theorem d_jdk_43_m21_46 : decode jdk_43_method_21_code 46 = .ok (.iconst 0, 1) := by decide +kernel
theorem d_jdk_43_m21_47 : decode jdk_43_method_21_code 47 = .ok (.iconst 4, 1) := by decide +kernel
theorem d_jdk_43_m21_48 : decode jdk_43_method_21_code 48 = .ok (.invokestatic 84, 3) := by decide +kernel
theorem wd156 {a0 : Array Value} {Z : State} (hw : ∀ d ∈ tables_1, d.before a0 Z = true) : (Jvm.Cond.code ({ cls := "jdk/internal/util/ArraysSupport", name := "vectorizedHashCode", desc := "(Ljava/lang/Object;IIII)I" } : Jvm.MethodName) jdk_48_method_4_code (5 : Nat) (Option.some Jvm.ClassFile.FieldType.int)).before a0 Z = true := hw _ (List.mem_of_getElem? (i := 156) rfl)
theorem pd_28Ljava2flang2fObject3bIIII29I : parseMethodDescriptor "(Ljava/lang/Object;IIII)I" = some ⟨[(.object "java/lang/Object"), .int, .int, .int, .int], some .int⟩ := by decide +kernel
theorem wd153 {a0 : Array Value} {Z : State} (hw : ∀ d ∈ tables_1, d.before a0 Z = true) : (Jvm.Cond.methodLink "java/lang/StringLatin1" (84 : Nat) ({ cls := "jdk/internal/util/ArraysSupport", name := "vectorizedHashCode", desc := "(Ljava/lang/Object;IIII)I" } : Jvm.MethodName)).before a0 Z = true := hw _ (List.mem_of_getElem? (i := 153) rfl)
theorem wd154 {a0 : Array Value} {Z : State} (hw : ∀ d ∈ tables_1, d.before a0 Z = true) : (Jvm.Cond.static ({ cls := "jdk/internal/util/ArraysSupport", name := "vectorizedHashCode", desc := "(Ljava/lang/Object;IIII)I" } : Jvm.MethodName)).before a0 Z = true := hw _ (List.mem_of_getElem? (i := 154) rfl)
theorem pn_java_lang_StringLatin1 : plainName "java/lang/StringLatin1" = true := by first | (simp [plainName, overriddenIn]; done) | decide +kernel
set_option maxRecDepth 65536 in
set_option maxHeartbeats 40000000 in
theorem rm_l1Hash {l : Launch} {Z : State} {a0 : Array Value} (hw : ∀ d ∈ tables_1, d.before a0 Z = true) (hs : ∀ d ∈ jdkStatics_1, d.before a0 Z = true) {b : Addr} {kb : ClassId} {cs : List Int32} {h0 : Heap} (O0 : Ext Z.heap h0) (V : Arv Z h0 b kb .byte (Int32.ofNat cs.length) (own_by cs) (.int 0)) (hok : own_ok false cs) (hlen : cs.length ≤ 4000) (X : 2 ≤ cs.length → Exa Z h0 b "[B") :
    own_Ct l Z (⟨"java/lang/StringLatin1", "hashCode", "([B)I"⟩ : MethodName) jdk_43_method_21_code 1 (some .int) [] ({ frames := 2, locals := 33, cells := 0, slots := 0 } : Room) #[(.ref b)] h0 (fun v h => v = some (.int (own_hash cs)) ∧ h = h0) := by
  refine own_body (Ls := #[.val (.ref b)]) (plainFor_of_name pn_java_lang_StringLatin1) (fun m => by first | (simp [entryFrame, mkF, argsToLocals, Value.category]; done) | rfl) O0 ?_
  intro p e s m below meth c T0 G K0
  refine own_aloadN K0 d_jdk_43_m21_0 rfl rfl rfl ?_
  refine own_arraylength K0 V d_jdk_43_m21_1 rfl ?_
  by_cases hq0 : cs.length = 0
  · skip
    refine own_lookup K0 d_jdk_43_m21_2 (by decide) (off := 26) (by rw [hq0]; decide) (by decide) (pc' := 28) (by decide) ?_
    refine own_iconst K0 (v := (0 : Int32)) d_jdk_43_m21_28 rfl rfl ?_
    refine own_goto K0 d_jdk_43_m21_29 (pc' := 51) (by decide) (by decide) ?_
    exact own_retI K0 d_jdk_43_m21_51 rfl (by decide) (by decide) ⟨by rw [own_hash0 hq0], rfl⟩
  · skip
    by_cases hq1 : cs.length = 1
    · skip
      refine own_lookup K0 d_jdk_43_m21_2 (by decide) (off := 30) (by rw [hq1]; decide) (by decide) (pc' := 32) (by decide) ?_
      refine own_aloadN K0 d_jdk_43_m21_32 rfl rfl rfl ?_
      refine own_iconst K0 (v := (0 : Int32)) d_jdk_43_m21_33 rfl rfl ?_
      have hin : 0 < cs.length := by omega
      refine own_baload K0 (x := (cs[0]).toInt8.toInt32) V ⟨by decide, own_lt (i := 0) hin (by omega)⟩ (own_by_get cs 0 hin) d_jdk_43_m21_34 rfl ?_
      refine own_sipush K0 (v := (255 : Int32)) d_jdk_43_m21_35 rfl rfl ?_
      refine own_iand K0 d_jdk_43_m21_38 rfl ?_
      rw [own_rd1 (hok _ (List.getElem_mem hin))]
      refine own_goto K0 d_jdk_43_m21_39 (pc' := 51) (by decide) (by decide) ?_
      exact own_retI K0 d_jdk_43_m21_51 rfl (by decide) (by decide) ⟨by rw [own_hash1 hq1], rfl⟩
    · skip
      refine own_lookup K0 d_jdk_43_m21_2 (by decide) (off := 40) (own_sw2 (by omega) (by omega)) (by decide) (pc' := 42) (by decide) ?_
      refine own_aloadN K0 d_jdk_43_m21_42 rfl rfl rfl ?_
      refine own_iconst K0 (v := (0 : Int32)) d_jdk_43_m21_43 rfl rfl ?_
      refine own_aloadN K0 d_jdk_43_m21_44 rfl rfl rfl ?_
      refine own_arraylength K0 V d_jdk_43_m21_45 rfl ?_
      refine own_iconst K0 (v := (0 : Int32)) d_jdk_43_m21_46 rfl rfl ?_
      refine own_iconst K0 (v := (4 : Int32)) d_jdk_43_m21_47 rfl rfl ?_
      refine own_callS K0 (wd153 hw) (wd154 hw) (rm_vecHash hw hs K0.O V hok hlen (X (by omega))) (wd156 hw) (wd155 hw) (by decide) (argsL := [(.ref b), (.int (0 : Int32)), (.int (Int32.ofNat cs.length)), (.int (0 : Int32)), (.int (4 : Int32))]) (rest := []) rfl pd_28Ljava2flang2fObject3bIIII29I rfl rfl (W := 0) rfl (by decide) (by decide) (by decide) (by decide) d_jdk_43_m21_48 rfl ?_
      intro T3 h3 L3 v3 K3 q3
      obtain ⟨rfl, e3⟩ := q3
      have f3 := e3.symm
      subst f3
      show G (T3.setTop (mkF m 51 #[.val (.ref b)] [(.int (own_hash cs))]))
      exact own_retI K3 d_jdk_43_m21_51 rfl (by decide) (by decide) ⟨rfl, rfl⟩
theorem d_jdk_42_m154_0 : decode jdk_42_method_154_code 0 = .ok (.getstatic 38, 3) := by decide +kernel
theorem wd20 {a0 : Array Value} {Z : State} (hw : ∀ d ∈ tables_1, d.before a0 Z = true) : (Jvm.Cond.fieldLink "java/lang/String" (38 : Nat) "java/lang/String" "COMPACT_STRINGS" "Z").before a0 Z = true := hw _ (List.mem_of_getElem? (i := 20) rfl)
theorem d_jdk_42_m154_3 : decode jdk_42_method_154_code 3 = .ok (.ifCond .eq 14, 3) := by decide +kernel
theorem d_jdk_42_m154_6 : decode jdk_42_method_154_code 6 = .ok (.aload_n 0, 1) := by decide +kernel
theorem wd32 {a0 : Array Value} {Z : State} (hw : ∀ d ∈ tables_1, d.before a0 Z = true) : (Jvm.Cond.fieldLink "java/lang/String" (15 : Nat) "java/lang/String" "coder" "B").before a0 Z = true := hw _ (List.mem_of_getElem? (i := 32) rfl)
theorem d_jdk_42_m154_7 : decode jdk_42_method_154_code 7 = .ok (.getfield 15, 3) := by decide +kernel
theorem d_jdk_42_m154_10 : decode jdk_42_method_154_code 10 = .ok (.ifCond .ne 7, 3) := by decide +kernel
theorem d_jdk_42_m154_13 : decode jdk_42_method_154_code 13 = .ok (.iconst 1, 1) := by decide +kernel
theorem d_jdk_42_m154_14 : decode jdk_42_method_154_code 14 = .ok (.goto 4, 3) := by decide +kernel
theorem d_jdk_42_m154_18 : decode jdk_42_method_154_code 18 = .ok (.ireturn, 1) := by decide +kernel
theorem st0 {a0 : Array Value} {Z : State} (hs : ∀ d ∈ jdkStatics_1, d.before a0 Z = true) : (Jvm.Cond.initializedFor "java/lang/String" "COMPACT_STRINGS" "Z").before a0 Z = true := hs _ (List.mem_of_getElem? (i := 0) rfl)
theorem st1 {a0 : Array Value} {Z : State} (hs : ∀ d ∈ jdkStatics_1, d.before a0 Z = true) : (Jvm.Cond.isInt (Jvm.Term.static "java/lang/String" "COMPACT_STRINGS" "Z")).before a0 Z = true := hs _ (List.mem_of_getElem? (i := 1) rfl)
theorem st2 {a0 : Array Value} {Z : State} (hs : ∀ d ∈ jdkStatics_1, d.before a0 Z = true) : (Jvm.Cond.not (Jvm.Cond.eq (Jvm.Term.static "java/lang/String" "COMPACT_STRINGS" "Z") (Jvm.Term.int (0 : Int32)))).before a0 Z = true := hs _ (List.mem_of_getElem? (i := 2) rfl)
theorem own_compact {a0 : Array Value} {Z : State} (hs : ∀ d ∈ jdkStatics_1, d.before a0 Z = true) : ∃ zc : Int32, Sta Z Z.heap "java/lang/String" "COMPACT_STRINGS" "Z" (.int zc) ∧ ¬ zc = 0 := by
  obtain ⟨i, e⟩ := is_v (Cond.before_iff.mp (st1 hs))
  exact ⟨i, Sta.start e (Or.inl (st0 hs)), gotF (Cond.eq_ints e (Term.int_eval (0))) (not_v (Cond.before_iff.mp (st2 hs)))⟩
theorem pn_java_lang_String : plainName "java/lang/String" = true := by first | (simp [plainName, overriddenIn]; done) | decide +kernel
set_option maxRecDepth 65536 in
set_option maxHeartbeats 40000000 in
theorem rm_isLatin1 {l : Launch} {Z : State} {a0 : Array Value} (hw : ∀ d ∈ tables_1, d.before a0 Z = true) (hs : ∀ d ∈ jdkStatics_1, d.before a0 Z = true) {x : Addr} {cs : List Int32} {h0 : Heap} (O0 : Ext Z.heap h0) (S : own_StrG Z h0 x u cs) (hlen : cs.length ≤ 4000) :
    own_Ct l Z (⟨"java/lang/String", "isLatin1", "()Z"⟩ : MethodName) jdk_42_method_154_code 1 (some .boolean) [] ({ frames := 0, locals := 0, cells := 0, slots := 0 } : Room) #[(.ref x)] h0 (fun v h => v = some (.int (cond u 0 1)) ∧ h = h0) := by
  obtain ⟨zc, SC, hzc⟩ := own_compact hs
  obtain ⟨E, Fc, b, kb, Fv, V⟩ := S
  refine own_body (Ls := #[.val (.ref x)]) (plainFor_of_name pn_java_lang_String) (fun m => by first | (simp [entryFrame, mkF, argsToLocals, Value.category]; done) | rfl) O0 ?_
  intro p e s m below meth c T0 G K0
  refine own_getS K0 (wd20 hw) Via.refl (SC.ext K0.O) d_jdk_42_m154_0 rfl ?_
  intro T4 K4
  refine own_ifNo K4 d_jdk_42_m154_3 rfl ((if0 _ _).trans (feq hzc).1) ?_
  refine own_aloadN K4 d_jdk_42_m154_6 rfl rfl rfl ?_
  refine own_getF K4 (host := "") (Or.inl (wd32 hw)) Via.refl Fc d_jdk_42_m154_7 rfl ?_
  intro T5 K5
  · skip
    refine own_ifNo K5 d_jdk_42_m154_10 rfl ((if0 _ _).trans (teq rfl).2) ?_
    refine own_iconst K5 (v := (1 : Int32)) d_jdk_42_m154_13 rfl rfl ?_
    refine own_goto K5 d_jdk_42_m154_14 (pc' := 18) (by decide) (by decide) ?_
    exact own_retN K5 (z' := (1 : Int32)) d_jdk_42_m154_18 rfl (by simp) (by decide) (by decide) (by decide) ⟨rfl, rfl⟩
theorem d_jdk_42_m78_0 : decode jdk_42_method_78_code 0 = .ok (.aload_n 0, 1) := by decide +kernel
theorem wd7 {a0 : Array Value} {Z : State} (hw : ∀ d ∈ tables_1, d.before a0 Z = true) : (Jvm.Cond.instantiable "java/lang/String" (4 : Nat)).before a0 Z = true := hw _ (List.mem_of_getElem? (i := 7) rfl)
theorem wd141 {a0 : Array Value} {Z : State} (hw : ∀ d ∈ tables_1, d.before a0 Z = true) : (Jvm.Cond.fieldLink "java/lang/String" (19 : Nat) "java/lang/String" "hash" "I").before a0 Z = true := hw _ (List.mem_of_getElem? (i := 141) rfl)
theorem d_jdk_42_m78_1 : decode jdk_42_method_78_code 1 = .ok (.getfield 19, 3) := by decide +kernel
theorem d_jdk_42_m78_4 : decode jdk_42_method_78_code 4 = .ok (.istore_n 1, 1) := by decide +kernel
theorem d_jdk_42_m78_5 : decode jdk_42_method_78_code 5 = .ok (.iload_n 1, 1) := by decide +kernel
theorem d_jdk_42_m78_6 : decode jdk_42_method_78_code 6 = .ok (.ifCond .ne 52, 3) := by decide +kernel
theorem d_jdk_42_m78_9 : decode jdk_42_method_78_code 9 = .ok (.aload_n 0, 1) := by decide +kernel
theorem wd143 {a0 : Array Value} {Z : State} (hw : ∀ d ∈ tables_1, d.before a0 Z = true) : (Jvm.Cond.fieldLink "java/lang/String" (23 : Nat) "java/lang/String" "hashIsZero" "Z").before a0 Z = true := hw _ (List.mem_of_getElem? (i := 143) rfl)
theorem d_jdk_42_m78_10 : decode jdk_42_method_78_code 10 = .ok (.getfield 23, 3) := by decide +kernel
theorem d_jdk_42_m78_13 : decode jdk_42_method_78_code 13 = .ok (.ifCond .ne 45, 3) := by decide +kernel
theorem d_jdk_42_m78_16 : decode jdk_42_method_78_code 16 = .ok (.aload_n 0, 1) := by decide +kernel
theorem d_jdk_42_m78_17 : decode jdk_42_method_78_code 17 = .ok (.invokevirtual 492, 3) := by decide +kernel
theorem wd149 {a0 : Array Value} {Z : State} (hw : ∀ d ∈ tables_1, d.before a0 Z = true) : (Jvm.Cond.code ({ cls := "java/lang/String", name := "isLatin1", desc := "()Z" } : Jvm.MethodName) jdk_42_method_154_code (1 : Nat) (Option.some Jvm.ClassFile.FieldType.boolean)).before a0 Z = true := hw _ (List.mem_of_getElem? (i := 149) rfl)
theorem wd8 {a0 : Array Value} {Z : State} (hw : ∀ d ∈ tables_1, d.before a0 Z = true) : (Jvm.Cond.initialized "java/lang/String").before a0 Z = true := hw _ (List.mem_of_getElem? (i := 8) rfl)
theorem pd_2829Z : parseMethodDescriptor "()Z" = some ⟨[], some .boolean⟩ := by decide +kernel
theorem wd138 {a0 : Array Value} {Z : State} (hw : ∀ d ∈ tables_1, d.before a0 Z = true) : (Jvm.Cond.selects "java/lang/String" ({ cls := "java/lang/Object", name := "hashCode", desc := "()I" } : Jvm.MethodName) ({ cls := "java/lang/String", name := "hashCode", desc := "()I" } : Jvm.MethodName)).before a0 Z = true := hw _ (List.mem_of_getElem? (i := 138) rfl)
theorem wd145 {a0 : Array Value} {Z : State} (hw : ∀ d ∈ tables_1, d.before a0 Z = true) : (Jvm.Cond.methodLink "java/lang/String" (492 : Nat) ({ cls := "java/lang/String", name := "isLatin1", desc := "()Z" } : Jvm.MethodName)).before a0 Z = true := hw _ (List.mem_of_getElem? (i := 145) rfl)
theorem wd146 {a0 : Array Value} {Z : State} (hw : ∀ d ∈ tables_1, d.before a0 Z = true) : (Jvm.Cond.declares ({ cls := "java/lang/String", name := "isLatin1", desc := "()Z" } : Jvm.MethodName)).before a0 Z = true := hw _ (List.mem_of_getElem? (i := 146) rfl)
theorem wd148 {a0 : Array Value} {Z : State} (hw : ∀ d ∈ tables_1, d.before a0 Z = true) : (Jvm.Cond.selects "java/lang/String" ({ cls := "java/lang/String", name := "isLatin1", desc := "()Z" } : Jvm.MethodName) ({ cls := "java/lang/String", name := "isLatin1", desc := "()Z" } : Jvm.MethodName)).before a0 Z = true := hw _ (List.mem_of_getElem? (i := 148) rfl)
theorem wd147 {a0 : Array Value} {Z : State} (hw : ∀ d ∈ tables_1, d.before a0 Z = true) : (Jvm.Cond.instanceMethod ({ cls := "java/lang/String", name := "isLatin1", desc := "()Z" } : Jvm.MethodName)).before a0 Z = true := hw _ (List.mem_of_getElem? (i := 147) rfl)
theorem d_jdk_42_m78_20 : decode jdk_42_method_78_code 20 = .ok (.ifCond .eq 13, 3) := by decide +kernel
theorem d_jdk_42_m78_23 : decode jdk_42_method_78_code 23 = .ok (.aload_n 0, 1) := by decide +kernel
theorem wd34 {a0 : Array Value} {Z : State} (hw : ∀ d ∈ tables_1, d.before a0 Z = true) : (Jvm.Cond.fieldLink "java/lang/String" (9 : Nat) "java/lang/String" "value" "[B").before a0 Z = true := hw _ (List.mem_of_getElem? (i := 34) rfl)
theorem d_jdk_42_m78_24 : decode jdk_42_method_78_code 24 = .ok (.getfield 9, 3) := by decide +kernel
theorem d_jdk_42_m78_27 : decode jdk_42_method_78_code 27 = .ok (.invokestatic 628, 3) := by decide +kernel
theorem wd152 {a0 : Array Value} {Z : State} (hw : ∀ d ∈ tables_1, d.before a0 Z = true) : (Jvm.Cond.code ({ cls := "java/lang/StringLatin1", name := "hashCode", desc := "([B)I" } : Jvm.MethodName) jdk_43_method_21_code (1 : Nat) (Option.some Jvm.ClassFile.FieldType.int)).before a0 Z = true := hw _ (List.mem_of_getElem? (i := 152) rfl)
theorem wd41 {a0 : Array Value} {Z : State} (hw : ∀ d ∈ tables_1, d.before a0 Z = true) : (Jvm.Cond.initialized "java/lang/StringLatin1").before a0 Z = true := hw _ (List.mem_of_getElem? (i := 41) rfl)
theorem pd_285bB29I : parseMethodDescriptor "([B)I" = some ⟨[(.array .byte)], some .int⟩ := by decide +kernel
theorem wd150 {a0 : Array Value} {Z : State} (hw : ∀ d ∈ tables_1, d.before a0 Z = true) : (Jvm.Cond.methodLink "java/lang/String" (628 : Nat) ({ cls := "java/lang/StringLatin1", name := "hashCode", desc := "([B)I" } : Jvm.MethodName)).before a0 Z = true := hw _ (List.mem_of_getElem? (i := 150) rfl)
theorem wd151 {a0 : Array Value} {Z : State} (hw : ∀ d ∈ tables_1, d.before a0 Z = true) : (Jvm.Cond.static ({ cls := "java/lang/StringLatin1", name := "hashCode", desc := "([B)I" } : Jvm.MethodName)).before a0 Z = true := hw _ (List.mem_of_getElem? (i := 151) rfl)
theorem d_jdk_42_m78_30 : decode jdk_42_method_78_code 30 = .ok (.goto 10, 3) := by decide +kernel
theorem d_jdk_42_m78_40 : decode jdk_42_method_78_code 40 = .ok (.istore_n 1, 1) := by decide +kernel
theorem d_jdk_42_m78_41 : decode jdk_42_method_78_code 41 = .ok (.iload_n 1, 1) := by decide +kernel
theorem d_jdk_42_m78_42 : decode jdk_42_method_78_code 42 = .ok (.ifCond .ne 11, 3) := by decide +kernel
theorem d_jdk_42_m78_45 : decode jdk_42_method_78_code 45 = .ok (.aload_n 0, 1) := by decide +kernel
theorem d_jdk_42_m78_46 : decode jdk_42_method_78_code 46 = .ok (.iconst 1, 1) := by decide +kernel
theorem wd144 {a0 : Array Value} {Z : State} (hw : ∀ d ∈ tables_1, d.before a0 Z = true) : (Jvm.Cond.lays "java/lang/String" "java/lang/String" "hashIsZero" "Z").before a0 Z = true := hw _ (List.mem_of_getElem? (i := 144) rfl)
theorem d_jdk_42_m78_47 : decode jdk_42_method_78_code 47 = .ok (.putfield 23, 3) := by decide +kernel
theorem d_jdk_42_m78_50 : decode jdk_42_method_78_code 50 = .ok (.goto 8, 3) := by decide +kernel
theorem d_jdk_42_m78_58 : decode jdk_42_method_78_code 58 = .ok (.iload_n 1, 1) := by decide +kernel
theorem wd142 {a0 : Array Value} {Z : State} (hw : ∀ d ∈ tables_1, d.before a0 Z = true) : (Jvm.Cond.lays "java/lang/String" "java/lang/String" "hash" "I").before a0 Z = true := hw _ (List.mem_of_getElem? (i := 142) rfl)
theorem wd33 {a0 : Array Value} {Z : State} (hw : ∀ d ∈ tables_1, d.before a0 Z = true) : (Jvm.Cond.laysFinal "java/lang/String" "java/lang/String" "coder" "B").before a0 Z = true := hw _ (List.mem_of_getElem? (i := 33) rfl)
theorem wd35 {a0 : Array Value} {Z : State} (hw : ∀ d ∈ tables_1, d.before a0 Z = true) : (Jvm.Cond.laysFinal "java/lang/String" "java/lang/String" "value" "[B").before a0 Z = true := hw _ (List.mem_of_getElem? (i := 35) rfl)
theorem d_jdk_42_m78_59 : decode jdk_42_method_78_code 59 = .ok (.ireturn, 1) := by decide +kernel
theorem d_jdk_42_m78_53 : decode jdk_42_method_78_code 53 = .ok (.aload_n 0, 1) := by decide +kernel
theorem d_jdk_42_m78_54 : decode jdk_42_method_78_code 54 = .ok (.iload_n 1, 1) := by decide +kernel
theorem d_jdk_42_m78_55 : decode jdk_42_method_78_code 55 = .ok (.putfield 19, 3) := by decide +kernel
set_option maxRecDepth 65536 in
set_option maxHeartbeats 40000000 in
theorem rm_strHash {l : Launch} {Z : State} {a0 : Array Value} (hw : ∀ d ∈ tables_1, d.before a0 Z = true) (hs : ∀ d ∈ jdkStatics_1, d.before a0 Z = true) {x : Addr} {cs : List Int32} {h0 : Heap} (O0 : Ext Z.heap h0) (S : own_StS Z h0 x cs) (gx : Z.heap.size ≤ x) (hok : own_ok false cs) (hlen : cs.length ≤ 4000) :
    own_Ct l Z (⟨"java/lang/String", "hashCode", "()I"⟩ : MethodName) jdk_42_method_78_code 2 (some .int) [] ({ frames := 3, locals := 45, cells := 0, slots := 0 } : Room) #[(.ref x)] h0 (fun v h => v = some (.int (own_hash cs)) ∧ Keep h0 h [x] ∧ own_StS Z h x cs) := by
  refine own_body (Ls := #[.val (.ref x), .unset]) (plainFor_of_name pn_java_lang_String) (fun m => by first | (simp [entryFrame, mkF, argsToLocals, Value.category]; done) | rfl) O0 ?_
  intro p e s m below meth c T0 G K0
  have S0 := S.g
  obtain ⟨hv, zv, ⟨E, Fc, Fh, Fz, b, kb, Fv, V, XB⟩, hst⟩ := S
  refine own_aloadN K0 d_jdk_42_m78_0 rfl rfl rfl ?_
  have hbx := (Exa.neArv E V (wd7 hw)).symm
  rcases hst with hst | hst
  · skip
    obtain ⟨rfl, rfl⟩ := hst
    refine own_getF K0 (host := "") (Or.inl (wd141 hw)) Via.refl Fh d_jdk_42_m78_1 rfl ?_
    intro T6 K6
    refine own_istoreN K6 (Ls' := #[.val (.ref x), .val (.int (0 : Int32))]) d_jdk_42_m78_4 rfl rfl ?_
    refine own_iloadN K6 d_jdk_42_m78_5 rfl rfl ?_
    refine own_ifNo K6 d_jdk_42_m78_6 rfl ((if0 _ _).trans (teq rfl).2) ?_
    refine own_aloadN K6 d_jdk_42_m78_9 rfl rfl rfl ?_
    refine own_getF K6 (host := "") (Or.inl (wd143 hw)) Via.refl Fz d_jdk_42_m78_10 rfl ?_
    intro T7 K7
    refine own_ifNo K7 d_jdk_42_m78_13 rfl ((if0 _ _).trans (teq rfl).2) ?_
    refine own_aloadN K7 d_jdk_42_m78_16 rfl rfl rfl ?_
    refine own_callV K7 (a := x) (x0 := (⟨"java/lang/String", "isLatin1", "()Z"⟩ : MethodName)) (wd145 hw) (wd146 hw) (fun q => own_nfS (args := #[]) (mvT q (wd138 hw)) rfl) (wd148 hw) (wd147 hw) (rm_isLatin1 hw hs K7.O S0 hlen) (wd149 hw) (wd8 hw) (by decide) E (argsL := []) (rest := []) rfl pd_2829Z rfl rfl (W := 0) rfl (by decide) (by decide) (by decide) (by decide) d_jdk_42_m78_17 rfl ?_
    intro T8 h8 L8 v8 K8 q8
    obtain ⟨rfl, e8⟩ := q8
    have f8 := e8.symm
    subst f8
    show G (T8.setTop (mkF m 20 #[.val (.ref x), .val (.int (0 : Int32))] [(.int (1 : Int32))]))
    refine own_ifNo K8 d_jdk_42_m78_20 rfl ((if0 _ _).trans (feq (by decide)).1) ?_
    refine own_aloadN K8 d_jdk_42_m78_23 rfl rfl rfl ?_
    refine own_getF K8 (host := "") (Or.inl (wd34 hw)) Via.refl Fv d_jdk_42_m78_24 rfl ?_
    intro T9 K9
    refine own_callS K9 (wd150 hw) (wd151 hw) (rm_l1Hash hw hs K9.O V hok hlen XB) (wd152 hw) (wd41 hw) (by decide) (argsL := [(.ref b)]) (rest := []) rfl pd_285bB29I rfl rfl (W := 0) rfl (by decide) (by decide) (by decide) (by decide) d_jdk_42_m78_27 rfl ?_
    intro T10 h10 L10 v10 K10 q10
    obtain ⟨rfl, e10⟩ := q10
    have f10 := e10.symm
    subst f10
    show G (T10.setTop (mkF m 30 #[.val (.ref x), .val (.int (0 : Int32))] [(.int (own_hash cs))]))
    refine own_goto K10 d_jdk_42_m78_30 (pc' := 40) (by decide) (by decide) ?_
    refine own_istoreN K10 (Ls' := #[.val (.ref x), .val (.int (own_hash cs))]) d_jdk_42_m78_40 rfl rfl ?_
    refine own_iloadN K10 d_jdk_42_m78_41 rfl rfl ?_
    by_cases hz : own_hash cs = 0
    · skip
      refine own_ifNo K10 d_jdk_42_m78_42 rfl ((if0 _ _).trans (teq hz).2) ?_
      refine own_aloadN K10 d_jdk_42_m78_45 rfl rfl rfl ?_
      refine own_iconst K10 (v := (1 : Int32)) d_jdk_42_m78_46 rfl rfl ?_
      refine own_putFN K10 (wd143 hw) Via.refl Fz E (Or.inl (wd144 hw)) (wd7 hw) (ty := .boolean) (v' := .int 1) (by decide) rfl rfl gx d_jdk_42_m78_47 rfl ?_
      intro T11 h11 K11 W11
      refine own_goto K11 d_jdk_42_m78_50 (pc' := 58) (by decide) (by decide) ?_
      refine own_iloadN K11 d_jdk_42_m78_58 rfl rfl ?_
      exact own_retI K11 d_jdk_42_m78_59 rfl (by decide) (by decide) ⟨rfl, (Keep.refl h0 [x]).wr W11 (Or.inl (List.mem_singleton.mpr rfl)), 0, 1, ⟨E.wr W11, Fc.other W11 (Or.inr (slot_ne (Or.inr (wd33 hw)) (Or.inl (wd144 hw)) (by decide) (t := .byte) (t' := .boolean) (by decide) (by decide))), Fh.other W11 (Or.inr (slot_ne (Or.inl (wd142 hw)) (Or.inl (wd144 hw)) (by decide) (t := .int) (t' := .boolean) (by decide) (by decide))), Fz.same W11, b, kb, Fv.other W11 (Or.inr (slot_ne (Or.inr (wd35 hw)) (Or.inl (wd144 hw)) (by decide) (t := (.array .byte)) (t' := .boolean) (by decide) (by decide))), V.other W11 hbx, fun q => (XB q).wr W11⟩, Or.inr ⟨hz.symm, Or.inr (by decide)⟩⟩
    · skip
      refine own_ifYes K10 d_jdk_42_m78_42 (pc' := 53) (by decide) (by decide) ((if0 _ _).trans (feq hz).2) ?_
      refine own_aloadN K10 d_jdk_42_m78_53 rfl rfl rfl ?_
      refine own_iloadN K10 d_jdk_42_m78_54 rfl rfl ?_
      refine own_putF K10 (host := "") (Or.inl (wd141 hw)) Via.refl Fh E (Or.inl (wd142 hw)) (wd7 hw) (ty := .int) (by decide) rfl rfl gx d_jdk_42_m78_55 rfl ?_
      intro T12 h12 K12 W12
      refine own_iloadN K12 d_jdk_42_m78_58 rfl rfl ?_
      exact own_retI K12 d_jdk_42_m78_59 rfl (by decide) (by decide) ⟨rfl, (Keep.refl h0 [x]).wr W12 (Or.inl (List.mem_singleton.mpr rfl)), own_hash cs, 0, ⟨E.wr W12, Fc.other W12 (Or.inr (slot_ne (Or.inr (wd33 hw)) (Or.inl (wd142 hw)) (by decide) (t := .byte) (t' := .int) (by decide) (by decide))), Fh.same W12, Fz.other W12 (Or.inr (slot_ne (Or.inl (wd144 hw)) (Or.inl (wd142 hw)) (by decide) (t := .boolean) (t' := .int) (by decide) (by decide))), b, kb, Fv.other W12 (Or.inr (slot_ne (Or.inr (wd35 hw)) (Or.inl (wd142 hw)) (by decide) (t := (.array .byte)) (t' := .int) (by decide) (by decide))), V.other W12 hbx, fun q => (XB q).wr W12⟩, Or.inr ⟨rfl, Or.inl hz⟩⟩
  · skip
    obtain ⟨rfl, hst⟩ := hst
    refine own_getF K0 (host := "") (Or.inl (wd141 hw)) Via.refl Fh d_jdk_42_m78_1 rfl ?_
    intro T13 K13
    refine own_istoreN K13 (Ls' := #[.val (.ref x), .val (.int (own_hash cs))]) d_jdk_42_m78_4 rfl rfl ?_
    refine own_iloadN K13 d_jdk_42_m78_5 rfl rfl ?_
    by_cases hz : own_hash cs = 0
    · skip
      refine own_ifNo K13 d_jdk_42_m78_6 rfl ((if0 _ _).trans (teq hz).2) ?_
      refine own_aloadN K13 d_jdk_42_m78_9 rfl rfl rfl ?_
      refine own_getF K13 (host := "") (Or.inl (wd143 hw)) Via.refl Fz d_jdk_42_m78_10 rfl ?_
      intro T14 K14
      refine own_ifYes K14 d_jdk_42_m78_13 (pc' := 58) (by decide) (by decide) ((if0 _ _).trans (feq (hst.resolve_left (fun q => q hz))).2) ?_
      refine own_iloadN K14 d_jdk_42_m78_58 rfl rfl ?_
      exact own_retI K14 d_jdk_42_m78_59 rfl (by decide) (by decide) ⟨rfl, Keep.refl _ _, _, zv, ⟨E, Fc, Fh, Fz, b, kb, Fv, V, XB⟩, Or.inr ⟨rfl, hst⟩⟩
    · skip
      refine own_ifYes K13 d_jdk_42_m78_6 (pc' := 58) (by decide) (by decide) ((if0 _ _).trans (feq hz).2) ?_
      refine own_iloadN K13 d_jdk_42_m78_58 rfl rfl ?_
      exact own_retI K13 d_jdk_42_m78_59 rfl (by decide) (by decide) ⟨rfl, Keep.refl _ _, _, zv, ⟨E, Fc, Fh, Fz, b, kb, Fv, V, XB⟩, Or.inr ⟨rfl, hst⟩⟩
theorem d_jdk_69_m1_0 : decode jdk_69_method_1_code 0 = .ok (.aload_n 0, 1) := by decide +kernel
theorem d_jdk_69_m1_1 : decode jdk_69_method_1_code 1 = .ok (.ifnonnull 7, 3) := by decide +kernel
theorem d_jdk_69_m1_8 : decode jdk_69_method_1_code 8 = .ok (.aload_n 0, 1) := by decide +kernel
theorem d_jdk_69_m1_9 : decode jdk_69_method_1_code 9 = .ok (.invokevirtual 1, 3) := by decide +kernel
theorem wd140 {a0 : Array Value} {Z : State} (hw : ∀ d ∈ tables_1, d.before a0 Z = true) : (Jvm.Cond.code ({ cls := "java/lang/String", name := "hashCode", desc := "()I" } : Jvm.MethodName) jdk_42_method_78_code (2 : Nat) (Option.some Jvm.ClassFile.FieldType.int)).before a0 Z = true := hw _ (List.mem_of_getElem? (i := 140) rfl)
theorem pd_2829I : parseMethodDescriptor "()I" = some ⟨[], some .int⟩ := by decide +kernel
theorem wd324 {a0 : Array Value} {Z : State} (hw : ∀ d ∈ tables_1, d.before a0 Z = true) : (Jvm.Cond.noSuperclass "java/lang/Object").before a0 Z = true := hw _ (List.mem_of_getElem? (i := 324) rfl)
theorem wd135 {a0 : Array Value} {Z : State} (hw : ∀ d ∈ tables_1, d.before a0 Z = true) : (Jvm.Cond.methodLink "java/util/HashMap" (1 : Nat) ({ cls := "java/lang/Object", name := "hashCode", desc := "()I" } : Jvm.MethodName)).before a0 Z = true := hw _ (List.mem_of_getElem? (i := 135) rfl)
theorem wd136 {a0 : Array Value} {Z : State} (hw : ∀ d ∈ tables_1, d.before a0 Z = true) : (Jvm.Cond.declares ({ cls := "java/lang/Object", name := "hashCode", desc := "()I" } : Jvm.MethodName)).before a0 Z = true := hw _ (List.mem_of_getElem? (i := 136) rfl)
theorem wd139 {a0 : Array Value} {Z : State} (hw : ∀ d ∈ tables_1, d.before a0 Z = true) : (Jvm.Cond.instanceMethod ({ cls := "java/lang/String", name := "hashCode", desc := "()I" } : Jvm.MethodName)).before a0 Z = true := hw _ (List.mem_of_getElem? (i := 139) rfl)
theorem d_jdk_69_m1_12 : decode jdk_69_method_1_code 12 = .ok (.dup, 1) := by decide +kernel
theorem d_jdk_69_m1_13 : decode jdk_69_method_1_code 13 = .ok (.istore_n 1, 1) := by decide +kernel
theorem d_jdk_69_m1_14 : decode jdk_69_method_1_code 14 = .ok (.iload_n 1, 1) := by decide +kernel
theorem d_jdk_69_m1_15 : decode jdk_69_method_1_code 15 = .ok (.bipush 16, 2) := by decide +kernel
theorem d_jdk_69_m1_17 : decode jdk_69_method_1_code 17 = .ok (.iushr, 1) := by decide +kernel
theorem d_jdk_69_m1_18 : decode jdk_69_method_1_code 18 = .ok (.ixor, 1) := by decide +kernel
theorem d_jdk_69_m1_19 : decode jdk_69_method_1_code 19 = .ok (.ireturn, 1) := by decide +kernel
theorem pn_java_util_HashMap : plainName "java/util/HashMap" = true := by first | (simp [plainName, overriddenIn]; done) | decide +kernel
set_option maxRecDepth 65536 in
set_option maxHeartbeats 40000000 in
theorem rm_hash {l : Launch} {Z : State} {a0 : Array Value} (hw : ∀ d ∈ tables_1, d.before a0 Z = true) (hs : ∀ d ∈ jdkStatics_1, d.before a0 Z = true) {x : Addr} {cs : List Int32} {h0 : Heap} (O0 : Ext Z.heap h0) (S : own_StS Z h0 x cs) (gx : Z.heap.size ≤ x) (hok : own_ok false cs) (hlen : cs.length ≤ 4000) :
    own_Ct l Z (⟨"java/util/HashMap", "hash", "(Ljava/lang/Object;)I"⟩ : MethodName) jdk_69_method_1_code 2 (some .int) [] ({ frames := 4, locals := 58, cells := 0, slots := 0 } : Room) #[(.ref x)] h0 (fun v h => v = some (.int (own_spr (own_hash cs))) ∧ Keep h0 h [x] ∧ own_StS Z h x cs) := by
  refine own_body (Ls := #[.val (.ref x), .unset]) (plainFor_of_name pn_java_util_HashMap) (fun m => by first | (simp [entryFrame, mkF, argsToLocals, Value.category]; done) | rfl) O0 ?_
  intro p e s m below meth c T0 G K0
  refine own_aloadN K0 d_jdk_69_m1_0 rfl rfl rfl ?_
  refine own_ifnonnullYes K0 d_jdk_69_m1_1 (pc' := 8) (by decide) (by decide) ?_
  refine own_aloadN K0 d_jdk_69_m1_8 rfl rfl rfl ?_
  refine own_callV K0 (a := x) (x0 := (⟨"java/lang/Object", "hashCode", "()I"⟩ : MethodName)) (wd135 hw) (wd136 hw) (fun q => own_nfO (args := #[]) (mvT q (wd324 hw)) rfl) (wd138 hw) (wd139 hw) (rm_strHash hw hs K0.O S gx hok hlen) (wd140 hw) (wd8 hw) (by decide) S.exa (argsL := []) (rest := []) rfl pd_2829I rfl rfl (W := 0) rfl (by decide) (by decide) (by decide) (by decide) d_jdk_69_m1_9 rfl ?_
  intro T15 h15 L15 v15 K15 q15
  obtain ⟨rfl, Kp15, S15⟩ := q15
  show G (T15.setTop (mkF m 12 #[.val (.ref x), .unset] [(.int (own_hash cs))]))
  refine own_dup K15 d_jdk_69_m1_12 rfl rfl ?_
  refine own_istoreN K15 (Ls' := #[.val (.ref x), .val (.int (own_hash cs))]) d_jdk_69_m1_13 rfl rfl ?_
  refine own_iloadN K15 d_jdk_69_m1_14 rfl rfl ?_
  refine own_bipush K15 (v := (16 : Int32)) d_jdk_69_m1_15 rfl rfl ?_
  refine own_iushr K15 d_jdk_69_m1_17 rfl ?_
  refine own_ixor K15 d_jdk_69_m1_18 rfl ?_
  exact own_retI K15 d_jdk_69_m1_19 rfl (by decide) (by decide) ⟨rfl, Kp15, S15⟩
theorem own_eqT {cs ds : List Int32} (h : ds.length = cs.length) (hq : cs.take cs.length = ds.take cs.length) : cs = ds := by
  rw [List.take_of_length_le (Nat.le_refl _), List.take_of_length_le (by omega)] at hq; exact hq
theorem own_b8 {x y : Int32} (hx : ¬ x < 0 ∧ x < 256) (hy : ¬ y < 0 ∧ y < 256) (h : x.toInt8.toInt32 = y.toInt8.toInt32) : x = y := by
  rw [← own_rd1 hx, ← own_rd1 hy, h]
theorem d_jdk_43_m13_9 : decode jdk_43_method_13_code 9 = .ok (.iload_n 2, 1) := by decide +kernel
theorem d_jdk_43_m13_10 : decode jdk_43_method_13_code 10 = .ok (.aload_n 0, 1) := by decide +kernel
theorem d_jdk_43_m13_11 : decode jdk_43_method_13_code 11 = .ok (.arraylength, 1) := by decide +kernel
theorem d_jdk_43_m13_12 : decode jdk_43_method_13_code 12 = .ok (.if_icmp .ge 20, 3) := by decide +kernel
theorem d_jdk_43_m13_32 : decode jdk_43_method_13_code 32 = .ok (.iconst 1, 1) := by decide +kernel
theorem d_jdk_43_m13_33 : decode jdk_43_method_13_code 33 = .ok (.ireturn, 1) := by decide +kernel
theorem d_jdk_43_m13_15 : decode jdk_43_method_13_code 15 = .ok (.aload_n 0, 1) := by decide +kernel
theorem d_jdk_43_m13_16 : decode jdk_43_method_13_code 16 = .ok (.iload_n 2, 1) := by decide +kernel
theorem d_jdk_43_m13_17 : decode jdk_43_method_13_code 17 = .ok (.baload, 1) := by decide +kernel
theorem d_jdk_43_m13_18 : decode jdk_43_method_13_code 18 = .ok (.aload_n 1, 1) := by decide +kernel
theorem d_jdk_43_m13_19 : decode jdk_43_method_13_code 19 = .ok (.iload_n 2, 1) := by decide +kernel
theorem d_jdk_43_m13_20 : decode jdk_43_method_13_code 20 = .ok (.baload, 1) := by decide +kernel
theorem d_jdk_43_m13_21 : decode jdk_43_method_13_code 21 = .ok (.if_icmp .eq 5, 3) := by decide +kernel
theorem d_jdk_43_m13_26 : decode jdk_43_method_13_code 26 = .ok (.iinc 2 1, 3) := by decide +kernel
theorem d_jdk_43_m13_29 : decode jdk_43_method_13_code 29 = .ok (.goto (-20), 3) := by decide +kernel
theorem d_jdk_43_m13_24 : decode jdk_43_method_13_code 24 = .ok (.iconst 0, 1) := by decide +kernel
theorem d_jdk_43_m13_25 : decode jdk_43_method_13_code 25 = .ok (.ireturn, 1) := by decide +kernel
section Lp
variable {p : Program} {l : Launch} {e : Env} {R : Room} {s : State} {m : MethodId} {args : Array Value} {below : List Frame} {meth : Method} {c : Code} {nm : String} {Q : Option Value → Heap → Prop} {G : State → Prop} {Z T : State} {L : List Loc} {k n : Nat} {h h0 : Heap} {a0 : Array Value}
set_option maxRecDepth 65536 in
set_option maxHeartbeats 40000000 in
theorem lp_eq (hw : ∀ d ∈ tables_1, d.before a0 Z = true) (hs : ∀ d ∈ jdkStatics_1, d.before a0 Z = true) (hRf : 0 ≤ R.frames) (hRl : 0 ≤ R.locals) (hRc : k ≤ R.cells) (hRs : n ≤ R.slots) {b : Addr} {kb : ClassId} {cs : List Int32} {d : Addr} {kd : ClassId} {ds : List Int32} (hok : own_ok false cs) (hokd : own_ok false ds) (hlen : cs.length ≤ 4000) (hl : ds.length = cs.length) (hq : ∀ v h, v = some (.int (cond (decide (cs = ds)) 1 0)) ∧ h = h0 → Q v h)
    (j : Nat) : ∀ (i : Nat), i + j = cs.length → ∀ {T : State} {L : List Loc} {h : Heap}, own_K p l e R s m args below meth c jdk_43_method_13_code "java/lang/StringLatin1" nm 3 (some .boolean) Q G Z T L k n h → Arv Z h b kb .byte (Int32.ofNat cs.length) (own_by cs) (.int 0) → Arv Z h d kd .byte (Int32.ofNat ds.length) (own_by ds) (.int 0) → cs.take i = ds.take i → h = h0 → G (T.setTop (mkF m 9 #[.val (.ref b), .val (.ref d), .val (.int (Int32.ofNat i))] [])) := by
  induction j with
  | zero =>
    intro i hij T L h K V D ht eh
    refine own_iloadN K d_jdk_43_m13_9 rfl rfl ?_
    refine own_aloadN K d_jdk_43_m13_10 rfl rfl rfl ?_
    refine own_arraylength K V d_jdk_43_m13_11 rfl ?_
    refine own_icmpYes K d_jdk_43_m13_12 (pc' := 32) (by decide) (by decide) (flt (own_nlt (by omega) (by omega))).2.1 ?_
    refine own_iconst K (v := (1 : Int32)) d_jdk_43_m13_32 rfl rfl ?_
    exact own_retN K (z' := (1 : Int32)) d_jdk_43_m13_33 rfl (by simp) (by decide) (by first | decide | omega | (dsimp only; omega)) (by first | decide | omega | (dsimp only; omega)) (by have e : cs = ds := own_eqT hl (by rw [show cs.length = i by omega]; exact ht); exact hq _ _ ⟨by simp [e], eh⟩)
  | succ j ih =>
    intro i hij T L h K V D ht eh
    refine own_iloadN K d_jdk_43_m13_9 rfl rfl ?_
    refine own_aloadN K d_jdk_43_m13_10 rfl rfl rfl ?_
    have hin : i < cs.length := by omega
    have hid : i < ds.length := by omega
    refine own_arraylength K V d_jdk_43_m13_11 rfl ?_
    refine own_icmpNo K d_jdk_43_m13_12 rfl (tlt (own_lt hin (by omega))).2.1 ?_
    refine own_aloadN K d_jdk_43_m13_15 rfl rfl rfl ?_
    refine own_iloadN K d_jdk_43_m13_16 rfl rfl ?_
    refine own_baload K (x := (cs[i]).toInt8.toInt32) V ⟨own_nn (by omega), own_lt (by omega) (by omega)⟩ (by rw [own_clamp (by omega)]; exact own_by_get cs i hin) d_jdk_43_m13_17 rfl ?_
    refine own_aloadN K d_jdk_43_m13_18 rfl rfl rfl ?_
    refine own_iloadN K d_jdk_43_m13_19 rfl rfl ?_
    refine own_baload K (x := (ds[i]).toInt8.toInt32) D ⟨own_nn (by omega), own_lt (by omega) (by omega)⟩ (by rw [own_clamp (by omega)]; exact own_by_get ds i hid) d_jdk_43_m13_20 rfl ?_
    by_cases hc : cs[i] = ds[i]
    · skip
      refine own_icmpYes K d_jdk_43_m13_21 (pc' := 26) (by decide) (by decide) (teq (by rw [hc])).1 ?_
      refine own_iinc K (Ls' := #[.val (.ref b), .val (.ref d), .val (.int ((Int32.ofNat i) + (1 : Int32)))]) (x := (Int32.ofNat i)) (v := (Int32.ofNat i)) d_jdk_43_m13_26 rfl rfl rfl ?_
      refine own_goto K d_jdk_43_m13_29 (pc' := 9) (by decide) (by decide) ?_
      rw [own_one]
      exact ih (i + 1) (by omega) K V D (by rw [List.take_add_one, List.take_add_one, ht, List.getElem?_eq_getElem hin, List.getElem?_eq_getElem hid, hc]) eh
    · skip
      refine own_icmpNo K d_jdk_43_m13_21 rfl (feq (fun q => hc (own_b8 (hok _ (List.getElem_mem hin)) (hokd _ (List.getElem_mem hid)) q))).1 ?_
      refine own_iconst K (v := (0 : Int32)) d_jdk_43_m13_24 rfl rfl ?_
      exact own_retN K (z' := (0 : Int32)) d_jdk_43_m13_25 rfl (by simp) (by decide) (by first | decide | omega | (dsimp only; omega)) (by first | decide | omega | (dsimp only; omega)) (hq _ _ ⟨by have e : ¬ cs = ds := (fun e => hc (by subst e; rfl)); simp [e], eh⟩)
end Lp
theorem d_jdk_43_m13_0 : decode jdk_43_method_13_code 0 = .ok (.aload_n 0, 1) := by decide +kernel
theorem d_jdk_43_m13_1 : decode jdk_43_method_13_code 1 = .ok (.arraylength, 1) := by decide +kernel
theorem d_jdk_43_m13_2 : decode jdk_43_method_13_code 2 = .ok (.aload_n 1, 1) := by decide +kernel
theorem d_jdk_43_m13_3 : decode jdk_43_method_13_code 3 = .ok (.arraylength, 1) := by decide +kernel
theorem d_jdk_43_m13_4 : decode jdk_43_method_13_code 4 = .ok (.if_icmp .ne 30, 3) := by decide +kernel
theorem d_jdk_43_m13_7 : decode jdk_43_method_13_code 7 = .ok (.iconst 0, 1) := by decide +kernel
theorem d_jdk_43_m13_8 : decode jdk_43_method_13_code 8 = .ok (.istore_n 2, 1) := by decide +kernel
theorem d_jdk_43_m13_34 : decode jdk_43_method_13_code 34 = .ok (.iconst 0, 1) := by decide +kernel
theorem d_jdk_43_m13_35 : decode jdk_43_method_13_code 35 = .ok (.ireturn, 1) := by decide +kernel
set_option maxRecDepth 65536 in
set_option maxHeartbeats 40000000 in
theorem rm_l1Eq {l : Launch} {Z : State} {a0 : Array Value} (hw : ∀ d ∈ tables_1, d.before a0 Z = true) (hs : ∀ d ∈ jdkStatics_1, d.before a0 Z = true) {b : Addr} {kb : ClassId} {cs : List Int32} {d : Addr} {kd : ClassId} {ds : List Int32} {h0 : Heap} (O0 : Ext Z.heap h0) (V : Arv Z h0 b kb .byte (Int32.ofNat cs.length) (own_by cs) (.int 0)) (D : Arv Z h0 d kd .byte (Int32.ofNat ds.length) (own_by ds) (.int 0)) (hok : own_ok false cs) (hokd : own_ok false ds) (hlen : cs.length ≤ 4000) (hlend : ds.length ≤ 4000) :
    own_Ct l Z (⟨"java/lang/StringLatin1", "equals", "([B[B)Z"⟩ : MethodName) jdk_43_method_13_code 3 (some .boolean) [] ({ frames := 0, locals := 0, cells := 0, slots := 0 } : Room) #[(.ref b), (.ref d)] h0 (fun v h => v = some (.int (cond (decide (cs = ds)) 1 0)) ∧ h = h0) := by
  refine own_body (Ls := #[.val (.ref b), .val (.ref d), .unset]) (plainFor_of_name pn_java_lang_StringLatin1) (fun m => by first | (simp [entryFrame, mkF, argsToLocals, Value.category]; done) | rfl) O0 ?_
  intro p e s m below meth c T0 G K0
  refine own_aloadN K0 d_jdk_43_m13_0 rfl rfl rfl ?_
  refine own_arraylength K0 V d_jdk_43_m13_1 rfl ?_
  refine own_aloadN K0 d_jdk_43_m13_2 rfl rfl rfl ?_
  refine own_arraylength K0 D d_jdk_43_m13_3 rfl ?_
  by_cases hl : ds.length = cs.length
  · skip
    refine own_icmpNo K0 d_jdk_43_m13_4 rfl (teq (by rw [hl])).2 ?_
    refine own_iconst K0 (v := (0 : Int32)) d_jdk_43_m13_7 rfl rfl ?_
    refine own_istoreN K0 (Ls' := #[.val (.ref b), .val (.ref d), .val (.int (0 : Int32))]) d_jdk_43_m13_8 rfl rfl ?_
    exact lp_eq hw hs (by first | decide | omega | (dsimp only; omega)) (by first | decide | omega | (dsimp only; omega)) (by first | decide | omega | (dsimp only; omega)) (by first | decide | omega | (dsimp only; omega)) hok hokd hlen hl (fun _ _ q => q) cs.length 0 (Nat.zero_add _) K0 V D rfl rfl
  · skip
    refine own_icmpYes K0 d_jdk_43_m13_4 (pc' := 34) (by decide) (by decide) (feq (fun q => hl (own_ofNat_inj (by omega) (by omega) q).symm)).2 ?_
    refine own_iconst K0 (v := (0 : Int32)) d_jdk_43_m13_34 rfl rfl ?_
    exact own_retN K0 (z' := (0 : Int32)) d_jdk_43_m13_35 rfl (by simp) (by decide) (by decide) (by decide) ⟨by have e : ¬ cs = ds := (fun e => hl (by rw [e])); simp [e], rfl⟩
theorem d_jdk_42_m66_0 : decode jdk_42_method_66_code 0 = .ok (.aload_n 0, 1) := by decide +kernel
theorem d_jdk_42_m66_1 : decode jdk_42_method_66_code 1 = .ok (.aload_n 1, 1) := by decide +kernel
theorem d_jdk_42_m66_2 : decode jdk_42_method_66_code 2 = .ok (.if_acmp .ne 5, 3) := by decide +kernel
theorem d_jdk_42_m66_7 : decode jdk_42_method_66_code 7 = .ok (.aload_n 1, 1) := by decide +kernel
theorem d_jdk_42_m66_8 : decode jdk_42_method_66_code 8 = .ok (.instanceof 10, 3) := by decide +kernel
theorem wd43 {a0 : Array Value} {Z : State} (hw : ∀ d ∈ tables_1, d.before a0 Z = true) : (Jvm.Cond.classLink "java/lang/String" (10 : Nat) "java/lang/String").before a0 Z = true := hw _ (List.mem_of_getElem? (i := 43) rfl)
theorem d_jdk_42_m66_11 : decode jdk_42_method_66_code 11 = .ok (.ifCond .eq 43, 3) := by decide +kernel
theorem d_jdk_42_m66_14 : decode jdk_42_method_66_code 14 = .ok (.aload_n 1, 1) := by decide +kernel
theorem d_jdk_42_m66_15 : decode jdk_42_method_66_code 15 = .ok (.checkcast 10, 3) := by decide +kernel
theorem d_jdk_42_m66_18 : decode jdk_42_method_66_code 18 = .ok (.astore_n 2, 1) := by decide +kernel
theorem d_jdk_42_m66_19 : decode jdk_42_method_66_code 19 = .ok (.getstatic 38, 3) := by decide +kernel
theorem d_jdk_42_m66_22 : decode jdk_42_method_66_code 22 = .ok (.ifCond .eq 14, 3) := by decide +kernel
theorem d_jdk_42_m66_25 : decode jdk_42_method_66_code 25 = .ok (.aload_n 0, 1) := by decide +kernel
theorem d_jdk_42_m66_26 : decode jdk_42_method_66_code 26 = .ok (.getfield 15, 3) := by decide +kernel
theorem d_jdk_42_m66_29 : decode jdk_42_method_66_code 29 = .ok (.aload_n 2, 1) := by decide +kernel
theorem d_jdk_42_m66_30 : decode jdk_42_method_66_code 30 = .ok (.getfield 15, 3) := by decide +kernel
theorem d_jdk_42_m66_33 : decode jdk_42_method_66_code 33 = .ok (.if_icmp .ne 21, 3) := by decide +kernel
theorem d_jdk_42_m66_36 : decode jdk_42_method_66_code 36 = .ok (.aload_n 0, 1) := by decide +kernel
theorem d_jdk_42_m66_37 : decode jdk_42_method_66_code 37 = .ok (.getfield 9, 3) := by decide +kernel
theorem d_jdk_42_m66_40 : decode jdk_42_method_66_code 40 = .ok (.aload_n 2, 1) := by decide +kernel
theorem d_jdk_42_m66_41 : decode jdk_42_method_66_code 41 = .ok (.getfield 9, 3) := by decide +kernel
theorem d_jdk_42_m66_44 : decode jdk_42_method_66_code 44 = .ok (.invokestatic 541, 3) := by decide +kernel
theorem wd313 {a0 : Array Value} {Z : State} (hw : ∀ d ∈ tables_1, d.before a0 Z = true) : (Jvm.Cond.code ({ cls := "java/lang/StringLatin1", name := "equals", desc := "([B[B)Z" } : Jvm.MethodName) jdk_43_method_13_code (3 : Nat) (Option.some Jvm.ClassFile.FieldType.boolean)).before a0 Z = true := hw _ (List.mem_of_getElem? (i := 313) rfl)
theorem pd_285bB5bB29Z : parseMethodDescriptor "([B[B)Z" = some ⟨[(.array .byte), (.array .byte)], some .boolean⟩ := by decide +kernel
theorem wd311 {a0 : Array Value} {Z : State} (hw : ∀ d ∈ tables_1, d.before a0 Z = true) : (Jvm.Cond.methodLink "java/lang/String" (541 : Nat) ({ cls := "java/lang/StringLatin1", name := "equals", desc := "([B[B)Z" } : Jvm.MethodName)).before a0 Z = true := hw _ (List.mem_of_getElem? (i := 311) rfl)
theorem wd312 {a0 : Array Value} {Z : State} (hw : ∀ d ∈ tables_1, d.before a0 Z = true) : (Jvm.Cond.static ({ cls := "java/lang/StringLatin1", name := "equals", desc := "([B[B)Z" } : Jvm.MethodName)).before a0 Z = true := hw _ (List.mem_of_getElem? (i := 312) rfl)
theorem d_jdk_42_m66_47 : decode jdk_42_method_66_code 47 = .ok (.ifCond .eq 7, 3) := by decide +kernel
theorem d_jdk_42_m66_50 : decode jdk_42_method_66_code 50 = .ok (.iconst 1, 1) := by decide +kernel
theorem d_jdk_42_m66_51 : decode jdk_42_method_66_code 51 = .ok (.goto 4, 3) := by decide +kernel
theorem d_jdk_42_m66_55 : decode jdk_42_method_66_code 55 = .ok (.ireturn, 1) := by decide +kernel
set_option maxRecDepth 65536 in
set_option maxHeartbeats 40000000 in
theorem rm_eqY {l : Launch} {Z : State} {a0 : Array Value} (hw : ∀ d ∈ tables_1, d.before a0 Z = true) (hs : ∀ d ∈ jdkStatics_1, d.before a0 Z = true) {x : Addr} {y : Addr} {cs : List Int32} {h0 : Heap} (O0 : Ext Z.heap h0) (S : own_StrG Z h0 x false cs) (D : own_StrG Z h0 y false cs) (hxy : x ≠ y) (hok : own_ok false cs) (hlen : cs.length ≤ 4000) :
    own_Ct l Z (⟨"java/lang/String", "equals", "(Ljava/lang/Object;)Z"⟩ : MethodName) jdk_42_method_66_code 3 (some .boolean) [] ({ frames := 1, locals := 14, cells := 0, slots := 0 } : Room) #[(.ref x), (.ref y)] h0 (fun v h => v = some (.int 1) ∧ h = h0) := by
  obtain ⟨zc, SC, hzc⟩ := own_compact hs
  refine own_body (Ls := #[.val (.ref x), .val (.ref y), .unset]) (plainFor_of_name pn_java_lang_String) (fun m => by first | (simp [entryFrame, mkF, argsToLocals, Value.category]; done) | rfl) O0 ?_
  intro p e s m below meth c T0 G K0
  obtain ⟨E, Fc, b, kb, Fv, V⟩ := S
  obtain ⟨E2, Gc, d, kd, Gv, W⟩ := D
  refine own_aloadN K0 d_jdk_42_m66_0 rfl rfl rfl ?_
  refine own_aloadN K0 d_jdk_42_m66_1 rfl rfl rfl ?_
  refine own_acmp K0 (same := false) (pc' := 7) d_jdk_42_m66_2 rfl rfl (by simpa using hxy) (by decide) (by decide) ?_
  refine own_aloadN K0 d_jdk_42_m66_7 rfl rfl rfl ?_
  refine own_instY K0 (wd43 hw) (Ins.self E2) d_jdk_42_m66_8 rfl ?_
  intro T16 K16
  refine own_ifNo K16 d_jdk_42_m66_11 rfl ((if0 _ _).trans (feq (by decide)).1) ?_
  refine own_aloadN K16 d_jdk_42_m66_14 rfl rfl rfl ?_
  refine own_castY K16 (wd43 hw) (Ins.self E2) d_jdk_42_m66_15 rfl ?_
  intro T17 K17
  refine own_astoreN K17 (Ls' := #[.val (.ref x), .val (.ref y), .val (.ref y)]) d_jdk_42_m66_18 rfl rfl rfl ?_
  refine own_getS K17 (wd20 hw) Via.refl (SC.ext K17.O) d_jdk_42_m66_19 rfl ?_
  intro T18 K18
  refine own_ifNo K18 d_jdk_42_m66_22 rfl ((if0 _ _).trans (feq hzc).1) ?_
  refine own_aloadN K18 d_jdk_42_m66_25 rfl rfl rfl ?_
  refine own_getF K18 (host := "") (Or.inl (wd32 hw)) Via.refl Fc d_jdk_42_m66_26 rfl ?_
  intro T19 K19
  refine own_aloadN K19 d_jdk_42_m66_29 rfl rfl rfl ?_
  refine own_getF K19 (host := "") (Or.inl (wd32 hw)) Via.refl Gc d_jdk_42_m66_30 rfl ?_
  intro T20 K20
  refine own_icmpNo K20 d_jdk_42_m66_33 rfl (teq rfl).2 ?_
  refine own_aloadN K20 d_jdk_42_m66_36 rfl rfl rfl ?_
  refine own_getF K20 (host := "") (Or.inl (wd34 hw)) Via.refl Fv d_jdk_42_m66_37 rfl ?_
  intro T21 K21
  refine own_aloadN K21 d_jdk_42_m66_40 rfl rfl rfl ?_
  refine own_getF K21 (host := "") (Or.inl (wd34 hw)) Via.refl Gv d_jdk_42_m66_41 rfl ?_
  intro T22 K22
  refine own_callS K22 (wd311 hw) (wd312 hw) (rm_l1Eq hw hs (cs := cs) (ds := cs) K22.O V W hok hok hlen hlen) (wd313 hw) (wd41 hw) (by decide) (argsL := [(.ref b), (.ref d)]) (rest := []) rfl pd_285bB5bB29Z rfl rfl (W := 0) rfl (by decide) (by decide) (by decide) (by decide) d_jdk_42_m66_44 rfl ?_
  intro T23 h23 L23 v23 K23 q23
  obtain ⟨rfl, e23⟩ := q23
  have f23 := e23.symm
  subst f23
  show G (T23.setTop (mkF m 47 #[.val (.ref x), .val (.ref y), .val (.ref y)] [(.int (cond (decide (cs = cs)) 1 0))]))
  rw [show (cond (decide (cs = cs)) (1 : Int32) 0) = 1 from by simp]
  refine own_ifNo K23 d_jdk_42_m66_47 rfl ((if0 _ _).trans (feq (by decide)).1) ?_
  refine own_iconst K23 (v := (1 : Int32)) d_jdk_42_m66_50 rfl rfl ?_
  refine own_goto K23 d_jdk_42_m66_51 (pc' := 55) (by decide) (by decide) ?_
  exact own_retN K23 (z' := (1 : Int32)) d_jdk_42_m66_55 rfl (by simp) (by decide) (by decide) (by decide) ⟨rfl, rfl⟩
theorem d_jdk_42_m66_54 : decode jdk_42_method_66_code 54 = .ok (.iconst 0, 1) := by decide +kernel
set_option maxRecDepth 65536 in
set_option maxHeartbeats 40000000 in
theorem rm_eqN {l : Launch} {Z : State} {a0 : Array Value} (hw : ∀ d ∈ tables_1, d.before a0 Z = true) (hs : ∀ d ∈ jdkStatics_1, d.before a0 Z = true) {x : Addr} {y : Addr} {cs : List Int32} {ds : List Int32} {h0 : Heap} (O0 : Ext Z.heap h0) (S : own_StrG Z h0 x false cs) (D : own_StrG Z h0 y false ds) (hxy : x ≠ y) (hok : own_ok false cs) (hokd : own_ok false ds) (hlen : cs.length ≤ 4000) (hlend : ds.length ≤ 4000) (hne : ¬ cs = ds) :
    own_Ct l Z (⟨"java/lang/String", "equals", "(Ljava/lang/Object;)Z"⟩ : MethodName) jdk_42_method_66_code 3 (some .boolean) [] ({ frames := 1, locals := 14, cells := 0, slots := 0 } : Room) #[(.ref x), (.ref y)] h0 (fun v h => v = some (.int 0) ∧ h = h0) := by
  obtain ⟨zc, SC, hzc⟩ := own_compact hs
  refine own_body (Ls := #[.val (.ref x), .val (.ref y), .unset]) (plainFor_of_name pn_java_lang_String) (fun m => by first | (simp [entryFrame, mkF, argsToLocals, Value.category]; done) | rfl) O0 ?_
  intro p e s m below meth c T0 G K0
  obtain ⟨E, Fc, b, kb, Fv, V⟩ := S
  obtain ⟨E2, Gc, d, kd, Gv, W⟩ := D
  refine own_aloadN K0 d_jdk_42_m66_0 rfl rfl rfl ?_
  refine own_aloadN K0 d_jdk_42_m66_1 rfl rfl rfl ?_
  refine own_acmp K0 (same := false) (pc' := 7) d_jdk_42_m66_2 rfl rfl (by simpa using hxy) (by decide) (by decide) ?_
  refine own_aloadN K0 d_jdk_42_m66_7 rfl rfl rfl ?_
  refine own_instY K0 (wd43 hw) (Ins.self E2) d_jdk_42_m66_8 rfl ?_
  intro T24 K24
  refine own_ifNo K24 d_jdk_42_m66_11 rfl ((if0 _ _).trans (feq (by decide)).1) ?_
  refine own_aloadN K24 d_jdk_42_m66_14 rfl rfl rfl ?_
  refine own_castY K24 (wd43 hw) (Ins.self E2) d_jdk_42_m66_15 rfl ?_
  intro T25 K25
  refine own_astoreN K25 (Ls' := #[.val (.ref x), .val (.ref y), .val (.ref y)]) d_jdk_42_m66_18 rfl rfl rfl ?_
  refine own_getS K25 (wd20 hw) Via.refl (SC.ext K25.O) d_jdk_42_m66_19 rfl ?_
  intro T26 K26
  refine own_ifNo K26 d_jdk_42_m66_22 rfl ((if0 _ _).trans (feq hzc).1) ?_
  refine own_aloadN K26 d_jdk_42_m66_25 rfl rfl rfl ?_
  refine own_getF K26 (host := "") (Or.inl (wd32 hw)) Via.refl Fc d_jdk_42_m66_26 rfl ?_
  intro T27 K27
  refine own_aloadN K27 d_jdk_42_m66_29 rfl rfl rfl ?_
  refine own_getF K27 (host := "") (Or.inl (wd32 hw)) Via.refl Gc d_jdk_42_m66_30 rfl ?_
  intro T28 K28
  refine own_icmpNo K28 d_jdk_42_m66_33 rfl (teq rfl).2 ?_
  refine own_aloadN K28 d_jdk_42_m66_36 rfl rfl rfl ?_
  refine own_getF K28 (host := "") (Or.inl (wd34 hw)) Via.refl Fv d_jdk_42_m66_37 rfl ?_
  intro T29 K29
  refine own_aloadN K29 d_jdk_42_m66_40 rfl rfl rfl ?_
  refine own_getF K29 (host := "") (Or.inl (wd34 hw)) Via.refl Gv d_jdk_42_m66_41 rfl ?_
  intro T30 K30
  refine own_callS K30 (wd311 hw) (wd312 hw) (rm_l1Eq hw hs (cs := cs) (ds := ds) K30.O V W hok hokd hlen hlend) (wd313 hw) (wd41 hw) (by decide) (argsL := [(.ref b), (.ref d)]) (rest := []) rfl pd_285bB5bB29Z rfl rfl (W := 0) rfl (by decide) (by decide) (by decide) (by decide) d_jdk_42_m66_44 rfl ?_
  intro T31 h31 L31 v31 K31 q31
  obtain ⟨rfl, e31⟩ := q31
  have f31 := e31.symm
  subst f31
  show G (T31.setTop (mkF m 47 #[.val (.ref x), .val (.ref y), .val (.ref y)] [(.int (cond (decide (cs = ds)) 1 0))]))
  rw [show (cond (decide (cs = ds)) (1 : Int32) 0) = 0 from by simp [hne]]
  refine own_ifYes K31 d_jdk_42_m66_47 (pc' := 54) (by decide) (by decide) ((if0 _ _).trans (teq rfl).1) ?_
  refine own_iconst K31 (v := (0 : Int32)) d_jdk_42_m66_54 rfl rfl ?_
  exact own_retN K31 (z' := (0 : Int32)) d_jdk_42_m66_55 rfl (by simp) (by decide) (by decide) (by decide) ⟨rfl, rfl⟩
theorem d_jdk_42_m66_5 : decode jdk_42_method_66_code 5 = .ok (.iconst 1, 1) := by decide +kernel
theorem d_jdk_42_m66_6 : decode jdk_42_method_66_code 6 = .ok (.ireturn, 1) := by decide +kernel
set_option maxRecDepth 65536 in
set_option maxHeartbeats 40000000 in
theorem rm_eqSame {l : Launch} {Z : State} {a0 : Array Value} (hw : ∀ d ∈ tables_1, d.before a0 Z = true) (hs : ∀ d ∈ jdkStatics_1, d.before a0 Z = true) {x : Addr} {h0 : Heap} (O0 : Ext Z.heap h0)  :
    own_Ct l Z (⟨"java/lang/String", "equals", "(Ljava/lang/Object;)Z"⟩ : MethodName) jdk_42_method_66_code 3 (some .boolean) [] ({ frames := 0, locals := 0, cells := 0, slots := 0 } : Room) #[(.ref x), (.ref x)] h0 (fun v h => v = some (.int 1) ∧ h = h0) := by
  refine own_body (Ls := #[.val (.ref x), .val (.ref x), .unset]) (plainFor_of_name pn_java_lang_String) (fun m => by first | (simp [entryFrame, mkF, argsToLocals, Value.category]; done) | rfl) O0 ?_
  intro p e s m below meth c T0 G K0
  refine own_aloadN K0 d_jdk_42_m66_0 rfl rfl rfl ?_
  refine own_aloadN K0 d_jdk_42_m66_1 rfl rfl rfl ?_
  refine own_acmp K0 (same := true) (pc' := 5) d_jdk_42_m66_2 rfl rfl (by simp) (by decide) (by decide) ?_
  refine own_iconst K0 (v := (1 : Int32)) d_jdk_42_m66_5 rfl rfl ?_
  exact own_retN K0 (z' := (1 : Int32)) d_jdk_42_m66_6 rfl (by simp) (by decide) (by decide) (by decide) ⟨rfl, rfl⟩
theorem wd50 {a0 : Array Value} {Z : State} (hw : ∀ d ∈ tables_1, d.before a0 Z = true) : (Jvm.Cond.stringLink "java/lang/String" (7 : Nat) "").before a0 Z = true := hw _ (List.mem_of_getElem? (i := 50) rfl)
theorem own_EL {a0 : Array Value} {Z : State} (hw : ∀ d ∈ tables_1, d.before a0 Z = true) : EW Z a0 consts_1 := (EW.cons (wd50 hw) (by decide +kernel) EW.nil)
theorem own_strA {a0 : Array Value} {Z : State} (hw : ∀ d ∈ tables_1, d.before a0 Z = true) : ∀ a ∈ Bundle.stringAtoms, a.before a0 Z = true := by
  have q : ∀ a ∈ Bundle.stringAtoms, a ∈ tables_1 := by decide +kernel
  exact fun a ha => hw a (q a ha)
theorem d_jdk_52_m21_3 : decode jdk_52_method_21_code 3 = .ok (.iload 5, 2) := by decide +kernel
theorem d_jdk_52_m21_5 : decode jdk_52_method_21_code 5 = .ok (.iload 4, 2) := by decide +kernel
theorem d_jdk_52_m21_7 : decode jdk_52_method_21_code 7 = .ok (.if_icmp .ge 37, 3) := by decide +kernel
theorem d_jdk_52_m21_10 : decode jdk_52_method_21_code 10 = .ok (.aload_n 0, 1) := by decide +kernel
theorem d_jdk_52_m21_11 : decode jdk_52_method_21_code 11 = .ok (.iload_n 1, 1) := by decide +kernel
theorem d_jdk_52_m21_12 : decode jdk_52_method_21_code 12 = .ok (.caload, 1) := by decide +kernel
theorem d_jdk_52_m21_13 : decode jdk_52_method_21_code 13 = .ok (.istore 6, 2) := by decide +kernel
theorem d_jdk_52_m21_15 : decode jdk_52_method_21_code 15 = .ok (.iload 6, 2) := by decide +kernel
theorem d_jdk_52_m21_17 : decode jdk_52_method_21_code 17 = .ok (.sipush 255, 3) := by decide +kernel
theorem d_jdk_52_m21_20 : decode jdk_52_method_21_code 20 = .ok (.if_icmp .le 6, 3) := by decide +kernel
theorem d_jdk_52_m21_26 : decode jdk_52_method_21_code 26 = .ok (.aload_n 2, 1) := by decide +kernel
theorem d_jdk_52_m21_27 : decode jdk_52_method_21_code 27 = .ok (.iload_n 3, 1) := by decide +kernel
theorem d_jdk_52_m21_28 : decode jdk_52_method_21_code 28 = .ok (.iload 6, 2) := by decide +kernel
theorem d_jdk_52_m21_30 : decode jdk_52_method_21_code 30 = .ok (.i2b, 1) := by decide +kernel
theorem d_jdk_52_m21_31 : decode jdk_52_method_21_code 31 = .ok (.bastore, 1) := by decide +kernel
theorem d_jdk_52_m21_32 : decode jdk_52_method_21_code 32 = .ok (.iinc 1 1, 3) := by decide +kernel
theorem d_jdk_52_m21_35 : decode jdk_52_method_21_code 35 = .ok (.iinc 3 1, 3) := by decide +kernel
theorem d_jdk_52_m21_38 : decode jdk_52_method_21_code 38 = .ok (.iinc 5 1, 3) := by decide +kernel
theorem d_jdk_52_m21_41 : decode jdk_52_method_21_code 41 = .ok (.goto (-38), 3) := by decide +kernel
section Lp
variable {p : Program} {l : Launch} {e : Env} {R : Room} {s : State} {m : MethodId} {args : Array Value} {below : List Frame} {meth : Method} {c : Code} {own nm : String} {mx : Nat} {ret : Option FieldType} {Q : Option Value → Heap → Prop} {G : State → Prop} {Z T : State} {L : List Loc} {k n : Nat} {h h0 : Heap} {a0 : Array Value}
set_option maxRecDepth 65536 in
set_option maxHeartbeats 40000000 in
theorem lp_compress5 {a b : Addr} {ka kb : ClassId} {cs : List Int32} (A : Arv Z h0 a ka .char (Int32.ofNat cs.length) (cs.map Value.int) (.int 0)) (hab : a ∉ [b]) (gb : Z.heap.size ≤ b) (hlat : ∀ c ∈ cs, ¬ c < 0 ∧ c < 256) (hlen : cs.length ≤ 4000)
    (ex : ∀ (T' : State) (L' : List Loc) (h' : Heap), own_K p l e R s m args below meth c jdk_52_method_21_code own nm mx ret Q G Z T' L' k n h' → Keep h0 h' [b] → Arv Z h' b kb .byte (Int32.ofNat cs.length) (own_by cs) (.int 0) → ∀ (x1 x3 x5 : Int32) (s6 : Slot), G (T'.setTop (mkF m 44 #[.val (.ref a), .val (.int x1), .val (.ref b), .val (.int x3), .val (.int (Int32.ofNat cs.length)), .val (.int x5), s6] [])))
    (j : Nat) : ∀ (i : Nat), i + j = cs.length → ∀ {T : State} {L : List Loc} {h : Heap} {s6 : Slot}, own_K p l e R s m args below meth c jdk_52_method_21_code own nm mx ret Q G Z T L k n h → Keep h0 h [b] → Arv Z h b kb .byte (Int32.ofNat cs.length) (own_by (cs.take i) ++ List.replicate (cs.length - i) (Value.int 0)) (.int 0) → One s6 → G (T.setTop (mkF m 3 #[.val (.ref a), .val (.int (Int32.ofNat i)), .val (.ref b), .val (.int (Int32.ofNat i)), .val (.int (Int32.ofNat cs.length)), .val (.int (Int32.ofNat i)), s6] [])) := by
  induction j with
  | zero =>
    intro i hij T L h s6 K Kp V hs6
    refine own_iload K d_jdk_52_m21_3 rfl rfl ?_
    refine own_iload K d_jdk_52_m21_5 rfl rfl ?_
    refine own_icmpYes K d_jdk_52_m21_7 (pc' := 44) (by decide) (by decide) (flt (own_nlt (by omega) (by omega))).2.1 ?_
    exact ex _ _ _ K Kp (by rw [List.take_of_length_le (by omega), Nat.sub_eq_zero_of_le (by omega), List.replicate_zero, List.append_nil] at V; exact V) _ _ _ _
  | succ j ih =>
    intro i hij T L h s6 K Kp V hs6
    have hin : i < cs.length := by omega
    refine own_iload K d_jdk_52_m21_3 rfl rfl ?_
    refine own_iload K d_jdk_52_m21_5 rfl rfl ?_
    refine own_icmpNo K d_jdk_52_m21_7 rfl (tlt (own_lt hin (by omega))).2.1 ?_
    refine own_aloadN K d_jdk_52_m21_10 rfl rfl rfl ?_
    refine own_iloadN K d_jdk_52_m21_11 rfl rfl ?_
    refine own_caload K (x := cs[i]) (A.keep Kp hab) ⟨own_nn (by omega), own_lt hin (by omega)⟩ (by rw [own_clamp (by omega)]; simp [hin]) d_jdk_52_m21_12 rfl ?_
    refine own_istore K (Ls' := #[.val (.ref a), .val (.int (Int32.ofNat i)), .val (.ref b), .val (.int (Int32.ofNat i)), .val (.int (Int32.ofNat cs.length)), .val (.int (Int32.ofNat i)), .val (.int cs[i])]) d_jdk_52_m21_13 rfl (XS.store1 rfl hs6 rfl) ?_
    refine own_iload K d_jdk_52_m21_15 rfl rfl ?_
    refine own_sipush K (v := (255 : Int32)) d_jdk_52_m21_17 rfl rfl ?_
    refine own_icmpYes K d_jdk_52_m21_20 (pc' := 26) (by decide) (by decide) (flt (own_n255 (hlat _ (List.getElem_mem hin)))).2.2.2 ?_
    refine own_aloadN K d_jdk_52_m21_26 rfl rfl rfl ?_
    refine own_iloadN K d_jdk_52_m21_27 rfl rfl ?_
    refine own_iload K d_jdk_52_m21_28 rfl rfl ?_
    refine own_i2b K d_jdk_52_m21_30 rfl ?_
    refine own_bastore K V ⟨own_nn (by omega), own_lt hin (by omega)⟩ i (own_clamp (by omega)) (by rw [List.length_append, own_by_len, List.length_take, List.length_replicate]; omega) (x' := (cs[i]).toInt8.toInt32) (own_nar_byte _) gb d_jdk_52_m21_31 rfl ?_
    intro T32 h32 K32 W32 V32
    refine own_iinc K32 (Ls' := #[.val (.ref a), .val (.int ((Int32.ofNat i) + (1 : Int32))), .val (.ref b), .val (.int (Int32.ofNat i)), .val (.int (Int32.ofNat cs.length)), .val (.int (Int32.ofNat i)), .val (.int cs[i])]) (x := (Int32.ofNat i)) (v := (Int32.ofNat i)) d_jdk_52_m21_32 rfl rfl rfl ?_
    refine own_iinc K32 (Ls' := #[.val (.ref a), .val (.int ((Int32.ofNat i) + (1 : Int32))), .val (.ref b), .val (.int ((Int32.ofNat i) + (1 : Int32))), .val (.int (Int32.ofNat cs.length)), .val (.int (Int32.ofNat i)), .val (.int cs[i])]) (x := (Int32.ofNat i)) (v := (Int32.ofNat i)) d_jdk_52_m21_35 rfl rfl rfl ?_
    refine own_iinc K32 (Ls' := #[.val (.ref a), .val (.int ((Int32.ofNat i) + (1 : Int32))), .val (.ref b), .val (.int ((Int32.ofNat i) + (1 : Int32))), .val (.int (Int32.ofNat cs.length)), .val (.int ((Int32.ofNat i) + (1 : Int32))), .val (.int cs[i])]) (x := (Int32.ofNat i)) (v := (Int32.ofNat i)) d_jdk_52_m21_38 rfl rfl rfl ?_
    refine own_goto K32 d_jdk_52_m21_41 (pc' := 3) (by decide) (by decide) ?_
    rw [own_one]
    exact ih (i + 1) (by omega) K32 (Kp.wr W32 (Or.inl (List.mem_singleton.mpr rfl))) (by rw [← own_fill hin]; exact V32) (One.val rfl)
end Lp
theorem d_jdk_52_m21_0 : decode jdk_52_method_21_code 0 = .ok (.iconst 0, 1) := by decide +kernel
theorem d_jdk_52_m21_1 : decode jdk_52_method_21_code 1 = .ok (.istore 5, 2) := by decide +kernel
theorem d_jdk_52_m21_44 : decode jdk_52_method_21_code 44 = .ok (.iload 4, 2) := by decide +kernel
theorem d_jdk_52_m21_46 : decode jdk_52_method_21_code 46 = .ok (.ireturn, 1) := by decide +kernel
theorem pn_java_lang_StringUTF16 : plainName "java/lang/StringUTF16" = true := by first | (simp [plainName, overriddenIn]; done) | decide +kernel
set_option maxRecDepth 65536 in
set_option maxHeartbeats 40000000 in
theorem rm_compress5 {l : Launch} {Z : State} {a0 : Array Value} (hw : ∀ d ∈ tables_1, d.before a0 Z = true) (hs : ∀ d ∈ jdkStatics_1, d.before a0 Z = true) {a : Addr} {b : Addr} {ka : ClassId} {kb : ClassId} {cs : List Int32} {h0 : Heap} (O0 : Ext Z.heap h0) (A : Arv Z h0 a ka .char (Int32.ofNat cs.length) (cs.map Value.int) (.int 0)) (B : Arv Z h0 b kb .byte (Int32.ofNat cs.length) (List.replicate cs.length (Value.int 0)) (.int 0)) (hab : a ∉ [b]) (gb : Z.heap.size ≤ b) (hlat : ∀ c ∈ cs, ¬ c < 0 ∧ c < 256) (hlen : cs.length ≤ 4000) :
    own_Ct l Z (⟨"java/lang/StringUTF16", "compress", "([CI[BII)I"⟩ : MethodName) jdk_52_method_21_code 7 (some .int) [] ({ frames := 0, locals := 0, cells := 0, slots := 0 } : Room) #[(.ref a), (.int 0), (.ref b), (.int 0), (.int (Int32.ofNat cs.length))] h0 (fun v h => v = some (.int (Int32.ofNat cs.length)) ∧ Keep h0 h [b] ∧ Arv Z h b kb .byte (Int32.ofNat cs.length) (own_by cs) (.int 0)) := by
  refine own_body (Ls := #[.val (.ref a), .val (.int 0), .val (.ref b), .val (.int 0), .val (.int (Int32.ofNat cs.length)), .unset, .unset]) (plainFor_of_name pn_java_lang_StringUTF16) (fun m => by first | (simp [entryFrame, mkF, argsToLocals, Value.category]; done) | rfl) O0 ?_
  intro p e s m below meth c T0 G K0
  refine own_iconst K0 (v := (0 : Int32)) d_jdk_52_m21_0 rfl rfl ?_
  refine own_istore K0 (Ls' := #[.val (.ref a), .val (.int 0), .val (.ref b), .val (.int 0), .val (.int (Int32.ofNat cs.length)), .val (.int (0 : Int32)), .unset]) d_jdk_52_m21_1 rfl rfl ?_
  refine lp_compress5 A hab gb hlat hlen (fun T1 L1 h1 K1 Kp1 V1 x1 x3 x5 s6 => ?_) cs.length 0 (Nat.zero_add _) K0 (Keep.refl _ _) B One.u
  refine own_iload K1 d_jdk_52_m21_44 rfl rfl ?_
  exact own_retI K1 d_jdk_52_m21_46 rfl (by decide) (by decide) ⟨rfl, Kp1, V1⟩
theorem d_jdk_52_m16_0 : decode jdk_52_method_16_code 0 = .ok (.iload_n 2, 1) := by decide +kernel
theorem d_jdk_52_m16_1 : decode jdk_52_method_16_code 1 = .ok (.newarray .byte, 2) := by decide +kernel
theorem wd25 {a0 : Array Value} {Z : State} (hw : ∀ d ∈ tables_1, d.before a0 Z = true) : (Jvm.Cond.arrayClass Jvm.ClassFile.FieldType.byte).before a0 Z = true := hw _ (List.mem_of_getElem? (i := 25) rfl)
theorem d_jdk_52_m16_3 : decode jdk_52_method_16_code 3 = .ok (.astore_n 3, 1) := by decide +kernel
theorem d_jdk_52_m16_4 : decode jdk_52_method_16_code 4 = .ok (.aload_n 0, 1) := by decide +kernel
theorem d_jdk_52_m16_5 : decode jdk_52_method_16_code 5 = .ok (.iload_n 1, 1) := by decide +kernel
theorem d_jdk_52_m16_6 : decode jdk_52_method_16_code 6 = .ok (.aload_n 3, 1) := by decide +kernel
theorem d_jdk_52_m16_7 : decode jdk_52_method_16_code 7 = .ok (.iconst 0, 1) := by decide +kernel
theorem d_jdk_52_m16_8 : decode jdk_52_method_16_code 8 = .ok (.iload_n 2, 1) := by decide +kernel
theorem d_jdk_52_m16_9 : decode jdk_52_method_16_code 9 = .ok (.invokestatic 115, 3) := by decide +kernel
theorem wd28 {a0 : Array Value} {Z : State} (hw : ∀ d ∈ tables_1, d.before a0 Z = true) : (Jvm.Cond.code ({ cls := "java/lang/StringUTF16", name := "compress", desc := "([CI[BII)I" } : Jvm.MethodName) jdk_52_method_21_code (7 : Nat) (Option.some Jvm.ClassFile.FieldType.int)).before a0 Z = true := hw _ (List.mem_of_getElem? (i := 28) rfl)
theorem wd23 {a0 : Array Value} {Z : State} (hw : ∀ d ∈ tables_1, d.before a0 Z = true) : (Jvm.Cond.initialized "java/lang/StringUTF16").before a0 Z = true := hw _ (List.mem_of_getElem? (i := 23) rfl)
theorem pd_285bCI5bBII29I : parseMethodDescriptor "([CI[BII)I" = some ⟨[(.array .char), .int, (.array .byte), .int, .int], some .int⟩ := by decide +kernel
theorem wd26 {a0 : Array Value} {Z : State} (hw : ∀ d ∈ tables_1, d.before a0 Z = true) : (Jvm.Cond.methodLink "java/lang/StringUTF16" (115 : Nat) ({ cls := "java/lang/StringUTF16", name := "compress", desc := "([CI[BII)I" } : Jvm.MethodName)).before a0 Z = true := hw _ (List.mem_of_getElem? (i := 26) rfl)
theorem wd27 {a0 : Array Value} {Z : State} (hw : ∀ d ∈ tables_1, d.before a0 Z = true) : (Jvm.Cond.static ({ cls := "java/lang/StringUTF16", name := "compress", desc := "([CI[BII)I" } : Jvm.MethodName)).before a0 Z = true := hw _ (List.mem_of_getElem? (i := 27) rfl)
theorem d_jdk_52_m16_12 : decode jdk_52_method_16_code 12 = .ok (.istore 4, 2) := by decide +kernel
theorem d_jdk_52_m16_14 : decode jdk_52_method_16_code 14 = .ok (.iload 4, 2) := by decide +kernel
theorem d_jdk_52_m16_16 : decode jdk_52_method_16_code 16 = .ok (.iload_n 2, 1) := by decide +kernel
theorem d_jdk_52_m16_17 : decode jdk_52_method_16_code 17 = .ok (.if_icmp .eq 40, 3) := by decide +kernel
theorem d_jdk_52_m16_57 : decode jdk_52_method_16_code 57 = .ok (.aload_n 3, 1) := by decide +kernel
theorem d_jdk_52_m16_58 : decode jdk_52_method_16_code 58 = .ok (.areturn, 1) := by decide +kernel
set_option maxRecDepth 65536 in
set_option maxHeartbeats 40000000 in
theorem rm_compress3X {l : Launch} {Z : State} {a0 : Array Value} (hw : ∀ d ∈ tables_1, d.before a0 Z = true) (hs : ∀ d ∈ jdkStatics_1, d.before a0 Z = true) {a : Addr} {ka : ClassId} {cs : List Int32} {cap : Nat} {h0 : Heap} (O0 : Ext Z.heap h0) (A : Arv Z h0 a ka .char (Int32.ofNat cs.length) (cs.map Value.int) (.int 0)) (hlat : ∀ c ∈ cs, ¬ c < 0 ∧ c < 256) (hlen : cs.length ≤ 4000) (hcap : cs.length ≤ cap) (hcap2 : cap ≤ 4000) :
    own_Ct l Z (⟨"java/lang/StringUTF16", "compress", "([CII)[B"⟩ : MethodName) jdk_52_method_16_code 6 (some (.array .byte)) [] ({ frames := 1, locals := 18, cells := 1, slots := 0 + cap } : Room) #[(.ref a), (.int 0), (.int (Int32.ofNat cs.length))] h0 (fun v h => ∃ (b : Addr) (kb : ClassId), v = some (.ref b) ∧ h0.size ≤ b ∧ Ext h0 h ∧ Arv Z h b kb .byte (Int32.ofNat cs.length) (own_by cs) (.int 0) ∧ Exa Z h b "[B") := by
  refine own_body (Ls := #[.val (.ref a), .val (.int 0), .val (.int (Int32.ofNat cs.length)), .unset, .unset, .unset]) (plainFor_of_name pn_java_lang_StringUTF16) (fun m => by first | (simp [entryFrame, mkF, argsToLocals, Value.category]; done) | rfl) O0 ?_
  intro p e s m below meth c T0 G K0
  refine own_iloadN K0 d_jdk_52_m16_0 rfl rfl ?_
  refine own_newPB K0 (wd25 hw) d_jdk_52_m16_1 (own_nn (by omega)) (cap := cap) (by rw [own_clamp (by omega)]; exact hcap) (by omega) (by first | decide | omega | (dsimp only; omega)) (by first | decide | omega | (dsimp only; omega)) rfl ?_
  intro T33 h33 a33 c33 K33 g33 E33 V33 X33
  refine own_astoreN K33 (Ls' := #[.val (.ref a), .val (.int 0), .val (.int (Int32.ofNat cs.length)), .val (.ref a33), .unset, .unset]) d_jdk_52_m16_3 rfl rfl rfl ?_
  refine own_aloadN K33 d_jdk_52_m16_4 rfl rfl rfl ?_
  refine own_iloadN K33 d_jdk_52_m16_5 rfl rfl ?_
  refine own_aloadN K33 d_jdk_52_m16_6 rfl rfl rfl ?_
  refine own_iconst K33 (v := (0 : Int32)) d_jdk_52_m16_7 rfl rfl ?_
  refine own_iloadN K33 d_jdk_52_m16_8 rfl rfl ?_
  have gb33 : Z.heap.size ≤ a33 := by rw [g33]; exact K0.O.1
  have hab33 : a ∉ [a33] := fun q => Nat.ne_of_lt (Nat.lt_of_lt_of_le A.lt (Nat.le_of_eq g33.symm)) (List.mem_singleton.mp q)
  refine own_callS K33 (wd26 hw) (wd27 hw) (rm_compress5 hw hs K33.O (A.ext E33) (V33.pad (pad_rep [] _ cs.length)) hab33 gb33 hlat hlen) (wd28 hw) (wd23 hw) (by decide) (argsL := [(.ref a), (.int 0), (.ref a33), (.int (0 : Int32)), (.int (Int32.ofNat cs.length))]) (rest := []) rfl pd_285bCI5bBII29I rfl rfl (W := 0) rfl (by first | decide | omega | (dsimp only; omega)) (by first | decide | omega | (dsimp only; omega)) (by first | decide | omega | (dsimp only; omega)) (by first | decide | omega | (dsimp only; omega)) d_jdk_52_m16_9 rfl ?_
  intro T34 h34 L34 v34 K34 q34
  obtain ⟨rfl, Kp34, V34⟩ := q34
  show G (T34.setTop (mkF m 12 #[.val (.ref a), .val (.int 0), .val (.int (Int32.ofNat cs.length)), .val (.ref a33), .unset, .unset] [(.int (Int32.ofNat cs.length))]))
  refine own_istore K34 (Ls' := #[.val (.ref a), .val (.int 0), .val (.int (Int32.ofNat cs.length)), .val (.ref a33), .val (.int (Int32.ofNat cs.length)), .unset]) d_jdk_52_m16_12 rfl rfl ?_
  refine own_iload K34 d_jdk_52_m16_14 rfl rfl ?_
  refine own_iloadN K34 d_jdk_52_m16_16 rfl rfl ?_
  refine own_icmpYes K34 d_jdk_52_m16_17 (pc' := 57) (by decide) (by decide) (teq rfl).1 ?_
  refine own_aloadN K34 d_jdk_52_m16_57 rfl rfl rfl ?_
  exact own_retA K34 d_jdk_52_m16_58 rfl rfl rfl rfl (by first | decide | (dsimp only; omega)) (by first | decide | (dsimp only; omega)) ⟨a33, c33, rfl, Nat.le_of_eq g33.symm, own_ext_keep E33 Kp34 (fun y q => by cases List.mem_singleton.mp q; exact Nat.le_of_eq g33.symm), V34, X33.keep Kp34⟩
theorem d_jdk_52_m15_0 : decode jdk_52_method_15_code 0 = .ok (.iload_n 1, 1) := by decide +kernel
theorem d_jdk_52_m15_1 : decode jdk_52_method_15_code 1 = .ok (.aload_n 0, 1) := by decide +kernel
theorem d_jdk_52_m15_2 : decode jdk_52_method_15_code 2 = .ok (.arraylength, 1) := by decide +kernel
theorem d_jdk_52_m15_3 : decode jdk_52_method_15_code 3 = .ok (.isub, 1) := by decide +kernel
theorem d_jdk_52_m15_4 : decode jdk_52_method_15_code 4 = .ok (.bipush 31, 2) := by decide +kernel
theorem d_jdk_52_m15_6 : decode jdk_52_method_15_code 6 = .ok (.iushr, 1) := by decide +kernel
theorem d_jdk_52_m15_7 : decode jdk_52_method_15_code 7 = .ok (.i2b, 1) := by decide +kernel
theorem own_coder0 (x : Int32) : nar .byte ((((x - x).toUInt32 >>> ((31 : Int32) &&& 31).toUInt32).toInt32).toInt8.toInt32) = 0 := by
  rw [Int32.sub_self]; decide
theorem d_jdk_52_m15_8 : decode jdk_52_method_15_code 8 = .ok (.ireturn, 1) := by decide +kernel
set_option maxRecDepth 65536 in
set_option maxHeartbeats 40000000 in
theorem rm_coderFrom {l : Launch} {Z : State} {a0 : Array Value} (hw : ∀ d ∈ tables_1, d.before a0 Z = true) (hs : ∀ d ∈ jdkStatics_1, d.before a0 Z = true) {b : Addr} {kb : ClassId} {nn : Nat} {vs : List Value} {dv : Value} {h0 : Heap} (O0 : Ext Z.heap h0) (B : Arv Z h0 b kb .byte (Int32.ofNat nn) vs dv) :
    own_Ct l Z (⟨"java/lang/StringUTF16", "coderFromArrayLen", "([BI)B"⟩ : MethodName) jdk_52_method_15_code 2 (some .byte) [] ({ frames := 0, locals := 0, cells := 0, slots := 0 } : Room) #[(.ref b), (.int (Int32.ofNat nn))] h0 (fun v h => v = some (.int 0) ∧ h = h0) := by
  refine own_body (Ls := #[.val (.ref b), .val (.int (Int32.ofNat nn))]) (plainFor_of_name pn_java_lang_StringUTF16) (fun m => by first | (simp [entryFrame, mkF, argsToLocals, Value.category]; done) | rfl) O0 ?_
  intro p e s m below meth c T0 G K0
  refine own_iloadN K0 d_jdk_52_m15_0 rfl rfl ?_
  refine own_aloadN K0 d_jdk_52_m15_1 rfl rfl rfl ?_
  refine own_arraylength K0 B d_jdk_52_m15_2 rfl ?_
  refine own_isub K0 d_jdk_52_m15_3 rfl ?_
  refine own_bipush K0 (v := (31 : Int32)) d_jdk_52_m15_4 rfl rfl ?_
  refine own_iushr K0 d_jdk_52_m15_6 rfl ?_
  refine own_i2b K0 d_jdk_52_m15_7 rfl ?_
  exact own_retN K0 (z' := 0) d_jdk_52_m15_8 rfl (by simp) (own_coder0 _) (by decide) (by decide) ⟨rfl, rfl⟩
theorem d_jdk_42_m149_0 : decode jdk_42_method_149_code 0 = .ok (.aload_n 0, 1) := by decide +kernel
theorem d_jdk_42_m149_1 : decode jdk_42_method_149_code 1 = .ok (.invokespecial 1, 3) := by decide +kernel
theorem wd17 {a0 : Array Value} {Z : State} (hw : ∀ d ∈ tables_1, d.before a0 Z = true) : (Jvm.Cond.methodLink "java/lang/String" (1 : Nat) ({ cls := "java/lang/Object", name := "<init>", desc := "()V" } : Jvm.MethodName)).before a0 Z = true := hw _ (List.mem_of_getElem? (i := 17) rfl)
theorem wd18 {a0 : Array Value} {Z : State} (hw : ∀ d ∈ tables_1, d.before a0 Z = true) : (Jvm.Cond.instanceMethod ({ cls := "java/lang/Object", name := "<init>", desc := "()V" } : Jvm.MethodName)).before a0 Z = true := hw _ (List.mem_of_getElem? (i := 18) rfl)
theorem wd19 {a0 : Array Value} {Z : State} (hw : ∀ d ∈ tables_1, d.before a0 Z = true) : (Jvm.Cond.code ({ cls := "java/lang/Object", name := "<init>", desc := "()V" } : Jvm.MethodName) object_method_1_code (1 : Nat) (Option.none : Option Jvm.ClassFile.FieldType)).before a0 Z = true := hw _ (List.mem_of_getElem? (i := 19) rfl)
theorem d_jdk_42_m149_4 : decode jdk_42_method_149_code 4 = .ok (.iload_n 3, 1) := by decide +kernel
theorem d_jdk_42_m149_5 : decode jdk_42_method_149_code 5 = .ok (.ifCond .ne 22, 3) := by decide +kernel
theorem d_jdk_42_m149_27 : decode jdk_42_method_149_code 27 = .ok (.getstatic 38, 3) := by decide +kernel
theorem d_jdk_42_m149_30 : decode jdk_42_method_149_code 30 = .ok (.ifCond .eq 28, 3) := by decide +kernel
theorem d_jdk_42_m149_33 : decode jdk_42_method_149_code 33 = .ok (.aload_n 1, 1) := by decide +kernel
theorem d_jdk_42_m149_34 : decode jdk_42_method_149_code 34 = .ok (.iload_n 2, 1) := by decide +kernel
theorem d_jdk_42_m149_35 : decode jdk_42_method_149_code 35 = .ok (.iload_n 3, 1) := by decide +kernel
theorem d_jdk_42_m149_36 : decode jdk_42_method_149_code 36 = .ok (.invokestatic 177, 3) := by decide +kernel
theorem wd24 {a0 : Array Value} {Z : State} (hw : ∀ d ∈ tables_1, d.before a0 Z = true) : (Jvm.Cond.code ({ cls := "java/lang/StringUTF16", name := "compress", desc := "([CII)[B" } : Jvm.MethodName) jdk_52_method_16_code (6 : Nat) (Option.some (Jvm.ClassFile.FieldType.array Jvm.ClassFile.FieldType.byte))).before a0 Z = true := hw _ (List.mem_of_getElem? (i := 24) rfl)
theorem pd_285bCII295bB : parseMethodDescriptor "([CII)[B" = some ⟨[(.array .char), .int, .int], some (.array .byte)⟩ := by decide +kernel
theorem wd21 {a0 : Array Value} {Z : State} (hw : ∀ d ∈ tables_1, d.before a0 Z = true) : (Jvm.Cond.methodLink "java/lang/String" (177 : Nat) ({ cls := "java/lang/StringUTF16", name := "compress", desc := "([CII)[B" } : Jvm.MethodName)).before a0 Z = true := hw _ (List.mem_of_getElem? (i := 21) rfl)
theorem wd22 {a0 : Array Value} {Z : State} (hw : ∀ d ∈ tables_1, d.before a0 Z = true) : (Jvm.Cond.static ({ cls := "java/lang/StringUTF16", name := "compress", desc := "([CII)[B" } : Jvm.MethodName)).before a0 Z = true := hw _ (List.mem_of_getElem? (i := 22) rfl)
theorem d_jdk_42_m149_39 : decode jdk_42_method_149_code 39 = .ok (.astore 5, 2) := by decide +kernel
theorem d_jdk_42_m149_41 : decode jdk_42_method_149_code 41 = .ok (.aload_n 0, 1) := by decide +kernel
theorem d_jdk_42_m149_42 : decode jdk_42_method_149_code 42 = .ok (.aload 5, 2) := by decide +kernel
theorem d_jdk_42_m149_44 : decode jdk_42_method_149_code 44 = .ok (.iload_n 3, 1) := by decide +kernel
theorem d_jdk_42_m149_45 : decode jdk_42_method_149_code 45 = .ok (.invokestatic 47, 3) := by decide +kernel
theorem wd31 {a0 : Array Value} {Z : State} (hw : ∀ d ∈ tables_1, d.before a0 Z = true) : (Jvm.Cond.code ({ cls := "java/lang/StringUTF16", name := "coderFromArrayLen", desc := "([BI)B" } : Jvm.MethodName) jdk_52_method_15_code (2 : Nat) (Option.some Jvm.ClassFile.FieldType.byte)).before a0 Z = true := hw _ (List.mem_of_getElem? (i := 31) rfl)
theorem pd_285bBI29B : parseMethodDescriptor "([BI)B" = some ⟨[(.array .byte), .int], some .byte⟩ := by decide +kernel
theorem wd29 {a0 : Array Value} {Z : State} (hw : ∀ d ∈ tables_1, d.before a0 Z = true) : (Jvm.Cond.methodLink "java/lang/String" (47 : Nat) ({ cls := "java/lang/StringUTF16", name := "coderFromArrayLen", desc := "([BI)B" } : Jvm.MethodName)).before a0 Z = true := hw _ (List.mem_of_getElem? (i := 29) rfl)
theorem wd30 {a0 : Array Value} {Z : State} (hw : ∀ d ∈ tables_1, d.before a0 Z = true) : (Jvm.Cond.static ({ cls := "java/lang/StringUTF16", name := "coderFromArrayLen", desc := "([BI)B" } : Jvm.MethodName)).before a0 Z = true := hw _ (List.mem_of_getElem? (i := 30) rfl)
theorem d_jdk_42_m149_48 : decode jdk_42_method_149_code 48 = .ok (.putfield 15, 3) := by decide +kernel
theorem d_jdk_42_m149_51 : decode jdk_42_method_149_code 51 = .ok (.aload_n 0, 1) := by decide +kernel
theorem d_jdk_42_m149_52 : decode jdk_42_method_149_code 52 = .ok (.aload 5, 2) := by decide +kernel
theorem d_jdk_42_m149_54 : decode jdk_42_method_149_code 54 = .ok (.putfield 9, 3) := by decide +kernel
theorem d_jdk_42_m149_57 : decode jdk_42_method_149_code 57 = .ok (.return_, 1) := by decide +kernel
set_option maxRecDepth 65536 in
set_option maxHeartbeats 40000000 in
theorem rm_initC4X {l : Launch} {Z : State} {a0 : Array Value} (hw : ∀ d ∈ tables_1, d.before a0 Z = true) (hs : ∀ d ∈ jdkStatics_1, d.before a0 Z = true) {x : Addr} {a : Addr} {ka : ClassId} {cs : List Int32} {cap : Nat} {h0 : Heap} (O0 : Ext Z.heap h0) (E : Exa Z h0 x "java/lang/String") (F1 : Fld Z h0 x "java/lang/String" "value" "[B" .null) (F2 : Fld Z h0 x "java/lang/String" "coder" "B" (.int 0)) (F3 : Fld Z h0 x "java/lang/String" "hash" "I" (.int 0)) (F4 : Fld Z h0 x "java/lang/String" "hashIsZero" "Z" (.int 0)) (gx : Z.heap.size ≤ x) (A : Arv Z h0 a ka .char (Int32.ofNat cs.length) (cs.map Value.int) (.int 0)) (hlat : ∀ c ∈ cs, ¬ c < 0 ∧ c < 256) (hpos : 0 < cs.length) (hlen : cs.length ≤ 4000) (hcap : cs.length ≤ cap) (hcap2 : cap ≤ 4000) :
    own_Ct l Z (⟨"java/lang/String", "<init>", "([CIILjava/lang/Void;)V"⟩ : MethodName) jdk_42_method_149_code 6 none [] ({ frames := 2, locals := 35, cells := 1, slots := 0 + 0 + cap } : Room) #[(.ref x), (.ref a), (.int 0), (.int (Int32.ofNat cs.length)), .null] h0 (fun v h => v = none ∧ Keep h0 h [x] ∧ own_StX Z h x cs 0 0) := by
  obtain ⟨zc, SC, hzc⟩ := own_compact hs
  refine own_body (Ls := #[.val (.ref x), .val (.ref a), .val (.int 0), .val (.int (Int32.ofNat cs.length)), .val .null, .unset]) (plainFor_of_name pn_java_lang_String) (fun m => by first | (simp [entryFrame, mkF, argsToLocals, Value.category]; done) | rfl) O0 ?_
  intro p e s m below meth c T0 G K0
  refine own_aloadN K0 d_jdk_42_m149_0 rfl rfl rfl ?_
  refine own_initO K0 (W := 0) (wd17 hw) (wd18 hw) (wd19 hw) rfl rfl (by first | decide | omega | (dsimp only; omega)) (by first | decide | omega | (dsimp only; omega)) d_jdk_42_m149_1 rfl ?_
  intro T35 K35
  refine own_iloadN K35 d_jdk_42_m149_4 rfl rfl ?_
  refine own_ifYes K35 d_jdk_42_m149_5 (pc' := 27) (by decide) (by decide) ((if0 _ _).trans (feq (own_ne0 hpos (by omega))).2) ?_
  refine own_getS K35 (wd20 hw) Via.refl (SC.ext K35.O) d_jdk_42_m149_27 rfl ?_
  intro T36 K36
  refine own_ifNo K36 d_jdk_42_m149_30 rfl ((if0 _ _).trans (feq hzc).1) ?_
  refine own_aloadN K36 d_jdk_42_m149_33 rfl rfl rfl ?_
  refine own_iloadN K36 d_jdk_42_m149_34 rfl rfl ?_
  refine own_iloadN K36 d_jdk_42_m149_35 rfl rfl ?_
  refine own_callS K36 (wd21 hw) (wd22 hw) (rm_compress3X hw hs (cap := cap) K36.O A hlat hlen hcap hcap2) (wd24 hw) (wd23 hw) (by decide) (argsL := [(.ref a), (.int 0), (.int (Int32.ofNat cs.length))]) (rest := []) rfl pd_285bCII295bB rfl rfl (W := 0) rfl (by first | decide | omega | (dsimp only; omega)) (by first | decide | omega | (dsimp only; omega)) (by first | decide | omega | (dsimp only; omega)) (by first | decide | omega | (dsimp only; omega)) d_jdk_42_m149_36 rfl ?_
  intro T37 h37 L37 v37 K37 q37
  obtain ⟨b37, kb37, rfl, gb37, E37, V37, X37⟩ := q37
  show G (T37.setTop (mkF m 39 #[.val (.ref x), .val (.ref a), .val (.int 0), .val (.int (Int32.ofNat cs.length)), .val .null, .unset] [(.ref b37)]))
  refine own_astore K37 (Ls' := #[.val (.ref x), .val (.ref a), .val (.int 0), .val (.int (Int32.ofNat cs.length)), .val .null, .val (.ref b37)]) d_jdk_42_m149_39 rfl rfl rfl ?_
  refine own_aloadN K37 d_jdk_42_m149_41 rfl rfl rfl ?_
  refine own_aload K37 d_jdk_42_m149_42 rfl rfl rfl ?_
  refine own_iloadN K37 d_jdk_42_m149_44 rfl rfl ?_
  refine own_callS K37 (wd29 hw) (wd30 hw) (rm_coderFrom hw hs (nn := cs.length) K37.O V37) (wd31 hw) (wd23 hw) (by decide) (argsL := [(.ref b37), (.int (Int32.ofNat cs.length))]) (rest := [(.ref x)]) rfl pd_285bBI29B rfl rfl (W := 1) rfl (by first | decide | omega | (dsimp only; omega)) (by first | decide | omega | (dsimp only; omega)) (by first | decide | omega | (dsimp only; omega)) (by first | decide | omega | (dsimp only; omega)) d_jdk_42_m149_45 rfl ?_
  intro T38 h38 L38 v38 K38 q38
  obtain ⟨rfl, e38⟩ := q38
  have f38 := e38.symm
  subst f38
  show G (T38.setTop (mkF m 48 #[.val (.ref x), .val (.ref a), .val (.int 0), .val (.int (Int32.ofNat cs.length)), .val .null, .val (.ref b37)] [(.int (0 : Int32)), (.ref x)]))
  have value_39 := F1.ext E37
  have coder_39 := F2.ext E37
  have hash_39 := F3.ext E37
  have hashIsZero_39 := F4.ext E37
  have Eo_39 := E.ext E37
  refine own_putFN K38 (wd32 hw) Via.refl coder_39 Eo_39 (Or.inr ⟨(wd33 hw), rfl, rfl⟩) (wd7 hw) (ty := .byte) (v' := .int 0) (by decide) rfl rfl gx d_jdk_42_m149_48 rfl ?_
  intro T40 h40 K40 W40
  have value_41 := value_39.other W40 (Or.inr (slot_ne (Or.inr (wd35 hw)) (Or.inr (wd33 hw)) (by decide) (t := (.array .byte)) (t' := .byte) (by decide) (by decide)))
  have coder_41 := coder_39.same W40
  have hash_41 := hash_39.other W40 (Or.inr (slot_ne (Or.inl (wd142 hw)) (Or.inr (wd33 hw)) (by decide) (t := .int) (t' := .byte) (by decide) (by decide)))
  have hashIsZero_41 := hashIsZero_39.other W40 (Or.inr (slot_ne (Or.inl (wd144 hw)) (Or.inr (wd33 hw)) (by decide) (t := .boolean) (t' := .byte) (by decide) (by decide)))
  have Eo_41 := Eo_39.wr W40
  refine own_aloadN K40 d_jdk_42_m149_51 rfl rfl rfl ?_
  refine own_aload K40 d_jdk_42_m149_52 rfl rfl rfl ?_
  refine own_putF K40 (host := "") (Or.inl (wd34 hw)) Via.refl value_41 Eo_41 (Or.inr ⟨(wd35 hw), rfl, rfl⟩) (wd7 hw) (ty := (.array .byte)) (by decide) rfl rfl gx d_jdk_42_m149_54 rfl ?_
  intro T42 h42 K42 W42
  have value_43 := value_41.same W42
  have coder_43 := coder_41.other W42 (Or.inr (slot_ne (Or.inr (wd33 hw)) (Or.inr (wd35 hw)) (by decide) (t := .byte) (t' := (.array .byte)) (by decide) (by decide)))
  have hash_43 := hash_41.other W42 (Or.inr (slot_ne (Or.inl (wd142 hw)) (Or.inr (wd35 hw)) (by decide) (t := .int) (t' := (.array .byte)) (by decide) (by decide)))
  have hashIsZero_43 := hashIsZero_41.other W42 (Or.inr (slot_ne (Or.inl (wd144 hw)) (Or.inr (wd35 hw)) (by decide) (t := .boolean) (t' := (.array .byte)) (by decide) (by decide)))
  have Eo_43 := Eo_41.wr W42
  have hne37 : b37 ≠ x := Nat.ne_of_gt (Nat.lt_of_lt_of_le E.lt gb37)
  exact own_ret0 K42 d_jdk_42_m149_57 rfl (by first | decide | omega | (dsimp only; omega)) (by first | decide | omega | (dsimp only; omega)) ⟨rfl, (((Keep.refl h0 [x]).ext E37).wr W40 (Or.inl (List.mem_singleton.mpr rfl))).wr W42 (Or.inl (List.mem_singleton.mpr rfl)), Eo_43, coder_43, hash_43, hashIsZero_43, b37, kb37, value_43, (V37.other W40 hne37).other W42 hne37, fun _ => (X37.wr W40).wr W42⟩
theorem d_jdk_42_m3_0 : decode jdk_42_method_3_code 0 = .ok (.aload_n 0, 1) := by decide +kernel
theorem d_jdk_42_m3_1 : decode jdk_42_method_3_code 1 = .ok (.aload_n 1, 1) := by decide +kernel
theorem d_jdk_42_m3_2 : decode jdk_42_method_3_code 2 = .ok (.iconst 0, 1) := by decide +kernel
theorem d_jdk_42_m3_3 : decode jdk_42_method_3_code 3 = .ok (.aload_n 1, 1) := by decide +kernel
theorem d_jdk_42_m3_4 : decode jdk_42_method_3_code 4 = .ok (.arraylength, 1) := by decide +kernel
theorem d_jdk_42_m3_5 : decode jdk_42_method_3_code 5 = .ok (.aconst_null, 1) := by decide +kernel
theorem d_jdk_42_m3_6 : decode jdk_42_method_3_code 6 = .ok (.invokespecial 27, 3) := by decide +kernel
theorem wd16 {a0 : Array Value} {Z : State} (hw : ∀ d ∈ tables_1, d.before a0 Z = true) : (Jvm.Cond.code ({ cls := "java/lang/String", name := "<init>", desc := "([CIILjava/lang/Void;)V" } : Jvm.MethodName) jdk_42_method_149_code (6 : Nat) (Option.none : Option Jvm.ClassFile.FieldType)).before a0 Z = true := hw _ (List.mem_of_getElem? (i := 16) rfl)
theorem pd_285bCIILjava2flang2fVoid3b29V : parseMethodDescriptor "([CIILjava/lang/Void;)V" = some ⟨[(.array .char), .int, .int, (.object "java/lang/Void")], none⟩ := by decide +kernel
theorem wd13 {a0 : Array Value} {Z : State} (hw : ∀ d ∈ tables_1, d.before a0 Z = true) : (Jvm.Cond.methodLink "java/lang/String" (27 : Nat) ({ cls := "java/lang/String", name := "<init>", desc := "([CIILjava/lang/Void;)V" } : Jvm.MethodName)).before a0 Z = true := hw _ (List.mem_of_getElem? (i := 13) rfl)
theorem wd14 {a0 : Array Value} {Z : State} (hw : ∀ d ∈ tables_1, d.before a0 Z = true) : (Jvm.Cond.instanceMethod ({ cls := "java/lang/String", name := "<init>", desc := "([CIILjava/lang/Void;)V" } : Jvm.MethodName)).before a0 Z = true := hw _ (List.mem_of_getElem? (i := 14) rfl)
theorem d_jdk_42_m3_9 : decode jdk_42_method_3_code 9 = .ok (.return_, 1) := by decide +kernel
set_option maxRecDepth 65536 in
set_option maxHeartbeats 40000000 in
theorem rm_initCX {l : Launch} {Z : State} {a0 : Array Value} (hw : ∀ d ∈ tables_1, d.before a0 Z = true) (hs : ∀ d ∈ jdkStatics_1, d.before a0 Z = true) {x : Addr} {a : Addr} {ka : ClassId} {cs : List Int32} {cap : Nat} {h0 : Heap} (O0 : Ext Z.heap h0) (E : Exa Z h0 x "java/lang/String") (F1 : Fld Z h0 x "java/lang/String" "value" "[B" .null) (F2 : Fld Z h0 x "java/lang/String" "coder" "B" (.int 0)) (F3 : Fld Z h0 x "java/lang/String" "hash" "I" (.int 0)) (F4 : Fld Z h0 x "java/lang/String" "hashIsZero" "Z" (.int 0)) (gx : Z.heap.size ≤ x) (A : Arv Z h0 a ka .char (Int32.ofNat cs.length) (cs.map Value.int) (.int 0)) (hlat : ∀ c ∈ cs, ¬ c < 0 ∧ c < 256) (hpos : 0 < cs.length) (hlen : cs.length ≤ 4000) (hcap : cs.length ≤ cap) (hcap2 : cap ≤ 4000) :
    own_Ct l Z (⟨"java/lang/String", "<init>", "([C)V"⟩ : MethodName) jdk_42_method_3_code 2 none [] ({ frames := 3, locals := 52, cells := 1, slots := 0 + 0 + 0 + cap } : Room) #[(.ref x), (.ref a)] h0 (fun v h => v = none ∧ Keep h0 h [x] ∧ own_StX Z h x cs 0 0) := by
  refine own_body (Ls := #[.val (.ref x), .val (.ref a)]) (plainFor_of_name pn_java_lang_String) (fun m => by first | (simp [entryFrame, mkF, argsToLocals, Value.category]; done) | rfl) O0 ?_
  intro p e s m below meth c T0 G K0
  refine own_aloadN K0 d_jdk_42_m3_0 rfl rfl rfl ?_
  refine own_aloadN K0 d_jdk_42_m3_1 rfl rfl rfl ?_
  refine own_iconst K0 (v := (0 : Int32)) d_jdk_42_m3_2 rfl rfl ?_
  refine own_aloadN K0 d_jdk_42_m3_3 rfl rfl rfl ?_
  refine own_arraylength K0 A d_jdk_42_m3_4 rfl ?_
  refine own_aconstNull K0 d_jdk_42_m3_5 rfl ?_
  refine own_callI K0 (a := x) (wd13 hw) (wd14 hw) (rm_initC4X hw hs (cap := cap) K0.O E F1 F2 F3 F4 gx A hlat hpos hlen hcap hcap2) (wd16 hw) (wd8 hw) (by decide) rfl (argsL := [(.ref a), (.int (0 : Int32)), (.int (Int32.ofNat cs.length)), .null]) (rest := []) rfl pd_285bCIILjava2flang2fVoid3b29V rfl rfl (W := 0) rfl (by first | decide | omega | (dsimp only; omega)) (by first | decide | omega | (dsimp only; omega)) (by first | decide | omega | (dsimp only; omega)) (by first | decide | omega | (dsimp only; omega)) d_jdk_42_m3_6 rfl ?_
  intro T44 h44 L44 v44 K44 q44
  obtain ⟨rfl, Kp44, S44⟩ := q44
  show G (T44.setTop (mkF m 9 #[.val (.ref x), .val (.ref a)] []))
  exact own_ret0 K44 d_jdk_42_m3_9 rfl (by first | decide | omega | (dsimp only; omega)) (by first | decide | omega | (dsimp only; omega)) ⟨rfl, Kp44, S44⟩
theorem d_jdk_42_m149_8 : decode jdk_42_method_149_code 8 = .ok (.aload_n 0, 1) := by decide +kernel
theorem own_mem_java_lang_String_7 : (("java/lang/String", 7) : String × Nat) ∈ consts_1 := by decide +kernel
theorem d_jdk_42_m149_9 : decode jdk_42_method_149_code 9 = .ok (.ldc 7, 2) := by decide +kernel
theorem d_jdk_42_m149_11 : decode jdk_42_method_149_code 11 = .ok (.getfield 9, 3) := by decide +kernel
theorem d_jdk_42_m149_14 : decode jdk_42_method_149_code 14 = .ok (.putfield 9, 3) := by decide +kernel
theorem d_jdk_42_m149_17 : decode jdk_42_method_149_code 17 = .ok (.aload_n 0, 1) := by decide +kernel
theorem d_jdk_42_m149_18 : decode jdk_42_method_149_code 18 = .ok (.ldc 7, 2) := by decide +kernel
theorem d_jdk_42_m149_20 : decode jdk_42_method_149_code 20 = .ok (.getfield 15, 3) := by decide +kernel
theorem d_jdk_42_m149_23 : decode jdk_42_method_149_code 23 = .ok (.putfield 15, 3) := by decide +kernel
theorem d_jdk_42_m149_26 : decode jdk_42_method_149_code 26 = .ok (.return_, 1) := by decide +kernel
set_option maxRecDepth 65536 in
set_option maxHeartbeats 40000000 in
theorem rm_initC4E {l : Launch} {Z : State} {a0 : Array Value} (hw : ∀ d ∈ tables_1, d.before a0 Z = true) (hs : ∀ d ∈ jdkStatics_1, d.before a0 Z = true) {x : Addr} {a : Addr} {h0 : Heap} (O0 : Ext Z.heap h0) (E : Exa Z h0 x "java/lang/String") (F1 : Fld Z h0 x "java/lang/String" "value" "[B" .null) (F2 : Fld Z h0 x "java/lang/String" "coder" "B" (.int 0)) (F3 : Fld Z h0 x "java/lang/String" "hash" "I" (.int 0)) (F4 : Fld Z h0 x "java/lang/String" "hashIsZero" "Z" (.int 0)) (gx : Z.heap.size ≤ x) :
    own_CtW l Z consts_1 true false (⟨"java/lang/String", "<init>", "([CIILjava/lang/Void;)V"⟩ : MethodName) jdk_42_method_149_code 6 none [] ({ frames := 1, locals := 12, cells := 4, slots := 8 } : Room) #[(.ref x), (.ref a), (.int 0), (.int 0), .null] h0 (fun v h => v = none ∧ Keep h0 h [x] ∧ own_StX Z h x [] 0 0) := by
  refine own_bodyW (Ls := #[.val (.ref x), .val (.ref a), .val (.int 0), .val (.int 0), .val .null, .unset]) (own_EL hw) (plainFor_of_name pn_java_lang_String) (fun m => by first | (simp [entryFrame, mkF, argsToLocals, Value.category]; done) | rfl) O0 ?_
  intro p e s m below meth c T0 G hkn hs0 W0
  refine own_aloadN W0.K d_jdk_42_m149_0 rfl rfl rfl ?_
  refine own_initO W0.K (W := 0) (wd17 hw) (wd18 hw) (wd19 hw) rfl rfl (by decide) (by decide) d_jdk_42_m149_1 rfl ?_
  intro T45 K45
  refine own_iloadN K45 d_jdk_42_m149_4 rfl rfl ?_
  refine own_ifNo K45 d_jdk_42_m149_5 rfl ((if0 _ _).trans (teq rfl).2) ?_
  refine own_aloadN K45 d_jdk_42_m149_8 rfl rfl rfl ?_
  have W46 := W0.same K45
  have s0 : Safe Z consts_1 _ h0 x := own_safe_null W46.hZ.alike E F1
  refine own_ldcC W46 (own_EL hw) (vs := own_by ([] : List Int32)) (z := Int32.ofNat ([] : List Int32).length) (nn := 0) own_mem_java_lang_String_7 (wd50 hw) (own_strA hw) ⟨by decide +kernel, by decide +kernel⟩ (by decide) (by decide) (by decide) (by decide) (by decide) (by decide) d_jdk_42_m149_9 rfl ?_
  intro T47 h47 k1_47 a47 b47 kb47 W47 E47 C47 ES47 FC47 FV47 VS47 sf47
  refine own_getF W47.K (host := "") (Or.inl (wd34 hw)) Via.refl FV47 d_jdk_42_m149_11 rfl ?_
  intro T48 K48
  have W49 := W47.same K48
  have s1 := C47.safe E.lt s0
  have value_50 := F1.ext E47
  have coder_50 := F2.ext E47
  have hash_50 := F3.ext E47
  have hashIsZero_50 := F4.ext E47
  have Eo_50 := E.ext E47
  refine own_putF W49.K (host := "") (Or.inl (wd34 hw)) Via.refl value_50 Eo_50 (Or.inr ⟨(wd35 hw), rfl, rfl⟩) (wd7 hw) (ty := (.array .byte)) (by decide) rfl rfl gx d_jdk_42_m149_14 rfl ?_
  intro T51 h51 K51 W51
  have value_52 := value_50.same W51
  have coder_52 := coder_50.other W51 (Or.inr (slot_ne (Or.inr (wd33 hw)) (Or.inr (wd35 hw)) (by decide) (t := .byte) (t' := (.array .byte)) (by decide) (by decide)))
  have hash_52 := hash_50.other W51 (Or.inr (slot_ne (Or.inl (wd142 hw)) (Or.inr (wd35 hw)) (by decide) (t := .int) (t' := (.array .byte)) (by decide) (by decide)))
  have hashIsZero_52 := hashIsZero_50.other W51 (Or.inr (slot_ne (Or.inl (wd144 hw)) (Or.inr (wd35 hw)) (by decide) (t := .boolean) (t' := (.array .byte)) (by decide) (by decide)))
  have Eo_52 := Eo_50.wr W51
  have W53 := W49.wr K51 W51 s1
  have s2 := Safe.wr W51 s1 W49.C.1 s1
  refine own_aloadN W53.K d_jdk_42_m149_17 rfl rfl rfl ?_
  refine own_ldcC W53 (own_EL hw) (vs := own_by ([] : List Int32)) (z := Int32.ofNat ([] : List Int32).length) (nn := 0) own_mem_java_lang_String_7 (wd50 hw) (own_strA hw) ⟨by decide +kernel, by decide +kernel⟩ (by decide) (by decide) (by decide) (by decide) (by decide) (by decide) d_jdk_42_m149_18 rfl ?_
  intro T54 h54 k1_54 a54 b54 kb54 W54 E54 C54 ES54 FC54 FV54 VS54 sf54
  refine own_getF W54.K (host := "") (Or.inl (wd32 hw)) Via.refl FC54 d_jdk_42_m149_20 rfl ?_
  intro T55 K55
  have W56 := W54.same K55
  have s3 := C54.safe Eo_52.lt s2
  have value_57 := value_52.ext E54
  have coder_57 := coder_52.ext E54
  have hash_57 := hash_52.ext E54
  have hashIsZero_57 := hashIsZero_52.ext E54
  have Eo_57 := Eo_52.ext E54
  refine own_putFN W56.K (wd32 hw) Via.refl coder_57 Eo_57 (Or.inr ⟨(wd33 hw), rfl, rfl⟩) (wd7 hw) (ty := .byte) (v' := .int 0) (by decide) rfl rfl gx d_jdk_42_m149_23 rfl ?_
  intro T58 h58 K58 W58
  have value_59 := value_57.other W58 (Or.inr (slot_ne (Or.inr (wd35 hw)) (Or.inr (wd33 hw)) (by decide) (t := (.array .byte)) (t' := .byte) (by decide) (by decide)))
  have coder_59 := coder_57.same W58
  have hash_59 := hash_57.other W58 (Or.inr (slot_ne (Or.inl (wd142 hw)) (Or.inr (wd33 hw)) (by decide) (t := .int) (t' := .byte) (by decide) (by decide)))
  have hashIsZero_59 := hashIsZero_57.other W58 (Or.inr (slot_ne (Or.inl (wd144 hw)) (Or.inr (wd33 hw)) (by decide) (t := .boolean) (t' := .byte) (by decide) (by decide)))
  have Eo_59 := Eo_57.wr W58
  have W60 := W56.wr K58 W58 s3
  have hbx : x ≠ b47 := (sf47 x s1).2
  exact own_ret0 W60.K d_jdk_42_m149_26 rfl (by decide) (by decide) ⟨⟨⟨rfl, ((((Keep.refl h0 [x]).ext E47).wr W51 (Or.inl (List.mem_singleton.mpr rfl))).ext E54).wr W58 (Or.inl (List.mem_singleton.mpr rfl)), Eo_59, coder_59, hash_59, hashIsZero_59, b47, kb47, value_59, ((VS47.other W51 hbx.symm).ext E54).other W58 hbx.symm, fun q => absurd q (by decide)⟩, W60.le⟩, fun _ => W60.C⟩
set_option maxRecDepth 65536 in
set_option maxHeartbeats 40000000 in
theorem rm_initCE {l : Launch} {Z : State} {a0 : Array Value} (hw : ∀ d ∈ tables_1, d.before a0 Z = true) (hs : ∀ d ∈ jdkStatics_1, d.before a0 Z = true) {x : Addr} {a : Addr} {ka : ClassId} {vs : List Value} {dv : Value} {h0 : Heap} (O0 : Ext Z.heap h0) (E : Exa Z h0 x "java/lang/String") (F1 : Fld Z h0 x "java/lang/String" "value" "[B" .null) (F2 : Fld Z h0 x "java/lang/String" "coder" "B" (.int 0)) (F3 : Fld Z h0 x "java/lang/String" "hash" "I" (.int 0)) (F4 : Fld Z h0 x "java/lang/String" "hashIsZero" "Z" (.int 0)) (gx : Z.heap.size ≤ x) (A : Arv Z h0 a ka .char 0 vs dv) :
    own_CtW l Z consts_1 true false (⟨"java/lang/String", "<init>", "([C)V"⟩ : MethodName) jdk_42_method_3_code 2 none [] ({ frames := 2, locals := 29, cells := 4, slots := 8 } : Room) #[(.ref x), (.ref a)] h0 (fun v h => v = none ∧ Keep h0 h [x] ∧ own_StX Z h x [] 0 0) := by
  refine own_bodyW (Ls := #[.val (.ref x), .val (.ref a)]) (own_EL hw) (plainFor_of_name pn_java_lang_String) (fun m => by first | (simp [entryFrame, mkF, argsToLocals, Value.category]; done) | rfl) O0 ?_
  intro p e s m below meth c T0 G hkn hs0 W0
  refine own_aloadN W0.K d_jdk_42_m3_0 rfl rfl rfl ?_
  refine own_aloadN W0.K d_jdk_42_m3_1 rfl rfl rfl ?_
  refine own_iconst W0.K (v := (0 : Int32)) d_jdk_42_m3_2 rfl rfl ?_
  refine own_aloadN W0.K d_jdk_42_m3_3 rfl rfl rfl ?_
  refine own_arraylength W0.K A d_jdk_42_m3_4 rfl ?_
  refine own_aconstNull W0.K d_jdk_42_m3_5 rfl ?_
  refine own_callIW W0 (own_EL hw) (kn := false) (fun q => nomatch q) (a := x) (wd13 hw) (wd14 hw) (rm_initC4E hw hs W0.K.O E F1 F2 F3 F4 gx) (wd16 hw) (wd8 hw) (by decide) rfl (argsL := [(.ref a), (.int (0 : Int32)), (.int (0 : Int32)), .null]) (rest := []) rfl pd_285bCIILjava2flang2fVoid3b29V rfl rfl (Wd := 0) rfl (by decide) (by decide) (by decide) (by decide) d_jdk_42_m3_6 rfl ?_
  intro T61 h61 L61 v61 k1_61 W61 C61 q61
  obtain ⟨rfl, q61⟩ := q61
  show G (T61.setTop (mkF m 9 #[.val (.ref x), .val (.ref a)] []))
  exact own_ret0 W61.K d_jdk_42_m3_9 rfl (by decide) (by decide) ⟨⟨⟨rfl, q61⟩, W61.le⟩, fun _ => W61.C⟩
theorem d_jdk_42_m151_0 : decode jdk_42_method_151_code 0 = .ok (.aload_n 0, 1) := by decide +kernel
theorem d_jdk_42_m151_1 : decode jdk_42_method_151_code 1 = .ok (.invokespecial 1, 3) := by decide +kernel
theorem d_jdk_42_m151_4 : decode jdk_42_method_151_code 4 = .ok (.aload_n 0, 1) := by decide +kernel
theorem d_jdk_42_m151_5 : decode jdk_42_method_151_code 5 = .ok (.aload_n 1, 1) := by decide +kernel
theorem d_jdk_42_m151_6 : decode jdk_42_method_151_code 6 = .ok (.putfield 9, 3) := by decide +kernel
theorem d_jdk_42_m151_9 : decode jdk_42_method_151_code 9 = .ok (.aload_n 0, 1) := by decide +kernel
theorem d_jdk_42_m151_10 : decode jdk_42_method_151_code 10 = .ok (.iload_n 2, 1) := by decide +kernel
theorem d_jdk_42_m151_11 : decode jdk_42_method_151_code 11 = .ok (.putfield 15, 3) := by decide +kernel
theorem d_jdk_42_m151_14 : decode jdk_42_method_151_code 14 = .ok (.return_, 1) := by decide +kernel
set_option maxRecDepth 65536 in
set_option maxHeartbeats 40000000 in
theorem rm_initBBX {l : Launch} {Z : State} {a0 : Array Value} (hw : ∀ d ∈ tables_1, d.before a0 Z = true) (hs : ∀ d ∈ jdkStatics_1, d.before a0 Z = true) {x : Addr} {b : Addr} {h0 : Heap} (O0 : Ext Z.heap h0) (E : Exa Z h0 x "java/lang/String") (F1 : Fld Z h0 x "java/lang/String" "value" "[B" .null) (F2 : Fld Z h0 x "java/lang/String" "coder" "B" (.int 0)) (F3 : Fld Z h0 x "java/lang/String" "hash" "I" (.int 0)) (F4 : Fld Z h0 x "java/lang/String" "hashIsZero" "Z" (.int 0)) (gx : Z.heap.size ≤ x) :
    own_Ct l Z (⟨"java/lang/String", "<init>", "([BB)V"⟩ : MethodName) jdk_42_method_151_code 3 none [] ({ frames := 1, locals := 12, cells := 0, slots := 0 } : Room) #[(.ref x), (.ref b), (.int (0 : Int32))] h0 (fun v h => v = none ∧ Keep h0 h [x] ∧ Exa Z h x "java/lang/String" ∧ Fld Z h x "java/lang/String" "value" "[B" (.ref b) ∧ Fld Z h x "java/lang/String" "coder" "B" (.int 0) ∧ Fld Z h x "java/lang/String" "hash" "I" (.int 0) ∧ Fld Z h x "java/lang/String" "hashIsZero" "Z" (.int 0)) := by
  refine own_body (Ls := #[.val (.ref x), .val (.ref b), .val (.int (0 : Int32))]) (plainFor_of_name pn_java_lang_String) (fun m => by first | (simp [entryFrame, mkF, argsToLocals, Value.category]; done) | rfl) O0 ?_
  intro p e s m below meth c T0 G K0
  refine own_aloadN K0 d_jdk_42_m151_0 rfl rfl rfl ?_
  refine own_initO K0 (W := 0) (wd17 hw) (wd18 hw) (wd19 hw) rfl rfl (by decide) (by decide) d_jdk_42_m151_1 rfl ?_
  intro T62 K62
  refine own_aloadN K62 d_jdk_42_m151_4 rfl rfl rfl ?_
  refine own_aloadN K62 d_jdk_42_m151_5 rfl rfl rfl ?_
  refine own_putF K62 (host := "") (Or.inl (wd34 hw)) Via.refl F1 E (Or.inr ⟨(wd35 hw), rfl, rfl⟩) (wd7 hw) (ty := (.array .byte)) (by decide) rfl rfl gx d_jdk_42_m151_6 rfl ?_
  intro T63 h63 K63 W63
  have value_64 := F1.same W63
  have coder_64 := F2.other W63 (Or.inr (slot_ne (Or.inr (wd33 hw)) (Or.inr (wd35 hw)) (by decide) (t := .byte) (t' := (.array .byte)) (by decide) (by decide)))
  have hash_64 := F3.other W63 (Or.inr (slot_ne (Or.inl (wd142 hw)) (Or.inr (wd35 hw)) (by decide) (t := .int) (t' := (.array .byte)) (by decide) (by decide)))
  have hashIsZero_64 := F4.other W63 (Or.inr (slot_ne (Or.inl (wd144 hw)) (Or.inr (wd35 hw)) (by decide) (t := .boolean) (t' := (.array .byte)) (by decide) (by decide)))
  have Eo_64 := E.wr W63
  refine own_aloadN K63 d_jdk_42_m151_9 rfl rfl rfl ?_
  refine own_iloadN K63 d_jdk_42_m151_10 rfl rfl ?_
  refine own_putFN K63 (wd32 hw) Via.refl coder_64 Eo_64 (Or.inr ⟨(wd33 hw), rfl, rfl⟩) (wd7 hw) (ty := .byte) (v' := .int 0) (by decide) rfl rfl gx d_jdk_42_m151_11 rfl ?_
  intro T65 h65 K65 W65
  have value_66 := value_64.other W65 (Or.inr (slot_ne (Or.inr (wd35 hw)) (Or.inr (wd33 hw)) (by decide) (t := (.array .byte)) (t' := .byte) (by decide) (by decide)))
  have coder_66 := coder_64.same W65
  have hash_66 := hash_64.other W65 (Or.inr (slot_ne (Or.inl (wd142 hw)) (Or.inr (wd33 hw)) (by decide) (t := .int) (t' := .byte) (by decide) (by decide)))
  have hashIsZero_66 := hashIsZero_64.other W65 (Or.inr (slot_ne (Or.inl (wd144 hw)) (Or.inr (wd33 hw)) (by decide) (t := .boolean) (t' := .byte) (by decide) (by decide)))
  have Eo_66 := Eo_64.wr W65
  exact own_ret0 K65 d_jdk_42_m151_14 rfl (by decide) (by decide) ⟨rfl, ((Keep.refl h0 [x]).wr W63 (Or.inl (List.mem_singleton.mpr rfl))).wr W65 (Or.inl (List.mem_singleton.mpr rfl)), Eo_66, value_66, coder_66, hash_66, hashIsZero_66⟩
theorem d_jdk_43_m3_0 : decode jdk_43_method_3_code 0 = .ok (.iload_n 0, 1) := by decide +kernel
theorem d_jdk_43_m3_1 : decode jdk_43_method_3_code 1 = .ok (.sipush 255, 3) := by decide +kernel
theorem d_jdk_43_m3_4 : decode jdk_43_method_3_code 4 = .ok (.if_icmp .gt 7, 3) := by decide +kernel
theorem d_jdk_43_m3_7 : decode jdk_43_method_3_code 7 = .ok (.iconst 1, 1) := by decide +kernel
theorem d_jdk_43_m3_8 : decode jdk_43_method_3_code 8 = .ok (.goto 4, 3) := by decide +kernel
theorem d_jdk_43_m3_12 : decode jdk_43_method_3_code 12 = .ok (.ireturn, 1) := by decide +kernel
set_option maxRecDepth 65536 in
set_option maxHeartbeats 40000000 in
theorem rm_canEncode {l : Launch} {Z : State} {a0 : Array Value} (hw : ∀ d ∈ tables_1, d.before a0 Z = true) (hs : ∀ d ∈ jdkStatics_1, d.before a0 Z = true) {x : Int32} {h0 : Heap} (O0 : Ext Z.heap h0) (hx8 : ¬ x < 0 ∧ x < 256) :
    own_Ct l Z (⟨"java/lang/StringLatin1", "canEncode", "(C)Z"⟩ : MethodName) jdk_43_method_3_code 1 (some .boolean) [] ({ frames := 0, locals := 0, cells := 0, slots := 0 } : Room) #[(.int x)] h0 (fun v h => v = some (.int 1) ∧ h = h0) := by
  refine own_body (Ls := #[.val (.int x)]) (plainFor_of_name pn_java_lang_StringLatin1) (fun m => by first | (simp [entryFrame, mkF, argsToLocals, Value.category]; done) | rfl) O0 ?_
  intro p e s m below meth c T0 G K0
  refine own_iloadN K0 d_jdk_43_m3_0 rfl rfl ?_
  refine own_sipush K0 (v := (255 : Int32)) d_jdk_43_m3_1 rfl rfl ?_
  refine own_icmpNo K0 d_jdk_43_m3_4 rfl (flt (own_n255 hx8)).2.2.1 ?_
  refine own_iconst K0 (v := (1 : Int32)) d_jdk_43_m3_7 rfl rfl ?_
  refine own_goto K0 d_jdk_43_m3_8 (pc' := 12) (by decide) (by decide) ?_
  exact own_retN K0 (z' := (1 : Int32)) d_jdk_43_m3_12 rfl (by simp) (by decide) (by decide) (by decide) ⟨rfl, rfl⟩
theorem d_jdk_43_m46_0 : decode jdk_43_method_46_code 0 = .ok (.iconst 1, 1) := by decide +kernel
theorem d_jdk_43_m46_1 : decode jdk_43_method_46_code 1 = .ok (.newarray .byte, 2) := by decide +kernel
theorem d_jdk_43_m46_3 : decode jdk_43_method_46_code 3 = .ok (.dup, 1) := by decide +kernel
theorem d_jdk_43_m46_4 : decode jdk_43_method_46_code 4 = .ok (.iconst 0, 1) := by decide +kernel
theorem d_jdk_43_m46_5 : decode jdk_43_method_46_code 5 = .ok (.iload_n 0, 1) := by decide +kernel
theorem d_jdk_43_m46_6 : decode jdk_43_method_46_code 6 = .ok (.i2b, 1) := by decide +kernel
theorem d_jdk_43_m46_7 : decode jdk_43_method_46_code 7 = .ok (.bastore, 1) := by decide +kernel
theorem d_jdk_43_m46_8 : decode jdk_43_method_46_code 8 = .ok (.areturn, 1) := by decide +kernel
set_option maxRecDepth 65536 in
set_option maxHeartbeats 40000000 in
theorem rm_toBytesC {l : Launch} {Z : State} {a0 : Array Value} (hw : ∀ d ∈ tables_1, d.before a0 Z = true) (hs : ∀ d ∈ jdkStatics_1, d.before a0 Z = true) {x : Int32} {h0 : Heap} (O0 : Ext Z.heap h0)  :
    own_Ct l Z (⟨"java/lang/StringLatin1", "toBytes", "(C)[B"⟩ : MethodName) jdk_43_method_46_code 1 (some (.array .byte)) [] ({ frames := 0, locals := 0, cells := 1, slots := 1 } : Room) #[(.int x)] h0 (fun v h => ∃ (b : Addr) (kb : ClassId), v = some (.ref b) ∧ h0.size ≤ b ∧ Ext h0 h ∧ Arv Z h b kb .byte (Int32.ofNat [x].length) (own_by [x]) (.int 0)) := by
  refine own_body (Ls := #[.val (.int x)]) (plainFor_of_name pn_java_lang_StringLatin1) (fun m => by first | (simp [entryFrame, mkF, argsToLocals, Value.category]; done) | rfl) O0 ?_
  intro p e s m below meth c T0 G K0
  refine own_iconst K0 (v := (1 : Int32)) d_jdk_43_m46_0 rfl rfl ?_
  refine own_newP K0 (aty := .byte) (wd25 hw) d_jdk_43_m46_1 (by decide) (cap := 1) (by decide) (by decide) (by decide) (by decide) rfl ?_
  intro T67 h67 a67 c67 K67 g67 E67 V67
  refine own_dup K67 d_jdk_43_m46_3 rfl rfl ?_
  refine own_iconst K67 (v := (0 : Int32)) d_jdk_43_m46_4 rfl rfl ?_
  refine own_iloadN K67 d_jdk_43_m46_5 rfl rfl ?_
  refine own_i2b K67 d_jdk_43_m46_6 rfl ?_
  have gz67 : Z.heap.size ≤ a67 := by rw [g67]; exact K0.O.1
  refine own_bastore K67 (V67.pad (pad_rep [] _ 1)) ⟨by decide, by decide⟩ 0 rfl (by decide) (x' := x.toInt8.toInt32) (own_nar_byte x) gz67 d_jdk_43_m46_7 rfl ?_
  intro T68 h68 K68 W68 V68
  exact own_retA K68 d_jdk_43_m46_8 rfl rfl rfl rfl (by decide) (by decide) ⟨a67, c67, rfl, Nat.le_of_eq g67.symm, own_ext_wr E67 W68 (Nat.le_of_eq g67.symm), V68⟩
theorem d_jdk_42_m139_0 : decode jdk_42_method_139_code 0 = .ok (.getstatic 38, 3) := by decide +kernel
theorem d_jdk_42_m139_3 : decode jdk_42_method_139_code 3 = .ok (.ifCond .eq 23, 3) := by decide +kernel
theorem d_jdk_42_m139_6 : decode jdk_42_method_139_code 6 = .ok (.iload_n 0, 1) := by decide +kernel
theorem d_jdk_42_m139_7 : decode jdk_42_method_139_code 7 = .ok (.invokestatic 1015, 3) := by decide +kernel
theorem wd42 {a0 : Array Value} {Z : State} (hw : ∀ d ∈ tables_1, d.before a0 Z = true) : (Jvm.Cond.code ({ cls := "java/lang/StringLatin1", name := "canEncode", desc := "(C)Z" } : Jvm.MethodName) jdk_43_method_3_code (1 : Nat) (Option.some Jvm.ClassFile.FieldType.boolean)).before a0 Z = true := hw _ (List.mem_of_getElem? (i := 42) rfl)
theorem pd_28C29Z : parseMethodDescriptor "(C)Z" = some ⟨[.char], some .boolean⟩ := by decide +kernel
theorem wd39 {a0 : Array Value} {Z : State} (hw : ∀ d ∈ tables_1, d.before a0 Z = true) : (Jvm.Cond.methodLink "java/lang/String" (1015 : Nat) ({ cls := "java/lang/StringLatin1", name := "canEncode", desc := "(C)Z" } : Jvm.MethodName)).before a0 Z = true := hw _ (List.mem_of_getElem? (i := 39) rfl)
theorem wd40 {a0 : Array Value} {Z : State} (hw : ∀ d ∈ tables_1, d.before a0 Z = true) : (Jvm.Cond.static ({ cls := "java/lang/StringLatin1", name := "canEncode", desc := "(C)Z" } : Jvm.MethodName)).before a0 Z = true := hw _ (List.mem_of_getElem? (i := 40) rfl)
theorem d_jdk_42_m139_10 : decode jdk_42_method_139_code 10 = .ok (.ifCond .eq 16, 3) := by decide +kernel
theorem d_jdk_42_m139_13 : decode jdk_42_method_139_code 13 = .ok (.new 10, 3) := by decide +kernel
theorem d_jdk_42_m139_16 : decode jdk_42_method_139_code 16 = .ok (.dup, 1) := by decide +kernel
theorem d_jdk_42_m139_17 : decode jdk_42_method_139_code 17 = .ok (.iload_n 0, 1) := by decide +kernel
theorem d_jdk_42_m139_18 : decode jdk_42_method_139_code 18 = .ok (.invokestatic 1018, 3) := by decide +kernel
theorem wd46 {a0 : Array Value} {Z : State} (hw : ∀ d ∈ tables_1, d.before a0 Z = true) : (Jvm.Cond.code ({ cls := "java/lang/StringLatin1", name := "toBytes", desc := "(C)[B" } : Jvm.MethodName) jdk_43_method_46_code (1 : Nat) (Option.some (Jvm.ClassFile.FieldType.array Jvm.ClassFile.FieldType.byte))).before a0 Z = true := hw _ (List.mem_of_getElem? (i := 46) rfl)
theorem pd_28C295bB : parseMethodDescriptor "(C)[B" = some ⟨[.char], some (.array .byte)⟩ := by decide +kernel
theorem wd44 {a0 : Array Value} {Z : State} (hw : ∀ d ∈ tables_1, d.before a0 Z = true) : (Jvm.Cond.methodLink "java/lang/String" (1018 : Nat) ({ cls := "java/lang/StringLatin1", name := "toBytes", desc := "(C)[B" } : Jvm.MethodName)).before a0 Z = true := hw _ (List.mem_of_getElem? (i := 44) rfl)
theorem wd45 {a0 : Array Value} {Z : State} (hw : ∀ d ∈ tables_1, d.before a0 Z = true) : (Jvm.Cond.static ({ cls := "java/lang/StringLatin1", name := "toBytes", desc := "(C)[B" } : Jvm.MethodName)).before a0 Z = true := hw _ (List.mem_of_getElem? (i := 45) rfl)
theorem d_jdk_42_m139_21 : decode jdk_42_method_139_code 21 = .ok (.iconst 0, 1) := by decide +kernel
theorem d_jdk_42_m139_22 : decode jdk_42_method_139_code 22 = .ok (.invokespecial 209, 3) := by decide +kernel
theorem wd49 {a0 : Array Value} {Z : State} (hw : ∀ d ∈ tables_1, d.before a0 Z = true) : (Jvm.Cond.code ({ cls := "java/lang/String", name := "<init>", desc := "([BB)V" } : Jvm.MethodName) jdk_42_method_151_code (3 : Nat) (Option.none : Option Jvm.ClassFile.FieldType)).before a0 Z = true := hw _ (List.mem_of_getElem? (i := 49) rfl)
theorem pd_285bBB29V : parseMethodDescriptor "([BB)V" = some ⟨[(.array .byte), .byte], none⟩ := by decide +kernel
theorem wd47 {a0 : Array Value} {Z : State} (hw : ∀ d ∈ tables_1, d.before a0 Z = true) : (Jvm.Cond.methodLink "java/lang/String" (209 : Nat) ({ cls := "java/lang/String", name := "<init>", desc := "([BB)V" } : Jvm.MethodName)).before a0 Z = true := hw _ (List.mem_of_getElem? (i := 47) rfl)
theorem wd48 {a0 : Array Value} {Z : State} (hw : ∀ d ∈ tables_1, d.before a0 Z = true) : (Jvm.Cond.instanceMethod ({ cls := "java/lang/String", name := "<init>", desc := "([BB)V" } : Jvm.MethodName)).before a0 Z = true := hw _ (List.mem_of_getElem? (i := 48) rfl)
theorem d_jdk_42_m139_25 : decode jdk_42_method_139_code 25 = .ok (.areturn, 1) := by decide +kernel
set_option maxRecDepth 65536 in
set_option maxHeartbeats 40000000 in
theorem rm_valueOfX {l : Launch} {Z : State} {a0 : Array Value} (hw : ∀ d ∈ tables_1, d.before a0 Z = true) (hs : ∀ d ∈ jdkStatics_1, d.before a0 Z = true) {x : Int32} {h0 : Heap} (O0 : Ext Z.heap h0) (hx8 : ¬ x < 0 ∧ x < 256) :
    own_Ct l Z (⟨"java/lang/String", "valueOf", "(C)Ljava/lang/String;"⟩ : MethodName) jdk_42_method_139_code 1 (some (.object "java/lang/String")) [] ({ frames := 2, locals := 27, cells := 2, slots := 5 } : Room) #[(.int x)] h0 (fun v h => ∃ a : Addr, v = some (.ref a) ∧ h0.size ≤ a ∧ Ext h0 h ∧ own_StX Z h a [x] 0 0) := by
  obtain ⟨zc, SC, hzc⟩ := own_compact hs
  refine own_body (Ls := #[.val (.int x)]) (plainFor_of_name pn_java_lang_String) (fun m => by first | (simp [entryFrame, mkF, argsToLocals, Value.category]; done) | rfl) O0 ?_
  intro p e s m below meth c T0 G K0
  refine own_getS K0 (wd20 hw) Via.refl (SC.ext K0.O) d_jdk_42_m139_0 rfl ?_
  intro T69 K69
  refine own_ifNo K69 d_jdk_42_m139_3 rfl ((if0 _ _).trans (feq hzc).1) ?_
  refine own_iloadN K69 d_jdk_42_m139_6 rfl rfl ?_
  refine own_callS K69 (wd39 hw) (wd40 hw) (rm_canEncode hw hs K69.O hx8) (wd42 hw) (wd41 hw) (by decide) (argsL := [(.int x)]) (rest := []) rfl pd_28C29Z rfl rfl (W := 0) rfl (by decide) (by decide) (by decide) (by decide) d_jdk_42_m139_7 rfl ?_
  intro T70 h70 L70 v70 K70 q70
  obtain ⟨rfl, e70⟩ := q70
  have f70 := e70.symm
  subst f70
  show G (T70.setTop (mkF m 10 #[.val (.int x)] [(.int (1 : Int32))]))
  refine own_ifNo K70 d_jdk_42_m139_10 rfl ((if0 _ _).trans (feq (by decide)).1) ?_
  refine own_newO K70 (wd43 hw) (wd7 hw) (wd8 hw) d_jdk_42_m139_13 (by decide) (by decide) rfl ?_
  intro T71 h71 a71 K71 g71 E71 A71 D71 U71
  have F_coder_71 : Fld Z h71 a71 "java/lang/String" "coder" "B" (.int (0 : Int32)) := D71 (Or.inr (wd33 hw)) (ty := .byte) (by decide)
  have F_value_71 : Fld Z h71 a71 "java/lang/String" "value" "[B" .null := D71 (Or.inr (wd35 hw)) (ty := (.array .byte)) (by decide)
  have F_hash_71 : Fld Z h71 a71 "java/lang/String" "hash" "I" (.int (0 : Int32)) := D71 (Or.inl (wd142 hw)) (ty := .int) (by decide)
  have F_hashIsZero_71 : Fld Z h71 a71 "java/lang/String" "hashIsZero" "Z" (.int (0 : Int32)) := D71 (Or.inl (wd144 hw)) (ty := .boolean) (by decide)
  refine own_dup K71 d_jdk_42_m139_16 rfl rfl ?_
  refine own_iloadN K71 d_jdk_42_m139_17 rfl rfl ?_
  refine own_callS K71 (wd44 hw) (wd45 hw) (rm_toBytesC hw hs (x := x) K71.O) (wd46 hw) (wd41 hw) (by decide) (argsL := [(.int x)]) (rest := [(.ref a71), (.ref a71)]) rfl pd_28C295bB rfl rfl (W := 2) rfl (by decide) (by decide) (by decide) (by decide) d_jdk_42_m139_18 rfl ?_
  intro T72 h72 L72 v72 K72 q72
  obtain ⟨b72, kb72, rfl, gb72, E72, V72⟩ := q72
  show G (T72.setTop (mkF m 21 #[.val (.int x)] [(.ref b72), (.ref a71), (.ref a71)]))
  refine own_iconst K72 (v := (0 : Int32)) d_jdk_42_m139_21 rfl rfl ?_
  have gx71 : Z.heap.size ≤ a71 := by rw [g71]; exact K0.O.1
  refine own_callI K72 (a := a71) (wd47 hw) (wd48 hw) (rm_initBBX hw hs K72.O (A71.ext E72) (F_value_71.ext E72) (F_coder_71.ext E72) (F_hash_71.ext E72) (F_hashIsZero_71.ext E72) gx71) (wd49 hw) (wd8 hw) (by decide) rfl (argsL := [(.ref b72), (.int (0 : Int32))]) (rest := [(.ref a71)]) rfl pd_285bBB29V rfl rfl (W := 1) rfl (by decide) (by decide) (by decide) (by decide) d_jdk_42_m139_22 rfl ?_
  intro T73 h73 L73 v73 K73 q73
  obtain ⟨rfl, Kp73, A73, Fv73, Fc73, Fh73, Fz73⟩ := q73
  show G (T73.setTop (mkF m 25 #[.val (.int x)] [(.ref a71)]))
  have hne73 : b72 ∉ [a71] := fun q => Nat.ne_of_gt (Nat.lt_of_lt_of_le A71.lt gb72) (List.mem_singleton.mp q)
  have hE73 : Ext h0 h73 := own_ext_keep (own_ext_trans E71 E72) Kp73 (fun y q => by cases List.mem_singleton.mp q; exact Nat.le_of_eq g71.symm)
  exact own_retA K73 d_jdk_42_m139_25 rfl rfl rfl rfl (by decide) (by decide) ⟨a71, rfl, Nat.le_of_eq g71.symm, hE73, A73, Fc73, Fh73, Fz73, b72, kb72, Fv73, V72.keep Kp73 hne73, fun q => absurd q (by simp)⟩
theorem own_r32 (y : Int32) : -2147483648 ≤ y.toInt ∧ y.toInt < 2147483648 := ⟨Int32.le_toInt y, Int32.toInt_lt y⟩
theorem own_l2c (x : Int64) : ¬ (x &&& (255 : Int64)).toInt32.toUInt32.toUInt16.toUInt32.toInt32 < 0 ∧ (x &&& (255 : Int64)).toInt32.toUInt32.toUInt16.toUInt32.toInt32 < 256 := by
  have h1 := c_maskL x 255 8 (by decide) (by decide)
  have h2 := c_l2i (x &&& (255 : Int64))
  have r2 := own_r32 (x &&& (255 : Int64)).toInt32
  have h3 := c_i2c (x &&& (255 : Int64)).toInt32
  rw [Int32.lt_iff_toInt_lt, Int32.lt_iff_toInt_lt, show (0 : Int32).toInt = 0 from rfl, show (256 : Int32).toInt = 256 from rfl]; omega
theorem own_l2i3 (x : Int64) : (x &&& (3 : Int64)).toInt32 = 0 ∨ (x &&& (3 : Int64)).toInt32 = 1 ∨ (x &&& (3 : Int64)).toInt32 = 2 ∨ (x &&& (3 : Int64)).toInt32 = 3 := by
  have h1 := c_maskL x 3 2 (by decide) (by decide)
  have h2 := c_l2i (x &&& (3 : Int64))
  have r2 := own_r32 (x &&& (3 : Int64)).toInt32
  have : (x &&& (3 : Int64)).toInt32.toInt = 0 ∨ (x &&& (3 : Int64)).toInt32.toInt = 1 ∨ (x &&& (3 : Int64)).toInt32.toInt = 2 ∨ (x &&& (3 : Int64)).toInt32.toInt = 3 := by omega
  rcases this with q | q | q | q
  · exact Or.inl (Int32.toInt_inj.mp q)
  · exact Or.inr (Or.inl (Int32.toInt_inj.mp q))
  · exact Or.inr (Or.inr (Or.inl (Int32.toInt_inj.mp q)))
  · exact Or.inr (Or.inr (Or.inr (Int32.toInt_inj.mp q)))
theorem own_l8n : ∀ d ∈ ([] : List Int32), ¬ d < 0 ∧ d < 256 := fun _ q => nomatch q
theorem own_l8c {c : Int32} {cs : List Int32} (h : ¬ c < 0 ∧ c < 256) (h' : ∀ d ∈ cs, ¬ d < 0 ∧ d < 256) : ∀ d ∈ c :: cs, ¬ d < 0 ∧ d < 256 := fun d hd => (List.mem_cons.mp hd).elim (fun q => q ▸ h) (h' d)
theorem d_m2_0 : decode method_2_code 0 = .ok (.lload_n 0, 1) := by decide +kernel
theorem wd4 {a0 : Array Value} {Z : State} (hw : ∀ d ∈ tables_1, d.before a0 Z = true) : (Jvm.Cond.constantLong "com/example/peergrove/peergrove/service/FormOfPinLaw" (7 : Nat) (3 : Int64)).before a0 Z = true := hw _ (List.mem_of_getElem? (i := 4) rfl)
theorem d_m2_1 : decode method_2_code 1 = .ok (.ldc2_w 7, 3) := by decide +kernel
theorem d_m2_4 : decode method_2_code 4 = .ok (.land, 1) := by decide +kernel
theorem d_m2_5 : decode method_2_code 5 = .ok (.l2i, 1) := by decide +kernel
theorem d_m2_6 : decode method_2_code 6 = .ok (.istore_n 2, 1) := by decide +kernel
theorem d_m2_7 : decode method_2_code 7 = .ok (.lload_n 0, 1) := by decide +kernel
theorem d_m2_8 : decode method_2_code 8 = .ok (.iconst 2, 1) := by decide +kernel
theorem d_m2_9 : decode method_2_code 9 = .ok (.lushr, 1) := by decide +kernel
theorem wd5 {a0 : Array Value} {Z : State} (hw : ∀ d ∈ tables_1, d.before a0 Z = true) : (Jvm.Cond.constantLong "com/example/peergrove/peergrove/service/FormOfPinLaw" (9 : Nat) (255 : Int64)).before a0 Z = true := hw _ (List.mem_of_getElem? (i := 5) rfl)
theorem d_m2_10 : decode method_2_code 10 = .ok (.ldc2_w 9, 3) := by decide +kernel
theorem d_m2_13 : decode method_2_code 13 = .ok (.land, 1) := by decide +kernel
theorem d_m2_14 : decode method_2_code 14 = .ok (.l2i, 1) := by decide +kernel
theorem d_m2_15 : decode method_2_code 15 = .ok (.i2c, 1) := by decide +kernel
theorem d_m2_16 : decode method_2_code 16 = .ok (.istore_n 3, 1) := by decide +kernel
theorem d_m2_17 : decode method_2_code 17 = .ok (.lload_n 0, 1) := by decide +kernel
theorem d_m2_18 : decode method_2_code 18 = .ok (.bipush 10, 2) := by decide +kernel
theorem d_m2_20 : decode method_2_code 20 = .ok (.lushr, 1) := by decide +kernel
theorem d_m2_21 : decode method_2_code 21 = .ok (.ldc2_w 9, 3) := by decide +kernel
theorem d_m2_24 : decode method_2_code 24 = .ok (.land, 1) := by decide +kernel
theorem d_m2_25 : decode method_2_code 25 = .ok (.l2i, 1) := by decide +kernel
theorem d_m2_26 : decode method_2_code 26 = .ok (.i2c, 1) := by decide +kernel
theorem d_m2_27 : decode method_2_code 27 = .ok (.istore 4, 2) := by decide +kernel
theorem d_m2_29 : decode method_2_code 29 = .ok (.lload_n 0, 1) := by decide +kernel
theorem d_m2_30 : decode method_2_code 30 = .ok (.bipush 18, 2) := by decide +kernel
theorem d_m2_32 : decode method_2_code 32 = .ok (.lushr, 1) := by decide +kernel
theorem d_m2_33 : decode method_2_code 33 = .ok (.ldc2_w 9, 3) := by decide +kernel
theorem d_m2_36 : decode method_2_code 36 = .ok (.land, 1) := by decide +kernel
theorem d_m2_37 : decode method_2_code 37 = .ok (.l2i, 1) := by decide +kernel
theorem d_m2_38 : decode method_2_code 38 = .ok (.i2c, 1) := by decide +kernel
theorem d_m2_39 : decode method_2_code 39 = .ok (.istore 5, 2) := by decide +kernel
theorem d_m2_41 : decode method_2_code 41 = .ok (.iload_n 2, 1) := by decide +kernel
theorem d_m2_42 : decode method_2_code 42 = .ok (.ifCond .ne 14, 3) := by decide +kernel
theorem d_m2_45 : decode method_2_code 45 = .ok (.new 11, 3) := by decide +kernel
theorem wd6 {a0 : Array Value} {Z : State} (hw : ∀ d ∈ tables_1, d.before a0 Z = true) : (Jvm.Cond.classLink "com/example/peergrove/peergrove/service/FormOfPinLaw" (11 : Nat) "java/lang/String").before a0 Z = true := hw _ (List.mem_of_getElem? (i := 6) rfl)
theorem d_m2_48 : decode method_2_code 48 = .ok (.dup, 1) := by decide +kernel
theorem d_m2_49 : decode method_2_code 49 = .ok (.iconst 0, 1) := by decide +kernel
theorem d_m2_50 : decode method_2_code 50 = .ok (.newarray .char, 2) := by decide +kernel
theorem wd9 {a0 : Array Value} {Z : State} (hw : ∀ d ∈ tables_1, d.before a0 Z = true) : (Jvm.Cond.arrayClass Jvm.ClassFile.FieldType.char).before a0 Z = true := hw _ (List.mem_of_getElem? (i := 9) rfl)
theorem d_m2_52 : decode method_2_code 52 = .ok (.invokespecial 13, 3) := by decide +kernel
theorem wd12 {a0 : Array Value} {Z : State} (hw : ∀ d ∈ tables_1, d.before a0 Z = true) : (Jvm.Cond.code ({ cls := "java/lang/String", name := "<init>", desc := "([C)V" } : Jvm.MethodName) jdk_42_method_3_code (2 : Nat) (Option.none : Option Jvm.ClassFile.FieldType)).before a0 Z = true := hw _ (List.mem_of_getElem? (i := 12) rfl)
theorem pd_285bC29V : parseMethodDescriptor "([C)V" = some ⟨[(.array .char)], none⟩ := by decide +kernel
theorem wd10 {a0 : Array Value} {Z : State} (hw : ∀ d ∈ tables_1, d.before a0 Z = true) : (Jvm.Cond.methodLink "com/example/peergrove/peergrove/service/FormOfPinLaw" (13 : Nat) ({ cls := "java/lang/String", name := "<init>", desc := "([C)V" } : Jvm.MethodName)).before a0 Z = true := hw _ (List.mem_of_getElem? (i := 10) rfl)
theorem wd11 {a0 : Array Value} {Z : State} (hw : ∀ d ∈ tables_1, d.before a0 Z = true) : (Jvm.Cond.instanceMethod ({ cls := "java/lang/String", name := "<init>", desc := "([C)V" } : Jvm.MethodName)).before a0 Z = true := hw _ (List.mem_of_getElem? (i := 11) rfl)
theorem d_m2_55 : decode method_2_code 55 = .ok (.areturn, 1) := by decide +kernel
theorem d_m2_56 : decode method_2_code 56 = .ok (.iload_n 2, 1) := by decide +kernel
theorem d_m2_57 : decode method_2_code 57 = .ok (.iconst 1, 1) := by decide +kernel
theorem d_m2_58 : decode method_2_code 58 = .ok (.if_icmp .ne 8, 3) := by decide +kernel
theorem d_m2_61 : decode method_2_code 61 = .ok (.iload_n 3, 1) := by decide +kernel
theorem d_m2_62 : decode method_2_code 62 = .ok (.invokestatic 16, 3) := by decide +kernel
theorem wd38 {a0 : Array Value} {Z : State} (hw : ∀ d ∈ tables_1, d.before a0 Z = true) : (Jvm.Cond.code ({ cls := "java/lang/String", name := "valueOf", desc := "(C)Ljava/lang/String;" } : Jvm.MethodName) jdk_42_method_139_code (1 : Nat) (Option.some (Jvm.ClassFile.FieldType.object "java/lang/String"))).before a0 Z = true := hw _ (List.mem_of_getElem? (i := 38) rfl)
theorem pd_28C29Ljava2flang2fString3b : parseMethodDescriptor "(C)Ljava/lang/String;" = some ⟨[.char], some (.object "java/lang/String")⟩ := by decide +kernel
theorem wd36 {a0 : Array Value} {Z : State} (hw : ∀ d ∈ tables_1, d.before a0 Z = true) : (Jvm.Cond.methodLink "com/example/peergrove/peergrove/service/FormOfPinLaw" (16 : Nat) ({ cls := "java/lang/String", name := "valueOf", desc := "(C)Ljava/lang/String;" } : Jvm.MethodName)).before a0 Z = true := hw _ (List.mem_of_getElem? (i := 36) rfl)
theorem wd37 {a0 : Array Value} {Z : State} (hw : ∀ d ∈ tables_1, d.before a0 Z = true) : (Jvm.Cond.static ({ cls := "java/lang/String", name := "valueOf", desc := "(C)Ljava/lang/String;" } : Jvm.MethodName)).before a0 Z = true := hw _ (List.mem_of_getElem? (i := 37) rfl)
theorem d_m2_65 : decode method_2_code 65 = .ok (.areturn, 1) := by decide +kernel
theorem d_m2_66 : decode method_2_code 66 = .ok (.iload_n 2, 1) := by decide +kernel
theorem d_m2_67 : decode method_2_code 67 = .ok (.iconst 2, 1) := by decide +kernel
theorem d_m2_68 : decode method_2_code 68 = .ok (.if_icmp .ne 23, 3) := by decide +kernel
theorem d_m2_71 : decode method_2_code 71 = .ok (.new 11, 3) := by decide +kernel
theorem d_m2_74 : decode method_2_code 74 = .ok (.dup, 1) := by decide +kernel
theorem d_m2_75 : decode method_2_code 75 = .ok (.iconst 2, 1) := by decide +kernel
theorem d_m2_76 : decode method_2_code 76 = .ok (.newarray .char, 2) := by decide +kernel
theorem d_m2_78 : decode method_2_code 78 = .ok (.dup, 1) := by decide +kernel
theorem d_m2_79 : decode method_2_code 79 = .ok (.iconst 0, 1) := by decide +kernel
theorem d_m2_80 : decode method_2_code 80 = .ok (.iload_n 3, 1) := by decide +kernel
theorem d_m2_81 : decode method_2_code 81 = .ok (.castore, 1) := by decide +kernel
theorem d_m2_82 : decode method_2_code 82 = .ok (.dup, 1) := by decide +kernel
theorem d_m2_83 : decode method_2_code 83 = .ok (.iconst 1, 1) := by decide +kernel
theorem d_m2_84 : decode method_2_code 84 = .ok (.iload 4, 2) := by decide +kernel
theorem d_m2_86 : decode method_2_code 86 = .ok (.castore, 1) := by decide +kernel
theorem d_m2_87 : decode method_2_code 87 = .ok (.invokespecial 13, 3) := by decide +kernel
theorem d_m2_90 : decode method_2_code 90 = .ok (.areturn, 1) := by decide +kernel
theorem d_m2_91 : decode method_2_code 91 = .ok (.new 11, 3) := by decide +kernel
theorem d_m2_94 : decode method_2_code 94 = .ok (.dup, 1) := by decide +kernel
theorem d_m2_95 : decode method_2_code 95 = .ok (.iconst 3, 1) := by decide +kernel
theorem d_m2_96 : decode method_2_code 96 = .ok (.newarray .char, 2) := by decide +kernel
theorem d_m2_98 : decode method_2_code 98 = .ok (.dup, 1) := by decide +kernel
theorem d_m2_99 : decode method_2_code 99 = .ok (.iconst 0, 1) := by decide +kernel
theorem d_m2_100 : decode method_2_code 100 = .ok (.iload_n 3, 1) := by decide +kernel
theorem d_m2_101 : decode method_2_code 101 = .ok (.castore, 1) := by decide +kernel
theorem d_m2_102 : decode method_2_code 102 = .ok (.dup, 1) := by decide +kernel
theorem d_m2_103 : decode method_2_code 103 = .ok (.iconst 1, 1) := by decide +kernel
theorem d_m2_104 : decode method_2_code 104 = .ok (.iload 4, 2) := by decide +kernel
theorem d_m2_106 : decode method_2_code 106 = .ok (.castore, 1) := by decide +kernel
theorem d_m2_107 : decode method_2_code 107 = .ok (.dup, 1) := by decide +kernel
theorem d_m2_108 : decode method_2_code 108 = .ok (.iconst 2, 1) := by decide +kernel
theorem d_m2_109 : decode method_2_code 109 = .ok (.iload 5, 2) := by decide +kernel
theorem d_m2_111 : decode method_2_code 111 = .ok (.castore, 1) := by decide +kernel
theorem d_m2_112 : decode method_2_code 112 = .ok (.invokespecial 13, 3) := by decide +kernel
theorem d_m2_115 : decode method_2_code 115 = .ok (.areturn, 1) := by decide +kernel
theorem pn_com_example_peergrove_peergrove_service_FormOfPinLaw : plainName "com/example/peergrove/peergrove/service/FormOfPinLaw" = true := by first | (simp [plainName, overriddenIn]; done) | decide +kernel
set_option maxRecDepth 65536 in
set_option maxHeartbeats 40000000 in
theorem rm_draw {l : Launch} {Z : State} {a0 : Array Value} (hw : ∀ d ∈ tables_1, d.before a0 Z = true) (hs : ∀ d ∈ jdkStatics_1, d.before a0 Z = true) {q : Int64} {h0 : Heap} (O0 : Ext Z.heap h0)  :
    own_CtW l Z consts_1 true false (⟨"com/example/peergrove/peergrove/service/FormOfPinLaw", "draw", "(J)Ljava/lang/String;"⟩ : MethodName) method_2_code 6 (some (.object "java/lang/String")) [] ({ frames := 4, locals := 66, cells := 6, slots := 12 } : Room) #[(.long q)] h0 (fun v h => ∃ (a : Addr) (cs : List Int32), v = some (.ref a) ∧ h0.size ≤ a ∧ Ext h0 h ∧ own_StS Z h a cs ∧ own_ok false cs ∧ cs.length ≤ 3) := by
  refine own_bodyW (Ls := #[.val (.long q), .second, .unset, .unset, .unset, .unset]) (own_EL hw) (plainFor_of_name pn_com_example_peergrove_peergrove_service_FormOfPinLaw) (fun m => by first | (simp [entryFrame, mkF, argsToLocals, Value.category]; done) | rfl) O0 ?_
  intro p e s m below meth c T0 G hkn hs0 W0
  refine own_lloadN W0.K d_m2_0 rfl rfl ?_
  refine own_ldc2Long W0.K (wd4 hw) d_m2_1 rfl ?_
  refine own_land W0.K d_m2_4 rfl ?_
  refine own_l2i W0.K d_m2_5 rfl ?_
  refine own_istoreN W0.K (Ls' := #[.val (.long q), .second, .val (.int ((q &&& (3 : Int64)).toInt32)), .unset, .unset, .unset]) d_m2_6 rfl rfl ?_
  refine own_lloadN W0.K d_m2_7 rfl rfl ?_
  refine own_iconst W0.K (v := (2 : Int32)) d_m2_8 rfl rfl ?_
  refine own_lushr W0.K d_m2_9 rfl ?_
  refine own_ldc2Long W0.K (wd5 hw) d_m2_10 rfl ?_
  refine own_land W0.K d_m2_13 rfl ?_
  refine own_l2i W0.K d_m2_14 rfl ?_
  refine own_i2c W0.K d_m2_15 rfl ?_
  refine own_istoreN W0.K (Ls' := #[.val (.long q), .second, .val (.int ((q &&& (3 : Int64)).toInt32)), .val (.int (((((q.toUInt64 >>> ((2 : Int32) &&& 0x3f).toInt64.toUInt64).toInt64) &&& (255 : Int64)).toInt32).toUInt32.toUInt16.toUInt32.toInt32)), .unset, .unset]) d_m2_16 rfl rfl ?_
  refine own_lloadN W0.K d_m2_17 rfl rfl ?_
  refine own_bipush W0.K (v := (10 : Int32)) d_m2_18 rfl rfl ?_
  refine own_lushr W0.K d_m2_20 rfl ?_
  refine own_ldc2Long W0.K (wd5 hw) d_m2_21 rfl ?_
  refine own_land W0.K d_m2_24 rfl ?_
  refine own_l2i W0.K d_m2_25 rfl ?_
  refine own_i2c W0.K d_m2_26 rfl ?_
  refine own_istore W0.K (Ls' := #[.val (.long q), .second, .val (.int ((q &&& (3 : Int64)).toInt32)), .val (.int (((((q.toUInt64 >>> ((2 : Int32) &&& 0x3f).toInt64.toUInt64).toInt64) &&& (255 : Int64)).toInt32).toUInt32.toUInt16.toUInt32.toInt32)), .val (.int (((((q.toUInt64 >>> ((10 : Int32) &&& 0x3f).toInt64.toUInt64).toInt64) &&& (255 : Int64)).toInt32).toUInt32.toUInt16.toUInt32.toInt32)), .unset]) d_m2_27 rfl rfl ?_
  refine own_lloadN W0.K d_m2_29 rfl rfl ?_
  refine own_bipush W0.K (v := (18 : Int32)) d_m2_30 rfl rfl ?_
  refine own_lushr W0.K d_m2_32 rfl ?_
  refine own_ldc2Long W0.K (wd5 hw) d_m2_33 rfl ?_
  refine own_land W0.K d_m2_36 rfl ?_
  refine own_l2i W0.K d_m2_37 rfl ?_
  refine own_i2c W0.K d_m2_38 rfl ?_
  refine own_istore W0.K (Ls' := #[.val (.long q), .second, .val (.int ((q &&& (3 : Int64)).toInt32)), .val (.int (((((q.toUInt64 >>> ((2 : Int32) &&& 0x3f).toInt64.toUInt64).toInt64) &&& (255 : Int64)).toInt32).toUInt32.toUInt16.toUInt32.toInt32)), .val (.int (((((q.toUInt64 >>> ((10 : Int32) &&& 0x3f).toInt64.toUInt64).toInt64) &&& (255 : Int64)).toInt32).toUInt32.toUInt16.toUInt32.toInt32)), .val (.int (((((q.toUInt64 >>> ((18 : Int32) &&& 0x3f).toInt64.toUInt64).toInt64) &&& (255 : Int64)).toInt32).toUInt32.toUInt16.toUInt32.toInt32))]) d_m2_39 rfl rfl ?_
  refine own_iloadN W0.K d_m2_41 rfl rfl ?_
  rcases own_l2i3 q with hn | hn | hn | hn
  · skip
    rw [hn]
    have hlat : ∀ d ∈ ([] : List Int32), ¬ d < 0 ∧ d < 256 := own_l8n
    refine own_ifNo W0.K d_m2_42 rfl ((if0 _ _).trans (teq rfl).2) ?_
    refine own_newO W0.K (wd6 hw) (wd7 hw) (wd8 hw) d_m2_45 (by decide) (by decide) rfl ?_
    intro T74 h74 a74 K74 g74 E74 A74 D74 U74
    have F_coder_74 : Fld Z h74 a74 "java/lang/String" "coder" "B" (.int (0 : Int32)) := D74 (Or.inr (wd33 hw)) (ty := .byte) (by decide)
    have F_value_74 : Fld Z h74 a74 "java/lang/String" "value" "[B" .null := D74 (Or.inr (wd35 hw)) (ty := (.array .byte)) (by decide)
    have F_hash_74 : Fld Z h74 a74 "java/lang/String" "hash" "I" (.int (0 : Int32)) := D74 (Or.inl (wd142 hw)) (ty := .int) (by decide)
    have F_hashIsZero_74 : Fld Z h74 a74 "java/lang/String" "hashIsZero" "Z" (.int (0 : Int32)) := D74 (Or.inl (wd144 hw)) (ty := .boolean) (by decide)
    refine own_dup K74 d_m2_48 rfl rfl ?_
    refine own_iconst K74 (v := (0 : Int32)) d_m2_49 rfl rfl ?_
    refine own_newP K74 (aty := .char) (wd9 hw) d_m2_50 (by decide) (cap := 0) (by decide) (by decide) (by decide) (by decide) rfl ?_
    intro T75 h75 a75 c75 K75 g75 E75 V75
    have gs74 : Z.heap.size ≤ a74 := by rw [g74]; exact O0.1
    have gj75 : Z.heap.size ≤ a75 := by rw [g75]; exact Nat.le_trans O0.1 E74.1
    have Y75 : Ext h74 h75 := E75
    have W76 := W0.ext K75 (own_ext_trans E74 Y75)
    refine own_callIW W76 (own_EL hw) (kn := false) (fun q => nomatch q) (a := a74) (wd10 hw) (wd11 hw) (rm_initCE hw hs W76.K.O (A74.ext Y75) (F_value_74.ext Y75) (F_coder_74.ext Y75) (F_hash_74.ext Y75) (F_hashIsZero_74.ext Y75) gs74 V75) (wd12 hw) (wd8 hw) (by decide) rfl (argsL := [(.ref a75)]) (rest := [(.ref a74)]) rfl pd_285bC29V rfl rfl (Wd := 1) rfl (by decide) (by decide) (by decide) (by decide) d_m2_52 rfl ?_
    intro T77 h77 L77 v77 k1_77 W77 C77 q77
    obtain ⟨rfl, Kp77, S77⟩ := q77
    show G (T77.setTop (mkF m 55 #[.val (.long q), .second, .val (.int (0 : Int32)), .val (.int (((((q.toUInt64 >>> ((2 : Int32) &&& 0x3f).toInt64.toUInt64).toInt64) &&& (255 : Int64)).toInt32).toUInt32.toUInt16.toUInt32.toInt32)), .val (.int (((((q.toUInt64 >>> ((10 : Int32) &&& 0x3f).toInt64.toUInt64).toInt64) &&& (255 : Int64)).toInt32).toUInt32.toUInt16.toUInt32.toInt32)), .val (.int (((((q.toUInt64 >>> ((18 : Int32) &&& 0x3f).toInt64.toUInt64).toInt64) &&& (255 : Int64)).toInt32).toUInt32.toUInt16.toUInt32.toInt32))] [(.ref a74)]))
    have Z77 : Ext h0 h77 := own_ext_keep (own_ext_trans E74 Y75) Kp77 (allS (Nat.le_of_eq g74.symm) all0)
    exact own_retA W77.K d_m2_55 rfl rfl rfl rfl (by decide) (by decide) ⟨⟨⟨a74, ([] : List Int32), rfl, Nat.le_of_eq g74.symm, Z77, S77.s, fun d hd => hlat d hd, by simp⟩, W77.le⟩, fun _ => W77.C⟩
  · skip
    rw [hn]
    have hlat : ∀ d ∈ [(((((q.toUInt64 >>> ((2 : Int32) &&& 0x3f).toInt64.toUInt64).toInt64) &&& (255 : Int64)).toInt32).toUInt32.toUInt16.toUInt32.toInt32)], ¬ d < 0 ∧ d < 256 := own_l8c (own_l2c _) (own_l8n)
    refine own_ifYes W0.K d_m2_42 (pc' := 56) (by decide) (by decide) ((if0 _ _).trans (feq (by decide)).2) ?_
    refine own_iloadN W0.K d_m2_56 rfl rfl ?_
    refine own_iconst W0.K (v := (1 : Int32)) d_m2_57 rfl rfl ?_
    refine own_icmpNo W0.K d_m2_58 rfl (teq rfl).2 ?_
    refine own_iloadN W0.K d_m2_61 rfl rfl ?_
    refine own_callS W0.K (wd36 hw) (wd37 hw) (rm_valueOfX hw hs W0.K.O (own_l2c _)) (wd38 hw) (wd8 hw) (by decide) (argsL := [(.int (((((q.toUInt64 >>> ((2 : Int32) &&& 0x3f).toInt64.toUInt64).toInt64) &&& (255 : Int64)).toInt32).toUInt32.toUInt16.toUInt32.toInt32))]) (rest := []) rfl pd_28C29Ljava2flang2fString3b rfl rfl (W := 0) rfl (by decide) (by decide) (by decide) (by decide) d_m2_62 rfl ?_
    intro T78 h78 L78 v78 K78 q78
    obtain ⟨va78, rfl, gva78, X78, S78⟩ := q78
    show G (T78.setTop (mkF m 65 #[.val (.long q), .second, .val (.int (1 : Int32)), .val (.int (((((q.toUInt64 >>> ((2 : Int32) &&& 0x3f).toInt64.toUInt64).toInt64) &&& (255 : Int64)).toInt32).toUInt32.toUInt16.toUInt32.toInt32)), .val (.int (((((q.toUInt64 >>> ((10 : Int32) &&& 0x3f).toInt64.toUInt64).toInt64) &&& (255 : Int64)).toInt32).toUInt32.toUInt16.toUInt32.toInt32)), .val (.int (((((q.toUInt64 >>> ((18 : Int32) &&& 0x3f).toInt64.toUInt64).toInt64) &&& (255 : Int64)).toInt32).toUInt32.toUInt16.toUInt32.toInt32))] [(.ref va78)]))
    have W79 := W0.ext K78 X78
    exact own_retA W79.K d_m2_65 rfl rfl rfl rfl (by decide) (by decide) ⟨⟨⟨va78, [(((((q.toUInt64 >>> ((2 : Int32) &&& 0x3f).toInt64.toUInt64).toInt64) &&& (255 : Int64)).toInt32).toUInt32.toUInt16.toUInt32.toInt32)], rfl, gva78, X78, S78.s, fun d hd => hlat d hd, by simp⟩, W79.le⟩, fun _ => W79.C⟩
  · skip
    rw [hn]
    have hlat : ∀ d ∈ [(((((q.toUInt64 >>> ((2 : Int32) &&& 0x3f).toInt64.toUInt64).toInt64) &&& (255 : Int64)).toInt32).toUInt32.toUInt16.toUInt32.toInt32), (((((q.toUInt64 >>> ((10 : Int32) &&& 0x3f).toInt64.toUInt64).toInt64) &&& (255 : Int64)).toInt32).toUInt32.toUInt16.toUInt32.toInt32)], ¬ d < 0 ∧ d < 256 := own_l8c (own_l2c _) (own_l8c (own_l2c _) (own_l8n))
    refine own_ifYes W0.K d_m2_42 (pc' := 56) (by decide) (by decide) ((if0 _ _).trans (feq (by decide)).2) ?_
    refine own_iloadN W0.K d_m2_56 rfl rfl ?_
    refine own_iconst W0.K (v := (1 : Int32)) d_m2_57 rfl rfl ?_
    refine own_icmpYes W0.K d_m2_58 (pc' := 66) (by decide) (by decide) (feq (by decide)).2 ?_
    refine own_iloadN W0.K d_m2_66 rfl rfl ?_
    refine own_iconst W0.K (v := (2 : Int32)) d_m2_67 rfl rfl ?_
    refine own_icmpNo W0.K d_m2_68 rfl (teq rfl).2 ?_
    refine own_newO W0.K (wd6 hw) (wd7 hw) (wd8 hw) d_m2_71 (by decide) (by decide) rfl ?_
    intro T80 h80 a80 K80 g80 E80 A80 D80 U80
    have F_coder_80 : Fld Z h80 a80 "java/lang/String" "coder" "B" (.int (0 : Int32)) := D80 (Or.inr (wd33 hw)) (ty := .byte) (by decide)
    have F_value_80 : Fld Z h80 a80 "java/lang/String" "value" "[B" .null := D80 (Or.inr (wd35 hw)) (ty := (.array .byte)) (by decide)
    have F_hash_80 : Fld Z h80 a80 "java/lang/String" "hash" "I" (.int (0 : Int32)) := D80 (Or.inl (wd142 hw)) (ty := .int) (by decide)
    have F_hashIsZero_80 : Fld Z h80 a80 "java/lang/String" "hashIsZero" "Z" (.int (0 : Int32)) := D80 (Or.inl (wd144 hw)) (ty := .boolean) (by decide)
    refine own_dup K80 d_m2_74 rfl rfl ?_
    refine own_iconst K80 (v := (2 : Int32)) d_m2_75 rfl rfl ?_
    refine own_newP K80 (aty := .char) (wd9 hw) d_m2_76 (by decide) (cap := 2) (by decide) (by decide) (by decide) (by decide) rfl ?_
    intro T81 h81 a81 c81 K81 g81 E81 V81
    refine own_dup K81 d_m2_78 rfl rfl ?_
    refine own_iconst K81 (v := (0 : Int32)) d_m2_79 rfl rfl ?_
    refine own_iloadN K81 d_m2_80 rfl rfl ?_
    have gs80 : Z.heap.size ≤ a80 := by rw [g80]; exact O0.1
    have gj81 : Z.heap.size ≤ a81 := by rw [g81]; exact Nat.le_trans O0.1 E80.1
    have Y81 : Ext h80 h81 := E81
    refine own_castore K81 (V81.pad (pad_rep [] _ 2)) ⟨by decide, by decide⟩ 0 rfl (by simp) (x' := (((((q.toUInt64 >>> ((2 : Int32) &&& 0x3f).toInt64.toUInt64).toInt64) &&& (255 : Int64)).toInt32).toUInt32.toUInt16.toUInt32.toInt32)) (own_nar_char8 (own_l2c _)) gj81 d_m2_81 rfl ?_
    intro T82 h82 K82 W82 V82
    have Y82 : Ext h80 h82 := own_ext_wr Y81 W82 (Nat.le_of_eq g81.symm)
    refine own_dup K82 d_m2_82 rfl rfl ?_
    refine own_iconst K82 (v := (1 : Int32)) d_m2_83 rfl rfl ?_
    refine own_iload K82 d_m2_84 rfl rfl ?_
    refine own_castore K82 V82 ⟨by decide, by decide⟩ 1 rfl (by simp) (x' := (((((q.toUInt64 >>> ((10 : Int32) &&& 0x3f).toInt64.toUInt64).toInt64) &&& (255 : Int64)).toInt32).toUInt32.toUInt16.toUInt32.toInt32)) (own_nar_char8 (own_l2c _)) gj81 d_m2_86 rfl ?_
    intro T83 h83 K83 W83 V83
    have Y83 : Ext h80 h83 := own_ext_wr Y82 W83 (Nat.le_of_eq g81.symm)
    have A_ : Arv Z h83 a81 c81 .char (Int32.ofNat [(((((q.toUInt64 >>> ((2 : Int32) &&& 0x3f).toInt64.toUInt64).toInt64) &&& (255 : Int64)).toInt32).toUInt32.toUInt16.toUInt32.toInt32), (((((q.toUInt64 >>> ((10 : Int32) &&& 0x3f).toInt64.toUInt64).toInt64) &&& (255 : Int64)).toInt32).toUInt32.toUInt16.toUInt32.toInt32)].length) ([(((((q.toUInt64 >>> ((2 : Int32) &&& 0x3f).toInt64.toUInt64).toInt64) &&& (255 : Int64)).toInt32).toUInt32.toUInt16.toUInt32.toInt32), (((((q.toUInt64 >>> ((10 : Int32) &&& 0x3f).toInt64.toUInt64).toInt64) &&& (255 : Int64)).toInt32).toUInt32.toUInt16.toUInt32.toInt32)].map Value.int) (.int 0) := V83
    refine own_callI K83 (a := a80) (wd10 hw) (wd11 hw) (rm_initCX hw hs (cs := [(((((q.toUInt64 >>> ((2 : Int32) &&& 0x3f).toInt64.toUInt64).toInt64) &&& (255 : Int64)).toInt32).toUInt32.toUInt16.toUInt32.toInt32), (((((q.toUInt64 >>> ((10 : Int32) &&& 0x3f).toInt64.toUInt64).toInt64) &&& (255 : Int64)).toInt32).toUInt32.toUInt16.toUInt32.toInt32)]) (cap := 2) K83.O (A80.ext Y83) (F_value_80.ext Y83) (F_coder_80.ext Y83) (F_hash_80.ext Y83) (F_hashIsZero_80.ext Y83) gs80 A_ hlat (by simp) (by simp) (by simp) (by simp)) (wd12 hw) (wd8 hw) (by decide) rfl (argsL := [(.ref a81)]) (rest := [(.ref a80)]) rfl pd_285bC29V rfl rfl (W := 1) rfl (by decide) (by decide) (by decide) (by decide) d_m2_87 rfl ?_
    intro T84 h84 L84 v84 K84 q84
    obtain ⟨rfl, Kp84, S84⟩ := q84
    show G (T84.setTop (mkF m 90 #[.val (.long q), .second, .val (.int (2 : Int32)), .val (.int (((((q.toUInt64 >>> ((2 : Int32) &&& 0x3f).toInt64.toUInt64).toInt64) &&& (255 : Int64)).toInt32).toUInt32.toUInt16.toUInt32.toInt32)), .val (.int (((((q.toUInt64 >>> ((10 : Int32) &&& 0x3f).toInt64.toUInt64).toInt64) &&& (255 : Int64)).toInt32).toUInt32.toUInt16.toUInt32.toInt32)), .val (.int (((((q.toUInt64 >>> ((18 : Int32) &&& 0x3f).toInt64.toUInt64).toInt64) &&& (255 : Int64)).toInt32).toUInt32.toUInt16.toUInt32.toInt32))] [(.ref a80)]))
    have Z84 : Ext h0 h84 := own_ext_keep (own_ext_trans E80 Y83) Kp84 (allS (Nat.le_of_eq g80.symm) all0)
    have W85 := W0.ext K84 Z84
    exact own_retA W85.K d_m2_90 rfl rfl rfl rfl (by decide) (by decide) ⟨⟨⟨a80, [(((((q.toUInt64 >>> ((2 : Int32) &&& 0x3f).toInt64.toUInt64).toInt64) &&& (255 : Int64)).toInt32).toUInt32.toUInt16.toUInt32.toInt32), (((((q.toUInt64 >>> ((10 : Int32) &&& 0x3f).toInt64.toUInt64).toInt64) &&& (255 : Int64)).toInt32).toUInt32.toUInt16.toUInt32.toInt32)], rfl, Nat.le_of_eq g80.symm, Z84, S84.s, fun d hd => hlat d hd, by simp⟩, W85.le⟩, fun _ => W85.C⟩
  · skip
    rw [hn]
    have hlat : ∀ d ∈ [(((((q.toUInt64 >>> ((2 : Int32) &&& 0x3f).toInt64.toUInt64).toInt64) &&& (255 : Int64)).toInt32).toUInt32.toUInt16.toUInt32.toInt32), (((((q.toUInt64 >>> ((10 : Int32) &&& 0x3f).toInt64.toUInt64).toInt64) &&& (255 : Int64)).toInt32).toUInt32.toUInt16.toUInt32.toInt32), (((((q.toUInt64 >>> ((18 : Int32) &&& 0x3f).toInt64.toUInt64).toInt64) &&& (255 : Int64)).toInt32).toUInt32.toUInt16.toUInt32.toInt32)], ¬ d < 0 ∧ d < 256 := own_l8c (own_l2c _) (own_l8c (own_l2c _) (own_l8c (own_l2c _) (own_l8n)))
    refine own_ifYes W0.K d_m2_42 (pc' := 56) (by decide) (by decide) ((if0 _ _).trans (feq (by decide)).2) ?_
    refine own_iloadN W0.K d_m2_56 rfl rfl ?_
    refine own_iconst W0.K (v := (1 : Int32)) d_m2_57 rfl rfl ?_
    refine own_icmpYes W0.K d_m2_58 (pc' := 66) (by decide) (by decide) (feq (by decide)).2 ?_
    refine own_iloadN W0.K d_m2_66 rfl rfl ?_
    refine own_iconst W0.K (v := (2 : Int32)) d_m2_67 rfl rfl ?_
    refine own_icmpYes W0.K d_m2_68 (pc' := 91) (by decide) (by decide) (feq (by decide)).2 ?_
    refine own_newO W0.K (wd6 hw) (wd7 hw) (wd8 hw) d_m2_91 (by decide) (by decide) rfl ?_
    intro T86 h86 a86 K86 g86 E86 A86 D86 U86
    have F_coder_86 : Fld Z h86 a86 "java/lang/String" "coder" "B" (.int (0 : Int32)) := D86 (Or.inr (wd33 hw)) (ty := .byte) (by decide)
    have F_value_86 : Fld Z h86 a86 "java/lang/String" "value" "[B" .null := D86 (Or.inr (wd35 hw)) (ty := (.array .byte)) (by decide)
    have F_hash_86 : Fld Z h86 a86 "java/lang/String" "hash" "I" (.int (0 : Int32)) := D86 (Or.inl (wd142 hw)) (ty := .int) (by decide)
    have F_hashIsZero_86 : Fld Z h86 a86 "java/lang/String" "hashIsZero" "Z" (.int (0 : Int32)) := D86 (Or.inl (wd144 hw)) (ty := .boolean) (by decide)
    refine own_dup K86 d_m2_94 rfl rfl ?_
    refine own_iconst K86 (v := (3 : Int32)) d_m2_95 rfl rfl ?_
    refine own_newP K86 (aty := .char) (wd9 hw) d_m2_96 (by decide) (cap := 3) (by decide) (by decide) (by decide) (by decide) rfl ?_
    intro T87 h87 a87 c87 K87 g87 E87 V87
    refine own_dup K87 d_m2_98 rfl rfl ?_
    refine own_iconst K87 (v := (0 : Int32)) d_m2_99 rfl rfl ?_
    refine own_iloadN K87 d_m2_100 rfl rfl ?_
    have gs86 : Z.heap.size ≤ a86 := by rw [g86]; exact O0.1
    have gj87 : Z.heap.size ≤ a87 := by rw [g87]; exact Nat.le_trans O0.1 E86.1
    have Y87 : Ext h86 h87 := E87
    refine own_castore K87 (V87.pad (pad_rep [] _ 3)) ⟨by decide, by decide⟩ 0 rfl (by simp) (x' := (((((q.toUInt64 >>> ((2 : Int32) &&& 0x3f).toInt64.toUInt64).toInt64) &&& (255 : Int64)).toInt32).toUInt32.toUInt16.toUInt32.toInt32)) (own_nar_char8 (own_l2c _)) gj87 d_m2_101 rfl ?_
    intro T88 h88 K88 W88 V88
    have Y88 : Ext h86 h88 := own_ext_wr Y87 W88 (Nat.le_of_eq g87.symm)
    refine own_dup K88 d_m2_102 rfl rfl ?_
    refine own_iconst K88 (v := (1 : Int32)) d_m2_103 rfl rfl ?_
    refine own_iload K88 d_m2_104 rfl rfl ?_
    refine own_castore K88 V88 ⟨by decide, by decide⟩ 1 rfl (by simp) (x' := (((((q.toUInt64 >>> ((10 : Int32) &&& 0x3f).toInt64.toUInt64).toInt64) &&& (255 : Int64)).toInt32).toUInt32.toUInt16.toUInt32.toInt32)) (own_nar_char8 (own_l2c _)) gj87 d_m2_106 rfl ?_
    intro T89 h89 K89 W89 V89
    have Y89 : Ext h86 h89 := own_ext_wr Y88 W89 (Nat.le_of_eq g87.symm)
    refine own_dup K89 d_m2_107 rfl rfl ?_
    refine own_iconst K89 (v := (2 : Int32)) d_m2_108 rfl rfl ?_
    refine own_iload K89 d_m2_109 rfl rfl ?_
    refine own_castore K89 V89 ⟨by decide, by decide⟩ 2 rfl (by simp) (x' := (((((q.toUInt64 >>> ((18 : Int32) &&& 0x3f).toInt64.toUInt64).toInt64) &&& (255 : Int64)).toInt32).toUInt32.toUInt16.toUInt32.toInt32)) (own_nar_char8 (own_l2c _)) gj87 d_m2_111 rfl ?_
    intro T90 h90 K90 W90 V90
    have Y90 : Ext h86 h90 := own_ext_wr Y89 W90 (Nat.le_of_eq g87.symm)
    have A_ : Arv Z h90 a87 c87 .char (Int32.ofNat [(((((q.toUInt64 >>> ((2 : Int32) &&& 0x3f).toInt64.toUInt64).toInt64) &&& (255 : Int64)).toInt32).toUInt32.toUInt16.toUInt32.toInt32), (((((q.toUInt64 >>> ((10 : Int32) &&& 0x3f).toInt64.toUInt64).toInt64) &&& (255 : Int64)).toInt32).toUInt32.toUInt16.toUInt32.toInt32), (((((q.toUInt64 >>> ((18 : Int32) &&& 0x3f).toInt64.toUInt64).toInt64) &&& (255 : Int64)).toInt32).toUInt32.toUInt16.toUInt32.toInt32)].length) ([(((((q.toUInt64 >>> ((2 : Int32) &&& 0x3f).toInt64.toUInt64).toInt64) &&& (255 : Int64)).toInt32).toUInt32.toUInt16.toUInt32.toInt32), (((((q.toUInt64 >>> ((10 : Int32) &&& 0x3f).toInt64.toUInt64).toInt64) &&& (255 : Int64)).toInt32).toUInt32.toUInt16.toUInt32.toInt32), (((((q.toUInt64 >>> ((18 : Int32) &&& 0x3f).toInt64.toUInt64).toInt64) &&& (255 : Int64)).toInt32).toUInt32.toUInt16.toUInt32.toInt32)].map Value.int) (.int 0) := V90
    refine own_callI K90 (a := a86) (wd10 hw) (wd11 hw) (rm_initCX hw hs (cs := [(((((q.toUInt64 >>> ((2 : Int32) &&& 0x3f).toInt64.toUInt64).toInt64) &&& (255 : Int64)).toInt32).toUInt32.toUInt16.toUInt32.toInt32), (((((q.toUInt64 >>> ((10 : Int32) &&& 0x3f).toInt64.toUInt64).toInt64) &&& (255 : Int64)).toInt32).toUInt32.toUInt16.toUInt32.toInt32), (((((q.toUInt64 >>> ((18 : Int32) &&& 0x3f).toInt64.toUInt64).toInt64) &&& (255 : Int64)).toInt32).toUInt32.toUInt16.toUInt32.toInt32)]) (cap := 3) K90.O (A86.ext Y90) (F_value_86.ext Y90) (F_coder_86.ext Y90) (F_hash_86.ext Y90) (F_hashIsZero_86.ext Y90) gs86 A_ hlat (by simp) (by simp) (by simp) (by simp)) (wd12 hw) (wd8 hw) (by decide) rfl (argsL := [(.ref a87)]) (rest := [(.ref a86)]) rfl pd_285bC29V rfl rfl (W := 1) rfl (by decide) (by decide) (by decide) (by decide) d_m2_112 rfl ?_
    intro T91 h91 L91 v91 K91 q91
    obtain ⟨rfl, Kp91, S91⟩ := q91
    show G (T91.setTop (mkF m 115 #[.val (.long q), .second, .val (.int (3 : Int32)), .val (.int (((((q.toUInt64 >>> ((2 : Int32) &&& 0x3f).toInt64.toUInt64).toInt64) &&& (255 : Int64)).toInt32).toUInt32.toUInt16.toUInt32.toInt32)), .val (.int (((((q.toUInt64 >>> ((10 : Int32) &&& 0x3f).toInt64.toUInt64).toInt64) &&& (255 : Int64)).toInt32).toUInt32.toUInt16.toUInt32.toInt32)), .val (.int (((((q.toUInt64 >>> ((18 : Int32) &&& 0x3f).toInt64.toUInt64).toInt64) &&& (255 : Int64)).toInt32).toUInt32.toUInt16.toUInt32.toInt32))] [(.ref a86)]))
    have Z91 : Ext h0 h91 := own_ext_keep (own_ext_trans E86 Y90) Kp91 (allS (Nat.le_of_eq g86.symm) all0)
    have W92 := W0.ext K91 Z91
    exact own_retA W92.K d_m2_115 rfl rfl rfl rfl (by decide) (by decide) ⟨⟨⟨a86, [(((((q.toUInt64 >>> ((2 : Int32) &&& 0x3f).toInt64.toUInt64).toInt64) &&& (255 : Int64)).toInt32).toUInt32.toUInt16.toUInt32.toInt32), (((((q.toUInt64 >>> ((10 : Int32) &&& 0x3f).toInt64.toUInt64).toInt64) &&& (255 : Int64)).toInt32).toUInt32.toUInt16.toUInt32.toInt32), (((((q.toUInt64 >>> ((18 : Int32) &&& 0x3f).toInt64.toUInt64).toInt64) &&& (255 : Int64)).toInt32).toUInt32.toUInt16.toUInt32.toInt32)], rfl, Nat.le_of_eq g86.symm, Z91, S91.s, fun d hd => hlat d hd, by simp⟩, W92.le⟩, fun _ => W92.C⟩
theorem d_jdk_71_m1_0 : decode jdk_71_method_1_code 0 = .ok (.aload_n 0, 1) := by decide +kernel
theorem d_jdk_71_m1_1 : decode jdk_71_method_1_code 1 = .ok (.invokespecial 1, 3) := by decide +kernel
theorem wd75 {a0 : Array Value} {Z : State} (hw : ∀ d ∈ tables_1, d.before a0 Z = true) : (Jvm.Cond.methodLink "java/util/AbstractMap" (1 : Nat) ({ cls := "java/lang/Object", name := "<init>", desc := "()V" } : Jvm.MethodName)).before a0 Z = true := hw _ (List.mem_of_getElem? (i := 75) rfl)
theorem d_jdk_71_m1_4 : decode jdk_71_method_1_code 4 = .ok (.return_, 1) := by decide +kernel
theorem pn_java_util_AbstractMap : plainName "java/util/AbstractMap" = true := by first | (simp [plainName, overriddenIn]; done) | decide +kernel
set_option maxRecDepth 65536 in
set_option maxHeartbeats 40000000 in
theorem rm_amInit {l : Launch} {Z : State} {a0 : Array Value} (hw : ∀ d ∈ tables_1, d.before a0 Z = true) (hs : ∀ d ∈ jdkStatics_1, d.before a0 Z = true) {x : Addr} {h0 : Heap} (O0 : Ext Z.heap h0)  :
    own_Ct l Z (⟨"java/util/AbstractMap", "<init>", "()V"⟩ : MethodName) jdk_71_method_1_code 1 none [] ({ frames := 1, locals := 12, cells := 0, slots := 0 } : Room) #[(.ref x)] h0 (fun v h => v = none ∧ h = h0) := by
  refine own_body (Ls := #[.val (.ref x)]) (plainFor_of_name pn_java_util_AbstractMap) (fun m => by first | (simp [entryFrame, mkF, argsToLocals, Value.category]; done) | rfl) O0 ?_
  intro p e s m below meth c T0 G K0
  refine own_aloadN K0 d_jdk_71_m1_0 rfl rfl rfl ?_
  refine own_initO K0 (W := 0) (wd75 hw) (wd18 hw) (wd19 hw) rfl rfl (by decide) (by decide) d_jdk_71_m1_1 rfl ?_
  intro T93 K93
  exact own_ret0 K93 d_jdk_71_m1_4 rfl (by decide) (by decide) ⟨rfl, rfl⟩
theorem d_jdk_69_m7_0 : decode jdk_69_method_7_code 0 = .ok (.aload_n 0, 1) := by decide +kernel
theorem d_jdk_69_m7_1 : decode jdk_69_method_7_code 1 = .ok (.invokespecial 43, 3) := by decide +kernel
theorem wd74 {a0 : Array Value} {Z : State} (hw : ∀ d ∈ tables_1, d.before a0 Z = true) : (Jvm.Cond.code ({ cls := "java/util/AbstractMap", name := "<init>", desc := "()V" } : Jvm.MethodName) jdk_71_method_1_code (1 : Nat) (Option.none : Option Jvm.ClassFile.FieldType)).before a0 Z = true := hw _ (List.mem_of_getElem? (i := 74) rfl)
theorem wd73 {a0 : Array Value} {Z : State} (hw : ∀ d ∈ tables_1, d.before a0 Z = true) : (Jvm.Cond.initialized "java/util/AbstractMap").before a0 Z = true := hw _ (List.mem_of_getElem? (i := 73) rfl)
theorem pd_2829V : parseMethodDescriptor "()V" = some ⟨[], none⟩ := by decide +kernel
theorem wd69 {a0 : Array Value} {Z : State} (hw : ∀ d ∈ tables_1, d.before a0 Z = true) : (Jvm.Cond.methodLink "java/util/HashMap" (43 : Nat) ({ cls := "java/util/AbstractMap", name := "<init>", desc := "()V" } : Jvm.MethodName)).before a0 Z = true := hw _ (List.mem_of_getElem? (i := 69) rfl)
theorem wd70 {a0 : Array Value} {Z : State} (hw : ∀ d ∈ tables_1, d.before a0 Z = true) : (Jvm.Cond.instanceMethod ({ cls := "java/util/AbstractMap", name := "<init>", desc := "()V" } : Jvm.MethodName)).before a0 Z = true := hw _ (List.mem_of_getElem? (i := 70) rfl)
theorem d_jdk_69_m7_4 : decode jdk_69_method_7_code 4 = .ok (.aload_n 0, 1) := by decide +kernel
theorem wd76 {a0 : Array Value} {Z : State} (hw : ∀ d ∈ tables_1, d.before a0 Z = true) : (Jvm.Cond.constantFloat "java/util/HashMap" (92 : Nat) (1061158912 : UInt32)).before a0 Z = true := hw _ (List.mem_of_getElem? (i := 76) rfl)
theorem d_jdk_69_m7_5 : decode jdk_69_method_7_code 5 = .ok (.ldc 92, 2) := by decide +kernel
theorem wd77 {a0 : Array Value} {Z : State} (hw : ∀ d ∈ tables_1, d.before a0 Z = true) : (Jvm.Cond.fieldLink "java/util/HashMap" (81 : Nat) "java/util/HashMap" "loadFactor" "F").before a0 Z = true := hw _ (List.mem_of_getElem? (i := 77) rfl)
theorem wd78 {a0 : Array Value} {Z : State} (hw : ∀ d ∈ tables_1, d.before a0 Z = true) : (Jvm.Cond.laysFinal "java/util/LinkedHashMap" "java/util/HashMap" "loadFactor" "F").before a0 Z = true := hw _ (List.mem_of_getElem? (i := 78) rfl)
theorem d_jdk_69_m7_7 : decode jdk_69_method_7_code 7 = .ok (.putfield 81, 3) := by decide +kernel
theorem wd58 {a0 : Array Value} {Z : State} (hw : ∀ d ∈ tables_1, d.before a0 Z = true) : (Jvm.Cond.instantiable "java/util/LinkedHashMap" (12 : Nat)).before a0 Z = true := hw _ (List.mem_of_getElem? (i := 58) rfl)
theorem wd168 {a0 : Array Value} {Z : State} (hw : ∀ d ∈ tables_1, d.before a0 Z = true) : (Jvm.Cond.lays "java/util/LinkedHashMap" "java/util/HashMap" "table" "[Ljava/util/HashMap$Node;").before a0 Z = true := hw _ (List.mem_of_getElem? (i := 168) rfl)
theorem wd175 {a0 : Array Value} {Z : State} (hw : ∀ d ∈ tables_1, d.before a0 Z = true) : (Jvm.Cond.lays "java/util/LinkedHashMap" "java/util/HashMap" "threshold" "I").before a0 Z = true := hw _ (List.mem_of_getElem? (i := 175) rfl)
theorem wd218 {a0 : Array Value} {Z : State} (hw : ∀ d ∈ tables_1, d.before a0 Z = true) : (Jvm.Cond.lays "java/util/LinkedHashMap" "java/util/HashMap" "size" "I").before a0 Z = true := hw _ (List.mem_of_getElem? (i := 218) rfl)
theorem wd216 {a0 : Array Value} {Z : State} (hw : ∀ d ∈ tables_1, d.before a0 Z = true) : (Jvm.Cond.lays "java/util/LinkedHashMap" "java/util/HashMap" "modCount" "I").before a0 Z = true := hw _ (List.mem_of_getElem? (i := 216) rfl)
theorem wd214 {a0 : Array Value} {Z : State} (hw : ∀ d ∈ tables_1, d.before a0 Z = true) : (Jvm.Cond.lays "java/util/LinkedHashMap" "java/util/LinkedHashMap" "head" "Ljava/util/LinkedHashMap$Entry;").before a0 Z = true := hw _ (List.mem_of_getElem? (i := 214) rfl)
theorem wd212 {a0 : Array Value} {Z : State} (hw : ∀ d ∈ tables_1, d.before a0 Z = true) : (Jvm.Cond.lays "java/util/LinkedHashMap" "java/util/LinkedHashMap" "tail" "Ljava/util/LinkedHashMap$Entry;").before a0 Z = true := hw _ (List.mem_of_getElem? (i := 212) rfl)
theorem wd80 {a0 : Array Value} {Z : State} (hw : ∀ d ∈ tables_1, d.before a0 Z = true) : (Jvm.Cond.lays "java/util/LinkedHashMap" "java/util/LinkedHashMap" "putMode" "I").before a0 Z = true := hw _ (List.mem_of_getElem? (i := 80) rfl)
theorem wd82 {a0 : Array Value} {Z : State} (hw : ∀ d ∈ tables_1, d.before a0 Z = true) : (Jvm.Cond.laysFinal "java/util/LinkedHashMap" "java/util/LinkedHashMap" "accessOrder" "Z").before a0 Z = true := hw _ (List.mem_of_getElem? (i := 82) rfl)
theorem d_jdk_69_m7_10 : decode jdk_69_method_7_code 10 = .ok (.return_, 1) := by decide +kernel
set_option maxRecDepth 65536 in
set_option maxHeartbeats 40000000 in
theorem rm_hmInit {l : Launch} {Z : State} {a0 : Array Value} (hw : ∀ d ∈ tables_1, d.before a0 Z = true) (hs : ∀ d ∈ jdkStatics_1, d.before a0 Z = true) {x : Addr} {lf : Value} {h0 : Heap} (O0 : Ext Z.heap h0) (E : Exa Z h0 x "java/util/LinkedHashMap") (Ftable : Fld Z h0 x "java/util/HashMap" "table" "[Ljava/util/HashMap$Node;" .null) (Fthreshold : Fld Z h0 x "java/util/HashMap" "threshold" "I" (.int 0)) (Fsize : Fld Z h0 x "java/util/HashMap" "size" "I" (.int 0)) (FmodCount : Fld Z h0 x "java/util/HashMap" "modCount" "I" (.int 0)) (Fhead : Fld Z h0 x "java/util/LinkedHashMap" "head" "Ljava/util/LinkedHashMap$Entry;" .null) (Ftail : Fld Z h0 x "java/util/LinkedHashMap" "tail" "Ljava/util/LinkedHashMap$Entry;" .null) (FputMode : Fld Z h0 x "java/util/LinkedHashMap" "putMode" "I" (.int 0)) (FaccessOrder : Fld Z h0 x "java/util/LinkedHashMap" "accessOrder" "Z" (.int 0)) (FL : Fld Z h0 x "java/util/HashMap" "loadFactor" "F" lf) (gx : Z.heap.size ≤ x) :
    own_Ct l Z (⟨"java/util/HashMap", "<init>", "()V"⟩ : MethodName) jdk_69_method_7_code 1 none [] ({ frames := 2, locals := 24, cells := 0, slots := 0 } : Room) #[(.ref x)] h0 (fun v h => v = none ∧ Keep h0 h [x] ∧ Exa Z h x "java/util/LinkedHashMap" ∧ Fld Z h x "java/util/HashMap" "table" "[Ljava/util/HashMap$Node;" .null ∧ Fld Z h x "java/util/HashMap" "threshold" "I" (.int 0) ∧ Fld Z h x "java/util/HashMap" "size" "I" (.int 0) ∧ Fld Z h x "java/util/HashMap" "modCount" "I" (.int 0) ∧ Fld Z h x "java/util/LinkedHashMap" "head" "Ljava/util/LinkedHashMap$Entry;" .null ∧ Fld Z h x "java/util/LinkedHashMap" "tail" "Ljava/util/LinkedHashMap$Entry;" .null ∧ Fld Z h x "java/util/LinkedHashMap" "putMode" "I" (.int 0) ∧ Fld Z h x "java/util/LinkedHashMap" "accessOrder" "Z" (.int 0)) := by
  refine own_body (Ls := #[.val (.ref x)]) (plainFor_of_name pn_java_util_HashMap) (fun m => by first | (simp [entryFrame, mkF, argsToLocals, Value.category]; done) | rfl) O0 ?_
  intro p e s m below meth c T0 G K0
  refine own_aloadN K0 d_jdk_69_m7_0 rfl rfl rfl ?_
  refine own_callI K0 (a := x) (wd69 hw) (wd70 hw) (rm_amInit hw hs (x := x) K0.O) (wd74 hw) (wd73 hw) (by decide) rfl (argsL := []) (rest := []) rfl pd_2829V rfl rfl (W := 0) rfl (by decide) (by decide) (by decide) (by decide) d_jdk_69_m7_1 rfl ?_
  intro T94 h94 L94 v94 K94 q94
  obtain ⟨rfl, e94⟩ := q94
  have f94 := e94.symm
  subst f94
  show G (T94.setTop (mkF m 4 #[.val (.ref x)] []))
  refine own_aloadN K94 d_jdk_69_m7_4 rfl rfl rfl ?_
  refine own_ldcFloat K94 (wd76 hw) d_jdk_69_m7_5 rfl ?_
  refine own_putF K94 (host := "") (Or.inl (wd77 hw)) Via.refl FL E (Or.inr ⟨(wd78 hw), rfl, rfl⟩) (wd58 hw) (ty := .float) (by decide) rfl rfl gx d_jdk_69_m7_7 rfl ?_
  intro T95 h95 K95 W95
  have table_96 := Ftable.other W95 (Or.inr (slot_ne (Or.inl (wd168 hw)) (Or.inr (wd78 hw)) (by decide) (t := (.array (.object "java/util/HashMap$Node"))) (t' := .float) (by decide) (by decide)))
  have threshold_96 := Fthreshold.other W95 (Or.inr (slot_ne (Or.inl (wd175 hw)) (Or.inr (wd78 hw)) (by decide) (t := .int) (t' := .float) (by decide) (by decide)))
  have size_96 := Fsize.other W95 (Or.inr (slot_ne (Or.inl (wd218 hw)) (Or.inr (wd78 hw)) (by decide) (t := .int) (t' := .float) (by decide) (by decide)))
  have modCount_96 := FmodCount.other W95 (Or.inr (slot_ne (Or.inl (wd216 hw)) (Or.inr (wd78 hw)) (by decide) (t := .int) (t' := .float) (by decide) (by decide)))
  have head_96 := Fhead.other W95 (Or.inr (slot_ne (Or.inl (wd214 hw)) (Or.inr (wd78 hw)) (by decide) (t := (.object "java/util/LinkedHashMap$Entry")) (t' := .float) (by decide) (by decide)))
  have tail_96 := Ftail.other W95 (Or.inr (slot_ne (Or.inl (wd212 hw)) (Or.inr (wd78 hw)) (by decide) (t := (.object "java/util/LinkedHashMap$Entry")) (t' := .float) (by decide) (by decide)))
  have putMode_96 := FputMode.other W95 (Or.inr (slot_ne (Or.inl (wd80 hw)) (Or.inr (wd78 hw)) (by decide) (t := .int) (t' := .float) (by decide) (by decide)))
  have accessOrder_96 := FaccessOrder.other W95 (Or.inr (slot_ne (Or.inr (wd82 hw)) (Or.inr (wd78 hw)) (by decide) (t := .boolean) (t' := .float) (by decide) (by decide)))
  have Eo_96 := E.wr W95
  exact own_ret0 K95 d_jdk_69_m7_10 rfl (by decide) (by decide) ⟨rfl, (Keep.refl h0 [x]).wr W95 (Or.inl (List.mem_singleton.mpr rfl)), Eo_96, table_96, threshold_96, size_96, modCount_96, head_96, tail_96, putMode_96, accessOrder_96⟩
theorem d_jdk_94_m16_0 : decode jdk_94_method_16_code 0 = .ok (.aload_n 0, 1) := by decide +kernel
theorem d_jdk_94_m16_1 : decode jdk_94_method_16_code 1 = .ok (.invokespecial 87, 3) := by decide +kernel
theorem wd68 {a0 : Array Value} {Z : State} (hw : ∀ d ∈ tables_1, d.before a0 Z = true) : (Jvm.Cond.code ({ cls := "java/util/HashMap", name := "<init>", desc := "()V" } : Jvm.MethodName) jdk_69_method_7_code (1 : Nat) (Option.none : Option Jvm.ClassFile.FieldType)).before a0 Z = true := hw _ (List.mem_of_getElem? (i := 68) rfl)
theorem wd67 {a0 : Array Value} {Z : State} (hw : ∀ d ∈ tables_1, d.before a0 Z = true) : (Jvm.Cond.initialized "java/util/HashMap").before a0 Z = true := hw _ (List.mem_of_getElem? (i := 67) rfl)
theorem wd63 {a0 : Array Value} {Z : State} (hw : ∀ d ∈ tables_1, d.before a0 Z = true) : (Jvm.Cond.methodLink "java/util/LinkedHashMap" (87 : Nat) ({ cls := "java/util/HashMap", name := "<init>", desc := "()V" } : Jvm.MethodName)).before a0 Z = true := hw _ (List.mem_of_getElem? (i := 63) rfl)
theorem wd64 {a0 : Array Value} {Z : State} (hw : ∀ d ∈ tables_1, d.before a0 Z = true) : (Jvm.Cond.instanceMethod ({ cls := "java/util/HashMap", name := "<init>", desc := "()V" } : Jvm.MethodName)).before a0 Z = true := hw _ (List.mem_of_getElem? (i := 64) rfl)
theorem d_jdk_94_m16_4 : decode jdk_94_method_16_code 4 = .ok (.aload_n 0, 1) := by decide +kernel
theorem d_jdk_94_m16_5 : decode jdk_94_method_16_code 5 = .ok (.iconst 0, 1) := by decide +kernel
theorem wd79 {a0 : Array Value} {Z : State} (hw : ∀ d ∈ tables_1, d.before a0 Z = true) : (Jvm.Cond.fieldLink "java/util/LinkedHashMap" (1 : Nat) "java/util/LinkedHashMap" "putMode" "I").before a0 Z = true := hw _ (List.mem_of_getElem? (i := 79) rfl)
theorem d_jdk_94_m16_6 : decode jdk_94_method_16_code 6 = .ok (.putfield 1, 3) := by decide +kernel
theorem d_jdk_94_m16_9 : decode jdk_94_method_16_code 9 = .ok (.aload_n 0, 1) := by decide +kernel
theorem d_jdk_94_m16_10 : decode jdk_94_method_16_code 10 = .ok (.iconst 0, 1) := by decide +kernel
theorem wd81 {a0 : Array Value} {Z : State} (hw : ∀ d ∈ tables_1, d.before a0 Z = true) : (Jvm.Cond.fieldLink "java/util/LinkedHashMap" (64 : Nat) "java/util/LinkedHashMap" "accessOrder" "Z").before a0 Z = true := hw _ (List.mem_of_getElem? (i := 81) rfl)
theorem d_jdk_94_m16_11 : decode jdk_94_method_16_code 11 = .ok (.putfield 64, 3) := by decide +kernel
theorem d_jdk_94_m16_14 : decode jdk_94_method_16_code 14 = .ok (.return_, 1) := by decide +kernel
theorem pn_java_util_LinkedHashMap : plainName "java/util/LinkedHashMap" = true := by first | (simp [plainName, overriddenIn]; done) | decide +kernel
set_option maxRecDepth 65536 in
set_option maxHeartbeats 40000000 in
theorem rm_lhInit {l : Launch} {Z : State} {a0 : Array Value} (hw : ∀ d ∈ tables_1, d.before a0 Z = true) (hs : ∀ d ∈ jdkStatics_1, d.before a0 Z = true) {x : Addr} {lf : Value} {h0 : Heap} (O0 : Ext Z.heap h0) (E : Exa Z h0 x "java/util/LinkedHashMap") (Ftable : Fld Z h0 x "java/util/HashMap" "table" "[Ljava/util/HashMap$Node;" .null) (Fthreshold : Fld Z h0 x "java/util/HashMap" "threshold" "I" (.int 0)) (Fsize : Fld Z h0 x "java/util/HashMap" "size" "I" (.int 0)) (FmodCount : Fld Z h0 x "java/util/HashMap" "modCount" "I" (.int 0)) (Fhead : Fld Z h0 x "java/util/LinkedHashMap" "head" "Ljava/util/LinkedHashMap$Entry;" .null) (Ftail : Fld Z h0 x "java/util/LinkedHashMap" "tail" "Ljava/util/LinkedHashMap$Entry;" .null) (FputMode : Fld Z h0 x "java/util/LinkedHashMap" "putMode" "I" (.int 0)) (FaccessOrder : Fld Z h0 x "java/util/LinkedHashMap" "accessOrder" "Z" (.int 0)) (FL : Fld Z h0 x "java/util/HashMap" "loadFactor" "F" lf) (gx : Z.heap.size ≤ x) :
    own_Ct l Z (⟨"java/util/LinkedHashMap", "<init>", "()V"⟩ : MethodName) jdk_94_method_16_code 1 none [] ({ frames := 3, locals := 36, cells := 0, slots := 0 } : Room) #[(.ref x)] h0 (fun v h => v = none ∧ Keep h0 h [x] ∧ Exa Z h x "java/util/LinkedHashMap" ∧ Fld Z h x "java/util/HashMap" "table" "[Ljava/util/HashMap$Node;" .null ∧ Fld Z h x "java/util/HashMap" "threshold" "I" (.int 0) ∧ Fld Z h x "java/util/HashMap" "size" "I" (.int 0) ∧ Fld Z h x "java/util/HashMap" "modCount" "I" (.int 0) ∧ Fld Z h x "java/util/LinkedHashMap" "head" "Ljava/util/LinkedHashMap$Entry;" .null ∧ Fld Z h x "java/util/LinkedHashMap" "tail" "Ljava/util/LinkedHashMap$Entry;" .null ∧ Fld Z h x "java/util/LinkedHashMap" "putMode" "I" (.int 0) ∧ Fld Z h x "java/util/LinkedHashMap" "accessOrder" "Z" (.int 0)) := by
  refine own_body (Ls := #[.val (.ref x)]) (plainFor_of_name pn_java_util_LinkedHashMap) (fun m => by first | (simp [entryFrame, mkF, argsToLocals, Value.category]; done) | rfl) O0 ?_
  intro p e s m below meth c T0 G K0
  refine own_aloadN K0 d_jdk_94_m16_0 rfl rfl rfl ?_
  refine own_callI K0 (a := x) (wd63 hw) (wd64 hw) (rm_hmInit hw hs K0.O E Ftable Fthreshold Fsize FmodCount Fhead Ftail FputMode FaccessOrder FL gx) (wd68 hw) (wd67 hw) (by decide) rfl (argsL := []) (rest := []) rfl pd_2829V rfl rfl (W := 0) rfl (by decide) (by decide) (by decide) (by decide) d_jdk_94_m16_1 rfl ?_
  intro T97 h97 L97 v97 K97 q97
  obtain ⟨rfl, Kp97, GE97, Gtable97, Gthreshold97, Gsize97, GmodCount97, Ghead97, Gtail97, GputMode97, GaccessOrder97⟩ := q97
  show G (T97.setTop (mkF m 4 #[.val (.ref x)] []))
  refine own_aloadN K97 d_jdk_94_m16_4 rfl rfl rfl ?_
  refine own_iconst K97 (v := (0 : Int32)) d_jdk_94_m16_5 rfl rfl ?_
  refine own_putF K97 (host := "") (Or.inl (wd79 hw)) Via.refl GputMode97 GE97 (Or.inl (wd80 hw)) (wd58 hw) (ty := .int) (by decide) rfl rfl gx d_jdk_94_m16_6 rfl ?_
  intro T98 h98 K98 W98
  have table_99 := Gtable97.other W98 (Or.inr (slot_ne (Or.inl (wd168 hw)) (Or.inl (wd80 hw)) (by decide) (t := (.array (.object "java/util/HashMap$Node"))) (t' := .int) (by decide) (by decide)))
  have threshold_99 := Gthreshold97.other W98 (Or.inr (slot_ne (Or.inl (wd175 hw)) (Or.inl (wd80 hw)) (by decide) (t := .int) (t' := .int) (by decide) (by decide)))
  have size_99 := Gsize97.other W98 (Or.inr (slot_ne (Or.inl (wd218 hw)) (Or.inl (wd80 hw)) (by decide) (t := .int) (t' := .int) (by decide) (by decide)))
  have modCount_99 := GmodCount97.other W98 (Or.inr (slot_ne (Or.inl (wd216 hw)) (Or.inl (wd80 hw)) (by decide) (t := .int) (t' := .int) (by decide) (by decide)))
  have head_99 := Ghead97.other W98 (Or.inr (slot_ne (Or.inl (wd214 hw)) (Or.inl (wd80 hw)) (by decide) (t := (.object "java/util/LinkedHashMap$Entry")) (t' := .int) (by decide) (by decide)))
  have tail_99 := Gtail97.other W98 (Or.inr (slot_ne (Or.inl (wd212 hw)) (Or.inl (wd80 hw)) (by decide) (t := (.object "java/util/LinkedHashMap$Entry")) (t' := .int) (by decide) (by decide)))
  have putMode_99 := GputMode97.same W98
  have accessOrder_99 := GaccessOrder97.other W98 (Or.inr (slot_ne (Or.inr (wd82 hw)) (Or.inl (wd80 hw)) (by decide) (t := .boolean) (t' := .int) (by decide) (by decide)))
  have Eo_99 := GE97.wr W98
  refine own_aloadN K98 d_jdk_94_m16_9 rfl rfl rfl ?_
  refine own_iconst K98 (v := (0 : Int32)) d_jdk_94_m16_10 rfl rfl ?_
  refine own_putFN K98 (wd81 hw) Via.refl accessOrder_99 Eo_99 (Or.inr ⟨(wd82 hw), rfl, rfl⟩) (wd58 hw) (ty := .boolean) (v' := .int 0) (by decide) rfl rfl gx d_jdk_94_m16_11 rfl ?_
  intro T100 h100 K100 W100
  have table_101 := table_99.other W100 (Or.inr (slot_ne (Or.inl (wd168 hw)) (Or.inr (wd82 hw)) (by decide) (t := (.array (.object "java/util/HashMap$Node"))) (t' := .boolean) (by decide) (by decide)))
  have threshold_101 := threshold_99.other W100 (Or.inr (slot_ne (Or.inl (wd175 hw)) (Or.inr (wd82 hw)) (by decide) (t := .int) (t' := .boolean) (by decide) (by decide)))
  have size_101 := size_99.other W100 (Or.inr (slot_ne (Or.inl (wd218 hw)) (Or.inr (wd82 hw)) (by decide) (t := .int) (t' := .boolean) (by decide) (by decide)))
  have modCount_101 := modCount_99.other W100 (Or.inr (slot_ne (Or.inl (wd216 hw)) (Or.inr (wd82 hw)) (by decide) (t := .int) (t' := .boolean) (by decide) (by decide)))
  have head_101 := head_99.other W100 (Or.inr (slot_ne (Or.inl (wd214 hw)) (Or.inr (wd82 hw)) (by decide) (t := (.object "java/util/LinkedHashMap$Entry")) (t' := .boolean) (by decide) (by decide)))
  have tail_101 := tail_99.other W100 (Or.inr (slot_ne (Or.inl (wd212 hw)) (Or.inr (wd82 hw)) (by decide) (t := (.object "java/util/LinkedHashMap$Entry")) (t' := .boolean) (by decide) (by decide)))
  have putMode_101 := putMode_99.other W100 (Or.inr (slot_ne (Or.inl (wd80 hw)) (Or.inr (wd82 hw)) (by decide) (t := .int) (t' := .boolean) (by decide) (by decide)))
  have accessOrder_101 := accessOrder_99.same W100
  have Eo_101 := Eo_99.wr W100
  exact own_ret0 K100 d_jdk_94_m16_14 rfl (by decide) (by decide) ⟨rfl, (Kp97.wr W98 (Or.inl (List.mem_singleton.mpr rfl))).wr W100 (Or.inl (List.mem_singleton.mpr rfl)), Eo_101, table_101, threshold_101, size_101, modCount_101, head_101, tail_101, putMode_101, accessOrder_101⟩
theorem d_jdk_69_m17_0 : decode jdk_69_method_17_code 0 = .ok (.aload_n 0, 1) := by decide +kernel
theorem wd167 {a0 : Array Value} {Z : State} (hw : ∀ d ∈ tables_1, d.before a0 Z = true) : (Jvm.Cond.fieldLink "java/util/HashMap" (105 : Nat) "java/util/HashMap" "table" "[Ljava/util/HashMap$Node;").before a0 Z = true := hw _ (List.mem_of_getElem? (i := 167) rfl)
theorem d_jdk_69_m17_1 : decode jdk_69_method_17_code 1 = .ok (.getfield 105, 3) := by decide +kernel
theorem d_jdk_69_m17_4 : decode jdk_69_method_17_code 4 = .ok (.astore_n 1, 1) := by decide +kernel
theorem d_jdk_69_m17_5 : decode jdk_69_method_17_code 5 = .ok (.aload_n 1, 1) := by decide +kernel
theorem d_jdk_69_m17_6 : decode jdk_69_method_17_code 6 = .ok (.ifnonnull 7, 3) := by decide +kernel
theorem d_jdk_69_m17_9 : decode jdk_69_method_17_code 9 = .ok (.iconst 0, 1) := by decide +kernel
theorem d_jdk_69_m17_10 : decode jdk_69_method_17_code 10 = .ok (.goto 5, 3) := by decide +kernel
theorem d_jdk_69_m17_15 : decode jdk_69_method_17_code 15 = .ok (.istore_n 2, 1) := by decide +kernel
theorem d_jdk_69_m17_16 : decode jdk_69_method_17_code 16 = .ok (.aload_n 0, 1) := by decide +kernel
theorem wd174 {a0 : Array Value} {Z : State} (hw : ∀ d ∈ tables_1, d.before a0 Z = true) : (Jvm.Cond.fieldLink "java/util/HashMap" (88 : Nat) "java/util/HashMap" "threshold" "I").before a0 Z = true := hw _ (List.mem_of_getElem? (i := 174) rfl)
theorem d_jdk_69_m17_17 : decode jdk_69_method_17_code 17 = .ok (.getfield 88, 3) := by decide +kernel
theorem d_jdk_69_m17_20 : decode jdk_69_method_17_code 20 = .ok (.istore_n 3, 1) := by decide +kernel
theorem d_jdk_69_m17_21 : decode jdk_69_method_17_code 21 = .ok (.iconst 0, 1) := by decide +kernel
theorem d_jdk_69_m17_22 : decode jdk_69_method_17_code 22 = .ok (.istore 5, 2) := by decide +kernel
theorem d_jdk_69_m17_24 : decode jdk_69_method_17_code 24 = .ok (.iload_n 2, 1) := by decide +kernel
theorem d_jdk_69_m17_25 : decode jdk_69_method_17_code 25 = .ok (.ifCond .le 42, 3) := by decide +kernel
theorem d_jdk_69_m17_67 : decode jdk_69_method_17_code 67 = .ok (.iload_n 3, 1) := by decide +kernel
theorem d_jdk_69_m17_68 : decode jdk_69_method_17_code 68 = .ok (.ifCond .le 9, 3) := by decide +kernel
theorem d_jdk_69_m17_77 : decode jdk_69_method_17_code 77 = .ok (.bipush 16, 2) := by decide +kernel
theorem d_jdk_69_m17_79 : decode jdk_69_method_17_code 79 = .ok (.istore 4, 2) := by decide +kernel
theorem d_jdk_69_m17_81 : decode jdk_69_method_17_code 81 = .ok (.bipush 12, 2) := by decide +kernel
theorem d_jdk_69_m17_83 : decode jdk_69_method_17_code 83 = .ok (.istore 5, 2) := by decide +kernel
theorem d_jdk_69_m17_85 : decode jdk_69_method_17_code 85 = .ok (.iload 5, 2) := by decide +kernel
theorem d_jdk_69_m17_87 : decode jdk_69_method_17_code 87 = .ok (.ifCond .ne 38, 3) := by decide +kernel
theorem d_jdk_69_m17_125 : decode jdk_69_method_17_code 125 = .ok (.aload_n 0, 1) := by decide +kernel
theorem d_jdk_69_m17_126 : decode jdk_69_method_17_code 126 = .ok (.iload 5, 2) := by decide +kernel
theorem d_jdk_69_m17_128 : decode jdk_69_method_17_code 128 = .ok (.putfield 88, 3) := by decide +kernel
theorem d_jdk_69_m17_131 : decode jdk_69_method_17_code 131 = .ok (.iload 4, 2) := by decide +kernel
theorem d_jdk_69_m17_133 : decode jdk_69_method_17_code 133 = .ok (.anewarray 163, 3) := by decide +kernel
theorem wd176 {a0 : Array Value} {Z : State} (hw : ∀ d ∈ tables_1, d.before a0 Z = true) : (Jvm.Cond.classLink "java/util/HashMap" (163 : Nat) "java/util/HashMap$Node").before a0 Z = true := hw _ (List.mem_of_getElem? (i := 176) rfl)
theorem wd177 {a0 : Array Value} {Z : State} (hw : ∀ d ∈ tables_1, d.before a0 Z = true) : (Jvm.Cond.arrayOver (Jvm.ClassFile.FieldType.object "java/util/HashMap$Node")).before a0 Z = true := hw _ (List.mem_of_getElem? (i := 177) rfl)
theorem d_jdk_69_m17_136 : decode jdk_69_method_17_code 136 = .ok (.astore 6, 2) := by decide +kernel
theorem d_jdk_69_m17_138 : decode jdk_69_method_17_code 138 = .ok (.aload_n 0, 1) := by decide +kernel
theorem d_jdk_69_m17_139 : decode jdk_69_method_17_code 139 = .ok (.aload 6, 2) := by decide +kernel
theorem d_jdk_69_m17_141 : decode jdk_69_method_17_code 141 = .ok (.putfield 105, 3) := by decide +kernel
theorem d_jdk_69_m17_144 : decode jdk_69_method_17_code 144 = .ok (.aload_n 1, 1) := by decide +kernel
theorem d_jdk_69_m17_145 : decode jdk_69_method_17_code 145 = .ok (.ifnull 208, 3) := by decide +kernel
theorem d_jdk_69_m17_353 : decode jdk_69_method_17_code 353 = .ok (.aload 6, 2) := by decide +kernel
theorem own_wr_size {h h' : Heap} {a : Addr} {sl : Nat} {v : Value} (W : Wr h h' a sl v) : h'.size = h.size := by
  obtain ⟨cell, -, -, -, e⟩ := W
  rw [e, Array.size_setIfInBounds]
theorem d_jdk_69_m17_355 : decode jdk_69_method_17_code 355 = .ok (.areturn, 1) := by decide +kernel
set_option maxRecDepth 65536 in
set_option maxHeartbeats 40000000 in
theorem rm_resize {l : Launch} {Z : State} {a0 : Array Value} (hw : ∀ d ∈ tables_1, d.before a0 Z = true) (hs : ∀ d ∈ jdkStatics_1, d.before a0 Z = true) {x : Addr} {h0 : Heap} (O0 : Ext Z.heap h0) (E : Exa Z h0 x "java/util/LinkedHashMap") (Ftable : Fld Z h0 x "java/util/HashMap" "table" "[Ljava/util/HashMap$Node;" .null) (Fthreshold : Fld Z h0 x "java/util/HashMap" "threshold" "I" (.int 0)) (Fsize : Fld Z h0 x "java/util/HashMap" "size" "I" (.int 0)) (FmodCount : Fld Z h0 x "java/util/HashMap" "modCount" "I" (.int 0)) (Fhead : Fld Z h0 x "java/util/LinkedHashMap" "head" "Ljava/util/LinkedHashMap$Entry;" .null) (Ftail : Fld Z h0 x "java/util/LinkedHashMap" "tail" "Ljava/util/LinkedHashMap$Entry;" .null) (FputMode : Fld Z h0 x "java/util/LinkedHashMap" "putMode" "I" (.int 0)) (FaccessOrder : Fld Z h0 x "java/util/LinkedHashMap" "accessOrder" "Z" (.int 0)) (gx : Z.heap.size ≤ x) :
    own_Ct l Z (⟨"java/util/HashMap", "resize", "()[Ljava/util/HashMap$Node;"⟩ : MethodName) jdk_69_method_17_code 14 (some (.array (.object "java/util/HashMap$Node"))) [] ({ frames := 0, locals := 0, cells := 1, slots := 16 } : Room) #[(.ref x)] h0 (fun v h => ∃ (tb : Addr) (kt : ClassId), v = some (.ref tb) ∧ tb = h0.size ∧ Keep h0 h [x] ∧ Exa Z h x "java/util/LinkedHashMap" ∧ Fld Z h x "java/util/HashMap" "table" "[Ljava/util/HashMap$Node;" (.ref tb) ∧ Fld Z h x "java/util/HashMap" "threshold" "I" (.int 12) ∧ Fld Z h x "java/util/HashMap" "size" "I" (.int 0) ∧ Fld Z h x "java/util/HashMap" "modCount" "I" (.int 0) ∧ Fld Z h x "java/util/LinkedHashMap" "head" "Ljava/util/LinkedHashMap$Entry;" .null ∧ Fld Z h x "java/util/LinkedHashMap" "tail" "Ljava/util/LinkedHashMap$Entry;" .null ∧ Fld Z h x "java/util/LinkedHashMap" "putMode" "I" (.int 0) ∧ Fld Z h x "java/util/LinkedHashMap" "accessOrder" "Z" (.int 0) ∧ Arv Z h tb kt (.object "java/util/HashMap$Node") 16 [] .null ∧ Ovr Z kt "java/util/HashMap$Node") := by
  refine own_body (Ls := #[.val (.ref x), .unset, .unset, .unset, .unset, .unset, .unset, .unset, .unset, .unset, .unset, .unset, .unset, .unset]) (plainFor_of_name pn_java_util_HashMap) (fun m => by first | (simp [entryFrame, mkF, argsToLocals, Value.category]; done) | rfl) O0 ?_
  intro p e s m below meth c T0 G K0
  refine own_aloadN K0 d_jdk_69_m17_0 rfl rfl rfl ?_
  refine own_getF K0 (host := "") (Or.inl (wd167 hw)) Via.refl Ftable d_jdk_69_m17_1 rfl ?_
  intro T102 K102
  refine own_astoreN K102 (Ls' := #[.val (.ref x), .val .null, .unset, .unset, .unset, .unset, .unset, .unset, .unset, .unset, .unset, .unset, .unset, .unset]) d_jdk_69_m17_4 rfl rfl rfl ?_
  refine own_aloadN K102 d_jdk_69_m17_5 rfl rfl rfl ?_
  refine own_ifnonnullNo K102 d_jdk_69_m17_6 rfl ?_
  refine own_iconst K102 (v := (0 : Int32)) d_jdk_69_m17_9 rfl rfl ?_
  refine own_goto K102 d_jdk_69_m17_10 (pc' := 15) (by decide) (by decide) ?_
  refine own_istoreN K102 (Ls' := #[.val (.ref x), .val .null, .val (.int (0 : Int32)), .unset, .unset, .unset, .unset, .unset, .unset, .unset, .unset, .unset, .unset, .unset]) d_jdk_69_m17_15 rfl rfl ?_
  refine own_aloadN K102 d_jdk_69_m17_16 rfl rfl rfl ?_
  refine own_getF K102 (host := "") (Or.inl (wd174 hw)) Via.refl Fthreshold d_jdk_69_m17_17 rfl ?_
  intro T103 K103
  refine own_istoreN K103 (Ls' := #[.val (.ref x), .val .null, .val (.int (0 : Int32)), .val (.int (0 : Int32)), .unset, .unset, .unset, .unset, .unset, .unset, .unset, .unset, .unset, .unset]) d_jdk_69_m17_20 rfl rfl ?_
  refine own_iconst K103 (v := (0 : Int32)) d_jdk_69_m17_21 rfl rfl ?_
  refine own_istore K103 (Ls' := #[.val (.ref x), .val .null, .val (.int (0 : Int32)), .val (.int (0 : Int32)), .unset, .val (.int (0 : Int32)), .unset, .unset, .unset, .unset, .unset, .unset, .unset, .unset]) d_jdk_69_m17_22 rfl rfl ?_
  refine own_iloadN K103 d_jdk_69_m17_24 rfl rfl ?_
  refine own_ifYes K103 d_jdk_69_m17_25 (pc' := 67) (by decide) (by decide) ((if0 _ _).trans (flt (by decide)).2.2.2) ?_
  refine own_iloadN K103 d_jdk_69_m17_67 rfl rfl ?_
  refine own_ifYes K103 d_jdk_69_m17_68 (pc' := 77) (by decide) (by decide) ((if0 _ _).trans (flt (by decide)).2.2.2) ?_
  refine own_bipush K103 (v := (16 : Int32)) d_jdk_69_m17_77 rfl rfl ?_
  refine own_istore K103 (Ls' := #[.val (.ref x), .val .null, .val (.int (0 : Int32)), .val (.int (0 : Int32)), .val (.int (16 : Int32)), .val (.int (0 : Int32)), .unset, .unset, .unset, .unset, .unset, .unset, .unset, .unset]) d_jdk_69_m17_79 rfl rfl ?_
  refine own_bipush K103 (v := (12 : Int32)) d_jdk_69_m17_81 rfl rfl ?_
  refine own_istore K103 (Ls' := #[.val (.ref x), .val .null, .val (.int (0 : Int32)), .val (.int (0 : Int32)), .val (.int (16 : Int32)), .val (.int (12 : Int32)), .unset, .unset, .unset, .unset, .unset, .unset, .unset, .unset]) d_jdk_69_m17_83 rfl rfl ?_
  refine own_iload K103 d_jdk_69_m17_85 rfl rfl ?_
  refine own_ifYes K103 d_jdk_69_m17_87 (pc' := 125) (by decide) (by decide) ((if0 _ _).trans (feq (by decide)).2) ?_
  refine own_aloadN K103 d_jdk_69_m17_125 rfl rfl rfl ?_
  refine own_iload K103 d_jdk_69_m17_126 rfl rfl ?_
  refine own_putF K103 (host := "") (Or.inl (wd174 hw)) Via.refl Fthreshold E (Or.inl (wd175 hw)) (wd58 hw) (ty := .int) (by decide) rfl rfl gx d_jdk_69_m17_128 rfl ?_
  intro T104 h104 K104 W104
  have table_105 := Ftable.other W104 (Or.inr (slot_ne (Or.inl (wd168 hw)) (Or.inl (wd175 hw)) (by decide) (t := (.array (.object "java/util/HashMap$Node"))) (t' := .int) (by decide) (by decide)))
  have threshold_105 := Fthreshold.same W104
  have size_105 := Fsize.other W104 (Or.inr (slot_ne (Or.inl (wd218 hw)) (Or.inl (wd175 hw)) (by decide) (t := .int) (t' := .int) (by decide) (by decide)))
  have modCount_105 := FmodCount.other W104 (Or.inr (slot_ne (Or.inl (wd216 hw)) (Or.inl (wd175 hw)) (by decide) (t := .int) (t' := .int) (by decide) (by decide)))
  have head_105 := Fhead.other W104 (Or.inr (slot_ne (Or.inl (wd214 hw)) (Or.inl (wd175 hw)) (by decide) (t := (.object "java/util/LinkedHashMap$Entry")) (t' := .int) (by decide) (by decide)))
  have tail_105 := Ftail.other W104 (Or.inr (slot_ne (Or.inl (wd212 hw)) (Or.inl (wd175 hw)) (by decide) (t := (.object "java/util/LinkedHashMap$Entry")) (t' := .int) (by decide) (by decide)))
  have putMode_105 := FputMode.other W104 (Or.inr (slot_ne (Or.inl (wd80 hw)) (Or.inl (wd175 hw)) (by decide) (t := .int) (t' := .int) (by decide) (by decide)))
  have accessOrder_105 := FaccessOrder.other W104 (Or.inr (slot_ne (Or.inr (wd82 hw)) (Or.inl (wd175 hw)) (by decide) (t := .boolean) (t' := .int) (by decide) (by decide)))
  have Eo_105 := E.wr W104
  refine own_iload K104 d_jdk_69_m17_131 rfl rfl ?_
  refine own_newR K104 (wd176 hw) (wd177 hw) d_jdk_69_m17_133 (by decide) (cap := 16) (by decide) (by decide) (by decide) (by decide) rfl ?_
  intro T106 h106 a106 c106 K106 g106 E106 V106 Ov106
  refine own_astore K106 (Ls' := #[.val (.ref x), .val .null, .val (.int (0 : Int32)), .val (.int (0 : Int32)), .val (.int (16 : Int32)), .val (.int (12 : Int32)), .val (.ref a106), .unset, .unset, .unset, .unset, .unset, .unset, .unset]) d_jdk_69_m17_136 rfl rfl rfl ?_
  refine own_aloadN K106 d_jdk_69_m17_138 rfl rfl rfl ?_
  refine own_aload K106 d_jdk_69_m17_139 rfl rfl rfl ?_
  have hne : a106 ≠ x := Nat.ne_of_gt (Nat.lt_of_lt_of_le Eo_105.lt (Nat.le_of_eq g106.symm))
  have gt : a106 = h0.size := by rw [g106]; exact own_wr_size W104
  have table_107 := table_105.ext E106
  have threshold_107 := threshold_105.ext E106
  have size_107 := size_105.ext E106
  have modCount_107 := modCount_105.ext E106
  have head_107 := head_105.ext E106
  have tail_107 := tail_105.ext E106
  have putMode_107 := putMode_105.ext E106
  have accessOrder_107 := accessOrder_105.ext E106
  have Eo_107 := Eo_105.ext E106
  refine own_putF K106 (host := "") (Or.inl (wd167 hw)) Via.refl table_107 Eo_107 (Or.inl (wd168 hw)) (wd58 hw) (ty := (.array (.object "java/util/HashMap$Node"))) (by decide) rfl rfl gx d_jdk_69_m17_141 rfl ?_
  intro T108 h108 K108 W108
  have table_109 := table_107.same W108
  have threshold_109 := threshold_107.other W108 (Or.inr (slot_ne (Or.inl (wd175 hw)) (Or.inl (wd168 hw)) (by decide) (t := .int) (t' := (.array (.object "java/util/HashMap$Node"))) (by decide) (by decide)))
  have size_109 := size_107.other W108 (Or.inr (slot_ne (Or.inl (wd218 hw)) (Or.inl (wd168 hw)) (by decide) (t := .int) (t' := (.array (.object "java/util/HashMap$Node"))) (by decide) (by decide)))
  have modCount_109 := modCount_107.other W108 (Or.inr (slot_ne (Or.inl (wd216 hw)) (Or.inl (wd168 hw)) (by decide) (t := .int) (t' := (.array (.object "java/util/HashMap$Node"))) (by decide) (by decide)))
  have head_109 := head_107.other W108 (Or.inr (slot_ne (Or.inl (wd214 hw)) (Or.inl (wd168 hw)) (by decide) (t := (.object "java/util/LinkedHashMap$Entry")) (t' := (.array (.object "java/util/HashMap$Node"))) (by decide) (by decide)))
  have tail_109 := tail_107.other W108 (Or.inr (slot_ne (Or.inl (wd212 hw)) (Or.inl (wd168 hw)) (by decide) (t := (.object "java/util/LinkedHashMap$Entry")) (t' := (.array (.object "java/util/HashMap$Node"))) (by decide) (by decide)))
  have putMode_109 := putMode_107.other W108 (Or.inr (slot_ne (Or.inl (wd80 hw)) (Or.inl (wd168 hw)) (by decide) (t := .int) (t' := (.array (.object "java/util/HashMap$Node"))) (by decide) (by decide)))
  have accessOrder_109 := accessOrder_107.other W108 (Or.inr (slot_ne (Or.inr (wd82 hw)) (Or.inl (wd168 hw)) (by decide) (t := .boolean) (t' := (.array (.object "java/util/HashMap$Node"))) (by decide) (by decide)))
  have Eo_109 := Eo_107.wr W108
  refine own_aloadN K108 d_jdk_69_m17_144 rfl rfl rfl ?_
  refine own_ifnullYes K108 d_jdk_69_m17_145 (pc' := 353) (by decide) (by decide) ?_
  refine own_aload K108 d_jdk_69_m17_353 rfl rfl rfl ?_
  exact own_retA K108 d_jdk_69_m17_355 rfl rfl rfl rfl (by decide) (by decide) ⟨a106, c106, rfl, gt, (((Keep.refl h0 [x]).wr W104 (Or.inl (List.mem_singleton.mpr rfl))).ext E106).wr W108 (Or.inl (List.mem_singleton.mpr rfl)), Eo_109, table_109, threshold_109, size_109, modCount_109, head_109, tail_109, putMode_109, accessOrder_109, V106.other W108 hne, Ov106⟩
theorem d_jdk_70_m1_0 : decode jdk_70_method_1_code 0 = .ok (.aload_n 0, 1) := by decide +kernel
theorem d_jdk_70_m1_1 : decode jdk_70_method_1_code 1 = .ok (.invokespecial 1, 3) := by decide +kernel
theorem wd197 {a0 : Array Value} {Z : State} (hw : ∀ d ∈ tables_1, d.before a0 Z = true) : (Jvm.Cond.methodLink "java/util/HashMap$Node" (1 : Nat) ({ cls := "java/lang/Object", name := "<init>", desc := "()V" } : Jvm.MethodName)).before a0 Z = true := hw _ (List.mem_of_getElem? (i := 197) rfl)
theorem d_jdk_70_m1_4 : decode jdk_70_method_1_code 4 = .ok (.aload_n 0, 1) := by decide +kernel
theorem d_jdk_70_m1_5 : decode jdk_70_method_1_code 5 = .ok (.iload_n 1, 1) := by decide +kernel
theorem wd198 {a0 : Array Value} {Z : State} (hw : ∀ d ∈ tables_1, d.before a0 Z = true) : (Jvm.Cond.fieldLink "java/util/HashMap$Node" (7 : Nat) "java/util/HashMap$Node" "hash" "I").before a0 Z = true := hw _ (List.mem_of_getElem? (i := 198) rfl)
theorem wd199 {a0 : Array Value} {Z : State} (hw : ∀ d ∈ tables_1, d.before a0 Z = true) : (Jvm.Cond.laysFinal "java/util/LinkedHashMap$Entry" "java/util/HashMap$Node" "hash" "I").before a0 Z = true := hw _ (List.mem_of_getElem? (i := 199) rfl)
theorem d_jdk_70_m1_6 : decode jdk_70_method_1_code 6 = .ok (.putfield 7, 3) := by decide +kernel
theorem wd185 {a0 : Array Value} {Z : State} (hw : ∀ d ∈ tables_1, d.before a0 Z = true) : (Jvm.Cond.instantiable "java/util/LinkedHashMap$Entry" (6 : Nat)).before a0 Z = true := hw _ (List.mem_of_getElem? (i := 185) rfl)
theorem wd201 {a0 : Array Value} {Z : State} (hw : ∀ d ∈ tables_1, d.before a0 Z = true) : (Jvm.Cond.laysFinal "java/util/LinkedHashMap$Entry" "java/util/HashMap$Node" "key" "Ljava/lang/Object;").before a0 Z = true := hw _ (List.mem_of_getElem? (i := 201) rfl)
theorem wd203 {a0 : Array Value} {Z : State} (hw : ∀ d ∈ tables_1, d.before a0 Z = true) : (Jvm.Cond.lays "java/util/LinkedHashMap$Entry" "java/util/HashMap$Node" "value" "Ljava/lang/Object;").before a0 Z = true := hw _ (List.mem_of_getElem? (i := 203) rfl)
theorem wd205 {a0 : Array Value} {Z : State} (hw : ∀ d ∈ tables_1, d.before a0 Z = true) : (Jvm.Cond.lays "java/util/LinkedHashMap$Entry" "java/util/HashMap$Node" "next" "Ljava/util/HashMap$Node;").before a0 Z = true := hw _ (List.mem_of_getElem? (i := 205) rfl)
theorem d_jdk_70_m1_9 : decode jdk_70_method_1_code 9 = .ok (.aload_n 0, 1) := by decide +kernel
theorem d_jdk_70_m1_10 : decode jdk_70_method_1_code 10 = .ok (.aload_n 2, 1) := by decide +kernel
theorem wd200 {a0 : Array Value} {Z : State} (hw : ∀ d ∈ tables_1, d.before a0 Z = true) : (Jvm.Cond.fieldLink "java/util/HashMap$Node" (13 : Nat) "java/util/HashMap$Node" "key" "Ljava/lang/Object;").before a0 Z = true := hw _ (List.mem_of_getElem? (i := 200) rfl)
theorem d_jdk_70_m1_11 : decode jdk_70_method_1_code 11 = .ok (.putfield 13, 3) := by decide +kernel
theorem d_jdk_70_m1_14 : decode jdk_70_method_1_code 14 = .ok (.aload_n 0, 1) := by decide +kernel
theorem d_jdk_70_m1_15 : decode jdk_70_method_1_code 15 = .ok (.aload_n 3, 1) := by decide +kernel
theorem wd202 {a0 : Array Value} {Z : State} (hw : ∀ d ∈ tables_1, d.before a0 Z = true) : (Jvm.Cond.fieldLink "java/util/HashMap$Node" (17 : Nat) "java/util/HashMap$Node" "value" "Ljava/lang/Object;").before a0 Z = true := hw _ (List.mem_of_getElem? (i := 202) rfl)
theorem d_jdk_70_m1_16 : decode jdk_70_method_1_code 16 = .ok (.putfield 17, 3) := by decide +kernel
theorem d_jdk_70_m1_19 : decode jdk_70_method_1_code 19 = .ok (.aload_n 0, 1) := by decide +kernel
theorem d_jdk_70_m1_20 : decode jdk_70_method_1_code 20 = .ok (.aload 4, 2) := by decide +kernel
theorem wd204 {a0 : Array Value} {Z : State} (hw : ∀ d ∈ tables_1, d.before a0 Z = true) : (Jvm.Cond.fieldLink "java/util/HashMap$Node" (20 : Nat) "java/util/HashMap$Node" "next" "Ljava/util/HashMap$Node;").before a0 Z = true := hw _ (List.mem_of_getElem? (i := 204) rfl)
theorem d_jdk_70_m1_22 : decode jdk_70_method_1_code 22 = .ok (.putfield 20, 3) := by decide +kernel
theorem d_jdk_70_m1_25 : decode jdk_70_method_1_code 25 = .ok (.return_, 1) := by decide +kernel
theorem pn_java_util_HashMap_Node : plainName "java/util/HashMap$Node" = true := by first | (simp [plainName, overriddenIn]; done) | decide +kernel
set_option maxRecDepth 65536 in
set_option maxHeartbeats 40000000 in
theorem rm_node {l : Launch} {Z : State} {a0 : Array Value} (hw : ∀ d ∈ tables_1, d.before a0 Z = true) (hs : ∀ d ∈ jdkStatics_1, d.before a0 Z = true) {x : Addr} {hs' : Int32} {ky : Addr} {vl : Addr} {h0 : Heap} (O0 : Ext Z.heap h0) (E : Exa Z h0 x "java/util/LinkedHashMap$Entry") (Fhash : Fld Z h0 x "java/util/HashMap$Node" "hash" "I" (.int 0)) (Fkey : Fld Z h0 x "java/util/HashMap$Node" "key" "Ljava/lang/Object;" .null) (Fvalue : Fld Z h0 x "java/util/HashMap$Node" "value" "Ljava/lang/Object;" .null) (Fnext : Fld Z h0 x "java/util/HashMap$Node" "next" "Ljava/util/HashMap$Node;" .null) (gx : Z.heap.size ≤ x) :
    own_Ct l Z (⟨"java/util/HashMap$Node", "<init>", "(ILjava/lang/Object;Ljava/lang/Object;Ljava/util/HashMap$Node;)V"⟩ : MethodName) jdk_70_method_1_code 5 none [] ({ frames := 1, locals := 12, cells := 0, slots := 0 } : Room) #[(.ref x), (.int hs'), (.ref ky), (.ref vl), .null] h0 (fun v h => v = none ∧ Keep h0 h [x] ∧ Exa Z h x "java/util/LinkedHashMap$Entry" ∧ Fld Z h x "java/util/HashMap$Node" "hash" "I" (.int hs') ∧ Fld Z h x "java/util/HashMap$Node" "key" "Ljava/lang/Object;" (.ref ky) ∧ Fld Z h x "java/util/HashMap$Node" "value" "Ljava/lang/Object;" (.ref vl) ∧ Fld Z h x "java/util/HashMap$Node" "next" "Ljava/util/HashMap$Node;" .null) := by
  refine own_body (Ls := #[.val (.ref x), .val (.int hs'), .val (.ref ky), .val (.ref vl), .val .null]) (plainFor_of_name pn_java_util_HashMap_Node) (fun m => by first | (simp [entryFrame, mkF, argsToLocals, Value.category]; done) | rfl) O0 ?_
  intro p e s m below meth c T0 G K0
  refine own_aloadN K0 d_jdk_70_m1_0 rfl rfl rfl ?_
  refine own_initO K0 (W := 0) (wd197 hw) (wd18 hw) (wd19 hw) rfl rfl (by decide) (by decide) d_jdk_70_m1_1 rfl ?_
  intro T110 K110
  refine own_aloadN K110 d_jdk_70_m1_4 rfl rfl rfl ?_
  refine own_iloadN K110 d_jdk_70_m1_5 rfl rfl ?_
  refine own_putF K110 (host := "") (Or.inl (wd198 hw)) Via.refl Fhash E (Or.inr ⟨(wd199 hw), rfl, rfl⟩) (wd185 hw) (ty := .int) (by decide) rfl rfl gx d_jdk_70_m1_6 rfl ?_
  intro T111 h111 K111 W111
  have hash_112 := Fhash.same W111
  have key_112 := Fkey.other W111 (Or.inr (slot_ne (Or.inr (wd201 hw)) (Or.inr (wd199 hw)) (by decide) (t := (.object "java/lang/Object")) (t' := .int) (by decide) (by decide)))
  have value_112 := Fvalue.other W111 (Or.inr (slot_ne (Or.inl (wd203 hw)) (Or.inr (wd199 hw)) (by decide) (t := (.object "java/lang/Object")) (t' := .int) (by decide) (by decide)))
  have next_112 := Fnext.other W111 (Or.inr (slot_ne (Or.inl (wd205 hw)) (Or.inr (wd199 hw)) (by decide) (t := (.object "java/util/HashMap$Node")) (t' := .int) (by decide) (by decide)))
  have Eo_112 := E.wr W111
  refine own_aloadN K111 d_jdk_70_m1_9 rfl rfl rfl ?_
  refine own_aloadN K111 d_jdk_70_m1_10 rfl rfl rfl ?_
  refine own_putF K111 (host := "") (Or.inl (wd200 hw)) Via.refl key_112 Eo_112 (Or.inr ⟨(wd201 hw), rfl, rfl⟩) (wd185 hw) (ty := (.object "java/lang/Object")) (by decide) rfl rfl gx d_jdk_70_m1_11 rfl ?_
  intro T113 h113 K113 W113
  have hash_114 := hash_112.other W113 (Or.inr (slot_ne (Or.inr (wd199 hw)) (Or.inr (wd201 hw)) (by decide) (t := .int) (t' := (.object "java/lang/Object")) (by decide) (by decide)))
  have key_114 := key_112.same W113
  have value_114 := value_112.other W113 (Or.inr (slot_ne (Or.inl (wd203 hw)) (Or.inr (wd201 hw)) (by decide) (t := (.object "java/lang/Object")) (t' := (.object "java/lang/Object")) (by decide) (by decide)))
  have next_114 := next_112.other W113 (Or.inr (slot_ne (Or.inl (wd205 hw)) (Or.inr (wd201 hw)) (by decide) (t := (.object "java/util/HashMap$Node")) (t' := (.object "java/lang/Object")) (by decide) (by decide)))
  have Eo_114 := Eo_112.wr W113
  refine own_aloadN K113 d_jdk_70_m1_14 rfl rfl rfl ?_
  refine own_aloadN K113 d_jdk_70_m1_15 rfl rfl rfl ?_
  refine own_putF K113 (host := "") (Or.inl (wd202 hw)) Via.refl value_114 Eo_114 (Or.inl (wd203 hw)) (wd185 hw) (ty := (.object "java/lang/Object")) (by decide) rfl rfl gx d_jdk_70_m1_16 rfl ?_
  intro T115 h115 K115 W115
  have hash_116 := hash_114.other W115 (Or.inr (slot_ne (Or.inr (wd199 hw)) (Or.inl (wd203 hw)) (by decide) (t := .int) (t' := (.object "java/lang/Object")) (by decide) (by decide)))
  have key_116 := key_114.other W115 (Or.inr (slot_ne (Or.inr (wd201 hw)) (Or.inl (wd203 hw)) (by decide) (t := (.object "java/lang/Object")) (t' := (.object "java/lang/Object")) (by decide) (by decide)))
  have value_116 := value_114.same W115
  have next_116 := next_114.other W115 (Or.inr (slot_ne (Or.inl (wd205 hw)) (Or.inl (wd203 hw)) (by decide) (t := (.object "java/util/HashMap$Node")) (t' := (.object "java/lang/Object")) (by decide) (by decide)))
  have Eo_116 := Eo_114.wr W115
  refine own_aloadN K115 d_jdk_70_m1_19 rfl rfl rfl ?_
  refine own_aload K115 d_jdk_70_m1_20 rfl rfl rfl ?_
  refine own_putF K115 (host := "") (Or.inl (wd204 hw)) Via.refl next_116 Eo_116 (Or.inl (wd205 hw)) (wd185 hw) (ty := (.object "java/util/HashMap$Node")) (by decide) rfl rfl gx d_jdk_70_m1_22 rfl ?_
  intro T117 h117 K117 W117
  have hash_118 := hash_116.other W117 (Or.inr (slot_ne (Or.inr (wd199 hw)) (Or.inl (wd205 hw)) (by decide) (t := .int) (t' := (.object "java/util/HashMap$Node")) (by decide) (by decide)))
  have key_118 := key_116.other W117 (Or.inr (slot_ne (Or.inr (wd201 hw)) (Or.inl (wd205 hw)) (by decide) (t := (.object "java/lang/Object")) (t' := (.object "java/util/HashMap$Node")) (by decide) (by decide)))
  have value_118 := value_116.other W117 (Or.inr (slot_ne (Or.inl (wd203 hw)) (Or.inl (wd205 hw)) (by decide) (t := (.object "java/lang/Object")) (t' := (.object "java/util/HashMap$Node")) (by decide) (by decide)))
  have next_118 := next_116.same W117
  have Eo_118 := Eo_116.wr W117
  exact own_ret0 K117 d_jdk_70_m1_25 rfl (by decide) (by decide) ⟨rfl, (((((Keep.refl h0 [x]).wr W111 (Or.inl (List.mem_singleton.mpr rfl))).wr W113 (Or.inl (List.mem_singleton.mpr rfl))).wr W115 (Or.inl (List.mem_singleton.mpr rfl))).wr W117 (Or.inl (List.mem_singleton.mpr rfl))), Eo_118, hash_118, key_118, value_118, next_118⟩
theorem d_jdk_83_m1_0 : decode jdk_83_method_1_code 0 = .ok (.aload_n 0, 1) := by decide +kernel
theorem d_jdk_83_m1_1 : decode jdk_83_method_1_code 1 = .ok (.iload_n 1, 1) := by decide +kernel
theorem d_jdk_83_m1_2 : decode jdk_83_method_1_code 2 = .ok (.aload_n 2, 1) := by decide +kernel
theorem d_jdk_83_m1_3 : decode jdk_83_method_1_code 3 = .ok (.aload_n 3, 1) := by decide +kernel
theorem d_jdk_83_m1_4 : decode jdk_83_method_1_code 4 = .ok (.aload 4, 2) := by decide +kernel
theorem d_jdk_83_m1_6 : decode jdk_83_method_1_code 6 = .ok (.invokespecial 1, 3) := by decide +kernel
theorem wd196 {a0 : Array Value} {Z : State} (hw : ∀ d ∈ tables_1, d.before a0 Z = true) : (Jvm.Cond.code ({ cls := "java/util/HashMap$Node", name := "<init>", desc := "(ILjava/lang/Object;Ljava/lang/Object;Ljava/util/HashMap$Node;)V" } : Jvm.MethodName) jdk_70_method_1_code (5 : Nat) (Option.none : Option Jvm.ClassFile.FieldType)).before a0 Z = true := hw _ (List.mem_of_getElem? (i := 196) rfl)
theorem wd195 {a0 : Array Value} {Z : State} (hw : ∀ d ∈ tables_1, d.before a0 Z = true) : (Jvm.Cond.initialized "java/util/HashMap$Node").before a0 Z = true := hw _ (List.mem_of_getElem? (i := 195) rfl)
theorem pd_28ILjava2flang2fObject3bLjava2flang2fObject3bLjava2futil2fHashMap24Node3b29V : parseMethodDescriptor "(ILjava/lang/Object;Ljava/lang/Object;Ljava/util/HashMap$Node;)V" = some ⟨[.int, (.object "java/lang/Object"), (.object "java/lang/Object"), (.object "java/util/HashMap$Node")], none⟩ := by decide +kernel
theorem wd191 {a0 : Array Value} {Z : State} (hw : ∀ d ∈ tables_1, d.before a0 Z = true) : (Jvm.Cond.methodLink "java/util/LinkedHashMap$Entry" (1 : Nat) ({ cls := "java/util/HashMap$Node", name := "<init>", desc := "(ILjava/lang/Object;Ljava/lang/Object;Ljava/util/HashMap$Node;)V" } : Jvm.MethodName)).before a0 Z = true := hw _ (List.mem_of_getElem? (i := 191) rfl)
theorem wd192 {a0 : Array Value} {Z : State} (hw : ∀ d ∈ tables_1, d.before a0 Z = true) : (Jvm.Cond.instanceMethod ({ cls := "java/util/HashMap$Node", name := "<init>", desc := "(ILjava/lang/Object;Ljava/lang/Object;Ljava/util/HashMap$Node;)V" } : Jvm.MethodName)).before a0 Z = true := hw _ (List.mem_of_getElem? (i := 192) rfl)
theorem d_jdk_83_m1_9 : decode jdk_83_method_1_code 9 = .ok (.return_, 1) := by decide +kernel
theorem pn_java_util_LinkedHashMap_Entry : plainName "java/util/LinkedHashMap$Entry" = true := by first | (simp [plainName, overriddenIn]; done) | decide +kernel
set_option maxRecDepth 65536 in
set_option maxHeartbeats 40000000 in
theorem rm_entry {l : Launch} {Z : State} {a0 : Array Value} (hw : ∀ d ∈ tables_1, d.before a0 Z = true) (hs : ∀ d ∈ jdkStatics_1, d.before a0 Z = true) {x : Addr} {hs' : Int32} {ky : Addr} {vl : Addr} {h0 : Heap} (O0 : Ext Z.heap h0) (E : Exa Z h0 x "java/util/LinkedHashMap$Entry") (Fhash : Fld Z h0 x "java/util/HashMap$Node" "hash" "I" (.int 0)) (Fkey : Fld Z h0 x "java/util/HashMap$Node" "key" "Ljava/lang/Object;" .null) (Fvalue : Fld Z h0 x "java/util/HashMap$Node" "value" "Ljava/lang/Object;" .null) (Fnext : Fld Z h0 x "java/util/HashMap$Node" "next" "Ljava/util/HashMap$Node;" .null) (gx : Z.heap.size ≤ x) :
    own_Ct l Z (⟨"java/util/LinkedHashMap$Entry", "<init>", "(ILjava/lang/Object;Ljava/lang/Object;Ljava/util/HashMap$Node;)V"⟩ : MethodName) jdk_83_method_1_code 5 none [] ({ frames := 2, locals := 28, cells := 0, slots := 0 } : Room) #[(.ref x), (.int hs'), (.ref ky), (.ref vl), .null] h0 (fun v h => v = none ∧ Keep h0 h [x] ∧ Exa Z h x "java/util/LinkedHashMap$Entry" ∧ Fld Z h x "java/util/HashMap$Node" "hash" "I" (.int hs') ∧ Fld Z h x "java/util/HashMap$Node" "key" "Ljava/lang/Object;" (.ref ky) ∧ Fld Z h x "java/util/HashMap$Node" "value" "Ljava/lang/Object;" (.ref vl) ∧ Fld Z h x "java/util/HashMap$Node" "next" "Ljava/util/HashMap$Node;" .null) := by
  refine own_body (Ls := #[.val (.ref x), .val (.int hs'), .val (.ref ky), .val (.ref vl), .val .null]) (plainFor_of_name pn_java_util_LinkedHashMap_Entry) (fun m => by first | (simp [entryFrame, mkF, argsToLocals, Value.category]; done) | rfl) O0 ?_
  intro p e s m below meth c T0 G K0
  refine own_aloadN K0 d_jdk_83_m1_0 rfl rfl rfl ?_
  refine own_iloadN K0 d_jdk_83_m1_1 rfl rfl ?_
  refine own_aloadN K0 d_jdk_83_m1_2 rfl rfl rfl ?_
  refine own_aloadN K0 d_jdk_83_m1_3 rfl rfl rfl ?_
  refine own_aload K0 d_jdk_83_m1_4 rfl rfl rfl ?_
  refine own_callI K0 (a := x) (wd191 hw) (wd192 hw) (rm_node hw hs K0.O E Fhash Fkey Fvalue Fnext gx) (wd196 hw) (wd195 hw) (by decide) rfl (argsL := [(.int hs'), (.ref ky), (.ref vl), .null]) (rest := []) rfl pd_28ILjava2flang2fObject3bLjava2flang2fObject3bLjava2futil2fHashMap24Node3b29V rfl rfl (W := 0) rfl (by decide) (by decide) (by decide) (by decide) d_jdk_83_m1_6 rfl ?_
  intro T119 h119 L119 v119 K119 q119
  obtain ⟨rfl, q119⟩ := q119
  show G (T119.setTop (mkF m 9 #[.val (.ref x), .val (.int hs'), .val (.ref ky), .val (.ref vl), .val .null] []))
  exact own_ret0 K119 d_jdk_83_m1_9 rfl (by decide) (by decide) ⟨rfl, q119⟩
theorem d_jdk_94_m1_0 : decode jdk_94_method_1_code 0 = .ok (.aload_n 0, 1) := by decide +kernel
theorem d_jdk_94_m1_1 : decode jdk_94_method_1_code 1 = .ok (.getfield 1, 3) := by decide +kernel
theorem d_jdk_94_m1_4 : decode jdk_94_method_1_code 4 = .ok (.iconst 1, 1) := by decide +kernel
theorem d_jdk_94_m1_5 : decode jdk_94_method_1_code 5 = .ok (.if_icmp .ne 38, 3) := by decide +kernel
theorem d_jdk_94_m1_43 : decode jdk_94_method_1_code 43 = .ok (.aload_n 0, 1) := by decide +kernel
theorem wd211 {a0 : Array Value} {Z : State} (hw : ∀ d ∈ tables_1, d.before a0 Z = true) : (Jvm.Cond.fieldLink "java/util/LinkedHashMap" (11 : Nat) "java/util/LinkedHashMap" "tail" "Ljava/util/LinkedHashMap$Entry;").before a0 Z = true := hw _ (List.mem_of_getElem? (i := 211) rfl)
theorem d_jdk_94_m1_44 : decode jdk_94_method_1_code 44 = .ok (.getfield 11, 3) := by decide +kernel
theorem d_jdk_94_m1_47 : decode jdk_94_method_1_code 47 = .ok (.astore_n 2, 1) := by decide +kernel
theorem d_jdk_94_m1_48 : decode jdk_94_method_1_code 48 = .ok (.aload_n 0, 1) := by decide +kernel
theorem d_jdk_94_m1_49 : decode jdk_94_method_1_code 49 = .ok (.aload_n 1, 1) := by decide +kernel
theorem d_jdk_94_m1_50 : decode jdk_94_method_1_code 50 = .ok (.putfield 11, 3) := by decide +kernel
theorem d_jdk_94_m1_53 : decode jdk_94_method_1_code 53 = .ok (.aload_n 2, 1) := by decide +kernel
theorem d_jdk_94_m1_54 : decode jdk_94_method_1_code 54 = .ok (.ifnonnull 11, 3) := by decide +kernel
theorem d_jdk_94_m1_57 : decode jdk_94_method_1_code 57 = .ok (.aload_n 0, 1) := by decide +kernel
theorem d_jdk_94_m1_58 : decode jdk_94_method_1_code 58 = .ok (.aload_n 1, 1) := by decide +kernel
theorem wd213 {a0 : Array Value} {Z : State} (hw : ∀ d ∈ tables_1, d.before a0 Z = true) : (Jvm.Cond.fieldLink "java/util/LinkedHashMap" (7 : Nat) "java/util/LinkedHashMap" "head" "Ljava/util/LinkedHashMap$Entry;").before a0 Z = true := hw _ (List.mem_of_getElem? (i := 213) rfl)
theorem d_jdk_94_m1_59 : decode jdk_94_method_1_code 59 = .ok (.putfield 7, 3) := by decide +kernel
theorem d_jdk_94_m1_62 : decode jdk_94_method_1_code 62 = .ok (.goto 13, 3) := by decide +kernel
theorem d_jdk_94_m1_75 : decode jdk_94_method_1_code 75 = .ok (.return_, 1) := by decide +kernel
set_option maxRecDepth 65536 in
set_option maxHeartbeats 40000000 in
theorem rm_link {l : Launch} {Z : State} {a0 : Array Value} (hw : ∀ d ∈ tables_1, d.before a0 Z = true) (hs : ∀ d ∈ jdkStatics_1, d.before a0 Z = true) {x : Addr} {nd : Addr} {tb : Addr} {h0 : Heap} (O0 : Ext Z.heap h0) (E : Exa Z h0 x "java/util/LinkedHashMap") (Ftable : Fld Z h0 x "java/util/HashMap" "table" "[Ljava/util/HashMap$Node;" (.ref tb)) (Fthreshold : Fld Z h0 x "java/util/HashMap" "threshold" "I" (.int 12)) (Fsize : Fld Z h0 x "java/util/HashMap" "size" "I" (.int 0)) (FmodCount : Fld Z h0 x "java/util/HashMap" "modCount" "I" (.int 0)) (Fhead : Fld Z h0 x "java/util/LinkedHashMap" "head" "Ljava/util/LinkedHashMap$Entry;" .null) (Ftail : Fld Z h0 x "java/util/LinkedHashMap" "tail" "Ljava/util/LinkedHashMap$Entry;" .null) (FputMode : Fld Z h0 x "java/util/LinkedHashMap" "putMode" "I" (.int 0)) (FaccessOrder : Fld Z h0 x "java/util/LinkedHashMap" "accessOrder" "Z" (.int 0)) (gx : Z.heap.size ≤ x) :
    own_Ct l Z (⟨"java/util/LinkedHashMap", "linkNodeAtEnd", "(Ljava/util/LinkedHashMap$Entry;)V"⟩ : MethodName) jdk_94_method_1_code 3 none [] ({ frames := 0, locals := 0, cells := 0, slots := 0 } : Room) #[(.ref x), (.ref nd)] h0 (fun v h => v = none ∧ Keep h0 h [x] ∧ Exa Z h x "java/util/LinkedHashMap" ∧ Fld Z h x "java/util/HashMap" "table" "[Ljava/util/HashMap$Node;" (.ref tb) ∧ Fld Z h x "java/util/HashMap" "threshold" "I" (.int 12) ∧ Fld Z h x "java/util/HashMap" "size" "I" (.int 0) ∧ Fld Z h x "java/util/HashMap" "modCount" "I" (.int 0) ∧ Fld Z h x "java/util/LinkedHashMap" "head" "Ljava/util/LinkedHashMap$Entry;" (.ref nd) ∧ Fld Z h x "java/util/LinkedHashMap" "tail" "Ljava/util/LinkedHashMap$Entry;" (.ref nd) ∧ Fld Z h x "java/util/LinkedHashMap" "putMode" "I" (.int 0) ∧ Fld Z h x "java/util/LinkedHashMap" "accessOrder" "Z" (.int 0)) := by
  refine own_body (Ls := #[.val (.ref x), .val (.ref nd), .unset]) (plainFor_of_name pn_java_util_LinkedHashMap) (fun m => by first | (simp [entryFrame, mkF, argsToLocals, Value.category]; done) | rfl) O0 ?_
  intro p e s m below meth c T0 G K0
  refine own_aloadN K0 d_jdk_94_m1_0 rfl rfl rfl ?_
  refine own_getF K0 (host := "") (Or.inl (wd79 hw)) Via.refl FputMode d_jdk_94_m1_1 rfl ?_
  intro T120 K120
  refine own_iconst K120 (v := (1 : Int32)) d_jdk_94_m1_4 rfl rfl ?_
  refine own_icmpYes K120 d_jdk_94_m1_5 (pc' := 43) (by decide) (by decide) (feq (by decide)).2 ?_
  refine own_aloadN K120 d_jdk_94_m1_43 rfl rfl rfl ?_
  refine own_getF K120 (host := "") (Or.inl (wd211 hw)) Via.refl Ftail d_jdk_94_m1_44 rfl ?_
  intro T121 K121
  refine own_astoreN K121 (Ls' := #[.val (.ref x), .val (.ref nd), .val .null]) d_jdk_94_m1_47 rfl rfl rfl ?_
  refine own_aloadN K121 d_jdk_94_m1_48 rfl rfl rfl ?_
  refine own_aloadN K121 d_jdk_94_m1_49 rfl rfl rfl ?_
  refine own_putF K121 (host := "") (Or.inl (wd211 hw)) Via.refl Ftail E (Or.inl (wd212 hw)) (wd58 hw) (ty := (.object "java/util/LinkedHashMap$Entry")) (by decide) rfl rfl gx d_jdk_94_m1_50 rfl ?_
  intro T122 h122 K122 W122
  have table_123 := Ftable.other W122 (Or.inr (slot_ne (Or.inl (wd168 hw)) (Or.inl (wd212 hw)) (by decide) (t := (.array (.object "java/util/HashMap$Node"))) (t' := (.object "java/util/LinkedHashMap$Entry")) (by decide) (by decide)))
  have threshold_123 := Fthreshold.other W122 (Or.inr (slot_ne (Or.inl (wd175 hw)) (Or.inl (wd212 hw)) (by decide) (t := .int) (t' := (.object "java/util/LinkedHashMap$Entry")) (by decide) (by decide)))
  have size_123 := Fsize.other W122 (Or.inr (slot_ne (Or.inl (wd218 hw)) (Or.inl (wd212 hw)) (by decide) (t := .int) (t' := (.object "java/util/LinkedHashMap$Entry")) (by decide) (by decide)))
  have modCount_123 := FmodCount.other W122 (Or.inr (slot_ne (Or.inl (wd216 hw)) (Or.inl (wd212 hw)) (by decide) (t := .int) (t' := (.object "java/util/LinkedHashMap$Entry")) (by decide) (by decide)))
  have head_123 := Fhead.other W122 (Or.inr (slot_ne (Or.inl (wd214 hw)) (Or.inl (wd212 hw)) (by decide) (t := (.object "java/util/LinkedHashMap$Entry")) (t' := (.object "java/util/LinkedHashMap$Entry")) (by decide) (by decide)))
  have tail_123 := Ftail.same W122
  have putMode_123 := FputMode.other W122 (Or.inr (slot_ne (Or.inl (wd80 hw)) (Or.inl (wd212 hw)) (by decide) (t := .int) (t' := (.object "java/util/LinkedHashMap$Entry")) (by decide) (by decide)))
  have accessOrder_123 := FaccessOrder.other W122 (Or.inr (slot_ne (Or.inr (wd82 hw)) (Or.inl (wd212 hw)) (by decide) (t := .boolean) (t' := (.object "java/util/LinkedHashMap$Entry")) (by decide) (by decide)))
  have Eo_123 := E.wr W122
  refine own_aloadN K122 d_jdk_94_m1_53 rfl rfl rfl ?_
  refine own_ifnonnullNo K122 d_jdk_94_m1_54 rfl ?_
  refine own_aloadN K122 d_jdk_94_m1_57 rfl rfl rfl ?_
  refine own_aloadN K122 d_jdk_94_m1_58 rfl rfl rfl ?_
  refine own_putF K122 (host := "") (Or.inl (wd213 hw)) Via.refl head_123 Eo_123 (Or.inl (wd214 hw)) (wd58 hw) (ty := (.object "java/util/LinkedHashMap$Entry")) (by decide) rfl rfl gx d_jdk_94_m1_59 rfl ?_
  intro T124 h124 K124 W124
  have table_125 := table_123.other W124 (Or.inr (slot_ne (Or.inl (wd168 hw)) (Or.inl (wd214 hw)) (by decide) (t := (.array (.object "java/util/HashMap$Node"))) (t' := (.object "java/util/LinkedHashMap$Entry")) (by decide) (by decide)))
  have threshold_125 := threshold_123.other W124 (Or.inr (slot_ne (Or.inl (wd175 hw)) (Or.inl (wd214 hw)) (by decide) (t := .int) (t' := (.object "java/util/LinkedHashMap$Entry")) (by decide) (by decide)))
  have size_125 := size_123.other W124 (Or.inr (slot_ne (Or.inl (wd218 hw)) (Or.inl (wd214 hw)) (by decide) (t := .int) (t' := (.object "java/util/LinkedHashMap$Entry")) (by decide) (by decide)))
  have modCount_125 := modCount_123.other W124 (Or.inr (slot_ne (Or.inl (wd216 hw)) (Or.inl (wd214 hw)) (by decide) (t := .int) (t' := (.object "java/util/LinkedHashMap$Entry")) (by decide) (by decide)))
  have head_125 := head_123.same W124
  have tail_125 := tail_123.other W124 (Or.inr (slot_ne (Or.inl (wd212 hw)) (Or.inl (wd214 hw)) (by decide) (t := (.object "java/util/LinkedHashMap$Entry")) (t' := (.object "java/util/LinkedHashMap$Entry")) (by decide) (by decide)))
  have putMode_125 := putMode_123.other W124 (Or.inr (slot_ne (Or.inl (wd80 hw)) (Or.inl (wd214 hw)) (by decide) (t := .int) (t' := (.object "java/util/LinkedHashMap$Entry")) (by decide) (by decide)))
  have accessOrder_125 := accessOrder_123.other W124 (Or.inr (slot_ne (Or.inr (wd82 hw)) (Or.inl (wd214 hw)) (by decide) (t := .boolean) (t' := (.object "java/util/LinkedHashMap$Entry")) (by decide) (by decide)))
  have Eo_125 := Eo_123.wr W124
  refine own_goto K124 d_jdk_94_m1_62 (pc' := 75) (by decide) (by decide) ?_
  exact own_ret0 K124 d_jdk_94_m1_75 rfl (by decide) (by decide) ⟨rfl, ((Keep.refl h0 [x]).wr W122 (Or.inl (List.mem_singleton.mpr rfl))).wr W124 (Or.inl (List.mem_singleton.mpr rfl)), Eo_125, table_125, threshold_125, size_125, modCount_125, head_125, tail_125, putMode_125, accessOrder_125⟩
theorem d_jdk_94_m4_0 : decode jdk_94_method_4_code 0 = .ok (.new 15, 3) := by decide +kernel
theorem wd184 {a0 : Array Value} {Z : State} (hw : ∀ d ∈ tables_1, d.before a0 Z = true) : (Jvm.Cond.classLink "java/util/LinkedHashMap" (15 : Nat) "java/util/LinkedHashMap$Entry").before a0 Z = true := hw _ (List.mem_of_getElem? (i := 184) rfl)
theorem wd186 {a0 : Array Value} {Z : State} (hw : ∀ d ∈ tables_1, d.before a0 Z = true) : (Jvm.Cond.initialized "java/util/LinkedHashMap$Entry").before a0 Z = true := hw _ (List.mem_of_getElem? (i := 186) rfl)
theorem d_jdk_94_m4_3 : decode jdk_94_method_4_code 3 = .ok (.dup, 1) := by decide +kernel
theorem d_jdk_94_m4_4 : decode jdk_94_method_4_code 4 = .ok (.iload_n 1, 1) := by decide +kernel
theorem d_jdk_94_m4_5 : decode jdk_94_method_4_code 5 = .ok (.aload_n 2, 1) := by decide +kernel
theorem d_jdk_94_m4_6 : decode jdk_94_method_4_code 6 = .ok (.aload_n 3, 1) := by decide +kernel
theorem d_jdk_94_m4_7 : decode jdk_94_method_4_code 7 = .ok (.aload 4, 2) := by decide +kernel
theorem d_jdk_94_m4_9 : decode jdk_94_method_4_code 9 = .ok (.invokespecial 28, 3) := by decide +kernel
theorem wd190 {a0 : Array Value} {Z : State} (hw : ∀ d ∈ tables_1, d.before a0 Z = true) : (Jvm.Cond.code ({ cls := "java/util/LinkedHashMap$Entry", name := "<init>", desc := "(ILjava/lang/Object;Ljava/lang/Object;Ljava/util/HashMap$Node;)V" } : Jvm.MethodName) jdk_83_method_1_code (5 : Nat) (Option.none : Option Jvm.ClassFile.FieldType)).before a0 Z = true := hw _ (List.mem_of_getElem? (i := 190) rfl)
theorem wd187 {a0 : Array Value} {Z : State} (hw : ∀ d ∈ tables_1, d.before a0 Z = true) : (Jvm.Cond.methodLink "java/util/LinkedHashMap" (28 : Nat) ({ cls := "java/util/LinkedHashMap$Entry", name := "<init>", desc := "(ILjava/lang/Object;Ljava/lang/Object;Ljava/util/HashMap$Node;)V" } : Jvm.MethodName)).before a0 Z = true := hw _ (List.mem_of_getElem? (i := 187) rfl)
theorem wd188 {a0 : Array Value} {Z : State} (hw : ∀ d ∈ tables_1, d.before a0 Z = true) : (Jvm.Cond.instanceMethod ({ cls := "java/util/LinkedHashMap$Entry", name := "<init>", desc := "(ILjava/lang/Object;Ljava/lang/Object;Ljava/util/HashMap$Node;)V" } : Jvm.MethodName)).before a0 Z = true := hw _ (List.mem_of_getElem? (i := 188) rfl)
theorem d_jdk_94_m4_12 : decode jdk_94_method_4_code 12 = .ok (.astore 5, 2) := by decide +kernel
theorem d_jdk_94_m4_14 : decode jdk_94_method_4_code 14 = .ok (.aload_n 0, 1) := by decide +kernel
theorem d_jdk_94_m4_15 : decode jdk_94_method_4_code 15 = .ok (.aload 5, 2) := by decide +kernel
theorem d_jdk_94_m4_17 : decode jdk_94_method_4_code 17 = .ok (.invokevirtual 32, 3) := by decide +kernel
theorem wd210 {a0 : Array Value} {Z : State} (hw : ∀ d ∈ tables_1, d.before a0 Z = true) : (Jvm.Cond.code ({ cls := "java/util/LinkedHashMap", name := "linkNodeAtEnd", desc := "(Ljava/util/LinkedHashMap$Entry;)V" } : Jvm.MethodName) jdk_94_method_1_code (3 : Nat) (Option.none : Option Jvm.ClassFile.FieldType)).before a0 Z = true := hw _ (List.mem_of_getElem? (i := 210) rfl)
theorem wd59 {a0 : Array Value} {Z : State} (hw : ∀ d ∈ tables_1, d.before a0 Z = true) : (Jvm.Cond.initialized "java/util/LinkedHashMap").before a0 Z = true := hw _ (List.mem_of_getElem? (i := 59) rfl)
theorem pd_28Ljava2futil2fLinkedHashMap24Entry3b29V : parseMethodDescriptor "(Ljava/util/LinkedHashMap$Entry;)V" = some ⟨[(.object "java/util/LinkedHashMap$Entry")], none⟩ := by decide +kernel
theorem wd206 {a0 : Array Value} {Z : State} (hw : ∀ d ∈ tables_1, d.before a0 Z = true) : (Jvm.Cond.methodLink "java/util/LinkedHashMap" (32 : Nat) ({ cls := "java/util/LinkedHashMap", name := "linkNodeAtEnd", desc := "(Ljava/util/LinkedHashMap$Entry;)V" } : Jvm.MethodName)).before a0 Z = true := hw _ (List.mem_of_getElem? (i := 206) rfl)
theorem wd207 {a0 : Array Value} {Z : State} (hw : ∀ d ∈ tables_1, d.before a0 Z = true) : (Jvm.Cond.instanceMethod ({ cls := "java/util/LinkedHashMap", name := "linkNodeAtEnd", desc := "(Ljava/util/LinkedHashMap$Entry;)V" } : Jvm.MethodName)).before a0 Z = true := hw _ (List.mem_of_getElem? (i := 207) rfl)
theorem wd208 {a0 : Array Value} {Z : State} (hw : ∀ d ∈ tables_1, d.before a0 Z = true) : (Jvm.Cond.privateMethod ({ cls := "java/util/LinkedHashMap", name := "linkNodeAtEnd", desc := "(Ljava/util/LinkedHashMap$Entry;)V" } : Jvm.MethodName)).before a0 Z = true := hw _ (List.mem_of_getElem? (i := 208) rfl)
theorem wd181 {a0 : Array Value} {Z : State} (hw : ∀ d ∈ tables_1, d.before a0 Z = true) : (Jvm.Cond.selects "java/util/LinkedHashMap" ({ cls := "java/util/HashMap", name := "newNode", desc := "(ILjava/lang/Object;Ljava/lang/Object;Ljava/util/HashMap$Node;)Ljava/util/HashMap$Node;" } : Jvm.MethodName) ({ cls := "java/util/LinkedHashMap", name := "newNode", desc := "(ILjava/lang/Object;Ljava/lang/Object;Ljava/util/HashMap$Node;)Ljava/util/HashMap$Node;" } : Jvm.MethodName)).before a0 Z = true := hw _ (List.mem_of_getElem? (i := 181) rfl)
theorem d_jdk_94_m4_20 : decode jdk_94_method_4_code 20 = .ok (.aload 5, 2) := by decide +kernel
theorem d_jdk_94_m4_22 : decode jdk_94_method_4_code 22 = .ok (.areturn, 1) := by decide +kernel
set_option maxRecDepth 65536 in
set_option maxHeartbeats 40000000 in
theorem rm_newNode {l : Launch} {Z : State} {a0 : Array Value} (hw : ∀ d ∈ tables_1, d.before a0 Z = true) (hs : ∀ d ∈ jdkStatics_1, d.before a0 Z = true) {x : Addr} {hs' : Int32} {ky : Addr} {vl : Addr} {tb : Addr} {h0 : Heap} (O0 : Ext Z.heap h0) (E : Exa Z h0 x "java/util/LinkedHashMap") (Ftable : Fld Z h0 x "java/util/HashMap" "table" "[Ljava/util/HashMap$Node;" (.ref tb)) (Fthreshold : Fld Z h0 x "java/util/HashMap" "threshold" "I" (.int 12)) (Fsize : Fld Z h0 x "java/util/HashMap" "size" "I" (.int 0)) (FmodCount : Fld Z h0 x "java/util/HashMap" "modCount" "I" (.int 0)) (Fhead : Fld Z h0 x "java/util/LinkedHashMap" "head" "Ljava/util/LinkedHashMap$Entry;" .null) (Ftail : Fld Z h0 x "java/util/LinkedHashMap" "tail" "Ljava/util/LinkedHashMap$Entry;" .null) (FputMode : Fld Z h0 x "java/util/LinkedHashMap" "putMode" "I" (.int 0)) (FaccessOrder : Fld Z h0 x "java/util/LinkedHashMap" "accessOrder" "Z" (.int 0)) (gx : Z.heap.size ≤ x) :
    own_Ct l Z (⟨"java/util/LinkedHashMap", "newNode", "(ILjava/lang/Object;Ljava/lang/Object;Ljava/util/HashMap$Node;)Ljava/util/HashMap$Node;"⟩ : MethodName) jdk_94_method_4_code 6 (some (.object "java/util/HashMap$Node")) [] ({ frames := 3, locals := 45, cells := 1, slots := 6 } : Room) #[(.ref x), (.int hs'), (.ref ky), (.ref vl), .null] h0 (fun v h => ∃ nd : Addr, v = some (.ref nd) ∧ nd = h0.size ∧ Keep h0 h [x] ∧ Exa Z h x "java/util/LinkedHashMap" ∧ Fld Z h x "java/util/HashMap" "table" "[Ljava/util/HashMap$Node;" (.ref tb) ∧ Fld Z h x "java/util/HashMap" "threshold" "I" (.int 12) ∧ Fld Z h x "java/util/HashMap" "size" "I" (.int 0) ∧ Fld Z h x "java/util/HashMap" "modCount" "I" (.int 0) ∧ Fld Z h x "java/util/LinkedHashMap" "head" "Ljava/util/LinkedHashMap$Entry;" (.ref nd) ∧ Fld Z h x "java/util/LinkedHashMap" "tail" "Ljava/util/LinkedHashMap$Entry;" (.ref nd) ∧ Fld Z h x "java/util/LinkedHashMap" "putMode" "I" (.int 0) ∧ Fld Z h x "java/util/LinkedHashMap" "accessOrder" "Z" (.int 0) ∧ Exa Z h nd "java/util/LinkedHashMap$Entry" ∧ Fld Z h nd "java/util/HashMap$Node" "hash" "I" (.int hs') ∧ Fld Z h nd "java/util/HashMap$Node" "key" "Ljava/lang/Object;" (.ref ky) ∧ Fld Z h nd "java/util/HashMap$Node" "value" "Ljava/lang/Object;" (.ref vl) ∧ Fld Z h nd "java/util/HashMap$Node" "next" "Ljava/util/HashMap$Node;" .null) := by
  refine own_body (Ls := #[.val (.ref x), .val (.int hs'), .val (.ref ky), .val (.ref vl), .val .null, .unset]) (plainFor_of_name pn_java_util_LinkedHashMap) (fun m => by first | (simp [entryFrame, mkF, argsToLocals, Value.category]; done) | rfl) O0 ?_
  intro p e s m below meth c T0 G K0
  refine own_newO K0 (wd184 hw) (wd185 hw) (wd186 hw) d_jdk_94_m4_0 (by decide) (by decide) rfl ?_
  intro T126 h126 a126 K126 g126 E126 A126 D126 U126
  have F_hash_126 : Fld Z h126 a126 "java/util/HashMap$Node" "hash" "I" (.int (0 : Int32)) := D126 (Or.inr (wd199 hw)) (ty := .int) (by decide)
  have F_key_126 : Fld Z h126 a126 "java/util/HashMap$Node" "key" "Ljava/lang/Object;" .null := D126 (Or.inr (wd201 hw)) (ty := (.object "java/lang/Object")) (by decide)
  have F_value_126 : Fld Z h126 a126 "java/util/HashMap$Node" "value" "Ljava/lang/Object;" .null := D126 (Or.inl (wd203 hw)) (ty := (.object "java/lang/Object")) (by decide)
  have F_next_126 : Fld Z h126 a126 "java/util/HashMap$Node" "next" "Ljava/util/HashMap$Node;" .null := D126 (Or.inl (wd205 hw)) (ty := (.object "java/util/HashMap$Node")) (by decide)
  refine own_dup K126 d_jdk_94_m4_3 rfl rfl ?_
  refine own_iloadN K126 d_jdk_94_m4_4 rfl rfl ?_
  refine own_aloadN K126 d_jdk_94_m4_5 rfl rfl rfl ?_
  refine own_aloadN K126 d_jdk_94_m4_6 rfl rfl rfl ?_
  refine own_aload K126 d_jdk_94_m4_7 rfl rfl rfl ?_
  have gn : Z.heap.size ≤ a126 := by rw [g126]; exact O0.1
  have hxn : x ≠ a126 := Nat.ne_of_lt (Nat.lt_of_lt_of_le E.lt (Nat.le_of_eq g126.symm))
  have table_127 := Ftable.ext E126
  have threshold_127 := Fthreshold.ext E126
  have size_127 := Fsize.ext E126
  have modCount_127 := FmodCount.ext E126
  have head_127 := Fhead.ext E126
  have tail_127 := Ftail.ext E126
  have putMode_127 := FputMode.ext E126
  have accessOrder_127 := FaccessOrder.ext E126
  have Eo_127 := E.ext E126
  refine own_callI K126 (a := a126) (wd187 hw) (wd188 hw) (rm_entry hw hs (hs' := hs') (ky := ky) (vl := vl) K126.O A126 F_hash_126 F_key_126 F_value_126 F_next_126 gn) (wd190 hw) (wd186 hw) (by decide) rfl (argsL := [(.int hs'), (.ref ky), (.ref vl), .null]) (rest := [(.ref a126)]) rfl pd_28ILjava2flang2fObject3bLjava2flang2fObject3bLjava2futil2fHashMap24Node3b29V rfl rfl (W := 1) rfl (by decide) (by decide) (by decide) (by decide) d_jdk_94_m4_9 rfl ?_
  intro T128 h128 L128 v128 K128 q128
  obtain ⟨rfl, Kp128, NE128, Nhash128, Nkey128, Nvalue128, Nnext128⟩ := q128
  show G (T128.setTop (mkF m 12 #[.val (.ref x), .val (.int hs'), .val (.ref ky), .val (.ref vl), .val .null, .unset] [(.ref a126)]))
  have table_129 := table_127.keep Kp128 (own_nin hxn)
  have threshold_129 := threshold_127.keep Kp128 (own_nin hxn)
  have size_129 := size_127.keep Kp128 (own_nin hxn)
  have modCount_129 := modCount_127.keep Kp128 (own_nin hxn)
  have head_129 := head_127.keep Kp128 (own_nin hxn)
  have tail_129 := tail_127.keep Kp128 (own_nin hxn)
  have putMode_129 := putMode_127.keep Kp128 (own_nin hxn)
  have accessOrder_129 := accessOrder_127.keep Kp128 (own_nin hxn)
  have Eo_129 := Eo_127.keep Kp128
  refine own_astore K128 (Ls' := #[.val (.ref x), .val (.int hs'), .val (.ref ky), .val (.ref vl), .val .null, .val (.ref a126)]) d_jdk_94_m4_12 rfl rfl rfl ?_
  refine own_aloadN K128 d_jdk_94_m4_14 rfl rfl rfl ?_
  refine own_aload K128 d_jdk_94_m4_15 rfl rfl rfl ?_
  refine own_callP K128 (a := x) (wd206 hw) (wd207 hw) (own_selfSel (wd207 hw) (wd208 hw) (own_nfS (wd181 hw) rfl) (by decide)) (wd208 hw) (rm_link hw hs (nd := a126) K128.O Eo_129 table_129 threshold_129 size_129 modCount_129 head_129 tail_129 putMode_129 accessOrder_129 gx) (wd210 hw) (wd59 hw) (by decide) Eo_129 (argsL := [(.ref a126)]) (rest := []) rfl pd_28Ljava2futil2fLinkedHashMap24Entry3b29V rfl rfl (W := 0) rfl (by decide) (by decide) (by decide) (by decide) d_jdk_94_m4_17 rfl ?_
  intro T130 h130 L130 v130 K130 q130
  obtain ⟨rfl, Kp130, GE130, Gtable130, Gthreshold130, Gsize130, GmodCount130, Ghead130, Gtail130, GputMode130, GaccessOrder130⟩ := q130
  show G (T130.setTop (mkF m 20 #[.val (.ref x), .val (.int hs'), .val (.ref ky), .val (.ref vl), .val .null, .val (.ref a126)] []))
  have hash_131 := Nhash128.keep Kp130 (own_nin hxn.symm)
  have key_131 := Nkey128.keep Kp130 (own_nin hxn.symm)
  have value_131 := Nvalue128.keep Kp130 (own_nin hxn.symm)
  have next_131 := Nnext128.keep Kp130 (own_nin hxn.symm)
  have Eo_131 := NE128.keep Kp130
  refine own_aload K130 d_jdk_94_m4_20 rfl rfl rfl ?_
  exact own_retA K130 d_jdk_94_m4_22 rfl rfl rfl rfl (by decide) (by decide) ⟨a126, rfl, g126, (own_ext_of_keep' (own_ext_keep E126 Kp128 (allS (Nat.le_of_eq g126.symm) all0)) [x]).trans Kp130 (fun _ q => Or.inl q), GE130, Gtable130, Gthreshold130, Gsize130, GmodCount130, Ghead130, Gtail130, GputMode130, GaccessOrder130, Eo_131, hash_131, key_131, value_131, next_131⟩
theorem d_jdk_94_m23_0 : decode jdk_94_method_23_code 0 = .ok (.iconst 0, 1) := by decide +kernel
theorem d_jdk_94_m23_1 : decode jdk_94_method_23_code 1 = .ok (.ireturn, 1) := by decide +kernel
set_option maxRecDepth 65536 in
set_option maxHeartbeats 40000000 in
theorem rm_eldest {l : Launch} {Z : State} {a0 : Array Value} (hw : ∀ d ∈ tables_1, d.before a0 Z = true) (hs : ∀ d ∈ jdkStatics_1, d.before a0 Z = true) {x : Addr} {nd : Addr} {h0 : Heap} (O0 : Ext Z.heap h0)  :
    own_Ct l Z (⟨"java/util/LinkedHashMap", "removeEldestEntry", "(Ljava/util/Map$Entry;)Z"⟩ : MethodName) jdk_94_method_23_code 2 (some .boolean) [] ({ frames := 0, locals := 0, cells := 0, slots := 0 } : Room) #[(.ref x), (.ref nd)] h0 (fun v h => v = some (.int 0) ∧ h = h0) := by
  refine own_body (Ls := #[.val (.ref x), .val (.ref nd)]) (plainFor_of_name pn_java_util_LinkedHashMap) (fun m => by first | (simp [entryFrame, mkF, argsToLocals, Value.category]; done) | rfl) O0 ?_
  intro p e s m below meth c T0 G K0
  refine own_iconst K0 (v := (0 : Int32)) d_jdk_94_m23_0 rfl rfl ?_
  exact own_retN K0 (z' := (0 : Int32)) d_jdk_94_m23_1 rfl (by simp) (by decide) (by decide) (by decide) ⟨rfl, rfl⟩
theorem d_jdk_94_m9_0 : decode jdk_94_method_9_code 0 = .ok (.iload_n 1, 1) := by decide +kernel
theorem d_jdk_94_m9_1 : decode jdk_94_method_9_code 1 = .ok (.ifCond .eq 38, 3) := by decide +kernel
theorem d_jdk_94_m9_4 : decode jdk_94_method_9_code 4 = .ok (.aload_n 0, 1) := by decide +kernel
theorem d_jdk_94_m9_5 : decode jdk_94_method_9_code 5 = .ok (.getfield 7, 3) := by decide +kernel
theorem d_jdk_94_m9_8 : decode jdk_94_method_9_code 8 = .ok (.dup, 1) := by decide +kernel
theorem d_jdk_94_m9_9 : decode jdk_94_method_9_code 9 = .ok (.astore_n 2, 1) := by decide +kernel
theorem d_jdk_94_m9_10 : decode jdk_94_method_9_code 10 = .ok (.ifnull 29, 3) := by decide +kernel
theorem d_jdk_94_m9_13 : decode jdk_94_method_9_code 13 = .ok (.aload_n 0, 1) := by decide +kernel
theorem d_jdk_94_m9_14 : decode jdk_94_method_9_code 14 = .ok (.aload_n 2, 1) := by decide +kernel
theorem d_jdk_94_m9_15 : decode jdk_94_method_9_code 15 = .ok (.invokevirtual 53, 3) := by decide +kernel
theorem wd229 {a0 : Array Value} {Z : State} (hw : ∀ d ∈ tables_1, d.before a0 Z = true) : (Jvm.Cond.code ({ cls := "java/util/LinkedHashMap", name := "removeEldestEntry", desc := "(Ljava/util/Map$Entry;)Z" } : Jvm.MethodName) jdk_94_method_23_code (2 : Nat) (Option.some Jvm.ClassFile.FieldType.boolean)).before a0 Z = true := hw _ (List.mem_of_getElem? (i := 229) rfl)
theorem pd_28Ljava2futil2fMap24Entry3b29Z : parseMethodDescriptor "(Ljava/util/Map$Entry;)Z" = some ⟨[(.object "java/util/Map$Entry")], some .boolean⟩ := by decide +kernel
theorem wd225 {a0 : Array Value} {Z : State} (hw : ∀ d ∈ tables_1, d.before a0 Z = true) : (Jvm.Cond.methodLink "java/util/LinkedHashMap" (53 : Nat) ({ cls := "java/util/LinkedHashMap", name := "removeEldestEntry", desc := "(Ljava/util/Map$Entry;)Z" } : Jvm.MethodName)).before a0 Z = true := hw _ (List.mem_of_getElem? (i := 225) rfl)
theorem wd226 {a0 : Array Value} {Z : State} (hw : ∀ d ∈ tables_1, d.before a0 Z = true) : (Jvm.Cond.declares ({ cls := "java/util/LinkedHashMap", name := "removeEldestEntry", desc := "(Ljava/util/Map$Entry;)Z" } : Jvm.MethodName)).before a0 Z = true := hw _ (List.mem_of_getElem? (i := 226) rfl)
theorem wd228 {a0 : Array Value} {Z : State} (hw : ∀ d ∈ tables_1, d.before a0 Z = true) : (Jvm.Cond.selects "java/util/LinkedHashMap" ({ cls := "java/util/LinkedHashMap", name := "removeEldestEntry", desc := "(Ljava/util/Map$Entry;)Z" } : Jvm.MethodName) ({ cls := "java/util/LinkedHashMap", name := "removeEldestEntry", desc := "(Ljava/util/Map$Entry;)Z" } : Jvm.MethodName)).before a0 Z = true := hw _ (List.mem_of_getElem? (i := 228) rfl)
theorem wd227 {a0 : Array Value} {Z : State} (hw : ∀ d ∈ tables_1, d.before a0 Z = true) : (Jvm.Cond.instanceMethod ({ cls := "java/util/LinkedHashMap", name := "removeEldestEntry", desc := "(Ljava/util/Map$Entry;)Z" } : Jvm.MethodName)).before a0 Z = true := hw _ (List.mem_of_getElem? (i := 227) rfl)
theorem d_jdk_94_m9_18 : decode jdk_94_method_9_code 18 = .ok (.ifCond .eq 21, 3) := by decide +kernel
theorem d_jdk_94_m9_39 : decode jdk_94_method_9_code 39 = .ok (.return_, 1) := by decide +kernel
set_option maxRecDepth 65536 in
set_option maxHeartbeats 40000000 in
theorem rm_after {l : Launch} {Z : State} {a0 : Array Value} (hw : ∀ d ∈ tables_1, d.before a0 Z = true) (hs : ∀ d ∈ jdkStatics_1, d.before a0 Z = true) {x : Addr} {nd : Addr} {h0 : Heap} (O0 : Ext Z.heap h0) (E : Exa Z h0 x "java/util/LinkedHashMap") (F : Fld Z h0 x "java/util/LinkedHashMap" "head" "Ljava/util/LinkedHashMap$Entry;" (.ref nd)) :
    own_Ct l Z (⟨"java/util/LinkedHashMap", "afterNodeInsertion", "(Z)V"⟩ : MethodName) jdk_94_method_9_code 4 none [] ({ frames := 1, locals := 13, cells := 0, slots := 0 } : Room) #[(.ref x), (.int (1 : Int32))] h0 (fun v h => v = none ∧ h = h0) := by
  refine own_body (Ls := #[.val (.ref x), .val (.int (1 : Int32)), .unset, .unset]) (plainFor_of_name pn_java_util_LinkedHashMap) (fun m => by first | (simp [entryFrame, mkF, argsToLocals, Value.category]; done) | rfl) O0 ?_
  intro p e s m below meth c T0 G K0
  refine own_iloadN K0 d_jdk_94_m9_0 rfl rfl ?_
  refine own_ifNo K0 d_jdk_94_m9_1 rfl ((if0 _ _).trans (feq (by decide)).1) ?_
  refine own_aloadN K0 d_jdk_94_m9_4 rfl rfl rfl ?_
  refine own_getF K0 (host := "") (Or.inl (wd213 hw)) Via.refl F d_jdk_94_m9_5 rfl ?_
  intro T132 K132
  refine own_dup K132 d_jdk_94_m9_8 rfl rfl ?_
  refine own_astoreN K132 (Ls' := #[.val (.ref x), .val (.int (1 : Int32)), .val (.ref nd), .unset]) d_jdk_94_m9_9 rfl rfl rfl ?_
  refine own_ifnullNo K132 d_jdk_94_m9_10 rfl ?_
  refine own_aloadN K132 d_jdk_94_m9_13 rfl rfl rfl ?_
  refine own_aloadN K132 d_jdk_94_m9_14 rfl rfl rfl ?_
  refine own_callV K132 (a := x) (x0 := (⟨"java/util/LinkedHashMap", "removeEldestEntry", "(Ljava/util/Map$Entry;)Z"⟩ : MethodName)) (wd225 hw) (wd226 hw) (fun q => own_nfS (args := #[]) (mvT q (wd181 hw)) rfl) (wd228 hw) (wd227 hw) (rm_eldest hw hs (x := x) (nd := nd) K132.O) (wd229 hw) (wd59 hw) (by decide) E (argsL := [(.ref nd)]) (rest := []) rfl pd_28Ljava2futil2fMap24Entry3b29Z rfl rfl (W := 0) rfl (by decide) (by decide) (by decide) (by decide) d_jdk_94_m9_15 rfl ?_
  intro T133 h133 L133 v133 K133 q133
  obtain ⟨rfl, e133⟩ := q133
  have f133 := e133.symm
  subst f133
  show G (T133.setTop (mkF m 18 #[.val (.ref x), .val (.int (1 : Int32)), .val (.ref nd), .unset] [(.int (0 : Int32))]))
  refine own_ifYes K133 d_jdk_94_m9_18 (pc' := 39) (by decide) (by decide) ((if0 _ _).trans (teq rfl).1) ?_
  exact own_ret0 K133 d_jdk_94_m9_39 rfl (by decide) (by decide) ⟨rfl, rfl⟩
theorem d_jdk_69_m16_0 : decode jdk_69_method_16_code 0 = .ok (.aload_n 0, 1) := by decide +kernel
theorem d_jdk_69_m16_1 : decode jdk_69_method_16_code 1 = .ok (.getfield 105, 3) := by decide +kernel
theorem d_jdk_69_m16_4 : decode jdk_69_method_16_code 4 = .ok (.dup, 1) := by decide +kernel
theorem d_jdk_69_m16_5 : decode jdk_69_method_16_code 5 = .ok (.astore 6, 2) := by decide +kernel
theorem d_jdk_69_m16_7 : decode jdk_69_method_16_code 7 = .ok (.ifnull 12, 3) := by decide +kernel
theorem d_jdk_69_m16_19 : decode jdk_69_method_16_code 19 = .ok (.aload_n 0, 1) := by decide +kernel
theorem d_jdk_69_m16_20 : decode jdk_69_method_16_code 20 = .ok (.invokevirtual 117, 3) := by decide +kernel
theorem wd173 {a0 : Array Value} {Z : State} (hw : ∀ d ∈ tables_1, d.before a0 Z = true) : (Jvm.Cond.code ({ cls := "java/util/HashMap", name := "resize", desc := "()[Ljava/util/HashMap$Node;" } : Jvm.MethodName) jdk_69_method_17_code (14 : Nat) (Option.some (Jvm.ClassFile.FieldType.array (Jvm.ClassFile.FieldType.object "java/util/HashMap$Node")))).before a0 Z = true := hw _ (List.mem_of_getElem? (i := 173) rfl)
theorem pd_28295bLjava2futil2fHashMap24Node3b : parseMethodDescriptor "()[Ljava/util/HashMap$Node;" = some ⟨[], some (.array (.object "java/util/HashMap$Node"))⟩ := by decide +kernel
theorem wd126 {a0 : Array Value} {Z : State} (hw : ∀ d ∈ tables_1, d.before a0 Z = true) : (Jvm.Cond.selects "java/util/LinkedHashMap" ({ cls := "java/util/Map", name := "put", desc := "(Ljava/lang/Object;Ljava/lang/Object;)Ljava/lang/Object;" } : Jvm.MethodName) ({ cls := "java/util/HashMap", name := "put", desc := "(Ljava/lang/Object;Ljava/lang/Object;)Ljava/lang/Object;" } : Jvm.MethodName)).before a0 Z = true := hw _ (List.mem_of_getElem? (i := 126) rfl)
theorem wd169 {a0 : Array Value} {Z : State} (hw : ∀ d ∈ tables_1, d.before a0 Z = true) : (Jvm.Cond.methodLink "java/util/HashMap" (117 : Nat) ({ cls := "java/util/HashMap", name := "resize", desc := "()[Ljava/util/HashMap$Node;" } : Jvm.MethodName)).before a0 Z = true := hw _ (List.mem_of_getElem? (i := 169) rfl)
theorem wd170 {a0 : Array Value} {Z : State} (hw : ∀ d ∈ tables_1, d.before a0 Z = true) : (Jvm.Cond.declares ({ cls := "java/util/HashMap", name := "resize", desc := "()[Ljava/util/HashMap$Node;" } : Jvm.MethodName)).before a0 Z = true := hw _ (List.mem_of_getElem? (i := 170) rfl)
theorem wd172 {a0 : Array Value} {Z : State} (hw : ∀ d ∈ tables_1, d.before a0 Z = true) : (Jvm.Cond.selects "java/util/LinkedHashMap" ({ cls := "java/util/HashMap", name := "resize", desc := "()[Ljava/util/HashMap$Node;" } : Jvm.MethodName) ({ cls := "java/util/HashMap", name := "resize", desc := "()[Ljava/util/HashMap$Node;" } : Jvm.MethodName)).before a0 Z = true := hw _ (List.mem_of_getElem? (i := 172) rfl)
theorem wd171 {a0 : Array Value} {Z : State} (hw : ∀ d ∈ tables_1, d.before a0 Z = true) : (Jvm.Cond.instanceMethod ({ cls := "java/util/HashMap", name := "resize", desc := "()[Ljava/util/HashMap$Node;" } : Jvm.MethodName)).before a0 Z = true := hw _ (List.mem_of_getElem? (i := 171) rfl)
theorem d_jdk_69_m16_23 : decode jdk_69_method_16_code 23 = .ok (.dup, 1) := by decide +kernel
theorem d_jdk_69_m16_24 : decode jdk_69_method_16_code 24 = .ok (.astore 6, 2) := by decide +kernel
theorem d_jdk_69_m16_26 : decode jdk_69_method_16_code 26 = .ok (.arraylength, 1) := by decide +kernel
theorem d_jdk_69_m16_27 : decode jdk_69_method_16_code 27 = .ok (.istore 8, 2) := by decide +kernel
theorem d_jdk_69_m16_29 : decode jdk_69_method_16_code 29 = .ok (.aload 6, 2) := by decide +kernel
theorem d_jdk_69_m16_31 : decode jdk_69_method_16_code 31 = .ok (.iload 8, 2) := by decide +kernel
theorem d_jdk_69_m16_33 : decode jdk_69_method_16_code 33 = .ok (.iconst 1, 1) := by decide +kernel
theorem d_jdk_69_m16_34 : decode jdk_69_method_16_code 34 = .ok (.isub, 1) := by decide +kernel
theorem d_jdk_69_m16_35 : decode jdk_69_method_16_code 35 = .ok (.iload_n 1, 1) := by decide +kernel
theorem d_jdk_69_m16_36 : decode jdk_69_method_16_code 36 = .ok (.iand, 1) := by decide +kernel
theorem d_jdk_69_m16_37 : decode jdk_69_method_16_code 37 = .ok (.dup, 1) := by decide +kernel
theorem d_jdk_69_m16_38 : decode jdk_69_method_16_code 38 = .ok (.istore 9, 2) := by decide +kernel
theorem d_jdk_69_m16_40 : decode jdk_69_method_16_code 40 = .ok (.aaload, 1) := by decide +kernel
theorem d_jdk_69_m16_41 : decode jdk_69_method_16_code 41 = .ok (.dup, 1) := by decide +kernel
theorem d_jdk_69_m16_42 : decode jdk_69_method_16_code 42 = .ok (.astore 7, 2) := by decide +kernel
theorem d_jdk_69_m16_44 : decode jdk_69_method_16_code 44 = .ok (.ifnonnull 19, 3) := by decide +kernel
theorem d_jdk_69_m16_47 : decode jdk_69_method_16_code 47 = .ok (.aload 6, 2) := by decide +kernel
theorem d_jdk_69_m16_49 : decode jdk_69_method_16_code 49 = .ok (.iload 9, 2) := by decide +kernel
theorem d_jdk_69_m16_51 : decode jdk_69_method_16_code 51 = .ok (.aload_n 0, 1) := by decide +kernel
theorem d_jdk_69_m16_52 : decode jdk_69_method_16_code 52 = .ok (.iload_n 1, 1) := by decide +kernel
theorem d_jdk_69_m16_53 : decode jdk_69_method_16_code 53 = .ok (.aload_n 2, 1) := by decide +kernel
theorem d_jdk_69_m16_54 : decode jdk_69_method_16_code 54 = .ok (.aload_n 3, 1) := by decide +kernel
theorem d_jdk_69_m16_55 : decode jdk_69_method_16_code 55 = .ok (.aconst_null, 1) := by decide +kernel
theorem d_jdk_69_m16_56 : decode jdk_69_method_16_code 56 = .ok (.invokevirtual 186, 3) := by decide +kernel
theorem wd183 {a0 : Array Value} {Z : State} (hw : ∀ d ∈ tables_1, d.before a0 Z = true) : (Jvm.Cond.code ({ cls := "java/util/LinkedHashMap", name := "newNode", desc := "(ILjava/lang/Object;Ljava/lang/Object;Ljava/util/HashMap$Node;)Ljava/util/HashMap$Node;" } : Jvm.MethodName) jdk_94_method_4_code (6 : Nat) (Option.some (Jvm.ClassFile.FieldType.object "java/util/HashMap$Node"))).before a0 Z = true := hw _ (List.mem_of_getElem? (i := 183) rfl)
theorem pd_28ILjava2flang2fObject3bLjava2flang2fObject3bLjava2futil2fHashMap24Node3b29Ljava2futil2fHashMap24Node3b : parseMethodDescriptor "(ILjava/lang/Object;Ljava/lang/Object;Ljava/util/HashMap$Node;)Ljava/util/HashMap$Node;" = some ⟨[.int, (.object "java/lang/Object"), (.object "java/lang/Object"), (.object "java/util/HashMap$Node")], some (.object "java/util/HashMap$Node")⟩ := by decide +kernel
theorem wd178 {a0 : Array Value} {Z : State} (hw : ∀ d ∈ tables_1, d.before a0 Z = true) : (Jvm.Cond.methodLink "java/util/HashMap" (186 : Nat) ({ cls := "java/util/HashMap", name := "newNode", desc := "(ILjava/lang/Object;Ljava/lang/Object;Ljava/util/HashMap$Node;)Ljava/util/HashMap$Node;" } : Jvm.MethodName)).before a0 Z = true := hw _ (List.mem_of_getElem? (i := 178) rfl)
theorem wd179 {a0 : Array Value} {Z : State} (hw : ∀ d ∈ tables_1, d.before a0 Z = true) : (Jvm.Cond.declares ({ cls := "java/util/HashMap", name := "newNode", desc := "(ILjava/lang/Object;Ljava/lang/Object;Ljava/util/HashMap$Node;)Ljava/util/HashMap$Node;" } : Jvm.MethodName)).before a0 Z = true := hw _ (List.mem_of_getElem? (i := 179) rfl)
theorem wd182 {a0 : Array Value} {Z : State} (hw : ∀ d ∈ tables_1, d.before a0 Z = true) : (Jvm.Cond.instanceMethod ({ cls := "java/util/LinkedHashMap", name := "newNode", desc := "(ILjava/lang/Object;Ljava/lang/Object;Ljava/util/HashMap$Node;)Ljava/util/HashMap$Node;" } : Jvm.MethodName)).before a0 Z = true := hw _ (List.mem_of_getElem? (i := 182) rfl)
theorem wd194 {a0 : Array Value} {Z : State} (hw : ∀ d ∈ tables_1, d.before a0 Z = true) : (Jvm.Cond.castable "java/util/LinkedHashMap$Entry" "java/util/HashMap$Node").before a0 Z = true := hw _ (List.mem_of_getElem? (i := 194) rfl)
theorem d_jdk_69_m16_59 : decode jdk_69_method_16_code 59 = .ok (.aastore, 1) := by decide +kernel
theorem d_jdk_69_m16_60 : decode jdk_69_method_16_code 60 = .ok (.goto 199, 3) := by decide +kernel
theorem d_jdk_69_m16_259 : decode jdk_69_method_16_code 259 = .ok (.aload_n 0, 1) := by decide +kernel
theorem d_jdk_69_m16_260 : decode jdk_69_method_16_code 260 = .ok (.dup, 1) := by decide +kernel
theorem wd215 {a0 : Array Value} {Z : State} (hw : ∀ d ∈ tables_1, d.before a0 Z = true) : (Jvm.Cond.fieldLink "java/util/HashMap" (202 : Nat) "java/util/HashMap" "modCount" "I").before a0 Z = true := hw _ (List.mem_of_getElem? (i := 215) rfl)
theorem d_jdk_69_m16_261 : decode jdk_69_method_16_code 261 = .ok (.getfield 202, 3) := by decide +kernel
theorem d_jdk_69_m16_264 : decode jdk_69_method_16_code 264 = .ok (.iconst 1, 1) := by decide +kernel
theorem d_jdk_69_m16_265 : decode jdk_69_method_16_code 265 = .ok (.iadd, 1) := by decide +kernel
theorem d_jdk_69_m16_266 : decode jdk_69_method_16_code 266 = .ok (.putfield 202, 3) := by decide +kernel
theorem d_jdk_69_m16_269 : decode jdk_69_method_16_code 269 = .ok (.aload_n 0, 1) := by decide +kernel
theorem d_jdk_69_m16_270 : decode jdk_69_method_16_code 270 = .ok (.dup, 1) := by decide +kernel
theorem wd217 {a0 : Array Value} {Z : State} (hw : ∀ d ∈ tables_1, d.before a0 Z = true) : (Jvm.Cond.fieldLink "java/util/HashMap" (156 : Nat) "java/util/HashMap" "size" "I").before a0 Z = true := hw _ (List.mem_of_getElem? (i := 217) rfl)
theorem d_jdk_69_m16_271 : decode jdk_69_method_16_code 271 = .ok (.getfield 156, 3) := by decide +kernel
theorem d_jdk_69_m16_274 : decode jdk_69_method_16_code 274 = .ok (.iconst 1, 1) := by decide +kernel
theorem d_jdk_69_m16_275 : decode jdk_69_method_16_code 275 = .ok (.iadd, 1) := by decide +kernel
theorem d_jdk_69_m16_276 : decode jdk_69_method_16_code 276 = .ok (.dup_x1, 1) := by decide +kernel
theorem d_jdk_69_m16_277 : decode jdk_69_method_16_code 277 = .ok (.putfield 156, 3) := by decide +kernel
theorem d_jdk_69_m16_280 : decode jdk_69_method_16_code 280 = .ok (.aload_n 0, 1) := by decide +kernel
theorem d_jdk_69_m16_281 : decode jdk_69_method_16_code 281 = .ok (.getfield 88, 3) := by decide +kernel
theorem d_jdk_69_m16_284 : decode jdk_69_method_16_code 284 = .ok (.if_icmp .le 8, 3) := by decide +kernel
theorem d_jdk_69_m16_292 : decode jdk_69_method_16_code 292 = .ok (.aload_n 0, 1) := by decide +kernel
theorem d_jdk_69_m16_293 : decode jdk_69_method_16_code 293 = .ok (.iload 5, 2) := by decide +kernel
theorem d_jdk_69_m16_295 : decode jdk_69_method_16_code 295 = .ok (.invokevirtual 205, 3) := by decide +kernel
theorem wd224 {a0 : Array Value} {Z : State} (hw : ∀ d ∈ tables_1, d.before a0 Z = true) : (Jvm.Cond.code ({ cls := "java/util/LinkedHashMap", name := "afterNodeInsertion", desc := "(Z)V" } : Jvm.MethodName) jdk_94_method_9_code (4 : Nat) (Option.none : Option Jvm.ClassFile.FieldType)).before a0 Z = true := hw _ (List.mem_of_getElem? (i := 224) rfl)
theorem pd_28Z29V : parseMethodDescriptor "(Z)V" = some ⟨[.boolean], none⟩ := by decide +kernel
theorem wd219 {a0 : Array Value} {Z : State} (hw : ∀ d ∈ tables_1, d.before a0 Z = true) : (Jvm.Cond.methodLink "java/util/HashMap" (205 : Nat) ({ cls := "java/util/HashMap", name := "afterNodeInsertion", desc := "(Z)V" } : Jvm.MethodName)).before a0 Z = true := hw _ (List.mem_of_getElem? (i := 219) rfl)
theorem wd220 {a0 : Array Value} {Z : State} (hw : ∀ d ∈ tables_1, d.before a0 Z = true) : (Jvm.Cond.declares ({ cls := "java/util/HashMap", name := "afterNodeInsertion", desc := "(Z)V" } : Jvm.MethodName)).before a0 Z = true := hw _ (List.mem_of_getElem? (i := 220) rfl)
theorem wd222 {a0 : Array Value} {Z : State} (hw : ∀ d ∈ tables_1, d.before a0 Z = true) : (Jvm.Cond.selects "java/util/LinkedHashMap" ({ cls := "java/util/HashMap", name := "afterNodeInsertion", desc := "(Z)V" } : Jvm.MethodName) ({ cls := "java/util/LinkedHashMap", name := "afterNodeInsertion", desc := "(Z)V" } : Jvm.MethodName)).before a0 Z = true := hw _ (List.mem_of_getElem? (i := 222) rfl)
theorem wd223 {a0 : Array Value} {Z : State} (hw : ∀ d ∈ tables_1, d.before a0 Z = true) : (Jvm.Cond.instanceMethod ({ cls := "java/util/LinkedHashMap", name := "afterNodeInsertion", desc := "(Z)V" } : Jvm.MethodName)).before a0 Z = true := hw _ (List.mem_of_getElem? (i := 223) rfl)
theorem d_jdk_69_m16_298 : decode jdk_69_method_16_code 298 = .ok (.aconst_null, 1) := by decide +kernel
theorem d_jdk_69_m16_299 : decode jdk_69_method_16_code 299 = .ok (.areturn, 1) := by decide +kernel
set_option maxRecDepth 65536 in
set_option maxHeartbeats 40000000 in
theorem rm_putVal {l : Launch} {Z : State} {a0 : Array Value} (hw : ∀ d ∈ tables_1, d.before a0 Z = true) (hs : ∀ d ∈ jdkStatics_1, d.before a0 Z = true) {x : Addr} {hs' : Int32} {ky : Addr} {vl : Addr} {h0 : Heap} (O0 : Ext Z.heap h0) (E : Exa Z h0 x "java/util/LinkedHashMap") (Ftable : Fld Z h0 x "java/util/HashMap" "table" "[Ljava/util/HashMap$Node;" .null) (Fthreshold : Fld Z h0 x "java/util/HashMap" "threshold" "I" (.int 0)) (Fsize : Fld Z h0 x "java/util/HashMap" "size" "I" (.int 0)) (FmodCount : Fld Z h0 x "java/util/HashMap" "modCount" "I" (.int 0)) (Fhead : Fld Z h0 x "java/util/LinkedHashMap" "head" "Ljava/util/LinkedHashMap$Entry;" .null) (Ftail : Fld Z h0 x "java/util/LinkedHashMap" "tail" "Ljava/util/LinkedHashMap$Entry;" .null) (FputMode : Fld Z h0 x "java/util/LinkedHashMap" "putMode" "I" (.int 0)) (FaccessOrder : Fld Z h0 x "java/util/LinkedHashMap" "accessOrder" "Z" (.int 0)) (gx : Z.heap.size ≤ x) :
    own_Ct l Z (⟨"java/util/HashMap", "putVal", "(ILjava/lang/Object;Ljava/lang/Object;ZZ)Ljava/lang/Object;"⟩ : MethodName) jdk_69_method_16_code 13 (some (.object "java/lang/Object")) [] ({ frames := 4, locals := 64, cells := 2, slots := 22 } : Room) #[(.ref x), (.int hs'), (.ref ky), (.ref vl), (.int (0 : Int32)), (.int (1 : Int32))] h0 (fun v h => ∃ (tb : Addr) (kt : ClassId) (nd : Addr), v = some .null ∧ Keep h0 h [x] ∧ Exa Z h x "java/util/LinkedHashMap" ∧ Fld Z h x "java/util/HashMap" "table" "[Ljava/util/HashMap$Node;" (.ref tb) ∧ Fld Z h x "java/util/LinkedHashMap" "accessOrder" "Z" (.int 0) ∧ Arv Z h tb kt (.object "java/util/HashMap$Node") 16 (own_tab hs' nd) .null ∧ Exa Z h nd "java/util/LinkedHashMap$Entry" ∧ Fld Z h nd "java/util/HashMap$Node" "hash" "I" (.int hs') ∧ Fld Z h nd "java/util/HashMap$Node" "key" "Ljava/lang/Object;" (.ref ky) ∧ Fld Z h nd "java/util/HashMap$Node" "value" "Ljava/lang/Object;" (.ref vl) ∧ Fld Z h nd "java/util/HashMap$Node" "next" "Ljava/util/HashMap$Node;" .null) := by
  refine own_body (Ls := #[.val (.ref x), .val (.int hs'), .val (.ref ky), .val (.ref vl), .val (.int (0 : Int32)), .val (.int (1 : Int32)), .unset, .unset, .unset, .unset, .unset, .unset, .unset]) (plainFor_of_name pn_java_util_HashMap) (fun m => by first | (simp [entryFrame, mkF, argsToLocals, Value.category]; done) | rfl) O0 ?_
  intro p e s m below meth c T0 G K0
  refine own_aloadN K0 d_jdk_69_m16_0 rfl rfl rfl ?_
  refine own_getF K0 (host := "") (Or.inl (wd167 hw)) Via.refl Ftable d_jdk_69_m16_1 rfl ?_
  intro T134 K134
  refine own_dup K134 d_jdk_69_m16_4 rfl rfl ?_
  refine own_astore K134 (Ls' := #[.val (.ref x), .val (.int hs'), .val (.ref ky), .val (.ref vl), .val (.int (0 : Int32)), .val (.int (1 : Int32)), .val .null, .unset, .unset, .unset, .unset, .unset, .unset]) d_jdk_69_m16_5 rfl rfl rfl ?_
  refine own_ifnullYes K134 d_jdk_69_m16_7 (pc' := 19) (by decide) (by decide) ?_
  refine own_aloadN K134 d_jdk_69_m16_19 rfl rfl rfl ?_
  refine own_callV K134 (a := x) (x0 := (⟨"java/util/HashMap", "resize", "()[Ljava/util/HashMap$Node;"⟩ : MethodName)) (wd169 hw) (wd170 hw) (fun q => own_nfS (args := #[]) (mvT q (wd126 hw)) rfl) (wd172 hw) (wd171 hw) (rm_resize hw hs K134.O E Ftable Fthreshold Fsize FmodCount Fhead Ftail FputMode FaccessOrder gx) (wd173 hw) (wd67 hw) (by decide) E (argsL := []) (rest := []) rfl pd_28295bLjava2futil2fHashMap24Node3b rfl rfl (W := 0) rfl (by decide) (by decide) (by decide) (by decide) d_jdk_69_m16_20 rfl ?_
  intro T135 h135 L135 v135 K135 q135
  obtain ⟨t135, kt135, rfl, gt135, Kp135, GE135, Gtable135, Gthreshold135, Gsize135, GmodCount135, Ghead135, Gtail135, GputMode135, GaccessOrder135, V135, Ov135⟩ := q135
  show G (T135.setTop (mkF m 23 #[.val (.ref x), .val (.int hs'), .val (.ref ky), .val (.ref vl), .val (.int (0 : Int32)), .val (.int (1 : Int32)), .val .null, .unset, .unset, .unset, .unset, .unset, .unset] [(.ref t135)]))
  have htx : t135 ≠ x := Nat.ne_of_gt (Nat.lt_of_lt_of_le E.lt (Nat.le_of_eq gt135.symm))
  have gtz : Z.heap.size ≤ t135 := by rw [gt135]; exact O0.1
  refine own_dup K135 d_jdk_69_m16_23 rfl rfl ?_
  refine own_astore K135 (Ls' := #[.val (.ref x), .val (.int hs'), .val (.ref ky), .val (.ref vl), .val (.int (0 : Int32)), .val (.int (1 : Int32)), .val (.ref t135), .unset, .unset, .unset, .unset, .unset, .unset]) d_jdk_69_m16_24 rfl rfl rfl ?_
  refine own_arraylength K135 V135 d_jdk_69_m16_26 rfl ?_
  refine own_istore K135 (Ls' := #[.val (.ref x), .val (.int hs'), .val (.ref ky), .val (.ref vl), .val (.int (0 : Int32)), .val (.int (1 : Int32)), .val (.ref t135), .unset, .val (.int (16 : Int32)), .unset, .unset, .unset, .unset]) d_jdk_69_m16_27 rfl rfl ?_
  refine own_aload K135 d_jdk_69_m16_29 rfl rfl rfl ?_
  refine own_iload K135 d_jdk_69_m16_31 rfl rfl ?_
  refine own_iconst K135 (v := (1 : Int32)) d_jdk_69_m16_33 rfl rfl ?_
  refine own_isub K135 d_jdk_69_m16_34 rfl ?_
  rw [show (16 : Int32) - (1 : Int32) = (15 : Int32) from by decide]
  refine own_iloadN K135 d_jdk_69_m16_35 rfl rfl ?_
  refine own_iand K135 d_jdk_69_m16_36 rfl ?_
  refine own_dup K135 d_jdk_69_m16_37 rfl rfl ?_
  refine own_istore K135 (Ls' := #[.val (.ref x), .val (.int hs'), .val (.ref ky), .val (.ref vl), .val (.int (0 : Int32)), .val (.int (1 : Int32)), .val (.ref t135), .unset, .val (.int (16 : Int32)), .val (.int ((15 : Int32) &&& hs')), .unset, .unset, .unset]) d_jdk_69_m16_38 rfl rfl ?_
  refine own_aaload K135 (v := .null) V135 rfl (own_ix hs') rfl rfl d_jdk_69_m16_40 rfl ?_
  refine own_dup K135 d_jdk_69_m16_41 rfl rfl ?_
  refine own_astore K135 (Ls' := #[.val (.ref x), .val (.int hs'), .val (.ref ky), .val (.ref vl), .val (.int (0 : Int32)), .val (.int (1 : Int32)), .val (.ref t135), .val .null, .val (.int (16 : Int32)), .val (.int ((15 : Int32) &&& hs')), .unset, .unset, .unset]) d_jdk_69_m16_42 rfl rfl rfl ?_
  refine own_ifnonnullNo K135 d_jdk_69_m16_44 rfl ?_
  refine own_aload K135 d_jdk_69_m16_47 rfl rfl rfl ?_
  refine own_iload K135 d_jdk_69_m16_49 rfl rfl ?_
  refine own_aloadN K135 d_jdk_69_m16_51 rfl rfl rfl ?_
  refine own_iloadN K135 d_jdk_69_m16_52 rfl rfl ?_
  refine own_aloadN K135 d_jdk_69_m16_53 rfl rfl rfl ?_
  refine own_aloadN K135 d_jdk_69_m16_54 rfl rfl rfl ?_
  refine own_aconstNull K135 d_jdk_69_m16_55 rfl ?_
  refine own_callV K135 (a := x) (x0 := (⟨"java/util/HashMap", "newNode", "(ILjava/lang/Object;Ljava/lang/Object;Ljava/util/HashMap$Node;)Ljava/util/HashMap$Node;"⟩ : MethodName)) (wd178 hw) (wd179 hw) (fun q => own_nfS (args := #[]) (mvT q (wd126 hw)) rfl) (wd181 hw) (wd182 hw) (rm_newNode hw hs (hs' := hs') (ky := ky) (vl := vl) (tb := t135) K135.O GE135 Gtable135 Gthreshold135 Gsize135 GmodCount135 Ghead135 Gtail135 GputMode135 GaccessOrder135 gx) (wd183 hw) (wd59 hw) (by decide) GE135 (argsL := [(.int hs'), (.ref ky), (.ref vl), .null]) (rest := [(.int ((15 : Int32) &&& hs')), (.ref t135)]) rfl pd_28ILjava2flang2fObject3bLjava2flang2fObject3bLjava2futil2fHashMap24Node3b29Ljava2futil2fHashMap24Node3b rfl rfl (W := 2) rfl (by decide) (by decide) (by decide) (by decide) d_jdk_69_m16_56 rfl ?_
  intro T136 h136 L136 v136 K136 q136
  obtain ⟨n136, rfl, gn136, Kp136, GE136, Gtable136, Gthreshold136, Gsize136, GmodCount136, Ghead136, Gtail136, GputMode136, GaccessOrder136, NE136, Nhash136, Nkey136, Nvalue136, Nnext136⟩ := q136
  show G (T136.setTop (mkF m 59 #[.val (.ref x), .val (.int hs'), .val (.ref ky), .val (.ref vl), .val (.int (0 : Int32)), .val (.int (1 : Int32)), .val (.ref t135), .val .null, .val (.int (16 : Int32)), .val (.int ((15 : Int32) &&& hs')), .unset, .unset, .unset] [(.ref n136), (.int ((15 : Int32) &&& hs')), (.ref t135)]))
  have hnx : n136 ≠ x := Nat.ne_of_gt (Nat.lt_of_lt_of_le (GE135.lt) (Nat.le_of_eq gn136.symm))
  have hnt : n136 ≠ t135 := Nat.ne_of_gt (Nat.lt_of_lt_of_le V135.lt (Nat.le_of_eq gn136.symm))
  have VP := (V135.keep Kp136 (own_nin htx)).pad (pad_rep [] _ 16)
  refine own_aastore K136 VP rfl rfl (own_sto VP Ov135 (Ins.of_exa NE136 (wd194 hw))) (own_ix hs') ((15 : Int32) &&& hs').toNatClampNeg rfl (by have := own_ixn hs'; simpa using this) gtz d_jdk_69_m16_59 rfl ?_
  intro T137 h137 K137 W137 V137
  have VT : Arv Z h137 t135 kt135 (.object "java/util/HashMap$Node") 16 (own_tab hs' n136) .null := V137
  have table_138 := Gtable136.other W137 (Or.inl htx.symm)
  have threshold_138 := Gthreshold136.other W137 (Or.inl htx.symm)
  have size_138 := Gsize136.other W137 (Or.inl htx.symm)
  have modCount_138 := GmodCount136.other W137 (Or.inl htx.symm)
  have head_138 := Ghead136.other W137 (Or.inl htx.symm)
  have tail_138 := Gtail136.other W137 (Or.inl htx.symm)
  have putMode_138 := GputMode136.other W137 (Or.inl htx.symm)
  have accessOrder_138 := GaccessOrder136.other W137 (Or.inl htx.symm)
  have Eo_138 := GE136.wr W137
  have hash_139 := Nhash136.other W137 (Or.inl hnt)
  have key_139 := Nkey136.other W137 (Or.inl hnt)
  have value_139 := Nvalue136.other W137 (Or.inl hnt)
  have next_139 := Nnext136.other W137 (Or.inl hnt)
  have Eo_139 := NE136.wr W137
  refine own_goto K137 d_jdk_69_m16_60 (pc' := 259) (by decide) (by decide) ?_
  refine own_aloadN K137 d_jdk_69_m16_259 rfl rfl rfl ?_
  refine own_dup K137 d_jdk_69_m16_260 rfl rfl ?_
  refine own_getF K137 (host := "") (Or.inl (wd215 hw)) Via.refl modCount_138 d_jdk_69_m16_261 rfl ?_
  intro T140 K140
  refine own_iconst K140 (v := (1 : Int32)) d_jdk_69_m16_264 rfl rfl ?_
  refine own_iadd K140 d_jdk_69_m16_265 rfl ?_
  refine own_putF K140 (host := "") (Or.inl (wd215 hw)) Via.refl modCount_138 Eo_138 (Or.inl (wd216 hw)) (wd58 hw) (ty := .int) (by decide) rfl rfl gx d_jdk_69_m16_266 rfl ?_
  intro T141 h141 K141 W141
  have table_142 := table_138.other W141 (Or.inr (slot_ne (Or.inl (wd168 hw)) (Or.inl (wd216 hw)) (by decide) (t := (.array (.object "java/util/HashMap$Node"))) (t' := .int) (by decide) (by decide)))
  have threshold_142 := threshold_138.other W141 (Or.inr (slot_ne (Or.inl (wd175 hw)) (Or.inl (wd216 hw)) (by decide) (t := .int) (t' := .int) (by decide) (by decide)))
  have size_142 := size_138.other W141 (Or.inr (slot_ne (Or.inl (wd218 hw)) (Or.inl (wd216 hw)) (by decide) (t := .int) (t' := .int) (by decide) (by decide)))
  have modCount_142 := modCount_138.same W141
  have head_142 := head_138.other W141 (Or.inr (slot_ne (Or.inl (wd214 hw)) (Or.inl (wd216 hw)) (by decide) (t := (.object "java/util/LinkedHashMap$Entry")) (t' := .int) (by decide) (by decide)))
  have tail_142 := tail_138.other W141 (Or.inr (slot_ne (Or.inl (wd212 hw)) (Or.inl (wd216 hw)) (by decide) (t := (.object "java/util/LinkedHashMap$Entry")) (t' := .int) (by decide) (by decide)))
  have putMode_142 := putMode_138.other W141 (Or.inr (slot_ne (Or.inl (wd80 hw)) (Or.inl (wd216 hw)) (by decide) (t := .int) (t' := .int) (by decide) (by decide)))
  have accessOrder_142 := accessOrder_138.other W141 (Or.inr (slot_ne (Or.inr (wd82 hw)) (Or.inl (wd216 hw)) (by decide) (t := .boolean) (t' := .int) (by decide) (by decide)))
  have Eo_142 := Eo_138.wr W141
  have hash_143 := hash_139.other W141 (Or.inl hnx)
  have key_143 := key_139.other W141 (Or.inl hnx)
  have value_143 := value_139.other W141 (Or.inl hnx)
  have next_143 := next_139.other W141 (Or.inl hnx)
  have Eo_143 := Eo_139.wr W141
  have VTW141 := VT.other W141 htx
  refine own_aloadN K141 d_jdk_69_m16_269 rfl rfl rfl ?_
  refine own_dup K141 d_jdk_69_m16_270 rfl rfl ?_
  refine own_getF K141 (host := "") (Or.inl (wd217 hw)) Via.refl size_142 d_jdk_69_m16_271 rfl ?_
  intro T144 K144
  refine own_iconst K144 (v := (1 : Int32)) d_jdk_69_m16_274 rfl rfl ?_
  refine own_iadd K144 d_jdk_69_m16_275 rfl ?_
  refine own_dupX1 K144 d_jdk_69_m16_276 rfl rfl rfl ?_
  refine own_putF K144 (host := "") (Or.inl (wd217 hw)) Via.refl size_142 Eo_142 (Or.inl (wd218 hw)) (wd58 hw) (ty := .int) (by decide) rfl rfl gx d_jdk_69_m16_277 rfl ?_
  intro T145 h145 K145 W145
  have table_146 := table_142.other W145 (Or.inr (slot_ne (Or.inl (wd168 hw)) (Or.inl (wd218 hw)) (by decide) (t := (.array (.object "java/util/HashMap$Node"))) (t' := .int) (by decide) (by decide)))
  have threshold_146 := threshold_142.other W145 (Or.inr (slot_ne (Or.inl (wd175 hw)) (Or.inl (wd218 hw)) (by decide) (t := .int) (t' := .int) (by decide) (by decide)))
  have size_146 := size_142.same W145
  have modCount_146 := modCount_142.other W145 (Or.inr (slot_ne (Or.inl (wd216 hw)) (Or.inl (wd218 hw)) (by decide) (t := .int) (t' := .int) (by decide) (by decide)))
  have head_146 := head_142.other W145 (Or.inr (slot_ne (Or.inl (wd214 hw)) (Or.inl (wd218 hw)) (by decide) (t := (.object "java/util/LinkedHashMap$Entry")) (t' := .int) (by decide) (by decide)))
  have tail_146 := tail_142.other W145 (Or.inr (slot_ne (Or.inl (wd212 hw)) (Or.inl (wd218 hw)) (by decide) (t := (.object "java/util/LinkedHashMap$Entry")) (t' := .int) (by decide) (by decide)))
  have putMode_146 := putMode_142.other W145 (Or.inr (slot_ne (Or.inl (wd80 hw)) (Or.inl (wd218 hw)) (by decide) (t := .int) (t' := .int) (by decide) (by decide)))
  have accessOrder_146 := accessOrder_142.other W145 (Or.inr (slot_ne (Or.inr (wd82 hw)) (Or.inl (wd218 hw)) (by decide) (t := .boolean) (t' := .int) (by decide) (by decide)))
  have Eo_146 := Eo_142.wr W145
  have hash_147 := hash_143.other W145 (Or.inl hnx)
  have key_147 := key_143.other W145 (Or.inl hnx)
  have value_147 := value_143.other W145 (Or.inl hnx)
  have next_147 := next_143.other W145 (Or.inl hnx)
  have Eo_147 := Eo_143.wr W145
  have VTW145 := VTW141.other W145 htx
  refine own_aloadN K145 d_jdk_69_m16_280 rfl rfl rfl ?_
  refine own_getF K145 (host := "") (Or.inl (wd174 hw)) Via.refl threshold_146 d_jdk_69_m16_281 rfl ?_
  intro T148 K148
  refine own_icmpYes K148 d_jdk_69_m16_284 (pc' := 292) (by decide) (by decide) (flt (by decide)).2.2.2 ?_
  refine own_aloadN K148 d_jdk_69_m16_292 rfl rfl rfl ?_
  refine own_iload K148 d_jdk_69_m16_293 rfl rfl ?_
  refine own_callV K148 (a := x) (x0 := (⟨"java/util/HashMap", "afterNodeInsertion", "(Z)V"⟩ : MethodName)) (wd219 hw) (wd220 hw) (fun q => own_nfS (args := #[]) (mvT q (wd126 hw)) rfl) (wd222 hw) (wd223 hw) (rm_after hw hs (nd := n136) K148.O Eo_146 head_146) (wd224 hw) (wd59 hw) (by decide) Eo_146 (argsL := [(.int (1 : Int32))]) (rest := []) rfl pd_28Z29V rfl rfl (W := 0) rfl (by decide) (by decide) (by decide) (by decide) d_jdk_69_m16_295 rfl ?_
  intro T149 h149 L149 v149 K149 q149
  obtain ⟨rfl, e149⟩ := q149
  have f149 := e149.symm
  subst f149
  show G (T149.setTop (mkF m 298 #[.val (.ref x), .val (.int hs'), .val (.ref ky), .val (.ref vl), .val (.int (0 : Int32)), .val (.int (1 : Int32)), .val (.ref t135), .val .null, .val (.int (16 : Int32)), .val (.int ((15 : Int32) &&& hs')), .unset, .unset, .unset] []))
  refine own_aconstNull K149 d_jdk_69_m16_298 rfl ?_
  have KP1 : Keep h0 h136 [x] := Kp135.trans Kp136 (fun _ q => Or.inl q)
  exact own_retA K149 d_jdk_69_m16_299 rfl rfl rfl rfl (by decide) (by decide) ⟨t135, kt135, n136, rfl, (((KP1.wr W137 (Or.inr (Nat.le_of_eq gt135.symm))).wr W141 (Or.inl (List.mem_singleton.mpr rfl))).wr W145 (Or.inl (List.mem_singleton.mpr rfl))), Eo_146, table_146, accessOrder_146, VTW145, Eo_147, hash_147, key_147, value_147, next_147⟩
theorem own_keep2 {h0 h1 h2 : Heap} {x b b' : Addr} (K : Keep h0 h1 [x]) (K' : Keep h1 h2 [b']) (hb : b' = b ∨ h0.size ≤ b') : Keep h0 h2 [x, b] := by
  have K1 : Keep h0 h1 [x, b] := ⟨K.1, fun y c q r => K.2.1 y c q (fun z => r (by rw [List.mem_singleton.mp z]; exact List.mem_cons_self ..)), K.2.2⟩
  exact K1.trans K' fun y q => by
    rw [List.mem_singleton.mp q]
    exact hb.imp (fun z => by rw [z]; exact List.mem_cons_of_mem _ (List.mem_singleton.mpr rfl)) id
/-- a map of one entry -/
def own_MP (Z : State) (h : Heap) (mp tb nd ls ky : Addr) (kt : ClassId) (ck : List Int32) : Prop := Exa Z h mp "java/util/LinkedHashMap" ∧ Fld Z h mp "java/util/HashMap" "table" "[Ljava/util/HashMap$Node;" (.ref tb) ∧ Fld Z h mp "java/util/LinkedHashMap" "accessOrder" "Z" (.int 0) ∧ Arv Z h tb kt (.object "java/util/HashMap$Node") 16 (own_tab (own_spr (own_hash ck)) nd) .null ∧ Exa Z h nd "java/util/LinkedHashMap$Entry" ∧ Fld Z h nd "java/util/HashMap$Node" "hash" "I" (.int (own_spr (own_hash ck))) ∧ Fld Z h nd "java/util/HashMap$Node" "key" "Ljava/lang/Object;" (.ref ky) ∧ Fld Z h nd "java/util/HashMap$Node" "value" "Ljava/lang/Object;" (.ref ls) ∧ Fld Z h nd "java/util/HashMap$Node" "next" "Ljava/util/HashMap$Node;" .null
theorem own_MP.keep {Z : State} {a0 : Array Value} {h h' : Heap} {mp tb nd ls ky y : Addr} {kt : ClassId} {ck : List Int32} (w : (Cond.instantiable "java/lang/String" (4 : Nat)).before a0 Z = true) (M : own_MP Z h mp tb nd ls ky kt ck) (K : Keep h h' [y]) (Ey : Exa Z h y "java/lang/String") : own_MP Z h' mp tb nd ls ky kt ck := by
  obtain ⟨E, FT, FA, V, EN, FH, FK, FV, FX⟩ := M
  have n1 := own_nin (Exa.ne E Ey (by decide))
  have n2 := own_nin (Exa.ne EN Ey (by decide))
  have n3 := own_nin (Exa.neArv Ey V w).symm
  exact ⟨E.keep K, FT.keep K n1, FA.keep K n1, V.keep K n3, EN.keep K, FH.keep K n2, FK.keep K n2, FV.keep K n2, FX.keep K n2⟩
theorem own_MP.ext {Z : State} {h h' : Heap} {mp tb nd ls ky : Addr} {kt : ClassId} {ck : List Int32} (M : own_MP Z h mp tb nd ls ky kt ck) (X : Ext h h') : own_MP Z h' mp tb nd ls ky kt ck := by
  obtain ⟨E, FT, FA, V, EN, FH, FK, FV, FX⟩ := M
  exact ⟨E.ext X, FT.ext X, FA.ext X, V.ext X, EN.ext X, FH.ext X, FK.ext X, FV.ext X, FX.ext X⟩
theorem d_jdk_69_m15_0 : decode jdk_69_method_15_code 0 = .ok (.aload_n 0, 1) := by decide +kernel
theorem d_jdk_69_m15_1 : decode jdk_69_method_15_code 1 = .ok (.aload_n 1, 1) := by decide +kernel
theorem d_jdk_69_m15_2 : decode jdk_69_method_15_code 2 = .ok (.invokestatic 149, 3) := by decide +kernel
theorem wd134 {a0 : Array Value} {Z : State} (hw : ∀ d ∈ tables_1, d.before a0 Z = true) : (Jvm.Cond.code ({ cls := "java/util/HashMap", name := "hash", desc := "(Ljava/lang/Object;)I" } : Jvm.MethodName) jdk_69_method_1_code (2 : Nat) (Option.some Jvm.ClassFile.FieldType.int)).before a0 Z = true := hw _ (List.mem_of_getElem? (i := 134) rfl)
theorem pd_28Ljava2flang2fObject3b29I : parseMethodDescriptor "(Ljava/lang/Object;)I" = some ⟨[(.object "java/lang/Object")], some .int⟩ := by decide +kernel
theorem wd132 {a0 : Array Value} {Z : State} (hw : ∀ d ∈ tables_1, d.before a0 Z = true) : (Jvm.Cond.methodLink "java/util/HashMap" (149 : Nat) ({ cls := "java/util/HashMap", name := "hash", desc := "(Ljava/lang/Object;)I" } : Jvm.MethodName)).before a0 Z = true := hw _ (List.mem_of_getElem? (i := 132) rfl)
theorem wd133 {a0 : Array Value} {Z : State} (hw : ∀ d ∈ tables_1, d.before a0 Z = true) : (Jvm.Cond.static ({ cls := "java/util/HashMap", name := "hash", desc := "(Ljava/lang/Object;)I" } : Jvm.MethodName)).before a0 Z = true := hw _ (List.mem_of_getElem? (i := 133) rfl)
theorem d_jdk_69_m15_5 : decode jdk_69_method_15_code 5 = .ok (.aload_n 1, 1) := by decide +kernel
theorem d_jdk_69_m15_6 : decode jdk_69_method_15_code 6 = .ok (.aload_n 2, 1) := by decide +kernel
theorem d_jdk_69_m15_7 : decode jdk_69_method_15_code 7 = .ok (.iconst 0, 1) := by decide +kernel
theorem d_jdk_69_m15_8 : decode jdk_69_method_15_code 8 = .ok (.iconst 1, 1) := by decide +kernel
theorem d_jdk_69_m15_9 : decode jdk_69_method_15_code 9 = .ok (.invokevirtual 152, 3) := by decide +kernel
theorem wd166 {a0 : Array Value} {Z : State} (hw : ∀ d ∈ tables_1, d.before a0 Z = true) : (Jvm.Cond.code ({ cls := "java/util/HashMap", name := "putVal", desc := "(ILjava/lang/Object;Ljava/lang/Object;ZZ)Ljava/lang/Object;" } : Jvm.MethodName) jdk_69_method_16_code (13 : Nat) (Option.some (Jvm.ClassFile.FieldType.object "java/lang/Object"))).before a0 Z = true := hw _ (List.mem_of_getElem? (i := 166) rfl)
theorem pd_28ILjava2flang2fObject3bLjava2flang2fObject3bZZ29Ljava2flang2fObject3b : parseMethodDescriptor "(ILjava/lang/Object;Ljava/lang/Object;ZZ)Ljava/lang/Object;" = some ⟨[.int, (.object "java/lang/Object"), (.object "java/lang/Object"), .boolean, .boolean], some (.object "java/lang/Object")⟩ := by decide +kernel
theorem wd162 {a0 : Array Value} {Z : State} (hw : ∀ d ∈ tables_1, d.before a0 Z = true) : (Jvm.Cond.methodLink "java/util/HashMap" (152 : Nat) ({ cls := "java/util/HashMap", name := "putVal", desc := "(ILjava/lang/Object;Ljava/lang/Object;ZZ)Ljava/lang/Object;" } : Jvm.MethodName)).before a0 Z = true := hw _ (List.mem_of_getElem? (i := 162) rfl)
theorem wd163 {a0 : Array Value} {Z : State} (hw : ∀ d ∈ tables_1, d.before a0 Z = true) : (Jvm.Cond.declares ({ cls := "java/util/HashMap", name := "putVal", desc := "(ILjava/lang/Object;Ljava/lang/Object;ZZ)Ljava/lang/Object;" } : Jvm.MethodName)).before a0 Z = true := hw _ (List.mem_of_getElem? (i := 163) rfl)
theorem wd165 {a0 : Array Value} {Z : State} (hw : ∀ d ∈ tables_1, d.before a0 Z = true) : (Jvm.Cond.selects "java/util/LinkedHashMap" ({ cls := "java/util/HashMap", name := "putVal", desc := "(ILjava/lang/Object;Ljava/lang/Object;ZZ)Ljava/lang/Object;" } : Jvm.MethodName) ({ cls := "java/util/HashMap", name := "putVal", desc := "(ILjava/lang/Object;Ljava/lang/Object;ZZ)Ljava/lang/Object;" } : Jvm.MethodName)).before a0 Z = true := hw _ (List.mem_of_getElem? (i := 165) rfl)
theorem wd164 {a0 : Array Value} {Z : State} (hw : ∀ d ∈ tables_1, d.before a0 Z = true) : (Jvm.Cond.instanceMethod ({ cls := "java/util/HashMap", name := "putVal", desc := "(ILjava/lang/Object;Ljava/lang/Object;ZZ)Ljava/lang/Object;" } : Jvm.MethodName)).before a0 Z = true := hw _ (List.mem_of_getElem? (i := 164) rfl)
theorem d_jdk_69_m15_12 : decode jdk_69_method_15_code 12 = .ok (.areturn, 1) := by decide +kernel
theorem own_StS.keepO {Z : State} {h h' : Heap} {x y : Addr} {cs : List Int32} (S : own_StS Z h x cs) (K : Keep h h' [y]) (hne : x ≠ y) (hb : ∀ {kb : ClassId} {z : Int32} {vs : List Value} (b : Addr), Arv Z h b kb .byte z vs (.int 0) → b ≠ y) : own_StS Z h' x cs := by
  obtain ⟨hv, zv, ⟨e0, f1, f2, f3, b, kb, f4, V, hx⟩, q⟩ := S
  have n1 := own_nin hne
  have n2 := own_nin (hb b V)
  exact ⟨hv, zv, ⟨e0.keep K, f1.keep K n1, f2.keep K n1, f3.keep K n1, b, kb, f4.keep K n1, V.keep K n2, fun q => (hx q).keep K⟩, q⟩
set_option maxRecDepth 65536 in
set_option maxHeartbeats 40000000 in
theorem rm_put {l : Launch} {Z : State} {a0 : Array Value} (hw : ∀ d ∈ tables_1, d.before a0 Z = true) (hs : ∀ d ∈ jdkStatics_1, d.before a0 Z = true) {x : Addr} {ky : Addr} {ls : Addr} {ck : List Int32} {h0 : Heap} (O0 : Ext Z.heap h0) (E : Exa Z h0 x "java/util/LinkedHashMap") (Ftable : Fld Z h0 x "java/util/HashMap" "table" "[Ljava/util/HashMap$Node;" .null) (Fthreshold : Fld Z h0 x "java/util/HashMap" "threshold" "I" (.int 0)) (Fsize : Fld Z h0 x "java/util/HashMap" "size" "I" (.int 0)) (FmodCount : Fld Z h0 x "java/util/HashMap" "modCount" "I" (.int 0)) (Fhead : Fld Z h0 x "java/util/LinkedHashMap" "head" "Ljava/util/LinkedHashMap$Entry;" .null) (Ftail : Fld Z h0 x "java/util/LinkedHashMap" "tail" "Ljava/util/LinkedHashMap$Entry;" .null) (FputMode : Fld Z h0 x "java/util/LinkedHashMap" "putMode" "I" (.int 0)) (FaccessOrder : Fld Z h0 x "java/util/LinkedHashMap" "accessOrder" "Z" (.int 0)) (gx : Z.heap.size ≤ x) (S : own_StS Z h0 ky ck) (gk : Z.heap.size ≤ ky) (hok : own_ok false ck) (hlen : ck.length ≤ 4000) :
    own_Ct l Z (⟨"java/util/HashMap", "put", "(Ljava/lang/Object;Ljava/lang/Object;)Ljava/lang/Object;"⟩ : MethodName) jdk_69_method_15_code 3 (some (.object "java/lang/Object")) [] ({ frames := 5, locals := 88, cells := 2, slots := 22 } : Room) #[(.ref x), (.ref ky), (.ref ls)] h0 (fun v h => ∃ (tb : Addr) (kt : ClassId) (nd : Addr), v = some .null ∧ Keep h0 h [ky, x] ∧ own_MP Z h x tb nd ls ky kt ck ∧ own_StS Z h ky ck) := by
  refine own_body (Ls := #[.val (.ref x), .val (.ref ky), .val (.ref ls)]) (plainFor_of_name pn_java_util_HashMap) (fun m => by first | (simp [entryFrame, mkF, argsToLocals, Value.category]; done) | rfl) O0 ?_
  intro p e s m below meth c T0 G K0
  refine own_aloadN K0 d_jdk_69_m15_0 rfl rfl rfl ?_
  refine own_aloadN K0 d_jdk_69_m15_1 rfl rfl rfl ?_
  have hkx : ky ≠ x := Exa.ne S.exa E (by decide)
  refine own_callS K0 (wd132 hw) (wd133 hw) (rm_hash hw hs (cs := ck) K0.O S gk hok hlen) (wd134 hw) (wd67 hw) (by decide) (argsL := [(.ref ky)]) (rest := [(.ref x)]) rfl pd_28Ljava2flang2fObject3b29I rfl rfl (W := 1) rfl (by decide) (by decide) (by decide) (by decide) d_jdk_69_m15_2 rfl ?_
  intro T150 h150 L150 v150 K150 q150
  obtain ⟨rfl, Kp150, S150⟩ := q150
  show G (T150.setTop (mkF m 5 #[.val (.ref x), .val (.ref ky), .val (.ref ls)] [(.int (own_spr (own_hash ck))), (.ref x)]))
  have table_151 := Ftable.keep Kp150 (own_nin hkx.symm)
  have threshold_151 := Fthreshold.keep Kp150 (own_nin hkx.symm)
  have size_151 := Fsize.keep Kp150 (own_nin hkx.symm)
  have modCount_151 := FmodCount.keep Kp150 (own_nin hkx.symm)
  have head_151 := Fhead.keep Kp150 (own_nin hkx.symm)
  have tail_151 := Ftail.keep Kp150 (own_nin hkx.symm)
  have putMode_151 := FputMode.keep Kp150 (own_nin hkx.symm)
  have accessOrder_151 := FaccessOrder.keep Kp150 (own_nin hkx.symm)
  have Eo_151 := E.keep Kp150
  refine own_aloadN K150 d_jdk_69_m15_5 rfl rfl rfl ?_
  refine own_aloadN K150 d_jdk_69_m15_6 rfl rfl rfl ?_
  refine own_iconst K150 (v := (0 : Int32)) d_jdk_69_m15_7 rfl rfl ?_
  refine own_iconst K150 (v := (1 : Int32)) d_jdk_69_m15_8 rfl rfl ?_
  refine own_callV K150 (a := x) (x0 := (⟨"java/util/HashMap", "putVal", "(ILjava/lang/Object;Ljava/lang/Object;ZZ)Ljava/lang/Object;"⟩ : MethodName)) (wd162 hw) (wd163 hw) (fun q => own_nfS (args := #[]) (mvT q (wd126 hw)) rfl) (wd165 hw) (wd164 hw) (rm_putVal hw hs (hs' := (own_spr (own_hash ck))) (ky := ky) (vl := ls) K150.O Eo_151 table_151 threshold_151 size_151 modCount_151 head_151 tail_151 putMode_151 accessOrder_151 gx) (wd166 hw) (wd67 hw) (by decide) Eo_151 (argsL := [(.int (own_spr (own_hash ck))), (.ref ky), (.ref ls), (.int (0 : Int32)), (.int (1 : Int32))]) (rest := []) rfl pd_28ILjava2flang2fObject3bLjava2flang2fObject3bZZ29Ljava2flang2fObject3b rfl rfl (W := 0) rfl (by decide) (by decide) (by decide) (by decide) d_jdk_69_m15_9 rfl ?_
  intro T152 h152 L152 v152 K152 q152
  obtain ⟨tb152, kt152, nd152, rfl, Kp152, M152⟩ := q152
  show G (T152.setTop (mkF m 12 #[.val (.ref x), .val (.ref ky), .val (.ref ls)] [.null]))
  exact own_retA K152 d_jdk_69_m15_12 rfl rfl rfl rfl (by decide) (by decide) ⟨tb152, kt152, nd152, rfl, own_keep2 Kp150 Kp152 (Or.inl rfl), M152, own_StS.keepO S150 Kp152 hkx (fun b V => (Exa.neArv Eo_151 V (wd58 hw)).symm)⟩
theorem d_jdk_22_m1_0 : decode jdk_22_method_1_code 0 = .ok (.aload_n 0, 1) := by decide +kernel
theorem d_jdk_22_m1_1 : decode jdk_22_method_1_code 1 = .ok (.invokespecial 1, 3) := by decide +kernel
theorem wd112 {a0 : Array Value} {Z : State} (hw : ∀ d ∈ tables_1, d.before a0 Z = true) : (Jvm.Cond.methodLink "java/util/AbstractCollection" (1 : Nat) ({ cls := "java/lang/Object", name := "<init>", desc := "()V" } : Jvm.MethodName)).before a0 Z = true := hw _ (List.mem_of_getElem? (i := 112) rfl)
theorem d_jdk_22_m1_4 : decode jdk_22_method_1_code 4 = .ok (.return_, 1) := by decide +kernel
theorem pn_java_util_AbstractCollection : plainName "java/util/AbstractCollection" = true := by first | (simp [plainName, overriddenIn]; done) | decide +kernel
set_option maxRecDepth 65536 in
set_option maxHeartbeats 40000000 in
theorem rm_acInit {l : Launch} {Z : State} {a0 : Array Value} (hw : ∀ d ∈ tables_1, d.before a0 Z = true) (hs : ∀ d ∈ jdkStatics_1, d.before a0 Z = true) {x : Addr} {h0 : Heap} (O0 : Ext Z.heap h0)  :
    own_Ct l Z (⟨"java/util/AbstractCollection", "<init>", "()V"⟩ : MethodName) jdk_22_method_1_code 1 none [] ({ frames := 1, locals := 12, cells := 0, slots := 0 } : Room) #[(.ref x)] h0 (fun v h => v = none ∧ h = h0) := by
  refine own_body (Ls := #[.val (.ref x)]) (plainFor_of_name pn_java_util_AbstractCollection) (fun m => by first | (simp [entryFrame, mkF, argsToLocals, Value.category]; done) | rfl) O0 ?_
  intro p e s m below meth c T0 G K0
  refine own_aloadN K0 d_jdk_22_m1_0 rfl rfl rfl ?_
  refine own_initO K0 (W := 0) (wd112 hw) (wd18 hw) (wd19 hw) rfl rfl (by decide) (by decide) d_jdk_22_m1_1 rfl ?_
  intro T153 K153
  exact own_ret0 K153 d_jdk_22_m1_4 rfl (by decide) (by decide) ⟨rfl, rfl⟩
theorem d_jdk_47_m1_0 : decode jdk_47_method_1_code 0 = .ok (.aload_n 0, 1) := by decide +kernel
theorem d_jdk_47_m1_1 : decode jdk_47_method_1_code 1 = .ok (.invokespecial 1, 3) := by decide +kernel
theorem wd111 {a0 : Array Value} {Z : State} (hw : ∀ d ∈ tables_1, d.before a0 Z = true) : (Jvm.Cond.code ({ cls := "java/util/AbstractCollection", name := "<init>", desc := "()V" } : Jvm.MethodName) jdk_22_method_1_code (1 : Nat) (Option.none : Option Jvm.ClassFile.FieldType)).before a0 Z = true := hw _ (List.mem_of_getElem? (i := 111) rfl)
theorem wd110 {a0 : Array Value} {Z : State} (hw : ∀ d ∈ tables_1, d.before a0 Z = true) : (Jvm.Cond.initialized "java/util/AbstractCollection").before a0 Z = true := hw _ (List.mem_of_getElem? (i := 110) rfl)
theorem wd106 {a0 : Array Value} {Z : State} (hw : ∀ d ∈ tables_1, d.before a0 Z = true) : (Jvm.Cond.methodLink "java/util/ImmutableCollections$AbstractImmutableCollection" (1 : Nat) ({ cls := "java/util/AbstractCollection", name := "<init>", desc := "()V" } : Jvm.MethodName)).before a0 Z = true := hw _ (List.mem_of_getElem? (i := 106) rfl)
theorem wd107 {a0 : Array Value} {Z : State} (hw : ∀ d ∈ tables_1, d.before a0 Z = true) : (Jvm.Cond.instanceMethod ({ cls := "java/util/AbstractCollection", name := "<init>", desc := "()V" } : Jvm.MethodName)).before a0 Z = true := hw _ (List.mem_of_getElem? (i := 107) rfl)
theorem d_jdk_47_m1_4 : decode jdk_47_method_1_code 4 = .ok (.return_, 1) := by decide +kernel
theorem pn_java_util_ImmutableCollections_AbstractImmutableCollection : plainName "java/util/ImmutableCollections$AbstractImmutableCollection" = true := by first | (simp [plainName, overriddenIn]; done) | decide +kernel
set_option maxRecDepth 65536 in
set_option maxHeartbeats 40000000 in
theorem rm_aicInit {l : Launch} {Z : State} {a0 : Array Value} (hw : ∀ d ∈ tables_1, d.before a0 Z = true) (hs : ∀ d ∈ jdkStatics_1, d.before a0 Z = true) {x : Addr} {h0 : Heap} (O0 : Ext Z.heap h0)  :
    own_Ct l Z (⟨"java/util/ImmutableCollections$AbstractImmutableCollection", "<init>", "()V"⟩ : MethodName) jdk_47_method_1_code 1 none [] ({ frames := 2, locals := 24, cells := 0, slots := 0 } : Room) #[(.ref x)] h0 (fun v h => v = none ∧ h = h0) := by
  refine own_body (Ls := #[.val (.ref x)]) (plainFor_of_name pn_java_util_ImmutableCollections_AbstractImmutableCollection) (fun m => by first | (simp [entryFrame, mkF, argsToLocals, Value.category]; done) | rfl) O0 ?_
  intro p e s m below meth c T0 G K0
  refine own_aloadN K0 d_jdk_47_m1_0 rfl rfl rfl ?_
  refine own_callI K0 (a := x) (wd106 hw) (wd107 hw) (rm_acInit hw hs (x := x) K0.O) (wd111 hw) (wd110 hw) (by decide) rfl (argsL := []) (rest := []) rfl pd_2829V rfl rfl (W := 0) rfl (by decide) (by decide) (by decide) (by decide) d_jdk_47_m1_1 rfl ?_
  intro T154 h154 L154 v154 K154 q154
  obtain ⟨rfl, e154⟩ := q154
  have f154 := e154.symm
  subst f154
  show G (T154.setTop (mkF m 4 #[.val (.ref x)] []))
  exact own_ret0 K154 d_jdk_47_m1_4 rfl (by decide) (by decide) ⟨rfl, rfl⟩
theorem d_jdk_46_m1_0 : decode jdk_46_method_1_code 0 = .ok (.aload_n 0, 1) := by decide +kernel
theorem d_jdk_46_m1_1 : decode jdk_46_method_1_code 1 = .ok (.invokespecial 1, 3) := by decide +kernel
theorem wd105 {a0 : Array Value} {Z : State} (hw : ∀ d ∈ tables_1, d.before a0 Z = true) : (Jvm.Cond.code ({ cls := "java/util/ImmutableCollections$AbstractImmutableCollection", name := "<init>", desc := "()V" } : Jvm.MethodName) jdk_47_method_1_code (1 : Nat) (Option.none : Option Jvm.ClassFile.FieldType)).before a0 Z = true := hw _ (List.mem_of_getElem? (i := 105) rfl)
theorem wd104 {a0 : Array Value} {Z : State} (hw : ∀ d ∈ tables_1, d.before a0 Z = true) : (Jvm.Cond.initialized "java/util/ImmutableCollections$AbstractImmutableCollection").before a0 Z = true := hw _ (List.mem_of_getElem? (i := 104) rfl)
theorem wd100 {a0 : Array Value} {Z : State} (hw : ∀ d ∈ tables_1, d.before a0 Z = true) : (Jvm.Cond.methodLink "java/util/ImmutableCollections$AbstractImmutableList" (1 : Nat) ({ cls := "java/util/ImmutableCollections$AbstractImmutableCollection", name := "<init>", desc := "()V" } : Jvm.MethodName)).before a0 Z = true := hw _ (List.mem_of_getElem? (i := 100) rfl)
theorem wd101 {a0 : Array Value} {Z : State} (hw : ∀ d ∈ tables_1, d.before a0 Z = true) : (Jvm.Cond.instanceMethod ({ cls := "java/util/ImmutableCollections$AbstractImmutableCollection", name := "<init>", desc := "()V" } : Jvm.MethodName)).before a0 Z = true := hw _ (List.mem_of_getElem? (i := 101) rfl)
theorem d_jdk_46_m1_4 : decode jdk_46_method_1_code 4 = .ok (.return_, 1) := by decide +kernel
theorem pn_java_util_ImmutableCollections_AbstractImmutableList : plainName "java/util/ImmutableCollections$AbstractImmutableList" = true := by first | (simp [plainName, overriddenIn]; done) | decide +kernel
set_option maxRecDepth 65536 in
set_option maxHeartbeats 40000000 in
theorem rm_ailInit {l : Launch} {Z : State} {a0 : Array Value} (hw : ∀ d ∈ tables_1, d.before a0 Z = true) (hs : ∀ d ∈ jdkStatics_1, d.before a0 Z = true) {x : Addr} {h0 : Heap} (O0 : Ext Z.heap h0)  :
    own_Ct l Z (⟨"java/util/ImmutableCollections$AbstractImmutableList", "<init>", "()V"⟩ : MethodName) jdk_46_method_1_code 1 none [] ({ frames := 3, locals := 36, cells := 0, slots := 0 } : Room) #[(.ref x)] h0 (fun v h => v = none ∧ h = h0) := by
  refine own_body (Ls := #[.val (.ref x)]) (plainFor_of_name pn_java_util_ImmutableCollections_AbstractImmutableList) (fun m => by first | (simp [entryFrame, mkF, argsToLocals, Value.category]; done) | rfl) O0 ?_
  intro p e s m below meth c T0 G K0
  refine own_aloadN K0 d_jdk_46_m1_0 rfl rfl rfl ?_
  refine own_callI K0 (a := x) (wd100 hw) (wd101 hw) (rm_aicInit hw hs (x := x) K0.O) (wd105 hw) (wd104 hw) (by decide) rfl (argsL := []) (rest := []) rfl pd_2829V rfl rfl (W := 0) rfl (by decide) (by decide) (by decide) (by decide) d_jdk_46_m1_1 rfl ?_
  intro T155 h155 L155 v155 K155 q155
  obtain ⟨rfl, e155⟩ := q155
  have f155 := e155.symm
  subst f155
  show G (T155.setTop (mkF m 4 #[.val (.ref x)] []))
  exact own_ret0 K155 d_jdk_46_m1_4 rfl (by decide) (by decide) ⟨rfl, rfl⟩
theorem d_jdk_31_m10_0 : decode jdk_31_method_10_code 0 = .ok (.aload_n 0, 1) := by decide +kernel
theorem d_jdk_31_m10_1 : decode jdk_31_method_10_code 1 = .ok (.ifnonnull 11, 3) := by decide +kernel
theorem d_jdk_31_m10_12 : decode jdk_31_method_10_code 12 = .ok (.aload_n 0, 1) := by decide +kernel
theorem d_jdk_31_m10_13 : decode jdk_31_method_10_code 13 = .ok (.areturn, 1) := by decide +kernel
theorem pn_java_util_Objects : plainName "java/util/Objects" = true := by first | (simp [plainName, overriddenIn]; done) | decide +kernel
set_option maxRecDepth 65536 in
set_option maxHeartbeats 40000000 in
theorem rm_rnn {l : Launch} {Z : State} {a0 : Array Value} (hw : ∀ d ∈ tables_1, d.before a0 Z = true) (hs : ∀ d ∈ jdkStatics_1, d.before a0 Z = true) {x : Addr} {h0 : Heap} (O0 : Ext Z.heap h0)  :
    own_Ct l Z (⟨"java/util/Objects", "requireNonNull", "(Ljava/lang/Object;)Ljava/lang/Object;"⟩ : MethodName) jdk_31_method_10_code 1 (some (.object "java/lang/Object")) [] ({ frames := 0, locals := 0, cells := 0, slots := 0 } : Room) #[(.ref x)] h0 (fun v h => v = some (.ref x) ∧ h = h0) := by
  refine own_body (Ls := #[.val (.ref x)]) (plainFor_of_name pn_java_util_Objects) (fun m => by first | (simp [entryFrame, mkF, argsToLocals, Value.category]; done) | rfl) O0 ?_
  intro p e s m below meth c T0 G K0
  refine own_aloadN K0 d_jdk_31_m10_0 rfl rfl rfl ?_
  refine own_ifnonnullYes K0 d_jdk_31_m10_1 (pc' := 12) (by decide) (by decide) ?_
  refine own_aloadN K0 d_jdk_31_m10_12 rfl rfl rfl ?_
  exact own_retA K0 d_jdk_31_m10_13 rfl rfl rfl rfl (by decide) (by decide) ⟨rfl, rfl⟩
theorem d_jdk_44_m1_0 : decode jdk_44_method_1_code 0 = .ok (.aload_n 0, 1) := by decide +kernel
theorem d_jdk_44_m1_1 : decode jdk_44_method_1_code 1 = .ok (.invokespecial 1, 3) := by decide +kernel
theorem wd99 {a0 : Array Value} {Z : State} (hw : ∀ d ∈ tables_1, d.before a0 Z = true) : (Jvm.Cond.code ({ cls := "java/util/ImmutableCollections$AbstractImmutableList", name := "<init>", desc := "()V" } : Jvm.MethodName) jdk_46_method_1_code (1 : Nat) (Option.none : Option Jvm.ClassFile.FieldType)).before a0 Z = true := hw _ (List.mem_of_getElem? (i := 99) rfl)
theorem wd98 {a0 : Array Value} {Z : State} (hw : ∀ d ∈ tables_1, d.before a0 Z = true) : (Jvm.Cond.initialized "java/util/ImmutableCollections$AbstractImmutableList").before a0 Z = true := hw _ (List.mem_of_getElem? (i := 98) rfl)
theorem wd94 {a0 : Array Value} {Z : State} (hw : ∀ d ∈ tables_1, d.before a0 Z = true) : (Jvm.Cond.methodLink "java/util/ImmutableCollections$List12" (1 : Nat) ({ cls := "java/util/ImmutableCollections$AbstractImmutableList", name := "<init>", desc := "()V" } : Jvm.MethodName)).before a0 Z = true := hw _ (List.mem_of_getElem? (i := 94) rfl)
theorem wd95 {a0 : Array Value} {Z : State} (hw : ∀ d ∈ tables_1, d.before a0 Z = true) : (Jvm.Cond.instanceMethod ({ cls := "java/util/ImmutableCollections$AbstractImmutableList", name := "<init>", desc := "()V" } : Jvm.MethodName)).before a0 Z = true := hw _ (List.mem_of_getElem? (i := 95) rfl)
theorem d_jdk_44_m1_4 : decode jdk_44_method_1_code 4 = .ok (.aload_n 0, 1) := by decide +kernel
theorem d_jdk_44_m1_5 : decode jdk_44_method_1_code 5 = .ok (.aload_n 1, 1) := by decide +kernel
theorem d_jdk_44_m1_6 : decode jdk_44_method_1_code 6 = .ok (.invokestatic 7, 3) := by decide +kernel
theorem wd116 {a0 : Array Value} {Z : State} (hw : ∀ d ∈ tables_1, d.before a0 Z = true) : (Jvm.Cond.code ({ cls := "java/util/Objects", name := "requireNonNull", desc := "(Ljava/lang/Object;)Ljava/lang/Object;" } : Jvm.MethodName) jdk_31_method_10_code (1 : Nat) (Option.some (Jvm.ClassFile.FieldType.object "java/lang/Object"))).before a0 Z = true := hw _ (List.mem_of_getElem? (i := 116) rfl)
theorem wd115 {a0 : Array Value} {Z : State} (hw : ∀ d ∈ tables_1, d.before a0 Z = true) : (Jvm.Cond.initialized "java/util/Objects").before a0 Z = true := hw _ (List.mem_of_getElem? (i := 115) rfl)
theorem pd_28Ljava2flang2fObject3b29Ljava2flang2fObject3b : parseMethodDescriptor "(Ljava/lang/Object;)Ljava/lang/Object;" = some ⟨[(.object "java/lang/Object")], some (.object "java/lang/Object")⟩ := by decide +kernel
theorem wd113 {a0 : Array Value} {Z : State} (hw : ∀ d ∈ tables_1, d.before a0 Z = true) : (Jvm.Cond.methodLink "java/util/ImmutableCollections$List12" (7 : Nat) ({ cls := "java/util/Objects", name := "requireNonNull", desc := "(Ljava/lang/Object;)Ljava/lang/Object;" } : Jvm.MethodName)).before a0 Z = true := hw _ (List.mem_of_getElem? (i := 113) rfl)
theorem wd114 {a0 : Array Value} {Z : State} (hw : ∀ d ∈ tables_1, d.before a0 Z = true) : (Jvm.Cond.static ({ cls := "java/util/Objects", name := "requireNonNull", desc := "(Ljava/lang/Object;)Ljava/lang/Object;" } : Jvm.MethodName)).before a0 Z = true := hw _ (List.mem_of_getElem? (i := 114) rfl)
theorem wd117 {a0 : Array Value} {Z : State} (hw : ∀ d ∈ tables_1, d.before a0 Z = true) : (Jvm.Cond.fieldLink "java/util/ImmutableCollections$List12" (13 : Nat) "java/util/ImmutableCollections$List12" "e0" "Ljava/lang/Object;").before a0 Z = true := hw _ (List.mem_of_getElem? (i := 117) rfl)
theorem wd118 {a0 : Array Value} {Z : State} (hw : ∀ d ∈ tables_1, d.before a0 Z = true) : (Jvm.Cond.laysFinal "java/util/ImmutableCollections$List12" "java/util/ImmutableCollections$List12" "e0" "Ljava/lang/Object;").before a0 Z = true := hw _ (List.mem_of_getElem? (i := 118) rfl)
theorem d_jdk_44_m1_9 : decode jdk_44_method_1_code 9 = .ok (.putfield 13, 3) := by decide +kernel
theorem wd88 {a0 : Array Value} {Z : State} (hw : ∀ d ∈ tables_1, d.before a0 Z = true) : (Jvm.Cond.instantiable "java/util/ImmutableCollections$List12" (2 : Nat)).before a0 Z = true := hw _ (List.mem_of_getElem? (i := 88) rfl)
theorem wd122 {a0 : Array Value} {Z : State} (hw : ∀ d ∈ tables_1, d.before a0 Z = true) : (Jvm.Cond.laysFinal "java/util/ImmutableCollections$List12" "java/util/ImmutableCollections$List12" "e1" "Ljava/lang/Object;").before a0 Z = true := hw _ (List.mem_of_getElem? (i := 122) rfl)
theorem d_jdk_44_m1_12 : decode jdk_44_method_1_code 12 = .ok (.aload_n 0, 1) := by decide +kernel
theorem d_jdk_44_m1_13 : decode jdk_44_method_1_code 13 = .ok (.getstatic 19, 3) := by decide +kernel
theorem wd119 {a0 : Array Value} {Z : State} (hw : ∀ d ∈ tables_1, d.before a0 Z = true) : (Jvm.Cond.fieldLinkNest "java/util/ImmutableCollections$List12" (19 : Nat) "java/util/ImmutableCollections" "EMPTY" "Ljava/lang/Object;" "java/util/ImmutableCollections").before a0 Z = true := hw _ (List.mem_of_getElem? (i := 119) rfl)
theorem wd121 {a0 : Array Value} {Z : State} (hw : ∀ d ∈ tables_1, d.before a0 Z = true) : (Jvm.Cond.fieldLink "java/util/ImmutableCollections$List12" (24 : Nat) "java/util/ImmutableCollections$List12" "e1" "Ljava/lang/Object;").before a0 Z = true := hw _ (List.mem_of_getElem? (i := 121) rfl)
theorem d_jdk_44_m1_16 : decode jdk_44_method_1_code 16 = .ok (.putfield 24, 3) := by decide +kernel
theorem d_jdk_44_m1_19 : decode jdk_44_method_1_code 19 = .ok (.return_, 1) := by decide +kernel
theorem pn_java_util_ImmutableCollections_List12 : plainName "java/util/ImmutableCollections$List12" = true := by first | (simp [plainName, overriddenIn]; done) | decide +kernel
set_option maxRecDepth 65536 in
set_option maxHeartbeats 40000000 in
theorem rm_l12 {l : Launch} {Z : State} {a0 : Array Value} (hw : ∀ d ∈ tables_1, d.before a0 Z = true) (hs : ∀ d ∈ jdkStatics_1, d.before a0 Z = true) {x : Addr} {o : Addr} {em : Addr} {h0 : Heap} (O0 : Ext Z.heap h0) (E : Exa Z h0 x "java/util/ImmutableCollections$List12") (F0 : Fld Z h0 x "java/util/ImmutableCollections$List12" "e0" "Ljava/lang/Object;" .null) (F1 : Fld Z h0 x "java/util/ImmutableCollections$List12" "e1" "Ljava/lang/Object;" .null) (gx : Z.heap.size ≤ x) (SE : Sta Z Z.heap "java/util/ImmutableCollections" "EMPTY" "Ljava/lang/Object;" (.ref em)) :
    own_Ct l Z (⟨"java/util/ImmutableCollections$List12", "<init>", "(Ljava/lang/Object;)V"⟩ : MethodName) jdk_44_method_1_code 2 none [] ({ frames := 4, locals := 48, cells := 0, slots := 0 } : Room) #[(.ref x), (.ref o)] h0 (fun v h => v = none ∧ Keep h0 h [x] ∧ Exa Z h x "java/util/ImmutableCollections$List12" ∧ Fld Z h x "java/util/ImmutableCollections$List12" "e0" "Ljava/lang/Object;" (.ref o) ∧ Fld Z h x "java/util/ImmutableCollections$List12" "e1" "Ljava/lang/Object;" (.ref em)) := by
  refine own_body (Ls := #[.val (.ref x), .val (.ref o)]) (plainFor_of_name pn_java_util_ImmutableCollections_List12) (fun m => by first | (simp [entryFrame, mkF, argsToLocals, Value.category]; done) | rfl) O0 ?_
  intro p e s m below meth c T0 G K0
  refine own_aloadN K0 d_jdk_44_m1_0 rfl rfl rfl ?_
  refine own_callI K0 (a := x) (wd94 hw) (wd95 hw) (rm_ailInit hw hs (x := x) K0.O) (wd99 hw) (wd98 hw) (by decide) rfl (argsL := []) (rest := []) rfl pd_2829V rfl rfl (W := 0) rfl (by decide) (by decide) (by decide) (by decide) d_jdk_44_m1_1 rfl ?_
  intro T156 h156 L156 v156 K156 q156
  obtain ⟨rfl, e156⟩ := q156
  have f156 := e156.symm
  subst f156
  show G (T156.setTop (mkF m 4 #[.val (.ref x), .val (.ref o)] []))
  refine own_aloadN K156 d_jdk_44_m1_4 rfl rfl rfl ?_
  refine own_aloadN K156 d_jdk_44_m1_5 rfl rfl rfl ?_
  refine own_callS K156 (wd113 hw) (wd114 hw) (rm_rnn hw hs (x := o) K156.O) (wd116 hw) (wd115 hw) (by decide) (argsL := [(.ref o)]) (rest := [(.ref x)]) rfl pd_28Ljava2flang2fObject3b29Ljava2flang2fObject3b rfl rfl (W := 1) rfl (by decide) (by decide) (by decide) (by decide) d_jdk_44_m1_6 rfl ?_
  intro T157 h157 L157 v157 K157 q157
  obtain ⟨rfl, e157⟩ := q157
  have f157 := e157.symm
  subst f157
  show G (T157.setTop (mkF m 9 #[.val (.ref x), .val (.ref o)] [(.ref o), (.ref x)]))
  refine own_putF K157 (host := "") (Or.inl (wd117 hw)) Via.refl F0 E (Or.inr ⟨(wd118 hw), rfl, rfl⟩) (wd88 hw) (ty := (.object "java/lang/Object")) (by decide) rfl rfl gx d_jdk_44_m1_9 rfl ?_
  intro T158 h158 K158 W158
  have e0_159 := F0.same W158
  have e1_159 := F1.other W158 (Or.inr (slot_ne (Or.inr (wd122 hw)) (Or.inr (wd118 hw)) (by decide) (t := (.object "java/lang/Object")) (t' := (.object "java/lang/Object")) (by decide) (by decide)))
  have Eo_159 := E.wr W158
  refine own_aloadN K158 d_jdk_44_m1_12 rfl rfl rfl ?_
  refine own_getSN K158 (wd119 hw) Via.refl (SE.ext K158.O) d_jdk_44_m1_13 rfl ?_
  intro T160 K160
  refine own_putF K160 (host := "") (Or.inl (wd121 hw)) Via.refl e1_159 Eo_159 (Or.inr ⟨(wd122 hw), rfl, rfl⟩) (wd88 hw) (ty := (.object "java/lang/Object")) (by decide) rfl rfl gx d_jdk_44_m1_16 rfl ?_
  intro T161 h161 K161 W161
  have e0_162 := e0_159.other W161 (Or.inr (slot_ne (Or.inr (wd118 hw)) (Or.inr (wd122 hw)) (by decide) (t := (.object "java/lang/Object")) (t' := (.object "java/lang/Object")) (by decide) (by decide)))
  have e1_162 := e1_159.same W161
  have Eo_162 := Eo_159.wr W161
  exact own_ret0 K161 d_jdk_44_m1_19 rfl (by decide) (by decide) ⟨rfl, ((Keep.refl h0 [x]).wr W158 (Or.inl (List.mem_singleton.mpr rfl))).wr W161 (Or.inl (List.mem_singleton.mpr rfl)), Eo_162, e0_162, e1_162⟩
theorem d_jdk_40_m37_0 : decode jdk_40_method_37_code 0 = .ok (.new 96, 3) := by decide +kernel
theorem wd87 {a0 : Array Value} {Z : State} (hw : ∀ d ∈ tables_1, d.before a0 Z = true) : (Jvm.Cond.classLink "java/util/List" (96 : Nat) "java/util/ImmutableCollections$List12").before a0 Z = true := hw _ (List.mem_of_getElem? (i := 87) rfl)
theorem wd89 {a0 : Array Value} {Z : State} (hw : ∀ d ∈ tables_1, d.before a0 Z = true) : (Jvm.Cond.initialized "java/util/ImmutableCollections$List12").before a0 Z = true := hw _ (List.mem_of_getElem? (i := 89) rfl)
theorem d_jdk_40_m37_3 : decode jdk_40_method_37_code 3 = .ok (.dup, 1) := by decide +kernel
theorem d_jdk_40_m37_4 : decode jdk_40_method_37_code 4 = .ok (.aload_n 0, 1) := by decide +kernel
theorem d_jdk_40_m37_5 : decode jdk_40_method_37_code 5 = .ok (.invokespecial 98, 3) := by decide +kernel
theorem wd93 {a0 : Array Value} {Z : State} (hw : ∀ d ∈ tables_1, d.before a0 Z = true) : (Jvm.Cond.code ({ cls := "java/util/ImmutableCollections$List12", name := "<init>", desc := "(Ljava/lang/Object;)V" } : Jvm.MethodName) jdk_44_method_1_code (2 : Nat) (Option.none : Option Jvm.ClassFile.FieldType)).before a0 Z = true := hw _ (List.mem_of_getElem? (i := 93) rfl)
theorem pd_28Ljava2flang2fObject3b29V : parseMethodDescriptor "(Ljava/lang/Object;)V" = some ⟨[(.object "java/lang/Object")], none⟩ := by decide +kernel
theorem wd90 {a0 : Array Value} {Z : State} (hw : ∀ d ∈ tables_1, d.before a0 Z = true) : (Jvm.Cond.methodLink "java/util/List" (98 : Nat) ({ cls := "java/util/ImmutableCollections$List12", name := "<init>", desc := "(Ljava/lang/Object;)V" } : Jvm.MethodName)).before a0 Z = true := hw _ (List.mem_of_getElem? (i := 90) rfl)
theorem wd91 {a0 : Array Value} {Z : State} (hw : ∀ d ∈ tables_1, d.before a0 Z = true) : (Jvm.Cond.instanceMethod ({ cls := "java/util/ImmutableCollections$List12", name := "<init>", desc := "(Ljava/lang/Object;)V" } : Jvm.MethodName)).before a0 Z = true := hw _ (List.mem_of_getElem? (i := 91) rfl)
theorem d_jdk_40_m37_8 : decode jdk_40_method_37_code 8 = .ok (.areturn, 1) := by decide +kernel
theorem pn_java_util_List : plainName "java/util/List" = true := by first | (simp [plainName, overriddenIn]; done) | decide +kernel
set_option maxRecDepth 65536 in
set_option maxHeartbeats 40000000 in
theorem rm_listOf1 {l : Launch} {Z : State} {a0 : Array Value} (hw : ∀ d ∈ tables_1, d.before a0 Z = true) (hs : ∀ d ∈ jdkStatics_1, d.before a0 Z = true) {o : Addr} {em : Addr} {h0 : Heap} (O0 : Ext Z.heap h0) (SE : Sta Z Z.heap "java/util/ImmutableCollections" "EMPTY" "Ljava/lang/Object;" (.ref em)) :
    own_Ct l Z (⟨"java/util/List", "of", "(Ljava/lang/Object;)Ljava/util/List;"⟩ : MethodName) jdk_40_method_37_code 1 (some (.object "java/util/List")) [] ({ frames := 5, locals := 62, cells := 1, slots := 2 } : Room) #[(.ref o)] h0 (fun v h => ∃ ls : Addr, v = some (.ref ls) ∧ ls = h0.size ∧ Ext h0 h ∧ Exa Z h ls "java/util/ImmutableCollections$List12" ∧ Fld Z h ls "java/util/ImmutableCollections$List12" "e0" "Ljava/lang/Object;" (.ref o) ∧ Fld Z h ls "java/util/ImmutableCollections$List12" "e1" "Ljava/lang/Object;" (.ref em)) := by
  refine own_body (Ls := #[.val (.ref o)]) (plainFor_of_name pn_java_util_List) (fun m => by first | (simp [entryFrame, mkF, argsToLocals, Value.category]; done) | rfl) O0 ?_
  intro p e s m below meth c T0 G K0
  refine own_newO K0 (wd87 hw) (wd88 hw) (wd89 hw) d_jdk_40_m37_0 (by decide) (by decide) rfl ?_
  intro T163 h163 a163 K163 g163 E163 A163 D163 U163
  have F_e0_163 : Fld Z h163 a163 "java/util/ImmutableCollections$List12" "e0" "Ljava/lang/Object;" .null := D163 (Or.inr (wd118 hw)) (ty := (.object "java/lang/Object")) (by decide)
  have F_e1_163 : Fld Z h163 a163 "java/util/ImmutableCollections$List12" "e1" "Ljava/lang/Object;" .null := D163 (Or.inr (wd122 hw)) (ty := (.object "java/lang/Object")) (by decide)
  refine own_dup K163 d_jdk_40_m37_3 rfl rfl ?_
  refine own_aloadN K163 d_jdk_40_m37_4 rfl rfl rfl ?_
  have gl : Z.heap.size ≤ a163 := by rw [g163]; exact O0.1
  refine own_callI K163 (a := a163) (wd90 hw) (wd91 hw) (rm_l12 hw hs (o := o) K163.O A163 F_e0_163 F_e1_163 gl SE) (wd93 hw) (wd89 hw) (by decide) rfl (argsL := [(.ref o)]) (rest := [(.ref a163)]) rfl pd_28Ljava2flang2fObject3b29V rfl rfl (W := 1) rfl (by decide) (by decide) (by decide) (by decide) d_jdk_40_m37_5 rfl ?_
  intro T164 h164 L164 v164 K164 q164
  obtain ⟨rfl, Kp164, q164⟩ := q164
  show G (T164.setTop (mkF m 8 #[.val (.ref o)] [(.ref a163)]))
  exact own_retA K164 d_jdk_40_m37_8 rfl rfl rfl rfl (by decide) (by decide) ⟨a163, rfl, g163, own_ext_keep E163 Kp164 (allS (Nat.le_of_eq g163.symm) all0), q164⟩
theorem d_prog_10_m1_0 : decode prog_10_method_1_code 0 = .ok (.aload_n 0, 1) := by decide +kernel
theorem d_prog_10_m1_1 : decode prog_10_method_1_code 1 = .ok (.invokespecial 1, 3) := by decide +kernel
theorem wd235 {a0 : Array Value} {Z : State} (hw : ∀ d ∈ tables_1, d.before a0 Z = true) : (Jvm.Cond.methodLink "com/example/peergrove/peergrove/service/Form" (1 : Nat) ({ cls := "java/lang/Object", name := "<init>", desc := "()V" } : Jvm.MethodName)).before a0 Z = true := hw _ (List.mem_of_getElem? (i := 235) rfl)
theorem d_prog_10_m1_4 : decode prog_10_method_1_code 4 = .ok (.aload_n 0, 1) := by decide +kernel
theorem d_prog_10_m1_5 : decode prog_10_method_1_code 5 = .ok (.aload_n 1, 1) := by decide +kernel
theorem wd236 {a0 : Array Value} {Z : State} (hw : ∀ d ∈ tables_1, d.before a0 Z = true) : (Jvm.Cond.fieldLink "com/example/peergrove/peergrove/service/Form" (7 : Nat) "com/example/peergrove/peergrove/service/Form" "values" "Ljava/util/Map;").before a0 Z = true := hw _ (List.mem_of_getElem? (i := 236) rfl)
theorem wd237 {a0 : Array Value} {Z : State} (hw : ∀ d ∈ tables_1, d.before a0 Z = true) : (Jvm.Cond.laysFinal "com/example/peergrove/peergrove/service/Form" "com/example/peergrove/peergrove/service/Form" "values" "Ljava/util/Map;").before a0 Z = true := hw _ (List.mem_of_getElem? (i := 237) rfl)
theorem d_prog_10_m1_6 : decode prog_10_method_1_code 6 = .ok (.putfield 7, 3) := by decide +kernel
theorem wd231 {a0 : Array Value} {Z : State} (hw : ∀ d ∈ tables_1, d.before a0 Z = true) : (Jvm.Cond.instantiable "com/example/peergrove/peergrove/service/Form" (1 : Nat)).before a0 Z = true := hw _ (List.mem_of_getElem? (i := 231) rfl)
theorem d_prog_10_m1_9 : decode prog_10_method_1_code 9 = .ok (.return_, 1) := by decide +kernel
theorem pn_com_example_peergrove_peergrove_service_Form : plainName "com/example/peergrove/peergrove/service/Form" = true := by first | (simp [plainName, overriddenIn]; done) | decide +kernel
set_option maxRecDepth 65536 in
set_option maxHeartbeats 40000000 in
theorem rm_formInit {l : Launch} {Z : State} {a0 : Array Value} (hw : ∀ d ∈ tables_1, d.before a0 Z = true) (hs : ∀ d ∈ jdkStatics_1, d.before a0 Z = true) {x : Addr} {mp : Addr} {h0 : Heap} (O0 : Ext Z.heap h0) (E : Exa Z h0 x "com/example/peergrove/peergrove/service/Form") (F : Fld Z h0 x "com/example/peergrove/peergrove/service/Form" "values" "Ljava/util/Map;" .null) (gx : Z.heap.size ≤ x) :
    own_Ct l Z (⟨"com/example/peergrove/peergrove/service/Form", "<init>", "(Ljava/util/Map;)V"⟩ : MethodName) prog_10_method_1_code 2 none [] ({ frames := 1, locals := 12, cells := 0, slots := 0 } : Room) #[(.ref x), (.ref mp)] h0 (fun v h => v = none ∧ Keep h0 h [x] ∧ Exa Z h x "com/example/peergrove/peergrove/service/Form" ∧ Fld Z h x "com/example/peergrove/peergrove/service/Form" "values" "Ljava/util/Map;" (.ref mp)) := by
  refine own_body (Ls := #[.val (.ref x), .val (.ref mp)]) (plainFor_of_name pn_com_example_peergrove_peergrove_service_Form) (fun m => by first | (simp [entryFrame, mkF, argsToLocals, Value.category]; done) | rfl) O0 ?_
  intro p e s m below meth c T0 G K0
  refine own_aloadN K0 d_prog_10_m1_0 rfl rfl rfl ?_
  refine own_initO K0 (W := 0) (wd235 hw) (wd18 hw) (wd19 hw) rfl rfl (by decide) (by decide) d_prog_10_m1_1 rfl ?_
  intro T165 K165
  refine own_aloadN K165 d_prog_10_m1_4 rfl rfl rfl ?_
  refine own_aloadN K165 d_prog_10_m1_5 rfl rfl rfl ?_
  refine own_putF K165 (host := "") (Or.inl (wd236 hw)) Via.refl F E (Or.inr ⟨(wd237 hw), rfl, rfl⟩) (wd231 hw) (ty := (.object "java/util/Map")) (by decide) rfl rfl gx d_prog_10_m1_6 rfl ?_
  intro T166 h166 K166 W166
  exact own_ret0 K166 d_prog_10_m1_9 rfl (by decide) (by decide) ⟨rfl, (Keep.refl h0 [x]).wr W166 (Or.inl (List.mem_singleton.mpr rfl)), E.wr W166, F.same W166⟩
/-- a Form of one name and value -/
def own_FM (Z : State) (h : Heap) (f mp tb nd ls ky vl em : Addr) (kt : ClassId) (ck : List Int32) : Prop := Exa Z h f "com/example/peergrove/peergrove/service/Form" ∧ Fld Z h f "com/example/peergrove/peergrove/service/Form" "values" "Ljava/util/Map;" (.ref mp) ∧ own_MP Z h mp tb nd ls ky kt ck ∧ Exa Z h ls "java/util/ImmutableCollections$List12" ∧ Fld Z h ls "java/util/ImmutableCollections$List12" "e0" "Ljava/lang/Object;" (.ref vl) ∧ Fld Z h ls "java/util/ImmutableCollections$List12" "e1" "Ljava/lang/Object;" (.ref em)
theorem own_FM.keep {Z : State} {a0 : Array Value} {h h' : Heap} {f mp tb nd ls ky vl em y : Addr} {kt : ClassId} {ck : List Int32} (w : (Cond.instantiable "java/lang/String" (4 : Nat)).before a0 Z = true) (M : own_FM Z h f mp tb nd ls ky vl em kt ck) (K : Keep h h' [y]) (Ey : Exa Z h y "java/lang/String") : own_FM Z h' f mp tb nd ls ky vl em kt ck := by
  obtain ⟨E, F, M, L, F0, F1⟩ := M
  have n1 := own_nin (Exa.ne E Ey (by decide))
  have n2 := own_nin (Exa.ne L Ey (by decide))
  exact ⟨E.keep K, F.keep K n1, M.keep w K Ey, L.keep K, F0.keep K n2, F1.keep K n2⟩
theorem d_prog_10_m4_0 : decode prog_10_method_4_code 0 = .ok (.new 13, 3) := by decide +kernel
theorem wd57 {a0 : Array Value} {Z : State} (hw : ∀ d ∈ tables_1, d.before a0 Z = true) : (Jvm.Cond.classLink "com/example/peergrove/peergrove/service/Form" (13 : Nat) "java/util/LinkedHashMap").before a0 Z = true := hw _ (List.mem_of_getElem? (i := 57) rfl)
theorem d_prog_10_m4_3 : decode prog_10_method_4_code 3 = .ok (.dup, 1) := by decide +kernel
theorem d_prog_10_m4_4 : decode prog_10_method_4_code 4 = .ok (.invokespecial 15, 3) := by decide +kernel
theorem wd62 {a0 : Array Value} {Z : State} (hw : ∀ d ∈ tables_1, d.before a0 Z = true) : (Jvm.Cond.code ({ cls := "java/util/LinkedHashMap", name := "<init>", desc := "()V" } : Jvm.MethodName) jdk_94_method_16_code (1 : Nat) (Option.none : Option Jvm.ClassFile.FieldType)).before a0 Z = true := hw _ (List.mem_of_getElem? (i := 62) rfl)
theorem wd60 {a0 : Array Value} {Z : State} (hw : ∀ d ∈ tables_1, d.before a0 Z = true) : (Jvm.Cond.methodLink "com/example/peergrove/peergrove/service/Form" (15 : Nat) ({ cls := "java/util/LinkedHashMap", name := "<init>", desc := "()V" } : Jvm.MethodName)).before a0 Z = true := hw _ (List.mem_of_getElem? (i := 60) rfl)
theorem wd61 {a0 : Array Value} {Z : State} (hw : ∀ d ∈ tables_1, d.before a0 Z = true) : (Jvm.Cond.instanceMethod ({ cls := "java/util/LinkedHashMap", name := "<init>", desc := "()V" } : Jvm.MethodName)).before a0 Z = true := hw _ (List.mem_of_getElem? (i := 61) rfl)
theorem d_prog_10_m4_7 : decode prog_10_method_4_code 7 = .ok (.astore_n 2, 1) := by decide +kernel
theorem d_prog_10_m4_8 : decode prog_10_method_4_code 8 = .ok (.aload_n 2, 1) := by decide +kernel
theorem d_prog_10_m4_9 : decode prog_10_method_4_code 9 = .ok (.aload_n 0, 1) := by decide +kernel
theorem d_prog_10_m4_10 : decode prog_10_method_4_code 10 = .ok (.aload_n 1, 1) := by decide +kernel
theorem d_prog_10_m4_11 : decode prog_10_method_4_code 11 = .ok (.invokestatic 67, 3) := by decide +kernel
theorem wd86 {a0 : Array Value} {Z : State} (hw : ∀ d ∈ tables_1, d.before a0 Z = true) : (Jvm.Cond.code ({ cls := "java/util/List", name := "of", desc := "(Ljava/lang/Object;)Ljava/util/List;" } : Jvm.MethodName) jdk_40_method_37_code (1 : Nat) (Option.some (Jvm.ClassFile.FieldType.object "java/util/List"))).before a0 Z = true := hw _ (List.mem_of_getElem? (i := 86) rfl)
theorem wd85 {a0 : Array Value} {Z : State} (hw : ∀ d ∈ tables_1, d.before a0 Z = true) : (Jvm.Cond.initialized "java/util/List").before a0 Z = true := hw _ (List.mem_of_getElem? (i := 85) rfl)
theorem pd_28Ljava2flang2fObject3b29Ljava2futil2fList3b : parseMethodDescriptor "(Ljava/lang/Object;)Ljava/util/List;" = some ⟨[(.object "java/lang/Object")], some (.object "java/util/List")⟩ := by decide +kernel
theorem wd83 {a0 : Array Value} {Z : State} (hw : ∀ d ∈ tables_1, d.before a0 Z = true) : (Jvm.Cond.methodLink "com/example/peergrove/peergrove/service/Form" (67 : Nat) ({ cls := "java/util/List", name := "of", desc := "(Ljava/lang/Object;)Ljava/util/List;" } : Jvm.MethodName)).before a0 Z = true := hw _ (List.mem_of_getElem? (i := 83) rfl)
theorem wd84 {a0 : Array Value} {Z : State} (hw : ∀ d ∈ tables_1, d.before a0 Z = true) : (Jvm.Cond.static ({ cls := "java/util/List", name := "of", desc := "(Ljava/lang/Object;)Ljava/util/List;" } : Jvm.MethodName)).before a0 Z = true := hw _ (List.mem_of_getElem? (i := 84) rfl)
theorem d_prog_10_m4_14 : decode prog_10_method_4_code 14 = .ok (.invokeinterface 71 3, 5) := by decide +kernel
theorem wd131 {a0 : Array Value} {Z : State} (hw : ∀ d ∈ tables_1, d.before a0 Z = true) : (Jvm.Cond.code ({ cls := "java/util/HashMap", name := "put", desc := "(Ljava/lang/Object;Ljava/lang/Object;)Ljava/lang/Object;" } : Jvm.MethodName) jdk_69_method_15_code (3 : Nat) (Option.some (Jvm.ClassFile.FieldType.object "java/lang/Object"))).before a0 Z = true := hw _ (List.mem_of_getElem? (i := 131) rfl)
theorem pd_28Ljava2flang2fObject3bLjava2flang2fObject3b29Ljava2flang2fObject3b : parseMethodDescriptor "(Ljava/lang/Object;Ljava/lang/Object;)Ljava/lang/Object;" = some ⟨[(.object "java/lang/Object"), (.object "java/lang/Object")], some (.object "java/lang/Object")⟩ := by decide +kernel
theorem wd123 {a0 : Array Value} {Z : State} (hw : ∀ d ∈ tables_1, d.before a0 Z = true) : (Jvm.Cond.methodLink "com/example/peergrove/peergrove/service/Form" (71 : Nat) ({ cls := "java/util/Map", name := "put", desc := "(Ljava/lang/Object;Ljava/lang/Object;)Ljava/lang/Object;" } : Jvm.MethodName)).before a0 Z = true := hw _ (List.mem_of_getElem? (i := 123) rfl)
theorem wd124 {a0 : Array Value} {Z : State} (hw : ∀ d ∈ tables_1, d.before a0 Z = true) : (Jvm.Cond.declares ({ cls := "java/util/Map", name := "put", desc := "(Ljava/lang/Object;Ljava/lang/Object;)Ljava/lang/Object;" } : Jvm.MethodName)).before a0 Z = true := hw _ (List.mem_of_getElem? (i := 124) rfl)
theorem wd125 {a0 : Array Value} {Z : State} (hw : ∀ d ∈ tables_1, d.before a0 Z = true) : (Jvm.Cond.interfaceMethod "java/util/Map" "java/util/Map" "put" "(Ljava/lang/Object;Ljava/lang/Object;)Ljava/lang/Object;").before a0 Z = true := hw _ (List.mem_of_getElem? (i := 125) rfl)
theorem wd127 {a0 : Array Value} {Z : State} (hw : ∀ d ∈ tables_1, d.before a0 Z = true) : (Jvm.Cond.instanceMethod ({ cls := "java/util/HashMap", name := "put", desc := "(Ljava/lang/Object;Ljava/lang/Object;)Ljava/lang/Object;" } : Jvm.MethodName)).before a0 Z = true := hw _ (List.mem_of_getElem? (i := 127) rfl)
theorem wd128 {a0 : Array Value} {Z : State} (hw : ∀ d ∈ tables_1, d.before a0 Z = true) : (Jvm.Cond.publicMethod ({ cls := "java/util/HashMap", name := "put", desc := "(Ljava/lang/Object;Ljava/lang/Object;)Ljava/lang/Object;" } : Jvm.MethodName)).before a0 Z = true := hw _ (List.mem_of_getElem? (i := 128) rfl)
theorem wd129 {a0 : Array Value} {Z : State} (hw : ∀ d ∈ tables_1, d.before a0 Z = true) : (Jvm.Cond.unhidden "java/util/LinkedHashMap" "put" "(Ljava/lang/Object;Ljava/lang/Object;)Ljava/lang/Object;").before a0 Z = true := hw _ (List.mem_of_getElem? (i := 129) rfl)
theorem wd130 {a0 : Array Value} {Z : State} (hw : ∀ d ∈ tables_1, d.before a0 Z = true) : (Jvm.Cond.castable "java/util/LinkedHashMap" "java/util/Map").before a0 Z = true := hw _ (List.mem_of_getElem? (i := 130) rfl)
theorem d_prog_10_m4_19 : decode prog_10_method_4_code 19 = .ok (.pop, 1) := by decide +kernel
theorem d_prog_10_m4_20 : decode prog_10_method_4_code 20 = .ok (.new 8, 3) := by decide +kernel
theorem wd230 {a0 : Array Value} {Z : State} (hw : ∀ d ∈ tables_1, d.before a0 Z = true) : (Jvm.Cond.classLink "com/example/peergrove/peergrove/service/Form" (8 : Nat) "com/example/peergrove/peergrove/service/Form").before a0 Z = true := hw _ (List.mem_of_getElem? (i := 230) rfl)
theorem wd55 {a0 : Array Value} {Z : State} (hw : ∀ d ∈ tables_1, d.before a0 Z = true) : (Jvm.Cond.initialized "com/example/peergrove/peergrove/service/Form").before a0 Z = true := hw _ (List.mem_of_getElem? (i := 55) rfl)
theorem d_prog_10_m4_23 : decode prog_10_method_4_code 23 = .ok (.dup, 1) := by decide +kernel
theorem d_prog_10_m4_24 : decode prog_10_method_4_code 24 = .ok (.aload_n 2, 1) := by decide +kernel
theorem d_prog_10_m4_25 : decode prog_10_method_4_code 25 = .ok (.invokespecial 16, 3) := by decide +kernel
theorem wd234 {a0 : Array Value} {Z : State} (hw : ∀ d ∈ tables_1, d.before a0 Z = true) : (Jvm.Cond.code ({ cls := "com/example/peergrove/peergrove/service/Form", name := "<init>", desc := "(Ljava/util/Map;)V" } : Jvm.MethodName) prog_10_method_1_code (2 : Nat) (Option.none : Option Jvm.ClassFile.FieldType)).before a0 Z = true := hw _ (List.mem_of_getElem? (i := 234) rfl)
theorem pd_28Ljava2futil2fMap3b29V : parseMethodDescriptor "(Ljava/util/Map;)V" = some ⟨[(.object "java/util/Map")], none⟩ := by decide +kernel
theorem wd232 {a0 : Array Value} {Z : State} (hw : ∀ d ∈ tables_1, d.before a0 Z = true) : (Jvm.Cond.methodLink "com/example/peergrove/peergrove/service/Form" (16 : Nat) ({ cls := "com/example/peergrove/peergrove/service/Form", name := "<init>", desc := "(Ljava/util/Map;)V" } : Jvm.MethodName)).before a0 Z = true := hw _ (List.mem_of_getElem? (i := 232) rfl)
theorem wd233 {a0 : Array Value} {Z : State} (hw : ∀ d ∈ tables_1, d.before a0 Z = true) : (Jvm.Cond.instanceMethod ({ cls := "com/example/peergrove/peergrove/service/Form", name := "<init>", desc := "(Ljava/util/Map;)V" } : Jvm.MethodName)).before a0 Z = true := hw _ (List.mem_of_getElem? (i := 233) rfl)
theorem d_prog_10_m4_28 : decode prog_10_method_4_code 28 = .ok (.areturn, 1) := by decide +kernel
set_option maxRecDepth 65536 in
set_option maxHeartbeats 40000000 in
theorem rm_formOf {l : Launch} {Z : State} {a0 : Array Value} (hw : ∀ d ∈ tables_1, d.before a0 Z = true) (hs : ∀ d ∈ jdkStatics_1, d.before a0 Z = true) {ky : Addr} {vl : Addr} {em : Addr} {ck : List Int32} {h0 : Heap} (O0 : Ext Z.heap h0) (S : own_StS Z h0 ky ck) (gk : Z.heap.size ≤ ky) (hok : own_ok false ck) (hlen : ck.length ≤ 4000) (SE : Sta Z Z.heap "java/util/ImmutableCollections" "EMPTY" "Ljava/lang/Object;" (.ref em)) :
    own_Ct l Z (⟨"com/example/peergrove/peergrove/service/Form", "of", "(Ljava/lang/String;Ljava/lang/String;)Lcom/example/peergrove/peergrove/service/Form;"⟩ : MethodName) prog_10_method_4_code 3 (some (.object "com/example/peergrove/peergrove/service/Form")) [] ({ frames := 6, locals := 102, cells := 5, slots := 37 } : Room) #[(.ref ky), (.ref vl)] h0 (fun v h => ∃ (f mp tb nd ls : Addr) (kt : ClassId), v = some (.ref f) ∧ Keep h0 h [ky] ∧ own_FM Z h f mp tb nd ls ky vl em kt ck ∧ own_StS Z h ky ck) := by
  refine own_body (Ls := #[.val (.ref ky), .val (.ref vl), .unset]) (plainFor_of_name pn_com_example_peergrove_peergrove_service_Form) (fun m => by first | (simp [entryFrame, mkF, argsToLocals, Value.category]; done) | rfl) O0 ?_
  intro p e s m below meth c T0 G K0
  refine own_newO K0 (wd57 hw) (wd58 hw) (wd59 hw) d_prog_10_m4_0 (by decide) (by decide) rfl ?_
  intro T167 h167 a167 K167 g167 E167 A167 D167 U167
  have F_loadFactor_167 : Fld Z h167 a167 "java/util/HashMap" "loadFactor" "F" (.float 0) := D167 (Or.inr (wd78 hw)) (ty := .float) (by decide)
  have F_putMode_167 : Fld Z h167 a167 "java/util/LinkedHashMap" "putMode" "I" (.int (0 : Int32)) := D167 (Or.inl (wd80 hw)) (ty := .int) (by decide)
  have F_accessOrder_167 : Fld Z h167 a167 "java/util/LinkedHashMap" "accessOrder" "Z" (.int (0 : Int32)) := D167 (Or.inr (wd82 hw)) (ty := .boolean) (by decide)
  have F_table_167 : Fld Z h167 a167 "java/util/HashMap" "table" "[Ljava/util/HashMap$Node;" .null := D167 (Or.inl (wd168 hw)) (ty := (.array (.object "java/util/HashMap$Node"))) (by decide)
  have F_threshold_167 : Fld Z h167 a167 "java/util/HashMap" "threshold" "I" (.int (0 : Int32)) := D167 (Or.inl (wd175 hw)) (ty := .int) (by decide)
  have F_tail_167 : Fld Z h167 a167 "java/util/LinkedHashMap" "tail" "Ljava/util/LinkedHashMap$Entry;" .null := D167 (Or.inl (wd212 hw)) (ty := (.object "java/util/LinkedHashMap$Entry")) (by decide)
  have F_head_167 : Fld Z h167 a167 "java/util/LinkedHashMap" "head" "Ljava/util/LinkedHashMap$Entry;" .null := D167 (Or.inl (wd214 hw)) (ty := (.object "java/util/LinkedHashMap$Entry")) (by decide)
  have F_modCount_167 : Fld Z h167 a167 "java/util/HashMap" "modCount" "I" (.int (0 : Int32)) := D167 (Or.inl (wd216 hw)) (ty := .int) (by decide)
  have F_size_167 : Fld Z h167 a167 "java/util/HashMap" "size" "I" (.int (0 : Int32)) := D167 (Or.inl (wd218 hw)) (ty := .int) (by decide)
  refine own_dup K167 d_prog_10_m4_3 rfl rfl ?_
  have gm : Z.heap.size ≤ a167 := by rw [g167]; exact O0.1
  refine own_callI K167 (a := a167) (wd60 hw) (wd61 hw) (rm_lhInit hw hs K167.O A167 F_table_167 F_threshold_167 F_size_167 F_modCount_167 F_head_167 F_tail_167 F_putMode_167 F_accessOrder_167 F_loadFactor_167 gm) (wd62 hw) (wd59 hw) (by decide) rfl (argsL := []) (rest := [(.ref a167)]) rfl pd_2829V rfl rfl (W := 1) rfl (by decide) (by decide) (by decide) (by decide) d_prog_10_m4_4 rfl ?_
  intro T168 h168 L168 v168 K168 q168
  obtain ⟨rfl, Kp168, GE168, Gtable168, Gthreshold168, Gsize168, GmodCount168, Ghead168, Gtail168, GputMode168, GaccessOrder168⟩ := q168
  show G (T168.setTop (mkF m 7 #[.val (.ref ky), .val (.ref vl), .unset] [(.ref a167)]))
  have X1 : Ext h0 h168 := own_ext_keep E167 Kp168 (allS (Nat.le_of_eq g167.symm) all0)
  refine own_astoreN K168 (Ls' := #[.val (.ref ky), .val (.ref vl), .val (.ref a167)]) d_prog_10_m4_7 rfl rfl rfl ?_
  refine own_aloadN K168 d_prog_10_m4_8 rfl rfl rfl ?_
  refine own_aloadN K168 d_prog_10_m4_9 rfl rfl rfl ?_
  refine own_aloadN K168 d_prog_10_m4_10 rfl rfl rfl ?_
  refine own_callS K168 (wd83 hw) (wd84 hw) (rm_listOf1 hw hs (o := vl) K168.O SE) (wd86 hw) (wd85 hw) (by decide) (argsL := [(.ref vl)]) (rest := [(.ref ky), (.ref a167)]) rfl pd_28Ljava2flang2fObject3b29Ljava2futil2fList3b rfl rfl (W := 2) rfl (by decide) (by decide) (by decide) (by decide) d_prog_10_m4_11 rfl ?_
  intro T169 h169 L169 v169 K169 q169
  obtain ⟨ls169, rfl, gl169, X169, LE169, L0169, L1169⟩ := q169
  show G (T169.setTop (mkF m 14 #[.val (.ref ky), .val (.ref vl), .val (.ref a167)] [(.ref ls169), (.ref ky), (.ref a167)]))
  have table_170 := Gtable168.ext X169
  have threshold_170 := Gthreshold168.ext X169
  have size_170 := Gsize168.ext X169
  have modCount_170 := GmodCount168.ext X169
  have head_170 := Ghead168.ext X169
  have tail_170 := Gtail168.ext X169
  have putMode_170 := GputMode168.ext X169
  have accessOrder_170 := GaccessOrder168.ext X169
  have Eo_170 := GE168.ext X169
  have X2 := own_ext_trans X1 X169
  have S2 := S.ext X2
  have LE2 : Exa Z h169 ls169 "java/util/ImmutableCollections$List12" := LE169
  refine own_callF K169 (a := a167) (x0 := (⟨"java/util/Map", "put", "(Ljava/lang/Object;Ljava/lang/Object;)Ljava/lang/Object;"⟩ : MethodName)) (wd123 hw) (wd124 hw) (fun q => mvT q (wd125 hw)) (wd126 hw) (wd127 hw) (wd128 hw) (wd129 hw) (wd130 hw) (rm_put hw hs (ls := ls169) K169.O Eo_170 table_170 threshold_170 size_170 modCount_170 head_170 tail_170 putMode_170 accessOrder_170 gm S2 gk hok hlen) (wd131 hw) (wd67 hw) (by decide) Eo_170 (argsL := [(.ref ky), (.ref ls169)]) (rest := []) rfl pd_28Ljava2flang2fObject3bLjava2flang2fObject3b29Ljava2flang2fObject3b rfl rfl (W := 0) rfl (by decide) (by decide) (by decide) (by decide) d_prog_10_m4_14 rfl ?_
  intro T171 h171 L171 v171 K171 q171
  obtain ⟨tb171, kt171, nd171, rfl, Kp171, M171, S171⟩ := q171
  show G (T171.setTop (mkF m 19 #[.val (.ref ky), .val (.ref vl), .val (.ref a167)] [.null]))
  have hls : ls169 ∉ [ky, a167] := fun q => (List.mem_cons.mp q).elim (Exa.ne LE2 S2.exa (by decide)) (fun q => Exa.ne LE2 Eo_170 (by decide) (List.mem_singleton.mp q))
  refine own_pop K171 d_prog_10_m4_19 rfl rfl ?_
  refine own_newO K171 (wd230 hw) (wd231 hw) (wd55 hw) d_prog_10_m4_20 (by decide) (by decide) rfl ?_
  intro T172 h172 a172 K172 g172 E172 A172 D172 U172
  have F_values_172 : Fld Z h172 a172 "com/example/peergrove/peergrove/service/Form" "values" "Ljava/util/Map;" .null := D172 (Or.inr (wd237 hw)) (ty := (.object "java/util/Map")) (by decide)
  refine own_dup K172 d_prog_10_m4_23 rfl rfl ?_
  refine own_aloadN K172 d_prog_10_m4_24 rfl rfl rfl ?_
  have gf : Z.heap.size ≤ a172 := by rw [g172]; exact (own_ext_keep (own_ext_trans O0 X2) Kp171 (allS gk (allS gm all0))).1
  refine own_callI K172 (a := a172) (wd232 hw) (wd233 hw) (rm_formInit hw hs (mp := a167) K172.O A172 F_values_172 gf) (wd234 hw) (wd55 hw) (by decide) rfl (argsL := [(.ref a167)]) (rest := [(.ref a172)]) rfl pd_28Ljava2futil2fMap3b29V rfl rfl (W := 1) rfl (by decide) (by decide) (by decide) (by decide) d_prog_10_m4_25 rfl ?_
  intro T173 h173 L173 v173 K173 q173
  obtain ⟨rfl, Kp173, FE173, FV173⟩ := q173
  show G (T173.setTop (mkF m 28 #[.val (.ref ky), .val (.ref vl), .val (.ref a167)] [(.ref a172)]))
  have X3 : Ext h171 h173 := own_ext_keep E172 Kp173 (allS (Nat.le_of_eq g172.symm) all0)
  have KA : Keep h0 h173 [ky] := ((own_ext_of_keep' X2 [ky]).trans Kp171 (fun y q => (List.mem_cons.mp q).elim (fun z => Or.inl (z ▸ List.mem_singleton.mpr rfl)) (fun z => Or.inr (by rw [List.mem_singleton.mp z, g167]; exact Nat.le_refl _)))).ext X3
  exact own_retA K173 d_prog_10_m4_28 rfl rfl rfl rfl (by decide) (by decide) ⟨a172, a167, tb171, nd171, ls169, kt171, rfl, KA, ⟨FE173, FV173, M171.ext X3, (LE169.keep Kp171).ext X3, (L0169.keep Kp171 hls).ext X3, (L1169.keep Kp171 hls).ext X3⟩, S171.ext X3⟩
theorem d_jdk_69_m13_0 : decode jdk_69_method_13_code 0 = .ok (.aload_n 0, 1) := by decide +kernel
theorem d_jdk_69_m13_1 : decode jdk_69_method_13_code 1 = .ok (.getfield 105, 3) := by decide +kernel
theorem d_jdk_69_m13_4 : decode jdk_69_method_13_code 4 = .ok (.dup, 1) := by decide +kernel
theorem d_jdk_69_m13_5 : decode jdk_69_method_13_code 5 = .ok (.astore_n 2, 1) := by decide +kernel
theorem d_jdk_69_m13_6 : decode jdk_69_method_13_code 6 = .ok (.ifnull 142, 3) := by decide +kernel
theorem d_jdk_69_m13_9 : decode jdk_69_method_13_code 9 = .ok (.aload_n 2, 1) := by decide +kernel
theorem d_jdk_69_m13_10 : decode jdk_69_method_13_code 10 = .ok (.arraylength, 1) := by decide +kernel
theorem d_jdk_69_m13_11 : decode jdk_69_method_13_code 11 = .ok (.dup, 1) := by decide +kernel
theorem d_jdk_69_m13_12 : decode jdk_69_method_13_code 12 = .ok (.istore 5, 2) := by decide +kernel
theorem d_jdk_69_m13_14 : decode jdk_69_method_13_code 14 = .ok (.ifCond .le 134, 3) := by decide +kernel
theorem d_jdk_69_m13_17 : decode jdk_69_method_13_code 17 = .ok (.aload_n 2, 1) := by decide +kernel
theorem d_jdk_69_m13_18 : decode jdk_69_method_13_code 18 = .ok (.iload 5, 2) := by decide +kernel
theorem d_jdk_69_m13_20 : decode jdk_69_method_13_code 20 = .ok (.iconst 1, 1) := by decide +kernel
theorem d_jdk_69_m13_21 : decode jdk_69_method_13_code 21 = .ok (.isub, 1) := by decide +kernel
theorem d_jdk_69_m13_22 : decode jdk_69_method_13_code 22 = .ok (.aload_n 1, 1) := by decide +kernel
theorem d_jdk_69_m13_23 : decode jdk_69_method_13_code 23 = .ok (.invokestatic 149, 3) := by decide +kernel
theorem d_jdk_69_m13_26 : decode jdk_69_method_13_code 26 = .ok (.dup, 1) := by decide +kernel
theorem d_jdk_69_m13_27 : decode jdk_69_method_13_code 27 = .ok (.istore 6, 2) := by decide +kernel
theorem d_jdk_69_m13_29 : decode jdk_69_method_13_code 29 = .ok (.iand, 1) := by decide +kernel
theorem d_jdk_69_m13_30 : decode jdk_69_method_13_code 30 = .ok (.aaload, 1) := by decide +kernel
theorem d_jdk_69_m13_31 : decode jdk_69_method_13_code 31 = .ok (.dup, 1) := by decide +kernel
theorem d_jdk_69_m13_32 : decode jdk_69_method_13_code 32 = .ok (.astore_n 3, 1) := by decide +kernel
theorem d_jdk_69_m13_33 : decode jdk_69_method_13_code 33 = .ok (.ifnull 115, 3) := by decide +kernel
theorem d_jdk_69_m13_36 : decode jdk_69_method_13_code 36 = .ok (.aload_n 3, 1) := by decide +kernel
theorem wd261 {a0 : Array Value} {Z : State} (hw : ∀ d ∈ tables_1, d.before a0 Z = true) : (Jvm.Cond.fieldLink "java/util/HashMap" (168 : Nat) "java/util/HashMap$Node" "hash" "I").before a0 Z = true := hw _ (List.mem_of_getElem? (i := 261) rfl)
theorem d_jdk_69_m13_37 : decode jdk_69_method_13_code 37 = .ok (.getfield 168, 3) := by decide +kernel
theorem d_jdk_69_m13_40 : decode jdk_69_method_13_code 40 = .ok (.iload 6, 2) := by decide +kernel
theorem d_jdk_69_m13_42 : decode jdk_69_method_13_code 42 = .ok (.if_icmp .ne 29, 3) := by decide +kernel
theorem d_jdk_69_m13_45 : decode jdk_69_method_13_code 45 = .ok (.aload_n 3, 1) := by decide +kernel
theorem wd262 {a0 : Array Value} {Z : State} (hw : ∀ d ∈ tables_1, d.before a0 Z = true) : (Jvm.Cond.fieldLink "java/util/HashMap" (170 : Nat) "java/util/HashMap$Node" "key" "Ljava/lang/Object;").before a0 Z = true := hw _ (List.mem_of_getElem? (i := 262) rfl)
theorem d_jdk_69_m13_46 : decode jdk_69_method_13_code 46 = .ok (.getfield 170, 3) := by decide +kernel
theorem d_jdk_69_m13_49 : decode jdk_69_method_13_code 49 = .ok (.dup, 1) := by decide +kernel
theorem d_jdk_69_m13_50 : decode jdk_69_method_13_code 50 = .ok (.astore 7, 2) := by decide +kernel
theorem d_jdk_69_m13_52 : decode jdk_69_method_13_code 52 = .ok (.aload_n 1, 1) := by decide +kernel
theorem d_jdk_69_m13_53 : decode jdk_69_method_13_code 53 = .ok (.if_acmp .eq 16, 3) := by decide +kernel
theorem d_jdk_69_m13_69 : decode jdk_69_method_13_code 69 = .ok (.aload_n 3, 1) := by decide +kernel
theorem d_jdk_69_m13_70 : decode jdk_69_method_13_code 70 = .ok (.areturn, 1) := by decide +kernel
set_option maxRecDepth 65536 in
set_option maxHeartbeats 40000000 in
theorem rm_getNodeS {l : Launch} {Z : State} {a0 : Array Value} (hw : ∀ d ∈ tables_1, d.before a0 Z = true) (hs : ∀ d ∈ jdkStatics_1, d.before a0 Z = true) {mp : Addr} {tb : Addr} {nd : Addr} {ls : Addr} {ky : Addr} {kt : ClassId} {ck : List Int32} {h0 : Heap} (O0 : Ext Z.heap h0) (M : own_MP Z h0 mp tb nd ls ky kt ck) (S : own_StS Z h0 ky ck) (gk : Z.heap.size ≤ ky) (hok : own_ok false ck) (hlen : ck.length ≤ 4000) :
    own_Ct l Z (⟨"java/util/HashMap", "getNode", "(Ljava/lang/Object;)Ljava/util/HashMap$Node;"⟩ : MethodName) jdk_69_method_13_code 8 (some (.object "java/util/HashMap$Node")) [] ({ frames := 5, locals := 73, cells := 0, slots := 0 } : Room) #[(.ref mp), (.ref ky)] h0 (fun v h => v = some (.ref nd) ∧ Keep h0 h [ky] ∧ own_StS Z h ky ck) := by
  refine own_body (Ls := #[.val (.ref mp), .val (.ref ky), .unset, .unset, .unset, .unset, .unset, .unset]) (plainFor_of_name pn_java_util_HashMap) (fun m => by first | (simp [entryFrame, mkF, argsToLocals, Value.category]; done) | rfl) O0 ?_
  intro p e s m below meth c T0 G K0
  have M0 := M
  obtain ⟨E, FT, FA, V, EN, FH, FK, FV, FX⟩ := M0
  refine own_aloadN K0 d_jdk_69_m13_0 rfl rfl rfl ?_
  refine own_getF K0 (host := "") (Or.inl (wd167 hw)) Via.refl FT d_jdk_69_m13_1 rfl ?_
  intro T174 K174
  refine own_dup K174 d_jdk_69_m13_4 rfl rfl ?_
  refine own_astoreN K174 (Ls' := #[.val (.ref mp), .val (.ref ky), .val (.ref tb), .unset, .unset, .unset, .unset, .unset]) d_jdk_69_m13_5 rfl rfl rfl ?_
  refine own_ifnullNo K174 d_jdk_69_m13_6 rfl ?_
  refine own_aloadN K174 d_jdk_69_m13_9 rfl rfl rfl ?_
  refine own_arraylength K174 V d_jdk_69_m13_10 rfl ?_
  refine own_dup K174 d_jdk_69_m13_11 rfl rfl ?_
  refine own_istore K174 (Ls' := #[.val (.ref mp), .val (.ref ky), .val (.ref tb), .unset, .unset, .val (.int (16 : Int32)), .unset, .unset]) d_jdk_69_m13_12 rfl rfl ?_
  refine own_ifNo K174 d_jdk_69_m13_14 rfl ((if0 _ _).trans (tlt (by decide)).2.2.2) ?_
  refine own_aloadN K174 d_jdk_69_m13_17 rfl rfl rfl ?_
  refine own_iload K174 d_jdk_69_m13_18 rfl rfl ?_
  refine own_iconst K174 (v := (1 : Int32)) d_jdk_69_m13_20 rfl rfl ?_
  refine own_isub K174 d_jdk_69_m13_21 rfl ?_
  rw [show (16 : Int32) - (1 : Int32) = (15 : Int32) from by decide]
  refine own_aloadN K174 d_jdk_69_m13_22 rfl rfl rfl ?_
  refine own_callS K174 (wd132 hw) (wd133 hw) (rm_hash hw hs (x := ky) (cs := ck) K174.O S gk hok hlen) (wd134 hw) (wd67 hw) (by decide) (argsL := [(.ref ky)]) (rest := [(.int (15 : Int32)), (.ref tb)]) rfl pd_28Ljava2flang2fObject3b29I rfl rfl (W := 2) rfl (by decide) (by decide) (by decide) (by decide) d_jdk_69_m13_23 rfl ?_
  intro T175 h175 L175 v175 K175 q175
  obtain ⟨rfl, Kp175, S175⟩ := q175
  show G (T175.setTop (mkF m 26 #[.val (.ref mp), .val (.ref ky), .val (.ref tb), .unset, .unset, .val (.int (16 : Int32)), .unset, .unset] [(.int (own_spr (own_hash ck))), (.int (15 : Int32)), (.ref tb)]))
  have M1 := M.keep (wd7 hw) Kp175 S.exa
  obtain ⟨E1, FT1, FA1, V1, EN1, FH1, FK1, FV1, FX1⟩ := M1
  refine own_dup K175 d_jdk_69_m13_26 rfl rfl ?_
  refine own_istore K175 (Ls' := #[.val (.ref mp), .val (.ref ky), .val (.ref tb), .unset, .unset, .val (.int (16 : Int32)), .val (.int (own_spr (own_hash ck))), .unset]) d_jdk_69_m13_27 rfl rfl ?_
  refine own_iand K175 d_jdk_69_m13_29 rfl ?_
  refine own_aaload K175 (v := (.ref nd)) V1 rfl (own_ix _) (own_tab_at _ _) rfl d_jdk_69_m13_30 rfl ?_
  refine own_dup K175 d_jdk_69_m13_31 rfl rfl ?_
  refine own_astoreN K175 (Ls' := #[.val (.ref mp), .val (.ref ky), .val (.ref tb), .val (.ref nd), .unset, .val (.int (16 : Int32)), .val (.int (own_spr (own_hash ck))), .unset]) d_jdk_69_m13_32 rfl rfl rfl ?_
  refine own_ifnullNo K175 d_jdk_69_m13_33 rfl ?_
  refine own_aloadN K175 d_jdk_69_m13_36 rfl rfl rfl ?_
  refine own_getF K175 (host := "") (Or.inl (wd261 hw)) Via.refl FH1 d_jdk_69_m13_37 rfl ?_
  intro T176 K176
  refine own_iload K176 d_jdk_69_m13_40 rfl rfl ?_
  refine own_icmpNo K176 d_jdk_69_m13_42 rfl (teq rfl).2 ?_
  refine own_aloadN K176 d_jdk_69_m13_45 rfl rfl rfl ?_
  refine own_getF K176 (host := "") (Or.inl (wd262 hw)) Via.refl FK1 d_jdk_69_m13_46 rfl ?_
  intro T177 K177
  refine own_dup K177 d_jdk_69_m13_49 rfl rfl ?_
  refine own_astore K177 (Ls' := #[.val (.ref mp), .val (.ref ky), .val (.ref tb), .val (.ref nd), .unset, .val (.int (16 : Int32)), .val (.int (own_spr (own_hash ck))), .val (.ref ky)]) d_jdk_69_m13_50 rfl rfl rfl ?_
  refine own_aloadN K177 d_jdk_69_m13_52 rfl rfl rfl ?_
  refine own_acmp K177 (same := true) (pc' := 69) d_jdk_69_m13_53 rfl rfl (by simp) (by decide) (by decide) ?_
  refine own_aloadN K177 d_jdk_69_m13_69 rfl rfl rfl ?_
  exact own_retA K177 d_jdk_69_m13_70 rfl rfl rfl rfl (by decide) (by decide) ⟨rfl, Kp175, S175⟩
theorem d_jdk_69_m14_0 : decode jdk_69_method_14_code 0 = .ok (.aload_n 0, 1) := by decide +kernel
theorem d_jdk_69_m14_1 : decode jdk_69_method_14_code 1 = .ok (.aload_n 1, 1) := by decide +kernel
theorem d_jdk_69_m14_2 : decode jdk_69_method_14_code 2 = .ok (.invokevirtual 158, 3) := by decide +kernel
theorem wd260 {a0 : Array Value} {Z : State} (hw : ∀ d ∈ tables_1, d.before a0 Z = true) : (Jvm.Cond.code ({ cls := "java/util/HashMap", name := "getNode", desc := "(Ljava/lang/Object;)Ljava/util/HashMap$Node;" } : Jvm.MethodName) jdk_69_method_13_code (8 : Nat) (Option.some (Jvm.ClassFile.FieldType.object "java/util/HashMap$Node"))).before a0 Z = true := hw _ (List.mem_of_getElem? (i := 260) rfl)
theorem pd_28Ljava2flang2fObject3b29Ljava2futil2fHashMap24Node3b : parseMethodDescriptor "(Ljava/lang/Object;)Ljava/util/HashMap$Node;" = some ⟨[(.object "java/lang/Object")], some (.object "java/util/HashMap$Node")⟩ := by decide +kernel
theorem wd288 {a0 : Array Value} {Z : State} (hw : ∀ d ∈ tables_1, d.before a0 Z = true) : (Jvm.Cond.methodLink "java/util/HashMap" (158 : Nat) ({ cls := "java/util/HashMap", name := "getNode", desc := "(Ljava/lang/Object;)Ljava/util/HashMap$Node;" } : Jvm.MethodName)).before a0 Z = true := hw _ (List.mem_of_getElem? (i := 288) rfl)
theorem wd257 {a0 : Array Value} {Z : State} (hw : ∀ d ∈ tables_1, d.before a0 Z = true) : (Jvm.Cond.declares ({ cls := "java/util/HashMap", name := "getNode", desc := "(Ljava/lang/Object;)Ljava/util/HashMap$Node;" } : Jvm.MethodName)).before a0 Z = true := hw _ (List.mem_of_getElem? (i := 257) rfl)
theorem wd289 {a0 : Array Value} {Z : State} (hw : ∀ d ∈ tables_1, d.before a0 Z = true) : (Jvm.Cond.selects "java/util/LinkedHashMap" ({ cls := "java/util/HashMap", name := "getNode", desc := "(Ljava/lang/Object;)Ljava/util/HashMap$Node;" } : Jvm.MethodName) ({ cls := "java/util/HashMap", name := "getNode", desc := "(Ljava/lang/Object;)Ljava/util/HashMap$Node;" } : Jvm.MethodName)).before a0 Z = true := hw _ (List.mem_of_getElem? (i := 289) rfl)
theorem wd258 {a0 : Array Value} {Z : State} (hw : ∀ d ∈ tables_1, d.before a0 Z = true) : (Jvm.Cond.instanceMethod ({ cls := "java/util/HashMap", name := "getNode", desc := "(Ljava/lang/Object;)Ljava/util/HashMap$Node;" } : Jvm.MethodName)).before a0 Z = true := hw _ (List.mem_of_getElem? (i := 258) rfl)
theorem d_jdk_69_m14_5 : decode jdk_69_method_14_code 5 = .ok (.ifnull 7, 3) := by decide +kernel
theorem d_jdk_69_m14_8 : decode jdk_69_method_14_code 8 = .ok (.iconst 1, 1) := by decide +kernel
theorem d_jdk_69_m14_9 : decode jdk_69_method_14_code 9 = .ok (.goto 4, 3) := by decide +kernel
theorem d_jdk_69_m14_13 : decode jdk_69_method_14_code 13 = .ok (.ireturn, 1) := by decide +kernel
set_option maxRecDepth 65536 in
set_option maxHeartbeats 40000000 in
theorem rm_containsS {l : Launch} {Z : State} {a0 : Array Value} (hw : ∀ d ∈ tables_1, d.before a0 Z = true) (hs : ∀ d ∈ jdkStatics_1, d.before a0 Z = true) {mp : Addr} {tb : Addr} {nd : Addr} {ls : Addr} {ky : Addr} {kt : ClassId} {ck : List Int32} {h0 : Heap} (O0 : Ext Z.heap h0) (M : own_MP Z h0 mp tb nd ls ky kt ck) (S : own_StS Z h0 ky ck) (gk : Z.heap.size ≤ ky) (hok : own_ok false ck) (hlen : ck.length ≤ 4000) :
    own_Ct l Z (⟨"java/util/HashMap", "containsKey", "(Ljava/lang/Object;)Z"⟩ : MethodName) jdk_69_method_14_code 2 (some .boolean) [] ({ frames := 6, locals := 92, cells := 0, slots := 0 } : Room) #[(.ref mp), (.ref ky)] h0 (fun v h => v = some (.int 1) ∧ Keep h0 h [ky] ∧ own_StS Z h ky ck) := by
  refine own_body (Ls := #[.val (.ref mp), .val (.ref ky)]) (plainFor_of_name pn_java_util_HashMap) (fun m => by first | (simp [entryFrame, mkF, argsToLocals, Value.category]; done) | rfl) O0 ?_
  intro p e s m below meth c T0 G K0
  refine own_aloadN K0 d_jdk_69_m14_0 rfl rfl rfl ?_
  refine own_aloadN K0 d_jdk_69_m14_1 rfl rfl rfl ?_
  refine own_callV K0 (a := mp) (x0 := (⟨"java/util/HashMap", "getNode", "(Ljava/lang/Object;)Ljava/util/HashMap$Node;"⟩ : MethodName)) (wd288 hw) (wd257 hw) (fun q => own_nfS (args := #[]) (mvT q (wd126 hw)) rfl) (wd289 hw) (wd258 hw) (rm_getNodeS hw hs K0.O M S gk hok hlen) (wd260 hw) (wd67 hw) (by decide) M.1 (argsL := [(.ref ky)]) (rest := []) rfl pd_28Ljava2flang2fObject3b29Ljava2futil2fHashMap24Node3b rfl rfl (W := 0) rfl (by decide) (by decide) (by decide) (by decide) d_jdk_69_m14_2 rfl ?_
  intro T178 h178 L178 v178 K178 q178
  obtain ⟨rfl, q178⟩ := q178
  show G (T178.setTop (mkF m 5 #[.val (.ref mp), .val (.ref ky)] [(.ref nd)]))
  refine own_ifnullNo K178 d_jdk_69_m14_5 rfl ?_
  refine own_iconst K178 (v := (1 : Int32)) d_jdk_69_m14_8 rfl rfl ?_
  refine own_goto K178 d_jdk_69_m14_9 (pc' := 13) (by decide) (by decide) ?_
  exact own_retN K178 (z' := (1 : Int32)) d_jdk_69_m14_13 rfl (by simp) (by decide) (by decide) (by decide) ⟨rfl, q178⟩
theorem d_jdk_94_m21_0 : decode jdk_94_method_21_code 0 = .ok (.aload_n 0, 1) := by decide +kernel
theorem d_jdk_94_m21_1 : decode jdk_94_method_21_code 1 = .ok (.aload_n 1, 1) := by decide +kernel
theorem d_jdk_94_m21_2 : decode jdk_94_method_21_code 2 = .ok (.invokevirtual 99, 3) := by decide +kernel
theorem wd255 {a0 : Array Value} {Z : State} (hw : ∀ d ∈ tables_1, d.before a0 Z = true) : (Jvm.Cond.methodLink "java/util/LinkedHashMap" (99 : Nat) ({ cls := "java/util/LinkedHashMap", name := "getNode", desc := "(Ljava/lang/Object;)Ljava/util/HashMap$Node;" } : Jvm.MethodName)).before a0 Z = true := hw _ (List.mem_of_getElem? (i := 255) rfl)
theorem wd256 {a0 : Array Value} {Z : State} (hw : ∀ d ∈ tables_1, d.before a0 Z = true) : (Jvm.Cond.sameMethod "java/util/LinkedHashMap" "java/util/HashMap" "getNode" "(Ljava/lang/Object;)Ljava/util/HashMap$Node;").before a0 Z = true := hw _ (List.mem_of_getElem? (i := 256) rfl)
theorem wd259 {a0 : Array Value} {Z : State} (hw : ∀ d ∈ tables_1, d.before a0 Z = true) : (Jvm.Cond.selects "java/util/LinkedHashMap" ({ cls := "java/util/LinkedHashMap", name := "getNode", desc := "(Ljava/lang/Object;)Ljava/util/HashMap$Node;" } : Jvm.MethodName) ({ cls := "java/util/HashMap", name := "getNode", desc := "(Ljava/lang/Object;)Ljava/util/HashMap$Node;" } : Jvm.MethodName)).before a0 Z = true := hw _ (List.mem_of_getElem? (i := 259) rfl)
theorem d_jdk_94_m21_5 : decode jdk_94_method_21_code 5 = .ok (.dup, 1) := by decide +kernel
theorem d_jdk_94_m21_6 : decode jdk_94_method_21_code 6 = .ok (.astore_n 3, 1) := by decide +kernel
theorem d_jdk_94_m21_7 : decode jdk_94_method_21_code 7 = .ok (.ifnonnull 5, 3) := by decide +kernel
theorem d_jdk_94_m21_12 : decode jdk_94_method_21_code 12 = .ok (.aload_n 0, 1) := by decide +kernel
theorem d_jdk_94_m21_13 : decode jdk_94_method_21_code 13 = .ok (.getfield 64, 3) := by decide +kernel
theorem d_jdk_94_m21_16 : decode jdk_94_method_21_code 16 = .ok (.ifCond .eq 8, 3) := by decide +kernel
theorem d_jdk_94_m21_24 : decode jdk_94_method_21_code 24 = .ok (.aload_n 3, 1) := by decide +kernel
theorem wd263 {a0 : Array Value} {Z : State} (hw : ∀ d ∈ tables_1, d.before a0 Z = true) : (Jvm.Cond.fieldLink "java/util/LinkedHashMap" (107 : Nat) "java/util/HashMap$Node" "value" "Ljava/lang/Object;").before a0 Z = true := hw _ (List.mem_of_getElem? (i := 263) rfl)
theorem d_jdk_94_m21_25 : decode jdk_94_method_21_code 25 = .ok (.getfield 107, 3) := by decide +kernel
theorem d_jdk_94_m21_28 : decode jdk_94_method_21_code 28 = .ok (.areturn, 1) := by decide +kernel
set_option maxRecDepth 65536 in
set_option maxHeartbeats 40000000 in
theorem rm_getOrS {l : Launch} {Z : State} {a0 : Array Value} (hw : ∀ d ∈ tables_1, d.before a0 Z = true) (hs : ∀ d ∈ jdkStatics_1, d.before a0 Z = true) {mp : Addr} {tb : Addr} {nd : Addr} {ls : Addr} {ky : Addr} {kt : ClassId} {ck : List Int32} {dv : Addr} {h0 : Heap} (O0 : Ext Z.heap h0) (M : own_MP Z h0 mp tb nd ls ky kt ck) (S : own_StS Z h0 ky ck) (gk : Z.heap.size ≤ ky) (hok : own_ok false ck) (hlen : ck.length ≤ 4000) :
    own_Ct l Z (⟨"java/util/LinkedHashMap", "getOrDefault", "(Ljava/lang/Object;Ljava/lang/Object;)Ljava/lang/Object;"⟩ : MethodName) jdk_94_method_21_code 4 (some (.object "java/lang/Object")) [] ({ frames := 6, locals := 92, cells := 0, slots := 0 } : Room) #[(.ref mp), (.ref ky), (.ref dv)] h0 (fun v h => v = some (.ref ls) ∧ Keep h0 h [ky] ∧ own_StS Z h ky ck) := by
  refine own_body (Ls := #[.val (.ref mp), .val (.ref ky), .val (.ref dv), .unset]) (plainFor_of_name pn_java_util_LinkedHashMap) (fun m => by first | (simp [entryFrame, mkF, argsToLocals, Value.category]; done) | rfl) O0 ?_
  intro p e s m below meth c T0 G K0
  refine own_aloadN K0 d_jdk_94_m21_0 rfl rfl rfl ?_
  refine own_aloadN K0 d_jdk_94_m21_1 rfl rfl rfl ?_
  refine own_callVU K0 (a := mp) (owner := "java/util/HashMap") (x0 := (⟨"java/util/LinkedHashMap", "getNode", "(Ljava/lang/Object;)Ljava/util/HashMap$Node;"⟩ : MethodName)) (wd255 hw) (wd256 hw) (wd257 hw) (wd259 hw) (wd258 hw) (rm_getNodeS hw hs K0.O M S gk hok hlen) (wd260 hw) (wd67 hw) (by decide) M.1 (argsL := [(.ref ky)]) (rest := []) rfl pd_28Ljava2flang2fObject3b29Ljava2futil2fHashMap24Node3b rfl rfl (W := 0) rfl (by decide) (by decide) (by decide) (by decide) d_jdk_94_m21_2 rfl ?_
  intro T179 h179 L179 v179 K179 q179
  obtain ⟨rfl, Kp179, S179⟩ := q179
  show G (T179.setTop (mkF m 5 #[.val (.ref mp), .val (.ref ky), .val (.ref dv), .unset] [(.ref nd)]))
  refine own_dup K179 d_jdk_94_m21_5 rfl rfl ?_
  refine own_astoreN K179 (Ls' := #[.val (.ref mp), .val (.ref ky), .val (.ref dv), .val (.ref nd)]) d_jdk_94_m21_6 rfl rfl rfl ?_
  refine own_ifnonnullYes K179 d_jdk_94_m21_7 (pc' := 12) (by decide) (by decide) ?_
  refine own_aloadN K179 d_jdk_94_m21_12 rfl rfl rfl ?_
  obtain ⟨E1, FT1, FA1, V1, EN1, FH1, FK1, FV1, FX1⟩ := M.keep (wd7 hw) Kp179 S.exa
  refine own_getF K179 (host := "") (Or.inl (wd81 hw)) Via.refl FA1 d_jdk_94_m21_13 rfl ?_
  intro T180 K180
  refine own_ifYes K180 d_jdk_94_m21_16 (pc' := 24) (by decide) (by decide) ((if0 _ _).trans (teq rfl).1) ?_
  refine own_aloadN K180 d_jdk_94_m21_24 rfl rfl rfl ?_
  refine own_getF K180 (host := "") (Or.inl (wd263 hw)) Via.refl FV1 d_jdk_94_m21_25 rfl ?_
  intro T181 K181
  exact own_retA K181 d_jdk_94_m21_28 rfl rfl rfl rfl (by decide) (by decide) ⟨rfl, Kp179, S179⟩
theorem d_jdk_69_m13_56 : decode jdk_69_method_13_code 56 = .ok (.aload_n 1, 1) := by decide +kernel
theorem d_jdk_69_m13_57 : decode jdk_69_method_13_code 57 = .ok (.ifnull 14, 3) := by decide +kernel
theorem d_jdk_69_m13_60 : decode jdk_69_method_13_code 60 = .ok (.aload_n 1, 1) := by decide +kernel
theorem d_jdk_69_m13_61 : decode jdk_69_method_13_code 61 = .ok (.aload 7, 2) := by decide +kernel
theorem d_jdk_69_m13_63 : decode jdk_69_method_13_code 63 = .ok (.invokevirtual 173, 3) := by decide +kernel
theorem wd310 {a0 : Array Value} {Z : State} (hw : ∀ d ∈ tables_1, d.before a0 Z = true) : (Jvm.Cond.code ({ cls := "java/lang/String", name := "equals", desc := "(Ljava/lang/Object;)Z" } : Jvm.MethodName) jdk_42_method_66_code (3 : Nat) (Option.some Jvm.ClassFile.FieldType.boolean)).before a0 Z = true := hw _ (List.mem_of_getElem? (i := 310) rfl)
theorem pd_28Ljava2flang2fObject3b29Z : parseMethodDescriptor "(Ljava/lang/Object;)Z" = some ⟨[(.object "java/lang/Object")], some .boolean⟩ := by decide +kernel
theorem wd314 {a0 : Array Value} {Z : State} (hw : ∀ d ∈ tables_1, d.before a0 Z = true) : (Jvm.Cond.methodLink "java/util/HashMap" (173 : Nat) ({ cls := "java/lang/Object", name := "equals", desc := "(Ljava/lang/Object;)Z" } : Jvm.MethodName)).before a0 Z = true := hw _ (List.mem_of_getElem? (i := 314) rfl)
theorem wd315 {a0 : Array Value} {Z : State} (hw : ∀ d ∈ tables_1, d.before a0 Z = true) : (Jvm.Cond.declares ({ cls := "java/lang/Object", name := "equals", desc := "(Ljava/lang/Object;)Z" } : Jvm.MethodName)).before a0 Z = true := hw _ (List.mem_of_getElem? (i := 315) rfl)
theorem wd317 {a0 : Array Value} {Z : State} (hw : ∀ d ∈ tables_1, d.before a0 Z = true) : (Jvm.Cond.selects "java/lang/String" ({ cls := "java/lang/Object", name := "equals", desc := "(Ljava/lang/Object;)Z" } : Jvm.MethodName) ({ cls := "java/lang/String", name := "equals", desc := "(Ljava/lang/Object;)Z" } : Jvm.MethodName)).before a0 Z = true := hw _ (List.mem_of_getElem? (i := 317) rfl)
theorem wd308 {a0 : Array Value} {Z : State} (hw : ∀ d ∈ tables_1, d.before a0 Z = true) : (Jvm.Cond.instanceMethod ({ cls := "java/lang/String", name := "equals", desc := "(Ljava/lang/Object;)Z" } : Jvm.MethodName)).before a0 Z = true := hw _ (List.mem_of_getElem? (i := 308) rfl)
theorem d_jdk_69_m13_66 : decode jdk_69_method_13_code 66 = .ok (.ifCond .eq 5, 3) := by decide +kernel
set_option maxRecDepth 65536 in
set_option maxHeartbeats 40000000 in
theorem rm_getNodeE {l : Launch} {Z : State} {a0 : Array Value} (hw : ∀ d ∈ tables_1, d.before a0 Z = true) (hs : ∀ d ∈ jdkStatics_1, d.before a0 Z = true) {mp : Addr} {tb : Addr} {nd : Addr} {ls : Addr} {ky : Addr} {kt : ClassId} {ck : List Int32} {y : Addr} {h0 : Heap} (O0 : Ext Z.heap h0) (M : own_MP Z h0 mp tb nd ls ky kt ck) (S : own_StS Z h0 y ck) (gk : Z.heap.size ≤ y) (hok : own_ok false ck) (hlen : ck.length ≤ 4000) (SKy : own_StS Z h0 ky ck) (hyk : y ≠ ky) :
    own_Ct l Z (⟨"java/util/HashMap", "getNode", "(Ljava/lang/Object;)Ljava/util/HashMap$Node;"⟩ : MethodName) jdk_69_method_13_code 8 (some (.object "java/util/HashMap$Node")) [] ({ frames := 5, locals := 73, cells := 0, slots := 0 } : Room) #[(.ref mp), (.ref y)] h0 (fun v h => v = some (.ref nd) ∧ Keep h0 h [y] ∧ own_StS Z h y ck) := by
  refine own_body (Ls := #[.val (.ref mp), .val (.ref y), .unset, .unset, .unset, .unset, .unset, .unset]) (plainFor_of_name pn_java_util_HashMap) (fun m => by first | (simp [entryFrame, mkF, argsToLocals, Value.category]; done) | rfl) O0 ?_
  intro p e s m below meth c T0 G K0
  have M0 := M
  obtain ⟨E, FT, FA, V, EN, FH, FK, FV, FX⟩ := M0
  refine own_aloadN K0 d_jdk_69_m13_0 rfl rfl rfl ?_
  refine own_getF K0 (host := "") (Or.inl (wd167 hw)) Via.refl FT d_jdk_69_m13_1 rfl ?_
  intro T182 K182
  refine own_dup K182 d_jdk_69_m13_4 rfl rfl ?_
  refine own_astoreN K182 (Ls' := #[.val (.ref mp), .val (.ref y), .val (.ref tb), .unset, .unset, .unset, .unset, .unset]) d_jdk_69_m13_5 rfl rfl rfl ?_
  refine own_ifnullNo K182 d_jdk_69_m13_6 rfl ?_
  refine own_aloadN K182 d_jdk_69_m13_9 rfl rfl rfl ?_
  refine own_arraylength K182 V d_jdk_69_m13_10 rfl ?_
  refine own_dup K182 d_jdk_69_m13_11 rfl rfl ?_
  refine own_istore K182 (Ls' := #[.val (.ref mp), .val (.ref y), .val (.ref tb), .unset, .unset, .val (.int (16 : Int32)), .unset, .unset]) d_jdk_69_m13_12 rfl rfl ?_
  refine own_ifNo K182 d_jdk_69_m13_14 rfl ((if0 _ _).trans (tlt (by decide)).2.2.2) ?_
  refine own_aloadN K182 d_jdk_69_m13_17 rfl rfl rfl ?_
  refine own_iload K182 d_jdk_69_m13_18 rfl rfl ?_
  refine own_iconst K182 (v := (1 : Int32)) d_jdk_69_m13_20 rfl rfl ?_
  refine own_isub K182 d_jdk_69_m13_21 rfl ?_
  rw [show (16 : Int32) - (1 : Int32) = (15 : Int32) from by decide]
  refine own_aloadN K182 d_jdk_69_m13_22 rfl rfl rfl ?_
  refine own_callS K182 (wd132 hw) (wd133 hw) (rm_hash hw hs (x := y) (cs := ck) K182.O S gk hok hlen) (wd134 hw) (wd67 hw) (by decide) (argsL := [(.ref y)]) (rest := [(.int (15 : Int32)), (.ref tb)]) rfl pd_28Ljava2flang2fObject3b29I rfl rfl (W := 2) rfl (by decide) (by decide) (by decide) (by decide) d_jdk_69_m13_23 rfl ?_
  intro T183 h183 L183 v183 K183 q183
  obtain ⟨rfl, Kp183, S183⟩ := q183
  show G (T183.setTop (mkF m 26 #[.val (.ref mp), .val (.ref y), .val (.ref tb), .unset, .unset, .val (.int (16 : Int32)), .unset, .unset] [(.int (own_spr (own_hash ck))), (.int (15 : Int32)), (.ref tb)]))
  have M1 := M.keep (wd7 hw) Kp183 S.exa
  obtain ⟨E1, FT1, FA1, V1, EN1, FH1, FK1, FV1, FX1⟩ := M1
  refine own_dup K183 d_jdk_69_m13_26 rfl rfl ?_
  refine own_istore K183 (Ls' := #[.val (.ref mp), .val (.ref y), .val (.ref tb), .unset, .unset, .val (.int (16 : Int32)), .val (.int (own_spr (own_hash ck))), .unset]) d_jdk_69_m13_27 rfl rfl ?_
  refine own_iand K183 d_jdk_69_m13_29 rfl ?_
  refine own_aaload K183 (v := (.ref nd)) V1 rfl (own_ix _) (own_tab_at _ _) rfl d_jdk_69_m13_30 rfl ?_
  refine own_dup K183 d_jdk_69_m13_31 rfl rfl ?_
  refine own_astoreN K183 (Ls' := #[.val (.ref mp), .val (.ref y), .val (.ref tb), .val (.ref nd), .unset, .val (.int (16 : Int32)), .val (.int (own_spr (own_hash ck))), .unset]) d_jdk_69_m13_32 rfl rfl rfl ?_
  refine own_ifnullNo K183 d_jdk_69_m13_33 rfl ?_
  refine own_aloadN K183 d_jdk_69_m13_36 rfl rfl rfl ?_
  refine own_getF K183 (host := "") (Or.inl (wd261 hw)) Via.refl FH1 d_jdk_69_m13_37 rfl ?_
  intro T184 K184
  refine own_iload K184 d_jdk_69_m13_40 rfl rfl ?_
  refine own_icmpNo K184 d_jdk_69_m13_42 rfl (teq rfl).2 ?_
  refine own_aloadN K184 d_jdk_69_m13_45 rfl rfl rfl ?_
  refine own_getF K184 (host := "") (Or.inl (wd262 hw)) Via.refl FK1 d_jdk_69_m13_46 rfl ?_
  intro T185 K185
  refine own_dup K185 d_jdk_69_m13_49 rfl rfl ?_
  refine own_astore K185 (Ls' := #[.val (.ref mp), .val (.ref y), .val (.ref tb), .val (.ref nd), .unset, .val (.int (16 : Int32)), .val (.int (own_spr (own_hash ck))), .val (.ref ky)]) d_jdk_69_m13_50 rfl rfl rfl ?_
  refine own_aloadN K185 d_jdk_69_m13_52 rfl rfl rfl ?_
  refine own_acmp K185 (same := false) (pc' := 56) d_jdk_69_m13_53 rfl rfl (by simpa using hyk.symm) (by decide) (by decide) ?_
  refine own_aloadN K185 d_jdk_69_m13_56 rfl rfl rfl ?_
  refine own_ifnullNo K185 d_jdk_69_m13_57 rfl ?_
  refine own_aloadN K185 d_jdk_69_m13_60 rfl rfl rfl ?_
  refine own_aload K185 d_jdk_69_m13_61 rfl rfl rfl ?_
  have SK1 := own_StS.keep (wd7 hw) SKy Kp183 S.exa hyk.symm
  refine own_callV K185 (a := y) (x0 := (⟨"java/lang/Object", "equals", "(Ljava/lang/Object;)Z"⟩ : MethodName)) (wd314 hw) (wd315 hw) (fun q => own_nfO (args := #[]) (mvT q (wd324 hw)) rfl) (wd317 hw) (wd308 hw) (rm_eqY hw hs (x := y) (y := ky) (cs := ck) K185.O S183.g SK1.g hyk hok hlen) (wd310 hw) (wd8 hw) (by decide) S183.exa (argsL := [(.ref ky)]) (rest := []) rfl pd_28Ljava2flang2fObject3b29Z rfl rfl (W := 0) rfl (by decide) (by decide) (by decide) (by decide) d_jdk_69_m13_63 rfl ?_
  intro T186 h186 L186 v186 K186 q186
  obtain ⟨rfl, e186⟩ := q186
  have f186 := e186.symm
  subst f186
  show G (T186.setTop (mkF m 66 #[.val (.ref mp), .val (.ref y), .val (.ref tb), .val (.ref nd), .unset, .val (.int (16 : Int32)), .val (.int (own_spr (own_hash ck))), .val (.ref ky)] [(.int (1 : Int32))]))
  refine own_ifNo K186 d_jdk_69_m13_66 rfl ((if0 _ _).trans (feq (by decide)).1) ?_
  refine own_aloadN K186 d_jdk_69_m13_69 rfl rfl rfl ?_
  exact own_retA K186 d_jdk_69_m13_70 rfl rfl rfl rfl (by decide) (by decide) ⟨rfl, Kp183, S183⟩
set_option maxRecDepth 65536 in
set_option maxHeartbeats 40000000 in
theorem rm_containsE {l : Launch} {Z : State} {a0 : Array Value} (hw : ∀ d ∈ tables_1, d.before a0 Z = true) (hs : ∀ d ∈ jdkStatics_1, d.before a0 Z = true) {mp : Addr} {tb : Addr} {nd : Addr} {ls : Addr} {ky : Addr} {kt : ClassId} {ck : List Int32} {y : Addr} {h0 : Heap} (O0 : Ext Z.heap h0) (M : own_MP Z h0 mp tb nd ls ky kt ck) (S : own_StS Z h0 y ck) (gk : Z.heap.size ≤ y) (hok : own_ok false ck) (hlen : ck.length ≤ 4000) (SKy : own_StS Z h0 ky ck) (hyk : y ≠ ky) :
    own_Ct l Z (⟨"java/util/HashMap", "containsKey", "(Ljava/lang/Object;)Z"⟩ : MethodName) jdk_69_method_14_code 2 (some .boolean) [] ({ frames := 6, locals := 92, cells := 0, slots := 0 } : Room) #[(.ref mp), (.ref y)] h0 (fun v h => v = some (.int 1) ∧ Keep h0 h [y] ∧ own_StS Z h y ck) := by
  refine own_body (Ls := #[.val (.ref mp), .val (.ref y)]) (plainFor_of_name pn_java_util_HashMap) (fun m => by first | (simp [entryFrame, mkF, argsToLocals, Value.category]; done) | rfl) O0 ?_
  intro p e s m below meth c T0 G K0
  refine own_aloadN K0 d_jdk_69_m14_0 rfl rfl rfl ?_
  refine own_aloadN K0 d_jdk_69_m14_1 rfl rfl rfl ?_
  refine own_callV K0 (a := mp) (x0 := (⟨"java/util/HashMap", "getNode", "(Ljava/lang/Object;)Ljava/util/HashMap$Node;"⟩ : MethodName)) (wd288 hw) (wd257 hw) (fun q => own_nfS (args := #[]) (mvT q (wd126 hw)) rfl) (wd289 hw) (wd258 hw) (rm_getNodeE hw hs K0.O M S gk hok hlen SKy hyk) (wd260 hw) (wd67 hw) (by decide) M.1 (argsL := [(.ref y)]) (rest := []) rfl pd_28Ljava2flang2fObject3b29Ljava2futil2fHashMap24Node3b rfl rfl (W := 0) rfl (by decide) (by decide) (by decide) (by decide) d_jdk_69_m14_2 rfl ?_
  intro T187 h187 L187 v187 K187 q187
  obtain ⟨rfl, q187⟩ := q187
  show G (T187.setTop (mkF m 5 #[.val (.ref mp), .val (.ref y)] [(.ref nd)]))
  refine own_ifnullNo K187 d_jdk_69_m14_5 rfl ?_
  refine own_iconst K187 (v := (1 : Int32)) d_jdk_69_m14_8 rfl rfl ?_
  refine own_goto K187 d_jdk_69_m14_9 (pc' := 13) (by decide) (by decide) ?_
  exact own_retN K187 (z' := (1 : Int32)) d_jdk_69_m14_13 rfl (by simp) (by decide) (by decide) (by decide) ⟨rfl, q187⟩
set_option maxRecDepth 65536 in
set_option maxHeartbeats 40000000 in
theorem rm_getOrE {l : Launch} {Z : State} {a0 : Array Value} (hw : ∀ d ∈ tables_1, d.before a0 Z = true) (hs : ∀ d ∈ jdkStatics_1, d.before a0 Z = true) {mp : Addr} {tb : Addr} {nd : Addr} {ls : Addr} {ky : Addr} {kt : ClassId} {ck : List Int32} {y : Addr} {dv : Addr} {h0 : Heap} (O0 : Ext Z.heap h0) (M : own_MP Z h0 mp tb nd ls ky kt ck) (S : own_StS Z h0 y ck) (gk : Z.heap.size ≤ y) (hok : own_ok false ck) (hlen : ck.length ≤ 4000) (SKy : own_StS Z h0 ky ck) (hyk : y ≠ ky) :
    own_Ct l Z (⟨"java/util/LinkedHashMap", "getOrDefault", "(Ljava/lang/Object;Ljava/lang/Object;)Ljava/lang/Object;"⟩ : MethodName) jdk_94_method_21_code 4 (some (.object "java/lang/Object")) [] ({ frames := 6, locals := 92, cells := 0, slots := 0 } : Room) #[(.ref mp), (.ref y), (.ref dv)] h0 (fun v h => v = some (.ref ls) ∧ Keep h0 h [y] ∧ own_StS Z h y ck) := by
  refine own_body (Ls := #[.val (.ref mp), .val (.ref y), .val (.ref dv), .unset]) (plainFor_of_name pn_java_util_LinkedHashMap) (fun m => by first | (simp [entryFrame, mkF, argsToLocals, Value.category]; done) | rfl) O0 ?_
  intro p e s m below meth c T0 G K0
  refine own_aloadN K0 d_jdk_94_m21_0 rfl rfl rfl ?_
  refine own_aloadN K0 d_jdk_94_m21_1 rfl rfl rfl ?_
  refine own_callVU K0 (a := mp) (owner := "java/util/HashMap") (x0 := (⟨"java/util/LinkedHashMap", "getNode", "(Ljava/lang/Object;)Ljava/util/HashMap$Node;"⟩ : MethodName)) (wd255 hw) (wd256 hw) (wd257 hw) (wd259 hw) (wd258 hw) (rm_getNodeE hw hs K0.O M S gk hok hlen SKy hyk) (wd260 hw) (wd67 hw) (by decide) M.1 (argsL := [(.ref y)]) (rest := []) rfl pd_28Ljava2flang2fObject3b29Ljava2futil2fHashMap24Node3b rfl rfl (W := 0) rfl (by decide) (by decide) (by decide) (by decide) d_jdk_94_m21_2 rfl ?_
  intro T188 h188 L188 v188 K188 q188
  obtain ⟨rfl, Kp188, S188⟩ := q188
  show G (T188.setTop (mkF m 5 #[.val (.ref mp), .val (.ref y), .val (.ref dv), .unset] [(.ref nd)]))
  refine own_dup K188 d_jdk_94_m21_5 rfl rfl ?_
  refine own_astoreN K188 (Ls' := #[.val (.ref mp), .val (.ref y), .val (.ref dv), .val (.ref nd)]) d_jdk_94_m21_6 rfl rfl rfl ?_
  refine own_ifnonnullYes K188 d_jdk_94_m21_7 (pc' := 12) (by decide) (by decide) ?_
  refine own_aloadN K188 d_jdk_94_m21_12 rfl rfl rfl ?_
  obtain ⟨E1, FT1, FA1, V1, EN1, FH1, FK1, FV1, FX1⟩ := M.keep (wd7 hw) Kp188 S.exa
  refine own_getF K188 (host := "") (Or.inl (wd81 hw)) Via.refl FA1 d_jdk_94_m21_13 rfl ?_
  intro T189 K189
  refine own_ifYes K189 d_jdk_94_m21_16 (pc' := 24) (by decide) (by decide) ((if0 _ _).trans (teq rfl).1) ?_
  refine own_aloadN K189 d_jdk_94_m21_24 rfl rfl rfl ?_
  refine own_getF K189 (host := "") (Or.inl (wd263 hw)) Via.refl FV1 d_jdk_94_m21_25 rfl ?_
  intro T190 K190
  exact own_retA K190 d_jdk_94_m21_28 rfl rfl rfl rfl (by decide) (by decide) ⟨rfl, Kp188, S188⟩
theorem d_jdk_69_m13_148 : decode jdk_69_method_13_code 148 = .ok (.aconst_null, 1) := by decide +kernel
theorem d_jdk_69_m13_149 : decode jdk_69_method_13_code 149 = .ok (.areturn, 1) := by decide +kernel
theorem d_jdk_69_m13_71 : decode jdk_69_method_13_code 71 = .ok (.aload_n 3, 1) := by decide +kernel
theorem wd318 {a0 : Array Value} {Z : State} (hw : ∀ d ∈ tables_1, d.before a0 Z = true) : (Jvm.Cond.fieldLink "java/util/HashMap" (177 : Nat) "java/util/HashMap$Node" "next" "Ljava/util/HashMap$Node;").before a0 Z = true := hw _ (List.mem_of_getElem? (i := 318) rfl)
theorem d_jdk_69_m13_72 : decode jdk_69_method_13_code 72 = .ok (.getfield 177, 3) := by decide +kernel
theorem d_jdk_69_m13_75 : decode jdk_69_method_13_code 75 = .ok (.dup, 1) := by decide +kernel
theorem d_jdk_69_m13_76 : decode jdk_69_method_13_code 76 = .ok (.astore 4, 2) := by decide +kernel
theorem d_jdk_69_m13_78 : decode jdk_69_method_13_code 78 = .ok (.ifnull 70, 3) := by decide +kernel
set_option maxRecDepth 65536 in
set_option maxHeartbeats 40000000 in
theorem rm_getNodeN {l : Launch} {Z : State} {a0 : Array Value} (hw : ∀ d ∈ tables_1, d.before a0 Z = true) (hs : ∀ d ∈ jdkStatics_1, d.before a0 Z = true) {mp : Addr} {tb : Addr} {nd : Addr} {ls : Addr} {ky : Addr} {kt : ClassId} {ck : List Int32} {y : Addr} {ds : List Int32} {h0 : Heap} (O0 : Ext Z.heap h0) (M : own_MP Z h0 mp tb nd ls ky kt ck) (S : own_StS Z h0 y ds) (gk : Z.heap.size ≤ y) (hok : own_ok false ds) (hlen : ds.length ≤ 4000) (SKy : own_StS Z h0 ky ck) (hyk : y ≠ ky) (hokk : own_ok false ck) (hlenk : ck.length ≤ 4000) (hne : ¬ ds = ck) :
    own_Ct l Z (⟨"java/util/HashMap", "getNode", "(Ljava/lang/Object;)Ljava/util/HashMap$Node;"⟩ : MethodName) jdk_69_method_13_code 8 (some (.object "java/util/HashMap$Node")) [] ({ frames := 5, locals := 73, cells := 0, slots := 0 } : Room) #[(.ref mp), (.ref y)] h0 (fun v h => v = some .null ∧ Keep h0 h [y] ∧ own_StS Z h y ds) := by
  refine own_body (Ls := #[.val (.ref mp), .val (.ref y), .unset, .unset, .unset, .unset, .unset, .unset]) (plainFor_of_name pn_java_util_HashMap) (fun m => by first | (simp [entryFrame, mkF, argsToLocals, Value.category]; done) | rfl) O0 ?_
  intro p e s m below meth c T0 G K0
  have M0 := M
  obtain ⟨E, FT, FA, V, EN, FH, FK, FV, FX⟩ := M0
  refine own_aloadN K0 d_jdk_69_m13_0 rfl rfl rfl ?_
  refine own_getF K0 (host := "") (Or.inl (wd167 hw)) Via.refl FT d_jdk_69_m13_1 rfl ?_
  intro T191 K191
  refine own_dup K191 d_jdk_69_m13_4 rfl rfl ?_
  refine own_astoreN K191 (Ls' := #[.val (.ref mp), .val (.ref y), .val (.ref tb), .unset, .unset, .unset, .unset, .unset]) d_jdk_69_m13_5 rfl rfl rfl ?_
  refine own_ifnullNo K191 d_jdk_69_m13_6 rfl ?_
  refine own_aloadN K191 d_jdk_69_m13_9 rfl rfl rfl ?_
  refine own_arraylength K191 V d_jdk_69_m13_10 rfl ?_
  refine own_dup K191 d_jdk_69_m13_11 rfl rfl ?_
  refine own_istore K191 (Ls' := #[.val (.ref mp), .val (.ref y), .val (.ref tb), .unset, .unset, .val (.int (16 : Int32)), .unset, .unset]) d_jdk_69_m13_12 rfl rfl ?_
  refine own_ifNo K191 d_jdk_69_m13_14 rfl ((if0 _ _).trans (tlt (by decide)).2.2.2) ?_
  refine own_aloadN K191 d_jdk_69_m13_17 rfl rfl rfl ?_
  refine own_iload K191 d_jdk_69_m13_18 rfl rfl ?_
  refine own_iconst K191 (v := (1 : Int32)) d_jdk_69_m13_20 rfl rfl ?_
  refine own_isub K191 d_jdk_69_m13_21 rfl ?_
  rw [show (16 : Int32) - (1 : Int32) = (15 : Int32) from by decide]
  refine own_aloadN K191 d_jdk_69_m13_22 rfl rfl rfl ?_
  refine own_callS K191 (wd132 hw) (wd133 hw) (rm_hash hw hs (x := y) (cs := ds) K191.O S gk hok hlen) (wd134 hw) (wd67 hw) (by decide) (argsL := [(.ref y)]) (rest := [(.int (15 : Int32)), (.ref tb)]) rfl pd_28Ljava2flang2fObject3b29I rfl rfl (W := 2) rfl (by decide) (by decide) (by decide) (by decide) d_jdk_69_m13_23 rfl ?_
  intro T192 h192 L192 v192 K192 q192
  obtain ⟨rfl, Kp192, S192⟩ := q192
  show G (T192.setTop (mkF m 26 #[.val (.ref mp), .val (.ref y), .val (.ref tb), .unset, .unset, .val (.int (16 : Int32)), .unset, .unset] [(.int (own_spr (own_hash ds))), (.int (15 : Int32)), (.ref tb)]))
  have M1 := M.keep (wd7 hw) Kp192 S.exa
  obtain ⟨E1, FT1, FA1, V1, EN1, FH1, FK1, FV1, FX1⟩ := M1
  refine own_dup K192 d_jdk_69_m13_26 rfl rfl ?_
  refine own_istore K192 (Ls' := #[.val (.ref mp), .val (.ref y), .val (.ref tb), .unset, .unset, .val (.int (16 : Int32)), .val (.int (own_spr (own_hash ds))), .unset]) d_jdk_69_m13_27 rfl rfl ?_
  refine own_iand K192 d_jdk_69_m13_29 rfl ?_
  by_cases hj : ((15 : Int32) &&& (own_spr (own_hash ck))).toNatClampNeg = ((15 : Int32) &&& (own_spr (own_hash ds))).toNatClampNeg
  · skip
    refine own_aaload K192 (v := (.ref nd)) V1 rfl (own_ix _) (by rw [← hj]; exact own_tab_at _ _) rfl d_jdk_69_m13_30 rfl ?_
    refine own_dup K192 d_jdk_69_m13_31 rfl rfl ?_
    refine own_astoreN K192 (Ls' := #[.val (.ref mp), .val (.ref y), .val (.ref tb), .val (.ref nd), .unset, .val (.int (16 : Int32)), .val (.int (own_spr (own_hash ds))), .unset]) d_jdk_69_m13_32 rfl rfl rfl ?_
    refine own_ifnullNo K192 d_jdk_69_m13_33 rfl ?_
    refine own_aloadN K192 d_jdk_69_m13_36 rfl rfl rfl ?_
    refine own_getF K192 (host := "") (Or.inl (wd261 hw)) Via.refl FH1 d_jdk_69_m13_37 rfl ?_
    intro T193 K193
    refine own_iload K193 d_jdk_69_m13_40 rfl rfl ?_
    by_cases hh : (own_spr (own_hash ck)) = (own_spr (own_hash ds))
    · skip
      refine own_icmpNo K193 d_jdk_69_m13_42 rfl (teq hh).2 ?_
      refine own_aloadN K193 d_jdk_69_m13_45 rfl rfl rfl ?_
      refine own_getF K193 (host := "") (Or.inl (wd262 hw)) Via.refl FK1 d_jdk_69_m13_46 rfl ?_
      intro T195 K195
      refine own_dup K195 d_jdk_69_m13_49 rfl rfl ?_
      refine own_astore K195 (Ls' := #[.val (.ref mp), .val (.ref y), .val (.ref tb), .val (.ref nd), .unset, .val (.int (16 : Int32)), .val (.int (own_spr (own_hash ds))), .val (.ref ky)]) d_jdk_69_m13_50 rfl rfl rfl ?_
      refine own_aloadN K195 d_jdk_69_m13_52 rfl rfl rfl ?_
      refine own_acmp K195 (same := false) (pc' := 56) d_jdk_69_m13_53 rfl rfl (by simpa using hyk.symm) (by decide) (by decide) ?_
      refine own_aloadN K195 d_jdk_69_m13_56 rfl rfl rfl ?_
      refine own_ifnullNo K195 d_jdk_69_m13_57 rfl ?_
      refine own_aloadN K195 d_jdk_69_m13_60 rfl rfl rfl ?_
      refine own_aload K195 d_jdk_69_m13_61 rfl rfl rfl ?_
      have SK1 := own_StS.keep (wd7 hw) SKy Kp192 S.exa hyk.symm
      refine own_callV K195 (a := y) (x0 := (⟨"java/lang/Object", "equals", "(Ljava/lang/Object;)Z"⟩ : MethodName)) (wd314 hw) (wd315 hw) (fun q => own_nfO (args := #[]) (mvT q (wd324 hw)) rfl) (wd317 hw) (wd308 hw) (rm_eqN hw hs (x := y) (y := ky) (cs := ds) (ds := ck) K195.O S192.g SK1.g hyk hok hokk hlen hlenk hne) (wd310 hw) (wd8 hw) (by decide) S192.exa (argsL := [(.ref ky)]) (rest := []) rfl pd_28Ljava2flang2fObject3b29Z rfl rfl (W := 0) rfl (by decide) (by decide) (by decide) (by decide) d_jdk_69_m13_63 rfl ?_
      intro T196 h196 L196 v196 K196 q196
      obtain ⟨rfl, e196⟩ := q196
      have f196 := e196.symm
      subst f196
      show G (T196.setTop (mkF m 66 #[.val (.ref mp), .val (.ref y), .val (.ref tb), .val (.ref nd), .unset, .val (.int (16 : Int32)), .val (.int (own_spr (own_hash ds))), .val (.ref ky)] [(.int (0 : Int32))]))
      refine own_ifYes K196 d_jdk_69_m13_66 (pc' := 71) (by decide) (by decide) ((if0 _ _).trans (teq rfl).1) ?_
      refine own_aloadN K196 d_jdk_69_m13_71 rfl rfl rfl ?_
      refine own_getF K196 (host := "") (Or.inl (wd318 hw)) Via.refl FX1 d_jdk_69_m13_72 rfl ?_
      intro T197 K197
      refine own_dup K197 d_jdk_69_m13_75 rfl rfl ?_
      refine own_astore K197 (Ls' := #[.val (.ref mp), .val (.ref y), .val (.ref tb), .val (.ref nd), .val .null, .val (.int (16 : Int32)), .val (.int (own_spr (own_hash ds))), .val (.ref ky)]) d_jdk_69_m13_76 rfl rfl rfl ?_
      refine own_ifnullYes K197 d_jdk_69_m13_78 (pc' := 148) (by decide) (by decide) ?_
      refine own_aconstNull K197 d_jdk_69_m13_148 rfl ?_
      exact own_retA K197 d_jdk_69_m13_149 rfl rfl rfl rfl (by decide) (by decide) ⟨rfl, Kp192, S192⟩
    · skip
      refine own_icmpYes K193 d_jdk_69_m13_42 (pc' := 71) (by decide) (by decide) (feq hh).2 ?_
      refine own_aloadN K193 d_jdk_69_m13_71 rfl rfl rfl ?_
      refine own_getF K193 (host := "") (Or.inl (wd318 hw)) Via.refl FX1 d_jdk_69_m13_72 rfl ?_
      intro T194 K194
      refine own_dup K194 d_jdk_69_m13_75 rfl rfl ?_
      refine own_astore K194 (Ls' := #[.val (.ref mp), .val (.ref y), .val (.ref tb), .val (.ref nd), .val .null, .val (.int (16 : Int32)), .val (.int (own_spr (own_hash ds))), .unset]) d_jdk_69_m13_76 rfl rfl rfl ?_
      refine own_ifnullYes K194 d_jdk_69_m13_78 (pc' := 148) (by decide) (by decide) ?_
      refine own_aconstNull K194 d_jdk_69_m13_148 rfl ?_
      exact own_retA K194 d_jdk_69_m13_149 rfl rfl rfl rfl (by decide) (by decide) ⟨rfl, Kp192, S192⟩
  · skip
    refine own_aaload K192 (v := .null) V1 rfl (own_ix _) (own_tab_ne _ hj) rfl d_jdk_69_m13_30 rfl ?_
    refine own_dup K192 d_jdk_69_m13_31 rfl rfl ?_
    refine own_astoreN K192 (Ls' := #[.val (.ref mp), .val (.ref y), .val (.ref tb), .val .null, .unset, .val (.int (16 : Int32)), .val (.int (own_spr (own_hash ds))), .unset]) d_jdk_69_m13_32 rfl rfl rfl ?_
    refine own_ifnullYes K192 d_jdk_69_m13_33 (pc' := 148) (by decide) (by decide) ?_
    refine own_aconstNull K192 d_jdk_69_m13_148 rfl ?_
    exact own_retA K192 d_jdk_69_m13_149 rfl rfl rfl rfl (by decide) (by decide) ⟨rfl, Kp192, S192⟩
theorem d_jdk_69_m14_12 : decode jdk_69_method_14_code 12 = .ok (.iconst 0, 1) := by decide +kernel
set_option maxRecDepth 65536 in
set_option maxHeartbeats 40000000 in
theorem rm_containsN {l : Launch} {Z : State} {a0 : Array Value} (hw : ∀ d ∈ tables_1, d.before a0 Z = true) (hs : ∀ d ∈ jdkStatics_1, d.before a0 Z = true) {mp : Addr} {tb : Addr} {nd : Addr} {ls : Addr} {ky : Addr} {kt : ClassId} {ck : List Int32} {y : Addr} {ds : List Int32} {h0 : Heap} (O0 : Ext Z.heap h0) (M : own_MP Z h0 mp tb nd ls ky kt ck) (S : own_StS Z h0 y ds) (gk : Z.heap.size ≤ y) (hok : own_ok false ds) (hlen : ds.length ≤ 4000) (SKy : own_StS Z h0 ky ck) (hyk : y ≠ ky) (hokk : own_ok false ck) (hlenk : ck.length ≤ 4000) (hne : ¬ ds = ck) :
    own_Ct l Z (⟨"java/util/HashMap", "containsKey", "(Ljava/lang/Object;)Z"⟩ : MethodName) jdk_69_method_14_code 2 (some .boolean) [] ({ frames := 6, locals := 92, cells := 0, slots := 0 } : Room) #[(.ref mp), (.ref y)] h0 (fun v h => v = some (.int 0) ∧ Keep h0 h [y] ∧ own_StS Z h y ds) := by
  refine own_body (Ls := #[.val (.ref mp), .val (.ref y)]) (plainFor_of_name pn_java_util_HashMap) (fun m => by first | (simp [entryFrame, mkF, argsToLocals, Value.category]; done) | rfl) O0 ?_
  intro p e s m below meth c T0 G K0
  refine own_aloadN K0 d_jdk_69_m14_0 rfl rfl rfl ?_
  refine own_aloadN K0 d_jdk_69_m14_1 rfl rfl rfl ?_
  refine own_callV K0 (a := mp) (x0 := (⟨"java/util/HashMap", "getNode", "(Ljava/lang/Object;)Ljava/util/HashMap$Node;"⟩ : MethodName)) (wd288 hw) (wd257 hw) (fun q => own_nfS (args := #[]) (mvT q (wd126 hw)) rfl) (wd289 hw) (wd258 hw) (rm_getNodeN hw hs K0.O M S gk hok hlen SKy hyk hokk hlenk hne) (wd260 hw) (wd67 hw) (by decide) M.1 (argsL := [(.ref y)]) (rest := []) rfl pd_28Ljava2flang2fObject3b29Ljava2futil2fHashMap24Node3b rfl rfl (W := 0) rfl (by decide) (by decide) (by decide) (by decide) d_jdk_69_m14_2 rfl ?_
  intro T198 h198 L198 v198 K198 q198
  obtain ⟨rfl, q198⟩ := q198
  show G (T198.setTop (mkF m 5 #[.val (.ref mp), .val (.ref y)] [.null]))
  refine own_ifnullYes K198 d_jdk_69_m14_5 (pc' := 12) (by decide) (by decide) ?_
  refine own_iconst K198 (v := (0 : Int32)) d_jdk_69_m14_12 rfl rfl ?_
  exact own_retN K198 (z' := (0 : Int32)) d_jdk_69_m14_13 rfl (by simp) (by decide) (by decide) (by decide) ⟨rfl, q198⟩
theorem d_jdk_94_m21_10 : decode jdk_94_method_21_code 10 = .ok (.aload_n 2, 1) := by decide +kernel
theorem d_jdk_94_m21_11 : decode jdk_94_method_21_code 11 = .ok (.areturn, 1) := by decide +kernel
set_option maxRecDepth 65536 in
set_option maxHeartbeats 40000000 in
theorem rm_getOrN {l : Launch} {Z : State} {a0 : Array Value} (hw : ∀ d ∈ tables_1, d.before a0 Z = true) (hs : ∀ d ∈ jdkStatics_1, d.before a0 Z = true) {mp : Addr} {tb : Addr} {nd : Addr} {ls : Addr} {ky : Addr} {kt : ClassId} {ck : List Int32} {y : Addr} {ds : List Int32} {dv : Addr} {h0 : Heap} (O0 : Ext Z.heap h0) (M : own_MP Z h0 mp tb nd ls ky kt ck) (S : own_StS Z h0 y ds) (gk : Z.heap.size ≤ y) (hok : own_ok false ds) (hlen : ds.length ≤ 4000) (SKy : own_StS Z h0 ky ck) (hyk : y ≠ ky) (hokk : own_ok false ck) (hlenk : ck.length ≤ 4000) (hne : ¬ ds = ck) :
    own_Ct l Z (⟨"java/util/LinkedHashMap", "getOrDefault", "(Ljava/lang/Object;Ljava/lang/Object;)Ljava/lang/Object;"⟩ : MethodName) jdk_94_method_21_code 4 (some (.object "java/lang/Object")) [] ({ frames := 6, locals := 92, cells := 0, slots := 0 } : Room) #[(.ref mp), (.ref y), (.ref dv)] h0 (fun v h => v = some (.ref dv) ∧ Keep h0 h [y] ∧ own_StS Z h y ds) := by
  refine own_body (Ls := #[.val (.ref mp), .val (.ref y), .val (.ref dv), .unset]) (plainFor_of_name pn_java_util_LinkedHashMap) (fun m => by first | (simp [entryFrame, mkF, argsToLocals, Value.category]; done) | rfl) O0 ?_
  intro p e s m below meth c T0 G K0
  refine own_aloadN K0 d_jdk_94_m21_0 rfl rfl rfl ?_
  refine own_aloadN K0 d_jdk_94_m21_1 rfl rfl rfl ?_
  refine own_callVU K0 (a := mp) (owner := "java/util/HashMap") (x0 := (⟨"java/util/LinkedHashMap", "getNode", "(Ljava/lang/Object;)Ljava/util/HashMap$Node;"⟩ : MethodName)) (wd255 hw) (wd256 hw) (wd257 hw) (wd259 hw) (wd258 hw) (rm_getNodeN hw hs K0.O M S gk hok hlen SKy hyk hokk hlenk hne) (wd260 hw) (wd67 hw) (by decide) M.1 (argsL := [(.ref y)]) (rest := []) rfl pd_28Ljava2flang2fObject3b29Ljava2futil2fHashMap24Node3b rfl rfl (W := 0) rfl (by decide) (by decide) (by decide) (by decide) d_jdk_94_m21_2 rfl ?_
  intro T199 h199 L199 v199 K199 q199
  obtain ⟨rfl, Kp199, S199⟩ := q199
  show G (T199.setTop (mkF m 5 #[.val (.ref mp), .val (.ref y), .val (.ref dv), .unset] [.null]))
  refine own_dup K199 d_jdk_94_m21_5 rfl rfl ?_
  refine own_astoreN K199 (Ls' := #[.val (.ref mp), .val (.ref y), .val (.ref dv), .val .null]) d_jdk_94_m21_6 rfl rfl rfl ?_
  refine own_ifnonnullNo K199 d_jdk_94_m21_7 rfl ?_
  refine own_aloadN K199 d_jdk_94_m21_10 rfl rfl rfl ?_
  exact own_retA K199 d_jdk_94_m21_11 rfl rfl rfl rfl (by decide) (by decide) ⟨rfl, Kp199, S199⟩
theorem d_jdk_40_m36_0 : decode jdk_40_method_36_code 0 = .ok (.getstatic 90, 3) := by decide +kernel
theorem wd246 {a0 : Array Value} {Z : State} (hw : ∀ d ∈ tables_1, d.before a0 Z = true) : (Jvm.Cond.fieldLink "java/util/List" (90 : Nat) "java/util/ImmutableCollections" "EMPTY_LIST" "Ljava/util/ImmutableCollections$ListN;").before a0 Z = true := hw _ (List.mem_of_getElem? (i := 246) rfl)
theorem d_jdk_40_m36_3 : decode jdk_40_method_36_code 3 = .ok (.areturn, 1) := by decide +kernel
set_option maxRecDepth 65536 in
set_option maxHeartbeats 40000000 in
theorem rm_listOf0 {l : Launch} {Z : State} {a0 : Array Value} (hw : ∀ d ∈ tables_1, d.before a0 Z = true) (hs : ∀ d ∈ jdkStatics_1, d.before a0 Z = true) {el : Addr} {h0 : Heap} (O0 : Ext Z.heap h0) (SL : Sta Z Z.heap "java/util/ImmutableCollections" "EMPTY_LIST" "Ljava/util/ImmutableCollections$ListN;" (.ref el)) :
    own_Ct l Z (⟨"java/util/List", "of", "()Ljava/util/List;"⟩ : MethodName) jdk_40_method_36_code 0 (some (.object "java/util/List")) [] ({ frames := 0, locals := 0, cells := 0, slots := 0 } : Room) #[] h0 (fun v h => v = some (.ref el) ∧ h = h0) := by
  refine own_body (Ls := #[]) (plainFor_of_name pn_java_util_List) (fun m => by first | (simp [entryFrame, mkF, argsToLocals, Value.category]; done) | rfl) O0 ?_
  intro p e s m below meth c T0 G K0
  refine own_getS K0 (wd246 hw) Via.refl (SL.ext K0.O) d_jdk_40_m36_0 rfl ?_
  intro T200 K200
  exact own_retA K200 d_jdk_40_m36_3 rfl rfl rfl rfl (by decide) (by decide) ⟨rfl, rfl⟩
theorem d_jdk_56_m3_0 : decode jdk_56_method_3_code 0 = .ok (.aload_n 0, 1) := by decide +kernel
theorem d_jdk_56_m3_1 : decode jdk_56_method_3_code 1 = .ok (.instanceof 10, 3) := by decide +kernel
theorem wd272 {a0 : Array Value} {Z : State} (hw : ∀ d ∈ tables_1, d.before a0 Z = true) : (Jvm.Cond.classLink "java/util/ImmutableCollections" (10 : Nat) "java/util/ImmutableCollections$List12").before a0 Z = true := hw _ (List.mem_of_getElem? (i := 272) rfl)
theorem d_jdk_56_m3_4 : decode jdk_56_method_3_code 4 = .ok (.ifCond .ne 22, 3) := by decide +kernel
theorem d_jdk_56_m3_26 : decode jdk_56_method_3_code 26 = .ok (.aload_n 0, 1) := by decide +kernel
theorem wd274 {a0 : Array Value} {Z : State} (hw : ∀ d ∈ tables_1, d.before a0 Z = true) : (Jvm.Cond.castable "java/util/ImmutableCollections$List12" "java/util/List").before a0 Z = true := hw _ (List.mem_of_getElem? (i := 274) rfl)
theorem d_jdk_56_m3_27 : decode jdk_56_method_3_code 27 = .ok (.checkcast 18, 3) := by decide +kernel
theorem wd273 {a0 : Array Value} {Z : State} (hw : ∀ d ∈ tables_1, d.before a0 Z = true) : (Jvm.Cond.classLink "java/util/ImmutableCollections" (18 : Nat) "java/util/List").before a0 Z = true := hw _ (List.mem_of_getElem? (i := 273) rfl)
theorem d_jdk_56_m3_30 : decode jdk_56_method_3_code 30 = .ok (.areturn, 1) := by decide +kernel
theorem pn_java_util_ImmutableCollections : plainName "java/util/ImmutableCollections" = true := by first | (simp [plainName, overriddenIn]; done) | decide +kernel
set_option maxRecDepth 65536 in
set_option maxHeartbeats 40000000 in
theorem rm_listCopyS {l : Launch} {Z : State} {a0 : Array Value} (hw : ∀ d ∈ tables_1, d.before a0 Z = true) (hs : ∀ d ∈ jdkStatics_1, d.before a0 Z = true) {ls : Addr} {h0 : Heap} (O0 : Ext Z.heap h0) (E : Exa Z h0 ls "java/util/ImmutableCollections$List12") :
    own_Ct l Z (⟨"java/util/ImmutableCollections", "listCopy", "(Ljava/util/Collection;)Ljava/util/List;"⟩ : MethodName) jdk_56_method_3_code 2 (some (.object "java/util/List")) [] ({ frames := 0, locals := 0, cells := 0, slots := 0 } : Room) #[(.ref ls)] h0 (fun v h => v = some (.ref ls) ∧ h = h0) := by
  refine own_body (Ls := #[.val (.ref ls), .unset]) (plainFor_of_name pn_java_util_ImmutableCollections) (fun m => by first | (simp [entryFrame, mkF, argsToLocals, Value.category]; done) | rfl) O0 ?_
  intro p e s m below meth c T0 G K0
  refine own_aloadN K0 d_jdk_56_m3_0 rfl rfl rfl ?_
  refine own_instY K0 (wd272 hw) (Ins.self E) d_jdk_56_m3_1 rfl ?_
  intro T201 K201
  refine own_ifYes K201 d_jdk_56_m3_4 (pc' := 26) (by decide) (by decide) ((if0 _ _).trans (feq (by decide)).2) ?_
  refine own_aloadN K201 d_jdk_56_m3_26 rfl rfl rfl ?_
  refine own_castY K201 (wd273 hw) (Ins.of_exa E (wd274 hw)) d_jdk_56_m3_27 rfl ?_
  intro T202 K202
  exact own_retA K202 d_jdk_56_m3_30 rfl rfl rfl rfl (by decide) (by decide) ⟨rfl, rfl⟩
theorem own_chain {a0 : Array Value} {Z : State} (hw : ∀ d ∈ tables_1, d.before a0 Z = true) : ∀ d ∈ Cond.chainWords ["java/util/ImmutableCollections$ListN", "java/util/ImmutableCollections$AbstractImmutableList", "java/util/ImmutableCollections$AbstractImmutableCollection", "java/util/AbstractCollection", "java/lang/Object"], d.before a0 Z = true := by
  have q : ∀ d ∈ Cond.chainWords ["java/util/ImmutableCollections$ListN", "java/util/ImmutableCollections$AbstractImmutableList", "java/util/ImmutableCollections$AbstractImmutableCollection", "java/util/AbstractCollection", "java/lang/Object"], d ∈ tables_1 := by decide +kernel
  exact fun d hd => hw d (q d hd)
theorem d_jdk_56_m3_7 : decode jdk_56_method_3_code 7 = .ok (.aload_n 0, 1) := by decide +kernel
theorem d_jdk_56_m3_8 : decode jdk_56_method_3_code 8 = .ok (.instanceof 12, 3) := by decide +kernel
theorem wd325 {a0 : Array Value} {Z : State} (hw : ∀ d ∈ tables_1, d.before a0 Z = true) : (Jvm.Cond.classLink "java/util/ImmutableCollections" (12 : Nat) "java/util/ImmutableCollections$ListN").before a0 Z = true := hw _ (List.mem_of_getElem? (i := 325) rfl)
theorem d_jdk_56_m3_11 : decode jdk_56_method_3_code 11 = .ok (.ifCond .eq 20, 3) := by decide +kernel
theorem d_jdk_56_m3_14 : decode jdk_56_method_3_code 14 = .ok (.aload_n 0, 1) := by decide +kernel
theorem d_jdk_56_m3_15 : decode jdk_56_method_3_code 15 = .ok (.checkcast 12, 3) := by decide +kernel
theorem d_jdk_56_m3_18 : decode jdk_56_method_3_code 18 = .ok (.astore_n 1, 1) := by decide +kernel
theorem d_jdk_56_m3_19 : decode jdk_56_method_3_code 19 = .ok (.aload_n 1, 1) := by decide +kernel
theorem wd327 {a0 : Array Value} {Z : State} (hw : ∀ d ∈ tables_1, d.before a0 Z = true) : (Jvm.Cond.fieldLinkNest "java/util/ImmutableCollections" (14 : Nat) "java/util/ImmutableCollections$ListN" "allowNulls" "Z" "java/util/ImmutableCollections").before a0 Z = true := hw _ (List.mem_of_getElem? (i := 327) rfl)
theorem d_jdk_56_m3_20 : decode jdk_56_method_3_code 20 = .ok (.getfield 14, 3) := by decide +kernel
theorem d_jdk_56_m3_23 : decode jdk_56_method_3_code 23 = .ok (.ifCond .ne 8, 3) := by decide +kernel
theorem wd329 {a0 : Array Value} {Z : State} (hw : ∀ d ∈ tables_1, d.before a0 Z = true) : (Jvm.Cond.castable "java/util/ImmutableCollections$ListN" "java/util/List").before a0 Z = true := hw _ (List.mem_of_getElem? (i := 329) rfl)
set_option maxRecDepth 65536 in
set_option maxHeartbeats 40000000 in
theorem rm_listCopyN {l : Launch} {Z : State} {a0 : Array Value} (hw : ∀ d ∈ tables_1, d.before a0 Z = true) (hs : ∀ d ∈ jdkStatics_1, d.before a0 Z = true) {el : Addr} {h0 : Heap} (O0 : Ext Z.heap h0) (EL0 : Exa Z Z.heap el "java/util/ImmutableCollections$ListN") (FA0 : Fld Z Z.heap el "java/util/ImmutableCollections$ListN" "allowNulls" "Z" (.int 0)) :
    own_Ct l Z (⟨"java/util/ImmutableCollections", "listCopy", "(Ljava/util/Collection;)Ljava/util/List;"⟩ : MethodName) jdk_56_method_3_code 2 (some (.object "java/util/List")) [] ({ frames := 0, locals := 0, cells := 0, slots := 0 } : Room) #[(.ref el)] h0 (fun v h => v = some (.ref el) ∧ h = h0) := by
  refine own_body (Ls := #[.val (.ref el), .unset]) (plainFor_of_name pn_java_util_ImmutableCollections) (fun m => by first | (simp [entryFrame, mkF, argsToLocals, Value.category]; done) | rfl) O0 ?_
  intro p e s m below meth c T0 G K0
  have E := EL0.ext O0
  refine own_aloadN K0 d_jdk_56_m3_0 rfl rfl rfl ?_
  refine own_instN K0 (wd272 hw) E (own_notAsg (own_chain hw) (wd88 hw) (by decide)) d_jdk_56_m3_1 rfl ?_
  intro T203 K203
  refine own_ifNo K203 d_jdk_56_m3_4 rfl ((if0 _ _).trans (teq rfl).2) ?_
  refine own_aloadN K203 d_jdk_56_m3_7 rfl rfl rfl ?_
  refine own_instY K203 (wd325 hw) (Ins.self E) d_jdk_56_m3_8 rfl ?_
  intro T204 K204
  refine own_ifNo K204 d_jdk_56_m3_11 rfl ((if0 _ _).trans (feq (by decide)).1) ?_
  refine own_aloadN K204 d_jdk_56_m3_14 rfl rfl rfl ?_
  refine own_castY K204 (wd325 hw) (Ins.self E) d_jdk_56_m3_15 rfl ?_
  intro T205 K205
  refine own_astoreN K205 (Ls' := #[.val (.ref el), .val (.ref el)]) d_jdk_56_m3_18 rfl rfl rfl ?_
  refine own_aloadN K205 d_jdk_56_m3_19 rfl rfl rfl ?_
  refine own_getF K205 (Or.inr (wd327 hw)) Via.refl (FA0.ext K205.O) d_jdk_56_m3_20 rfl ?_
  intro T206 K206
  refine own_ifNo K206 d_jdk_56_m3_23 rfl ((if0 _ _).trans (teq rfl).2) ?_
  refine own_aloadN K206 d_jdk_56_m3_26 rfl rfl rfl ?_
  refine own_castY K206 (wd273 hw) (Ins.of_exa E (wd329 hw)) d_jdk_56_m3_27 rfl ?_
  intro T207 K207
  exact own_retA K207 d_jdk_56_m3_30 rfl rfl rfl rfl (by decide) (by decide) ⟨rfl, rfl⟩
theorem d_jdk_40_m48_0 : decode jdk_40_method_48_code 0 = .ok (.aload_n 0, 1) := by decide +kernel
theorem d_jdk_40_m48_1 : decode jdk_40_method_48_code 1 = .ok (.invokestatic 112, 3) := by decide +kernel
theorem wd271 {a0 : Array Value} {Z : State} (hw : ∀ d ∈ tables_1, d.before a0 Z = true) : (Jvm.Cond.code ({ cls := "java/util/ImmutableCollections", name := "listCopy", desc := "(Ljava/util/Collection;)Ljava/util/List;" } : Jvm.MethodName) jdk_56_method_3_code (2 : Nat) (Option.some (Jvm.ClassFile.FieldType.object "java/util/List"))).before a0 Z = true := hw _ (List.mem_of_getElem? (i := 271) rfl)
theorem wd120 {a0 : Array Value} {Z : State} (hw : ∀ d ∈ tables_1, d.before a0 Z = true) : (Jvm.Cond.initialized "java/util/ImmutableCollections").before a0 Z = true := hw _ (List.mem_of_getElem? (i := 120) rfl)
theorem pd_28Ljava2futil2fCollection3b29Ljava2futil2fList3b : parseMethodDescriptor "(Ljava/util/Collection;)Ljava/util/List;" = some ⟨[(.object "java/util/Collection")], some (.object "java/util/List")⟩ := by decide +kernel
theorem wd269 {a0 : Array Value} {Z : State} (hw : ∀ d ∈ tables_1, d.before a0 Z = true) : (Jvm.Cond.methodLink "java/util/List" (112 : Nat) ({ cls := "java/util/ImmutableCollections", name := "listCopy", desc := "(Ljava/util/Collection;)Ljava/util/List;" } : Jvm.MethodName)).before a0 Z = true := hw _ (List.mem_of_getElem? (i := 269) rfl)
theorem wd270 {a0 : Array Value} {Z : State} (hw : ∀ d ∈ tables_1, d.before a0 Z = true) : (Jvm.Cond.static ({ cls := "java/util/ImmutableCollections", name := "listCopy", desc := "(Ljava/util/Collection;)Ljava/util/List;" } : Jvm.MethodName)).before a0 Z = true := hw _ (List.mem_of_getElem? (i := 270) rfl)
theorem d_jdk_40_m48_4 : decode jdk_40_method_48_code 4 = .ok (.areturn, 1) := by decide +kernel
set_option maxRecDepth 65536 in
set_option maxHeartbeats 40000000 in
theorem rm_copyOfS {l : Launch} {Z : State} {a0 : Array Value} (hw : ∀ d ∈ tables_1, d.before a0 Z = true) (hs : ∀ d ∈ jdkStatics_1, d.before a0 Z = true) {ls : Addr} {h0 : Heap} (O0 : Ext Z.heap h0) (E : Exa Z h0 ls "java/util/ImmutableCollections$List12") :
    own_Ct l Z (⟨"java/util/List", "copyOf", "(Ljava/util/Collection;)Ljava/util/List;"⟩ : MethodName) jdk_40_method_48_code 1 (some (.object "java/util/List")) [] ({ frames := 1, locals := 13, cells := 0, slots := 0 } : Room) #[(.ref ls)] h0 (fun v h => v = some (.ref ls) ∧ h = h0) := by
  refine own_body (Ls := #[.val (.ref ls)]) (plainFor_of_name pn_java_util_List) (fun m => by first | (simp [entryFrame, mkF, argsToLocals, Value.category]; done) | rfl) O0 ?_
  intro p e s m below meth c T0 G K0
  refine own_aloadN K0 d_jdk_40_m48_0 rfl rfl rfl ?_
  refine own_callS K0 (wd269 hw) (wd270 hw) (rm_listCopyS hw hs K0.O E) (wd271 hw) (wd120 hw) (by decide) (argsL := [(.ref ls)]) (rest := []) rfl pd_28Ljava2futil2fCollection3b29Ljava2futil2fList3b rfl rfl (W := 0) rfl (by decide) (by decide) (by decide) (by decide) d_jdk_40_m48_1 rfl ?_
  intro T208 h208 L208 v208 K208 q208
  obtain ⟨rfl, e208⟩ := q208
  have f208 := e208.symm
  subst f208
  show G (T208.setTop (mkF m 4 #[.val (.ref ls)] [(.ref ls)]))
  exact own_retA K208 d_jdk_40_m48_4 rfl rfl rfl rfl (by decide) (by decide) ⟨rfl, rfl⟩
set_option maxRecDepth 65536 in
set_option maxHeartbeats 40000000 in
theorem rm_copyOfN {l : Launch} {Z : State} {a0 : Array Value} (hw : ∀ d ∈ tables_1, d.before a0 Z = true) (hs : ∀ d ∈ jdkStatics_1, d.before a0 Z = true) {el : Addr} {h0 : Heap} (O0 : Ext Z.heap h0) (EL0 : Exa Z Z.heap el "java/util/ImmutableCollections$ListN") (FA0 : Fld Z Z.heap el "java/util/ImmutableCollections$ListN" "allowNulls" "Z" (.int 0)) :
    own_Ct l Z (⟨"java/util/List", "copyOf", "(Ljava/util/Collection;)Ljava/util/List;"⟩ : MethodName) jdk_40_method_48_code 1 (some (.object "java/util/List")) [] ({ frames := 1, locals := 13, cells := 0, slots := 0 } : Room) #[(.ref el)] h0 (fun v h => v = some (.ref el) ∧ h = h0) := by
  refine own_body (Ls := #[.val (.ref el)]) (plainFor_of_name pn_java_util_List) (fun m => by first | (simp [entryFrame, mkF, argsToLocals, Value.category]; done) | rfl) O0 ?_
  intro p e s m below meth c T0 G K0
  refine own_aloadN K0 d_jdk_40_m48_0 rfl rfl rfl ?_
  refine own_callS K0 (wd269 hw) (wd270 hw) (rm_listCopyN hw hs K0.O EL0 FA0) (wd271 hw) (wd120 hw) (by decide) (argsL := [(.ref el)]) (rest := []) rfl pd_28Ljava2futil2fCollection3b29Ljava2futil2fList3b rfl rfl (W := 0) rfl (by decide) (by decide) (by decide) (by decide) d_jdk_40_m48_1 rfl ?_
  intro T209 h209 L209 v209 K209 q209
  obtain ⟨rfl, e209⟩ := q209
  have f209 := e209.symm
  subst f209
  show G (T209.setTop (mkF m 4 #[.val (.ref el)] [(.ref el)]))
  exact own_retA K209 d_jdk_40_m48_4 rfl rfl rfl rfl (by decide) (by decide) ⟨rfl, rfl⟩
theorem d_jdk_44_m3_0 : decode jdk_44_method_3_code 0 = .ok (.aload_n 0, 1) := by decide +kernel
theorem d_jdk_44_m3_1 : decode jdk_44_method_3_code 1 = .ok (.getfield 24, 3) := by decide +kernel
theorem d_jdk_44_m3_4 : decode jdk_44_method_3_code 4 = .ok (.getstatic 19, 3) := by decide +kernel
theorem d_jdk_44_m3_7 : decode jdk_44_method_3_code 7 = .ok (.if_acmp .eq 7, 3) := by decide +kernel
theorem d_jdk_44_m3_14 : decode jdk_44_method_3_code 14 = .ok (.iconst 1, 1) := by decide +kernel
theorem d_jdk_44_m3_15 : decode jdk_44_method_3_code 15 = .ok (.ireturn, 1) := by decide +kernel
set_option maxRecDepth 65536 in
set_option maxHeartbeats 40000000 in
theorem rm_size12 {l : Launch} {Z : State} {a0 : Array Value} (hw : ∀ d ∈ tables_1, d.before a0 Z = true) (hs : ∀ d ∈ jdkStatics_1, d.before a0 Z = true) {x : Addr} {em : Addr} {h0 : Heap} (O0 : Ext Z.heap h0) (F1 : Fld Z h0 x "java/util/ImmutableCollections$List12" "e1" "Ljava/lang/Object;" (.ref em)) (SE : Sta Z Z.heap "java/util/ImmutableCollections" "EMPTY" "Ljava/lang/Object;" (.ref em)) :
    own_Ct l Z (⟨"java/util/ImmutableCollections$List12", "size", "()I"⟩ : MethodName) jdk_44_method_3_code 1 (some .int) [] ({ frames := 0, locals := 0, cells := 0, slots := 0 } : Room) #[(.ref x)] h0 (fun v h => v = some (.int 1) ∧ h = h0) := by
  refine own_body (Ls := #[.val (.ref x)]) (plainFor_of_name pn_java_util_ImmutableCollections_List12) (fun m => by first | (simp [entryFrame, mkF, argsToLocals, Value.category]; done) | rfl) O0 ?_
  intro p e s m below meth c T0 G K0
  refine own_aloadN K0 d_jdk_44_m3_0 rfl rfl rfl ?_
  refine own_getF K0 (host := "") (Or.inl (wd121 hw)) Via.refl F1 d_jdk_44_m3_1 rfl ?_
  intro T210 K210
  refine own_getSN K210 (wd119 hw) Via.refl (SE.ext K210.O) d_jdk_44_m3_4 rfl ?_
  intro T211 K211
  refine own_acmp K211 (same := true) (pc' := 14) d_jdk_44_m3_7 rfl rfl (by simp) (by decide) (by decide) ?_
  refine own_iconst K211 (v := (1 : Int32)) d_jdk_44_m3_14 rfl rfl ?_
  exact own_retI K211 d_jdk_44_m3_15 rfl (by decide) (by decide) ⟨rfl, rfl⟩
theorem d_jdk_44_m5_0 : decode jdk_44_method_5_code 0 = .ok (.iload_n 1, 1) := by decide +kernel
theorem d_jdk_44_m5_1 : decode jdk_44_method_5_code 1 = .ok (.ifCond .ne 8, 3) := by decide +kernel
theorem d_jdk_44_m5_4 : decode jdk_44_method_5_code 4 = .ok (.aload_n 0, 1) := by decide +kernel
theorem d_jdk_44_m5_5 : decode jdk_44_method_5_code 5 = .ok (.getfield 13, 3) := by decide +kernel
theorem d_jdk_44_m5_8 : decode jdk_44_method_5_code 8 = .ok (.areturn, 1) := by decide +kernel
set_option maxRecDepth 65536 in
set_option maxHeartbeats 40000000 in
theorem rm_get12 {l : Launch} {Z : State} {a0 : Array Value} (hw : ∀ d ∈ tables_1, d.before a0 Z = true) (hs : ∀ d ∈ jdkStatics_1, d.before a0 Z = true) {x : Addr} {o : Addr} {h0 : Heap} (O0 : Ext Z.heap h0) (F0 : Fld Z h0 x "java/util/ImmutableCollections$List12" "e0" "Ljava/lang/Object;" (.ref o)) :
    own_Ct l Z (⟨"java/util/ImmutableCollections$List12", "get", "(I)Ljava/lang/Object;"⟩ : MethodName) jdk_44_method_5_code 2 (some (.object "java/lang/Object")) [] ({ frames := 0, locals := 0, cells := 0, slots := 0 } : Room) #[(.ref x), (.int (0 : Int32))] h0 (fun v h => v = some (.ref o) ∧ h = h0) := by
  refine own_body (Ls := #[.val (.ref x), .val (.int (0 : Int32))]) (plainFor_of_name pn_java_util_ImmutableCollections_List12) (fun m => by first | (simp [entryFrame, mkF, argsToLocals, Value.category]; done) | rfl) O0 ?_
  intro p e s m below meth c T0 G K0
  refine own_iloadN K0 d_jdk_44_m5_0 rfl rfl ?_
  refine own_ifNo K0 d_jdk_44_m5_1 rfl ((if0 _ _).trans (teq rfl).2) ?_
  refine own_aloadN K0 d_jdk_44_m5_4 rfl rfl rfl ?_
  refine own_getF K0 (host := "") (Or.inl (wd117 hw)) Via.refl F0 d_jdk_44_m5_5 rfl ?_
  intro T212 K212
  exact own_retA K212 d_jdk_44_m5_8 rfl rfl rfl rfl (by decide) (by decide) ⟨rfl, rfl⟩
theorem d_jdk_45_m3_0 : decode jdk_45_method_3_code 0 = .ok (.aload_n 0, 1) := by decide +kernel
theorem wd336 {a0 : Array Value} {Z : State} (hw : ∀ d ∈ tables_1, d.before a0 Z = true) : (Jvm.Cond.fieldLink "java/util/ImmutableCollections$ListN" (7 : Nat) "java/util/ImmutableCollections$ListN" "elements" "[Ljava/lang/Object;").before a0 Z = true := hw _ (List.mem_of_getElem? (i := 336) rfl)
theorem d_jdk_45_m3_1 : decode jdk_45_method_3_code 1 = .ok (.getfield 7, 3) := by decide +kernel
theorem d_jdk_45_m3_4 : decode jdk_45_method_3_code 4 = .ok (.arraylength, 1) := by decide +kernel
theorem d_jdk_45_m3_5 : decode jdk_45_method_3_code 5 = .ok (.ireturn, 1) := by decide +kernel
theorem pn_java_util_ImmutableCollections_ListN : plainName "java/util/ImmutableCollections$ListN" = true := by first | (simp [plainName, overriddenIn]; done) | decide +kernel
set_option maxRecDepth 65536 in
set_option maxHeartbeats 40000000 in
theorem rm_sizeN {l : Launch} {Z : State} {a0 : Array Value} (hw : ∀ d ∈ tables_1, d.before a0 Z = true) (hs : ∀ d ∈ jdkStatics_1, d.before a0 Z = true) {el : Addr} {ea : Addr} {ke : ClassId} {h0 : Heap} (O0 : Ext Z.heap h0) (FE0 : Fld Z Z.heap el "java/util/ImmutableCollections$ListN" "elements" "[Ljava/lang/Object;" (.ref ea)) (VA0 : Arv Z Z.heap ea ke (.object "java/lang/Object") 0 [] .null) :
    own_Ct l Z (⟨"java/util/ImmutableCollections$ListN", "size", "()I"⟩ : MethodName) jdk_45_method_3_code 1 (some .int) [] ({ frames := 0, locals := 0, cells := 0, slots := 0 } : Room) #[(.ref el)] h0 (fun v h => v = some (.int 0) ∧ h = h0) := by
  refine own_body (Ls := #[.val (.ref el)]) (plainFor_of_name pn_java_util_ImmutableCollections_ListN) (fun m => by first | (simp [entryFrame, mkF, argsToLocals, Value.category]; done) | rfl) O0 ?_
  intro p e s m below meth c T0 G K0
  refine own_aloadN K0 d_jdk_45_m3_0 rfl rfl rfl ?_
  refine own_getF K0 (host := "") (Or.inl (wd336 hw)) Via.refl (FE0.ext K0.O) d_jdk_45_m3_1 rfl ?_
  intro T213 K213
  refine own_arraylength K213 (VA0.ext K213.O) d_jdk_45_m3_4 rfl ?_
  exact own_retI K213 d_jdk_45_m3_5 rfl (by decide) (by decide) ⟨rfl, rfl⟩
theorem d_prog_10_m6_0 : decode prog_10_method_6_code 0 = .ok (.aload_n 0, 1) := by decide +kernel
theorem d_prog_10_m6_1 : decode prog_10_method_6_code 1 = .ok (.getfield 7, 3) := by decide +kernel
theorem d_prog_10_m6_4 : decode prog_10_method_6_code 4 = .ok (.aload_n 1, 1) := by decide +kernel
theorem d_prog_10_m6_5 : decode prog_10_method_6_code 5 = .ok (.invokeinterface 100 2, 5) := by decide +kernel
theorem wd287 {a0 : Array Value} {Z : State} (hw : ∀ d ∈ tables_1, d.before a0 Z = true) : (Jvm.Cond.code ({ cls := "java/util/HashMap", name := "containsKey", desc := "(Ljava/lang/Object;)Z" } : Jvm.MethodName) jdk_69_method_14_code (2 : Nat) (Option.some Jvm.ClassFile.FieldType.boolean)).before a0 Z = true := hw _ (List.mem_of_getElem? (i := 287) rfl)
theorem wd280 {a0 : Array Value} {Z : State} (hw : ∀ d ∈ tables_1, d.before a0 Z = true) : (Jvm.Cond.methodLink "com/example/peergrove/peergrove/service/Form" (100 : Nat) ({ cls := "java/util/Map", name := "containsKey", desc := "(Ljava/lang/Object;)Z" } : Jvm.MethodName)).before a0 Z = true := hw _ (List.mem_of_getElem? (i := 280) rfl)
theorem wd281 {a0 : Array Value} {Z : State} (hw : ∀ d ∈ tables_1, d.before a0 Z = true) : (Jvm.Cond.declares ({ cls := "java/util/Map", name := "containsKey", desc := "(Ljava/lang/Object;)Z" } : Jvm.MethodName)).before a0 Z = true := hw _ (List.mem_of_getElem? (i := 281) rfl)
theorem wd282 {a0 : Array Value} {Z : State} (hw : ∀ d ∈ tables_1, d.before a0 Z = true) : (Jvm.Cond.interfaceMethod "java/util/Map" "java/util/Map" "containsKey" "(Ljava/lang/Object;)Z").before a0 Z = true := hw _ (List.mem_of_getElem? (i := 282) rfl)
theorem wd283 {a0 : Array Value} {Z : State} (hw : ∀ d ∈ tables_1, d.before a0 Z = true) : (Jvm.Cond.selects "java/util/LinkedHashMap" ({ cls := "java/util/Map", name := "containsKey", desc := "(Ljava/lang/Object;)Z" } : Jvm.MethodName) ({ cls := "java/util/HashMap", name := "containsKey", desc := "(Ljava/lang/Object;)Z" } : Jvm.MethodName)).before a0 Z = true := hw _ (List.mem_of_getElem? (i := 283) rfl)
theorem wd284 {a0 : Array Value} {Z : State} (hw : ∀ d ∈ tables_1, d.before a0 Z = true) : (Jvm.Cond.instanceMethod ({ cls := "java/util/HashMap", name := "containsKey", desc := "(Ljava/lang/Object;)Z" } : Jvm.MethodName)).before a0 Z = true := hw _ (List.mem_of_getElem? (i := 284) rfl)
theorem wd285 {a0 : Array Value} {Z : State} (hw : ∀ d ∈ tables_1, d.before a0 Z = true) : (Jvm.Cond.publicMethod ({ cls := "java/util/HashMap", name := "containsKey", desc := "(Ljava/lang/Object;)Z" } : Jvm.MethodName)).before a0 Z = true := hw _ (List.mem_of_getElem? (i := 285) rfl)
theorem wd286 {a0 : Array Value} {Z : State} (hw : ∀ d ∈ tables_1, d.before a0 Z = true) : (Jvm.Cond.unhidden "java/util/LinkedHashMap" "containsKey" "(Ljava/lang/Object;)Z").before a0 Z = true := hw _ (List.mem_of_getElem? (i := 286) rfl)
theorem d_prog_10_m6_10 : decode prog_10_method_6_code 10 = .ok (.ireturn, 1) := by decide +kernel
set_option maxRecDepth 65536 in
set_option maxHeartbeats 40000000 in
theorem rm_hasS {l : Launch} {Z : State} {a0 : Array Value} (hw : ∀ d ∈ tables_1, d.before a0 Z = true) (hs : ∀ d ∈ jdkStatics_1, d.before a0 Z = true) {f : Addr} {mp : Addr} {tb : Addr} {nd : Addr} {ls : Addr} {ky : Addr} {kt : ClassId} {ck : List Int32} {vl : Addr} {em : Addr} {h0 : Heap} (O0 : Ext Z.heap h0) (M : own_FM Z h0 f mp tb nd ls ky vl em kt ck) (S : own_StS Z h0 ky ck) (gk : Z.heap.size ≤ ky) (hok : own_ok false ck) (hlen : ck.length ≤ 4000) :
    own_Ct l Z (⟨"com/example/peergrove/peergrove/service/Form", "has", "(Ljava/lang/String;)Z"⟩ : MethodName) prog_10_method_6_code 2 (some .boolean) [] ({ frames := 7, locals := 105, cells := 0, slots := 0 } : Room) #[(.ref f), (.ref ky)] h0 (fun v h => v = some (.int 1) ∧ Keep h0 h [ky] ∧ own_StS Z h ky ck) := by
  refine own_body (Ls := #[.val (.ref f), .val (.ref ky)]) (plainFor_of_name pn_com_example_peergrove_peergrove_service_Form) (fun m => by first | (simp [entryFrame, mkF, argsToLocals, Value.category]; done) | rfl) O0 ?_
  intro p e s m below meth c T0 G K0
  obtain ⟨EF, FVm, MM, EL, L0, L1⟩ := M
  refine own_aloadN K0 d_prog_10_m6_0 rfl rfl rfl ?_
  refine own_getF K0 (host := "") (Or.inl (wd236 hw)) Via.refl FVm d_prog_10_m6_1 rfl ?_
  intro T214 K214
  refine own_aloadN K214 d_prog_10_m6_4 rfl rfl rfl ?_
  refine own_callF K214 (a := mp) (x0 := (⟨"java/util/Map", "containsKey", "(Ljava/lang/Object;)Z"⟩ : MethodName)) (wd280 hw) (wd281 hw) (fun q => mvT q (wd282 hw)) (wd283 hw) (wd284 hw) (wd285 hw) (wd286 hw) (wd130 hw) (rm_containsS hw hs K214.O MM S gk hok hlen) (wd287 hw) (wd67 hw) (by decide) MM.1 (argsL := [(.ref ky)]) (rest := []) rfl pd_28Ljava2flang2fObject3b29Z rfl rfl (W := 0) rfl (by decide) (by decide) (by decide) (by decide) d_prog_10_m6_5 rfl ?_
  intro T215 h215 L215 v215 K215 q215
  obtain ⟨rfl, q215⟩ := q215
  show G (T215.setTop (mkF m 10 #[.val (.ref f), .val (.ref ky)] [(.int (1 : Int32))]))
  exact own_retN K215 (z' := (1 : Int32)) d_prog_10_m6_10 rfl (by simp) (by decide) (by decide) (by decide) ⟨rfl, q215⟩
theorem d_prog_10_m7_0 : decode prog_10_method_7_code 0 = .ok (.aload_n 0, 1) := by decide +kernel
theorem d_prog_10_m7_1 : decode prog_10_method_7_code 1 = .ok (.getfield 7, 3) := by decide +kernel
theorem d_prog_10_m7_4 : decode prog_10_method_7_code 4 = .ok (.aload_n 1, 1) := by decide +kernel
theorem d_prog_10_m7_5 : decode prog_10_method_7_code 5 = .ok (.invokestatic 103, 3) := by decide +kernel
theorem wd245 {a0 : Array Value} {Z : State} (hw : ∀ d ∈ tables_1, d.before a0 Z = true) : (Jvm.Cond.code ({ cls := "java/util/List", name := "of", desc := "()Ljava/util/List;" } : Jvm.MethodName) jdk_40_method_36_code (0 : Nat) (Option.some (Jvm.ClassFile.FieldType.object "java/util/List"))).before a0 Z = true := hw _ (List.mem_of_getElem? (i := 245) rfl)
theorem pd_2829Ljava2futil2fList3b : parseMethodDescriptor "()Ljava/util/List;" = some ⟨[], some (.object "java/util/List")⟩ := by decide +kernel
theorem wd243 {a0 : Array Value} {Z : State} (hw : ∀ d ∈ tables_1, d.before a0 Z = true) : (Jvm.Cond.methodLink "com/example/peergrove/peergrove/service/Form" (103 : Nat) ({ cls := "java/util/List", name := "of", desc := "()Ljava/util/List;" } : Jvm.MethodName)).before a0 Z = true := hw _ (List.mem_of_getElem? (i := 243) rfl)
theorem wd244 {a0 : Array Value} {Z : State} (hw : ∀ d ∈ tables_1, d.before a0 Z = true) : (Jvm.Cond.static ({ cls := "java/util/List", name := "of", desc := "()Ljava/util/List;" } : Jvm.MethodName)).before a0 Z = true := hw _ (List.mem_of_getElem? (i := 244) rfl)
theorem d_prog_10_m7_8 : decode prog_10_method_7_code 8 = .ok (.invokeinterface 106 3, 5) := by decide +kernel
theorem wd254 {a0 : Array Value} {Z : State} (hw : ∀ d ∈ tables_1, d.before a0 Z = true) : (Jvm.Cond.code ({ cls := "java/util/LinkedHashMap", name := "getOrDefault", desc := "(Ljava/lang/Object;Ljava/lang/Object;)Ljava/lang/Object;" } : Jvm.MethodName) jdk_94_method_21_code (4 : Nat) (Option.some (Jvm.ClassFile.FieldType.object "java/lang/Object"))).before a0 Z = true := hw _ (List.mem_of_getElem? (i := 254) rfl)
theorem wd247 {a0 : Array Value} {Z : State} (hw : ∀ d ∈ tables_1, d.before a0 Z = true) : (Jvm.Cond.methodLink "com/example/peergrove/peergrove/service/Form" (106 : Nat) ({ cls := "java/util/Map", name := "getOrDefault", desc := "(Ljava/lang/Object;Ljava/lang/Object;)Ljava/lang/Object;" } : Jvm.MethodName)).before a0 Z = true := hw _ (List.mem_of_getElem? (i := 247) rfl)
theorem wd248 {a0 : Array Value} {Z : State} (hw : ∀ d ∈ tables_1, d.before a0 Z = true) : (Jvm.Cond.declares ({ cls := "java/util/Map", name := "getOrDefault", desc := "(Ljava/lang/Object;Ljava/lang/Object;)Ljava/lang/Object;" } : Jvm.MethodName)).before a0 Z = true := hw _ (List.mem_of_getElem? (i := 248) rfl)
theorem wd249 {a0 : Array Value} {Z : State} (hw : ∀ d ∈ tables_1, d.before a0 Z = true) : (Jvm.Cond.interfaceMethod "java/util/Map" "java/util/Map" "getOrDefault" "(Ljava/lang/Object;Ljava/lang/Object;)Ljava/lang/Object;").before a0 Z = true := hw _ (List.mem_of_getElem? (i := 249) rfl)
theorem wd250 {a0 : Array Value} {Z : State} (hw : ∀ d ∈ tables_1, d.before a0 Z = true) : (Jvm.Cond.selects "java/util/LinkedHashMap" ({ cls := "java/util/Map", name := "getOrDefault", desc := "(Ljava/lang/Object;Ljava/lang/Object;)Ljava/lang/Object;" } : Jvm.MethodName) ({ cls := "java/util/LinkedHashMap", name := "getOrDefault", desc := "(Ljava/lang/Object;Ljava/lang/Object;)Ljava/lang/Object;" } : Jvm.MethodName)).before a0 Z = true := hw _ (List.mem_of_getElem? (i := 250) rfl)
theorem wd251 {a0 : Array Value} {Z : State} (hw : ∀ d ∈ tables_1, d.before a0 Z = true) : (Jvm.Cond.instanceMethod ({ cls := "java/util/LinkedHashMap", name := "getOrDefault", desc := "(Ljava/lang/Object;Ljava/lang/Object;)Ljava/lang/Object;" } : Jvm.MethodName)).before a0 Z = true := hw _ (List.mem_of_getElem? (i := 251) rfl)
theorem wd252 {a0 : Array Value} {Z : State} (hw : ∀ d ∈ tables_1, d.before a0 Z = true) : (Jvm.Cond.publicMethod ({ cls := "java/util/LinkedHashMap", name := "getOrDefault", desc := "(Ljava/lang/Object;Ljava/lang/Object;)Ljava/lang/Object;" } : Jvm.MethodName)).before a0 Z = true := hw _ (List.mem_of_getElem? (i := 252) rfl)
theorem wd253 {a0 : Array Value} {Z : State} (hw : ∀ d ∈ tables_1, d.before a0 Z = true) : (Jvm.Cond.unhidden "java/util/LinkedHashMap" "getOrDefault" "(Ljava/lang/Object;Ljava/lang/Object;)Ljava/lang/Object;").before a0 Z = true := hw _ (List.mem_of_getElem? (i := 253) rfl)
theorem wd265 {a0 : Array Value} {Z : State} (hw : ∀ d ∈ tables_1, d.before a0 Z = true) : (Jvm.Cond.castable "java/util/ImmutableCollections$List12" "java/util/Collection").before a0 Z = true := hw _ (List.mem_of_getElem? (i := 265) rfl)
theorem d_prog_10_m7_13 : decode prog_10_method_7_code 13 = .ok (.checkcast 109, 3) := by decide +kernel
theorem wd264 {a0 : Array Value} {Z : State} (hw : ∀ d ∈ tables_1, d.before a0 Z = true) : (Jvm.Cond.classLink "com/example/peergrove/peergrove/service/Form" (109 : Nat) "java/util/Collection").before a0 Z = true := hw _ (List.mem_of_getElem? (i := 264) rfl)
theorem d_prog_10_m7_16 : decode prog_10_method_7_code 16 = .ok (.invokestatic 111, 3) := by decide +kernel
theorem wd268 {a0 : Array Value} {Z : State} (hw : ∀ d ∈ tables_1, d.before a0 Z = true) : (Jvm.Cond.code ({ cls := "java/util/List", name := "copyOf", desc := "(Ljava/util/Collection;)Ljava/util/List;" } : Jvm.MethodName) jdk_40_method_48_code (1 : Nat) (Option.some (Jvm.ClassFile.FieldType.object "java/util/List"))).before a0 Z = true := hw _ (List.mem_of_getElem? (i := 268) rfl)
theorem wd266 {a0 : Array Value} {Z : State} (hw : ∀ d ∈ tables_1, d.before a0 Z = true) : (Jvm.Cond.methodLink "com/example/peergrove/peergrove/service/Form" (111 : Nat) ({ cls := "java/util/List", name := "copyOf", desc := "(Ljava/util/Collection;)Ljava/util/List;" } : Jvm.MethodName)).before a0 Z = true := hw _ (List.mem_of_getElem? (i := 266) rfl)
theorem wd267 {a0 : Array Value} {Z : State} (hw : ∀ d ∈ tables_1, d.before a0 Z = true) : (Jvm.Cond.static ({ cls := "java/util/List", name := "copyOf", desc := "(Ljava/util/Collection;)Ljava/util/List;" } : Jvm.MethodName)).before a0 Z = true := hw _ (List.mem_of_getElem? (i := 267) rfl)
theorem d_prog_10_m7_19 : decode prog_10_method_7_code 19 = .ok (.areturn, 1) := by decide +kernel
set_option maxRecDepth 65536 in
set_option maxHeartbeats 40000000 in
theorem rm_allS {l : Launch} {Z : State} {a0 : Array Value} (hw : ∀ d ∈ tables_1, d.before a0 Z = true) (hs : ∀ d ∈ jdkStatics_1, d.before a0 Z = true) {f : Addr} {mp : Addr} {tb : Addr} {nd : Addr} {ls : Addr} {ky : Addr} {kt : ClassId} {ck : List Int32} {vl : Addr} {em : Addr} {el : Addr} {h0 : Heap} (O0 : Ext Z.heap h0) (M : own_FM Z h0 f mp tb nd ls ky vl em kt ck) (S : own_StS Z h0 ky ck) (gk : Z.heap.size ≤ ky) (hok : own_ok false ck) (hlen : ck.length ≤ 4000) (SL : Sta Z Z.heap "java/util/ImmutableCollections" "EMPTY_LIST" "Ljava/util/ImmutableCollections$ListN;" (.ref el)) (EL0 : Exa Z Z.heap el "java/util/ImmutableCollections$ListN") (FA0 : Fld Z Z.heap el "java/util/ImmutableCollections$ListN" "allowNulls" "Z" (.int 0)) :
    own_Ct l Z (⟨"com/example/peergrove/peergrove/service/Form", "all", "(Ljava/lang/String;)Ljava/util/List;"⟩ : MethodName) prog_10_method_7_code 2 (some (.object "java/util/List")) [] ({ frames := 7, locals := 107, cells := 0, slots := 0 } : Room) #[(.ref f), (.ref ky)] h0 (fun v h => v = some (.ref ls) ∧ Keep h0 h [ky] ∧ own_StS Z h ky ck) := by
  refine own_body (Ls := #[.val (.ref f), .val (.ref ky)]) (plainFor_of_name pn_com_example_peergrove_peergrove_service_Form) (fun m => by first | (simp [entryFrame, mkF, argsToLocals, Value.category]; done) | rfl) O0 ?_
  intro p e s m below meth c T0 G K0
  obtain ⟨EF, FVm, MM, EL, L0, L1⟩ := M
  refine own_aloadN K0 d_prog_10_m7_0 rfl rfl rfl ?_
  refine own_getF K0 (host := "") (Or.inl (wd236 hw)) Via.refl FVm d_prog_10_m7_1 rfl ?_
  intro T216 K216
  refine own_aloadN K216 d_prog_10_m7_4 rfl rfl rfl ?_
  refine own_callS K216 (wd243 hw) (wd244 hw) (rm_listOf0 hw hs K216.O SL) (wd245 hw) (wd85 hw) (by decide) (argsL := []) (rest := [(.ref ky), (.ref mp)]) rfl pd_2829Ljava2futil2fList3b rfl rfl (W := 2) rfl (by decide) (by decide) (by decide) (by decide) d_prog_10_m7_5 rfl ?_
  intro T217 h217 L217 v217 K217 q217
  obtain ⟨rfl, e217⟩ := q217
  have f217 := e217.symm
  subst f217
  show G (T217.setTop (mkF m 8 #[.val (.ref f), .val (.ref ky)] [(.ref el), (.ref ky), (.ref mp)]))
  refine own_callF K217 (a := mp) (x0 := (⟨"java/util/Map", "getOrDefault", "(Ljava/lang/Object;Ljava/lang/Object;)Ljava/lang/Object;"⟩ : MethodName)) (wd247 hw) (wd248 hw) (fun q => mvT q (wd249 hw)) (wd250 hw) (wd251 hw) (wd252 hw) (wd253 hw) (wd130 hw) (rm_getOrS hw hs (dv := el) K217.O MM S gk hok hlen) (wd254 hw) (wd59 hw) (by decide) MM.1 (argsL := [(.ref ky), (.ref el)]) (rest := []) rfl pd_28Ljava2flang2fObject3bLjava2flang2fObject3b29Ljava2flang2fObject3b rfl rfl (W := 0) rfl (by decide) (by decide) (by decide) (by decide) d_prog_10_m7_8 rfl ?_
  intro T218 h218 L218 v218 K218 q218
  obtain ⟨rfl, Kp218, S218⟩ := q218
  show G (T218.setTop (mkF m 13 #[.val (.ref f), .val (.ref ky)] [(.ref ls)]))
  have EL1 := EL.keep Kp218
  refine own_castY K218 (wd264 hw) (Ins.of_exa EL1 (wd265 hw)) d_prog_10_m7_13 rfl ?_
  intro T219 K219
  refine own_callS K219 (wd266 hw) (wd267 hw) (rm_copyOfS hw hs K219.O EL1) (wd268 hw) (wd85 hw) (by decide) (argsL := [(.ref ls)]) (rest := []) rfl pd_28Ljava2futil2fCollection3b29Ljava2futil2fList3b rfl rfl (W := 0) rfl (by decide) (by decide) (by decide) (by decide) d_prog_10_m7_16 rfl ?_
  intro T220 h220 L220 v220 K220 q220
  obtain ⟨rfl, e220⟩ := q220
  have f220 := e220.symm
  subst f220
  show G (T220.setTop (mkF m 19 #[.val (.ref f), .val (.ref ky)] [(.ref ls)]))
  exact own_retA K220 d_prog_10_m7_19 rfl rfl rfl rfl (by decide) (by decide) ⟨rfl, Kp218, S218⟩
set_option maxRecDepth 65536 in
set_option maxHeartbeats 40000000 in
theorem rm_hasE {l : Launch} {Z : State} {a0 : Array Value} (hw : ∀ d ∈ tables_1, d.before a0 Z = true) (hs : ∀ d ∈ jdkStatics_1, d.before a0 Z = true) {f : Addr} {mp : Addr} {tb : Addr} {nd : Addr} {ls : Addr} {ky : Addr} {kt : ClassId} {ck : List Int32} {vl : Addr} {em : Addr} {y : Addr} {h0 : Heap} (O0 : Ext Z.heap h0) (M : own_FM Z h0 f mp tb nd ls ky vl em kt ck) (S : own_StS Z h0 y ck) (gk : Z.heap.size ≤ y) (hok : own_ok false ck) (hlen : ck.length ≤ 4000) (SKy : own_StS Z h0 ky ck) (hyk : y ≠ ky) :
    own_Ct l Z (⟨"com/example/peergrove/peergrove/service/Form", "has", "(Ljava/lang/String;)Z"⟩ : MethodName) prog_10_method_6_code 2 (some .boolean) [] ({ frames := 7, locals := 105, cells := 0, slots := 0 } : Room) #[(.ref f), (.ref y)] h0 (fun v h => v = some (.int 1) ∧ Keep h0 h [y] ∧ own_StS Z h y ck) := by
  refine own_body (Ls := #[.val (.ref f), .val (.ref y)]) (plainFor_of_name pn_com_example_peergrove_peergrove_service_Form) (fun m => by first | (simp [entryFrame, mkF, argsToLocals, Value.category]; done) | rfl) O0 ?_
  intro p e s m below meth c T0 G K0
  obtain ⟨EF, FVm, MM, EL, L0, L1⟩ := M
  refine own_aloadN K0 d_prog_10_m6_0 rfl rfl rfl ?_
  refine own_getF K0 (host := "") (Or.inl (wd236 hw)) Via.refl FVm d_prog_10_m6_1 rfl ?_
  intro T221 K221
  refine own_aloadN K221 d_prog_10_m6_4 rfl rfl rfl ?_
  refine own_callF K221 (a := mp) (x0 := (⟨"java/util/Map", "containsKey", "(Ljava/lang/Object;)Z"⟩ : MethodName)) (wd280 hw) (wd281 hw) (fun q => mvT q (wd282 hw)) (wd283 hw) (wd284 hw) (wd285 hw) (wd286 hw) (wd130 hw) (rm_containsE hw hs K221.O MM S gk hok hlen SKy hyk) (wd287 hw) (wd67 hw) (by decide) MM.1 (argsL := [(.ref y)]) (rest := []) rfl pd_28Ljava2flang2fObject3b29Z rfl rfl (W := 0) rfl (by decide) (by decide) (by decide) (by decide) d_prog_10_m6_5 rfl ?_
  intro T222 h222 L222 v222 K222 q222
  obtain ⟨rfl, q222⟩ := q222
  show G (T222.setTop (mkF m 10 #[.val (.ref f), .val (.ref y)] [(.int (1 : Int32))]))
  exact own_retN K222 (z' := (1 : Int32)) d_prog_10_m6_10 rfl (by simp) (by decide) (by decide) (by decide) ⟨rfl, q222⟩
set_option maxRecDepth 65536 in
set_option maxHeartbeats 40000000 in
theorem rm_allE {l : Launch} {Z : State} {a0 : Array Value} (hw : ∀ d ∈ tables_1, d.before a0 Z = true) (hs : ∀ d ∈ jdkStatics_1, d.before a0 Z = true) {f : Addr} {mp : Addr} {tb : Addr} {nd : Addr} {ls : Addr} {ky : Addr} {kt : ClassId} {ck : List Int32} {vl : Addr} {em : Addr} {y : Addr} {el : Addr} {h0 : Heap} (O0 : Ext Z.heap h0) (M : own_FM Z h0 f mp tb nd ls ky vl em kt ck) (S : own_StS Z h0 y ck) (gk : Z.heap.size ≤ y) (hok : own_ok false ck) (hlen : ck.length ≤ 4000) (SKy : own_StS Z h0 ky ck) (hyk : y ≠ ky) (SL : Sta Z Z.heap "java/util/ImmutableCollections" "EMPTY_LIST" "Ljava/util/ImmutableCollections$ListN;" (.ref el)) (EL0 : Exa Z Z.heap el "java/util/ImmutableCollections$ListN") (FA0 : Fld Z Z.heap el "java/util/ImmutableCollections$ListN" "allowNulls" "Z" (.int 0)) :
    own_Ct l Z (⟨"com/example/peergrove/peergrove/service/Form", "all", "(Ljava/lang/String;)Ljava/util/List;"⟩ : MethodName) prog_10_method_7_code 2 (some (.object "java/util/List")) [] ({ frames := 7, locals := 107, cells := 0, slots := 0 } : Room) #[(.ref f), (.ref y)] h0 (fun v h => v = some (.ref ls) ∧ Keep h0 h [y] ∧ own_StS Z h y ck) := by
  refine own_body (Ls := #[.val (.ref f), .val (.ref y)]) (plainFor_of_name pn_com_example_peergrove_peergrove_service_Form) (fun m => by first | (simp [entryFrame, mkF, argsToLocals, Value.category]; done) | rfl) O0 ?_
  intro p e s m below meth c T0 G K0
  obtain ⟨EF, FVm, MM, EL, L0, L1⟩ := M
  refine own_aloadN K0 d_prog_10_m7_0 rfl rfl rfl ?_
  refine own_getF K0 (host := "") (Or.inl (wd236 hw)) Via.refl FVm d_prog_10_m7_1 rfl ?_
  intro T223 K223
  refine own_aloadN K223 d_prog_10_m7_4 rfl rfl rfl ?_
  refine own_callS K223 (wd243 hw) (wd244 hw) (rm_listOf0 hw hs K223.O SL) (wd245 hw) (wd85 hw) (by decide) (argsL := []) (rest := [(.ref y), (.ref mp)]) rfl pd_2829Ljava2futil2fList3b rfl rfl (W := 2) rfl (by decide) (by decide) (by decide) (by decide) d_prog_10_m7_5 rfl ?_
  intro T224 h224 L224 v224 K224 q224
  obtain ⟨rfl, e224⟩ := q224
  have f224 := e224.symm
  subst f224
  show G (T224.setTop (mkF m 8 #[.val (.ref f), .val (.ref y)] [(.ref el), (.ref y), (.ref mp)]))
  refine own_callF K224 (a := mp) (x0 := (⟨"java/util/Map", "getOrDefault", "(Ljava/lang/Object;Ljava/lang/Object;)Ljava/lang/Object;"⟩ : MethodName)) (wd247 hw) (wd248 hw) (fun q => mvT q (wd249 hw)) (wd250 hw) (wd251 hw) (wd252 hw) (wd253 hw) (wd130 hw) (rm_getOrE hw hs (dv := el) K224.O MM S gk hok hlen SKy hyk) (wd254 hw) (wd59 hw) (by decide) MM.1 (argsL := [(.ref y), (.ref el)]) (rest := []) rfl pd_28Ljava2flang2fObject3bLjava2flang2fObject3b29Ljava2flang2fObject3b rfl rfl (W := 0) rfl (by decide) (by decide) (by decide) (by decide) d_prog_10_m7_8 rfl ?_
  intro T225 h225 L225 v225 K225 q225
  obtain ⟨rfl, Kp225, S225⟩ := q225
  show G (T225.setTop (mkF m 13 #[.val (.ref f), .val (.ref y)] [(.ref ls)]))
  have EL1 := EL.keep Kp225
  refine own_castY K225 (wd264 hw) (Ins.of_exa EL1 (wd265 hw)) d_prog_10_m7_13 rfl ?_
  intro T226 K226
  refine own_callS K226 (wd266 hw) (wd267 hw) (rm_copyOfS hw hs K226.O EL1) (wd268 hw) (wd85 hw) (by decide) (argsL := [(.ref ls)]) (rest := []) rfl pd_28Ljava2futil2fCollection3b29Ljava2futil2fList3b rfl rfl (W := 0) rfl (by decide) (by decide) (by decide) (by decide) d_prog_10_m7_16 rfl ?_
  intro T227 h227 L227 v227 K227 q227
  obtain ⟨rfl, e227⟩ := q227
  have f227 := e227.symm
  subst f227
  show G (T227.setTop (mkF m 19 #[.val (.ref f), .val (.ref y)] [(.ref ls)]))
  exact own_retA K227 d_prog_10_m7_19 rfl rfl rfl rfl (by decide) (by decide) ⟨rfl, Kp225, S225⟩
set_option maxRecDepth 65536 in
set_option maxHeartbeats 40000000 in
theorem rm_hasN {l : Launch} {Z : State} {a0 : Array Value} (hw : ∀ d ∈ tables_1, d.before a0 Z = true) (hs : ∀ d ∈ jdkStatics_1, d.before a0 Z = true) {f : Addr} {mp : Addr} {tb : Addr} {nd : Addr} {ls : Addr} {ky : Addr} {kt : ClassId} {ck : List Int32} {vl : Addr} {em : Addr} {y : Addr} {ds : List Int32} {h0 : Heap} (O0 : Ext Z.heap h0) (M : own_FM Z h0 f mp tb nd ls ky vl em kt ck) (S : own_StS Z h0 y ds) (gk : Z.heap.size ≤ y) (hok : own_ok false ds) (hlen : ds.length ≤ 4000) (SKy : own_StS Z h0 ky ck) (hyk : y ≠ ky) (hokk : own_ok false ck) (hlenk : ck.length ≤ 4000) (hne : ¬ ds = ck) :
    own_Ct l Z (⟨"com/example/peergrove/peergrove/service/Form", "has", "(Ljava/lang/String;)Z"⟩ : MethodName) prog_10_method_6_code 2 (some .boolean) [] ({ frames := 7, locals := 105, cells := 0, slots := 0 } : Room) #[(.ref f), (.ref y)] h0 (fun v h => v = some (.int 0) ∧ Keep h0 h [y] ∧ own_StS Z h y ds) := by
  refine own_body (Ls := #[.val (.ref f), .val (.ref y)]) (plainFor_of_name pn_com_example_peergrove_peergrove_service_Form) (fun m => by first | (simp [entryFrame, mkF, argsToLocals, Value.category]; done) | rfl) O0 ?_
  intro p e s m below meth c T0 G K0
  obtain ⟨EF, FVm, MM, EL, L0, L1⟩ := M
  refine own_aloadN K0 d_prog_10_m6_0 rfl rfl rfl ?_
  refine own_getF K0 (host := "") (Or.inl (wd236 hw)) Via.refl FVm d_prog_10_m6_1 rfl ?_
  intro T228 K228
  refine own_aloadN K228 d_prog_10_m6_4 rfl rfl rfl ?_
  refine own_callF K228 (a := mp) (x0 := (⟨"java/util/Map", "containsKey", "(Ljava/lang/Object;)Z"⟩ : MethodName)) (wd280 hw) (wd281 hw) (fun q => mvT q (wd282 hw)) (wd283 hw) (wd284 hw) (wd285 hw) (wd286 hw) (wd130 hw) (rm_containsN hw hs K228.O MM S gk hok hlen SKy hyk hokk hlenk hne) (wd287 hw) (wd67 hw) (by decide) MM.1 (argsL := [(.ref y)]) (rest := []) rfl pd_28Ljava2flang2fObject3b29Z rfl rfl (W := 0) rfl (by decide) (by decide) (by decide) (by decide) d_prog_10_m6_5 rfl ?_
  intro T229 h229 L229 v229 K229 q229
  obtain ⟨rfl, q229⟩ := q229
  show G (T229.setTop (mkF m 10 #[.val (.ref f), .val (.ref y)] [(.int (0 : Int32))]))
  exact own_retN K229 (z' := (0 : Int32)) d_prog_10_m6_10 rfl (by simp) (by decide) (by decide) (by decide) ⟨rfl, q229⟩
theorem wd319 {a0 : Array Value} {Z : State} (hw : ∀ d ∈ tables_1, d.before a0 Z = true) : (Jvm.Cond.castable "java/util/ImmutableCollections$ListN" "java/util/Collection").before a0 Z = true := hw _ (List.mem_of_getElem? (i := 319) rfl)
set_option maxRecDepth 65536 in
set_option maxHeartbeats 40000000 in
theorem rm_allN {l : Launch} {Z : State} {a0 : Array Value} (hw : ∀ d ∈ tables_1, d.before a0 Z = true) (hs : ∀ d ∈ jdkStatics_1, d.before a0 Z = true) {f : Addr} {mp : Addr} {tb : Addr} {nd : Addr} {ls : Addr} {ky : Addr} {kt : ClassId} {ck : List Int32} {vl : Addr} {em : Addr} {y : Addr} {ds : List Int32} {el : Addr} {h0 : Heap} (O0 : Ext Z.heap h0) (M : own_FM Z h0 f mp tb nd ls ky vl em kt ck) (S : own_StS Z h0 y ds) (gk : Z.heap.size ≤ y) (hok : own_ok false ds) (hlen : ds.length ≤ 4000) (SKy : own_StS Z h0 ky ck) (hyk : y ≠ ky) (hokk : own_ok false ck) (hlenk : ck.length ≤ 4000) (hne : ¬ ds = ck) (SL : Sta Z Z.heap "java/util/ImmutableCollections" "EMPTY_LIST" "Ljava/util/ImmutableCollections$ListN;" (.ref el)) (EL0 : Exa Z Z.heap el "java/util/ImmutableCollections$ListN") (FA0 : Fld Z Z.heap el "java/util/ImmutableCollections$ListN" "allowNulls" "Z" (.int 0)) :
    own_Ct l Z (⟨"com/example/peergrove/peergrove/service/Form", "all", "(Ljava/lang/String;)Ljava/util/List;"⟩ : MethodName) prog_10_method_7_code 2 (some (.object "java/util/List")) [] ({ frames := 7, locals := 107, cells := 0, slots := 0 } : Room) #[(.ref f), (.ref y)] h0 (fun v h => v = some (.ref el) ∧ Keep h0 h [y] ∧ own_StS Z h y ds) := by
  refine own_body (Ls := #[.val (.ref f), .val (.ref y)]) (plainFor_of_name pn_com_example_peergrove_peergrove_service_Form) (fun m => by first | (simp [entryFrame, mkF, argsToLocals, Value.category]; done) | rfl) O0 ?_
  intro p e s m below meth c T0 G K0
  obtain ⟨EF, FVm, MM, EL, L0, L1⟩ := M
  refine own_aloadN K0 d_prog_10_m7_0 rfl rfl rfl ?_
  refine own_getF K0 (host := "") (Or.inl (wd236 hw)) Via.refl FVm d_prog_10_m7_1 rfl ?_
  intro T230 K230
  refine own_aloadN K230 d_prog_10_m7_4 rfl rfl rfl ?_
  refine own_callS K230 (wd243 hw) (wd244 hw) (rm_listOf0 hw hs K230.O SL) (wd245 hw) (wd85 hw) (by decide) (argsL := []) (rest := [(.ref y), (.ref mp)]) rfl pd_2829Ljava2futil2fList3b rfl rfl (W := 2) rfl (by decide) (by decide) (by decide) (by decide) d_prog_10_m7_5 rfl ?_
  intro T231 h231 L231 v231 K231 q231
  obtain ⟨rfl, e231⟩ := q231
  have f231 := e231.symm
  subst f231
  show G (T231.setTop (mkF m 8 #[.val (.ref f), .val (.ref y)] [(.ref el), (.ref y), (.ref mp)]))
  refine own_callF K231 (a := mp) (x0 := (⟨"java/util/Map", "getOrDefault", "(Ljava/lang/Object;Ljava/lang/Object;)Ljava/lang/Object;"⟩ : MethodName)) (wd247 hw) (wd248 hw) (fun q => mvT q (wd249 hw)) (wd250 hw) (wd251 hw) (wd252 hw) (wd253 hw) (wd130 hw) (rm_getOrN hw hs (dv := el) K231.O MM S gk hok hlen SKy hyk hokk hlenk hne) (wd254 hw) (wd59 hw) (by decide) MM.1 (argsL := [(.ref y), (.ref el)]) (rest := []) rfl pd_28Ljava2flang2fObject3bLjava2flang2fObject3b29Ljava2flang2fObject3b rfl rfl (W := 0) rfl (by decide) (by decide) (by decide) (by decide) d_prog_10_m7_8 rfl ?_
  intro T232 h232 L232 v232 K232 q232
  obtain ⟨rfl, Kp232, S232⟩ := q232
  show G (T232.setTop (mkF m 13 #[.val (.ref f), .val (.ref y)] [(.ref el)]))
  refine own_castY K232 (wd264 hw) (Ins.of_exa (EL0.ext K232.O) (wd319 hw)) d_prog_10_m7_13 rfl ?_
  intro T233 K233
  refine own_callS K233 (wd266 hw) (wd267 hw) (rm_copyOfN hw hs K233.O EL0 FA0) (wd268 hw) (wd85 hw) (by decide) (argsL := [(.ref el)]) (rest := []) rfl pd_28Ljava2futil2fCollection3b29Ljava2futil2fList3b rfl rfl (W := 0) rfl (by decide) (by decide) (by decide) (by decide) d_prog_10_m7_16 rfl ?_
  intro T234 h234 L234 v234 K234 q234
  obtain ⟨rfl, e234⟩ := q234
  have f234 := e234.symm
  subst f234
  show G (T234.setTop (mkF m 19 #[.val (.ref f), .val (.ref y)] [(.ref el)]))
  exact own_retA K234 d_prog_10_m7_19 rfl rfl rfl rfl (by decide) (by decide) ⟨rfl, Kp232, S232⟩
theorem wd56 {a0 : Array Value} {Z : State} (hw : ∀ d ∈ tables_1, d.before a0 Z = true) : (Jvm.Cond.code ({ cls := "com/example/peergrove/peergrove/service/Form", name := "of", desc := "(Ljava/lang/String;Ljava/lang/String;)Lcom/example/peergrove/peergrove/service/Form;" } : Jvm.MethodName) prog_10_method_4_code (3 : Nat) (Option.some (Jvm.ClassFile.FieldType.object "com/example/peergrove/peergrove/service/Form"))).before a0 Z = true := hw _ (List.mem_of_getElem? (i := 56) rfl)
theorem pd_28Ljava2flang2fString3bLjava2flang2fString3b29Lcom2fexample2fpeergrove2fpeergrove2fservice2fForm3b : parseMethodDescriptor "(Ljava/lang/String;Ljava/lang/String;)Lcom/example/peergrove/peergrove/service/Form;" = some ⟨[(.object "java/lang/String"), (.object "java/lang/String")], some (.object "com/example/peergrove/peergrove/service/Form")⟩ := by decide +kernel
theorem wd53 {a0 : Array Value} {Z : State} (hw : ∀ d ∈ tables_1, d.before a0 Z = true) : (Jvm.Cond.methodLink "com/example/peergrove/peergrove/service/FormOfPinLaw" (26 : Nat) ({ cls := "com/example/peergrove/peergrove/service/Form", name := "of", desc := "(Ljava/lang/String;Ljava/lang/String;)Lcom/example/peergrove/peergrove/service/Form;" } : Jvm.MethodName)).before a0 Z = true := hw _ (List.mem_of_getElem? (i := 53) rfl)
theorem wd54 {a0 : Array Value} {Z : State} (hw : ∀ d ∈ tables_1, d.before a0 Z = true) : (Jvm.Cond.static ({ cls := "com/example/peergrove/peergrove/service/Form", name := "of", desc := "(Ljava/lang/String;Ljava/lang/String;)Lcom/example/peergrove/peergrove/service/Form;" } : Jvm.MethodName)).before a0 Z = true := hw _ (List.mem_of_getElem? (i := 54) rfl)
theorem wd242 {a0 : Array Value} {Z : State} (hw : ∀ d ∈ tables_1, d.before a0 Z = true) : (Jvm.Cond.code ({ cls := "com/example/peergrove/peergrove/service/Form", name := "all", desc := "(Ljava/lang/String;)Ljava/util/List;" } : Jvm.MethodName) prog_10_method_7_code (2 : Nat) (Option.some (Jvm.ClassFile.FieldType.object "java/util/List"))).before a0 Z = true := hw _ (List.mem_of_getElem? (i := 242) rfl)
theorem pd_28Ljava2flang2fString3b29Ljava2futil2fList3b : parseMethodDescriptor "(Ljava/lang/String;)Ljava/util/List;" = some ⟨[(.object "java/lang/String")], some (.object "java/util/List")⟩ := by decide +kernel
theorem wd241 {a0 : Array Value} {Z : State} (hw : ∀ d ∈ tables_1, d.before a0 Z = true) : (Jvm.Cond.selects "com/example/peergrove/peergrove/service/Form" ({ cls := "com/example/peergrove/peergrove/service/Form", name := "all", desc := "(Ljava/lang/String;)Ljava/util/List;" } : Jvm.MethodName) ({ cls := "com/example/peergrove/peergrove/service/Form", name := "all", desc := "(Ljava/lang/String;)Ljava/util/List;" } : Jvm.MethodName)).before a0 Z = true := hw _ (List.mem_of_getElem? (i := 241) rfl)
theorem wd238 {a0 : Array Value} {Z : State} (hw : ∀ d ∈ tables_1, d.before a0 Z = true) : (Jvm.Cond.methodLink "com/example/peergrove/peergrove/service/FormOfPinLaw" (32 : Nat) ({ cls := "com/example/peergrove/peergrove/service/Form", name := "all", desc := "(Ljava/lang/String;)Ljava/util/List;" } : Jvm.MethodName)).before a0 Z = true := hw _ (List.mem_of_getElem? (i := 238) rfl)
theorem wd239 {a0 : Array Value} {Z : State} (hw : ∀ d ∈ tables_1, d.before a0 Z = true) : (Jvm.Cond.declares ({ cls := "com/example/peergrove/peergrove/service/Form", name := "all", desc := "(Ljava/lang/String;)Ljava/util/List;" } : Jvm.MethodName)).before a0 Z = true := hw _ (List.mem_of_getElem? (i := 239) rfl)
theorem wd240 {a0 : Array Value} {Z : State} (hw : ∀ d ∈ tables_1, d.before a0 Z = true) : (Jvm.Cond.instanceMethod ({ cls := "com/example/peergrove/peergrove/service/Form", name := "all", desc := "(Ljava/lang/String;)Ljava/util/List;" } : Jvm.MethodName)).before a0 Z = true := hw _ (List.mem_of_getElem? (i := 240) rfl)
theorem wd279 {a0 : Array Value} {Z : State} (hw : ∀ d ∈ tables_1, d.before a0 Z = true) : (Jvm.Cond.code ({ cls := "com/example/peergrove/peergrove/service/Form", name := "has", desc := "(Ljava/lang/String;)Z" } : Jvm.MethodName) prog_10_method_6_code (2 : Nat) (Option.some Jvm.ClassFile.FieldType.boolean)).before a0 Z = true := hw _ (List.mem_of_getElem? (i := 279) rfl)
theorem pd_28Ljava2flang2fString3b29Z : parseMethodDescriptor "(Ljava/lang/String;)Z" = some ⟨[(.object "java/lang/String")], some .boolean⟩ := by decide +kernel
theorem wd275 {a0 : Array Value} {Z : State} (hw : ∀ d ∈ tables_1, d.before a0 Z = true) : (Jvm.Cond.methodLink "com/example/peergrove/peergrove/service/FormOfPinLaw" (36 : Nat) ({ cls := "com/example/peergrove/peergrove/service/Form", name := "has", desc := "(Ljava/lang/String;)Z" } : Jvm.MethodName)).before a0 Z = true := hw _ (List.mem_of_getElem? (i := 275) rfl)
theorem wd276 {a0 : Array Value} {Z : State} (hw : ∀ d ∈ tables_1, d.before a0 Z = true) : (Jvm.Cond.declares ({ cls := "com/example/peergrove/peergrove/service/Form", name := "has", desc := "(Ljava/lang/String;)Z" } : Jvm.MethodName)).before a0 Z = true := hw _ (List.mem_of_getElem? (i := 276) rfl)
theorem wd278 {a0 : Array Value} {Z : State} (hw : ∀ d ∈ tables_1, d.before a0 Z = true) : (Jvm.Cond.selects "com/example/peergrove/peergrove/service/Form" ({ cls := "com/example/peergrove/peergrove/service/Form", name := "has", desc := "(Ljava/lang/String;)Z" } : Jvm.MethodName) ({ cls := "com/example/peergrove/peergrove/service/Form", name := "has", desc := "(Ljava/lang/String;)Z" } : Jvm.MethodName)).before a0 Z = true := hw _ (List.mem_of_getElem? (i := 278) rfl)
theorem wd277 {a0 : Array Value} {Z : State} (hw : ∀ d ∈ tables_1, d.before a0 Z = true) : (Jvm.Cond.instanceMethod ({ cls := "com/example/peergrove/peergrove/service/Form", name := "has", desc := "(Ljava/lang/String;)Z" } : Jvm.MethodName)).before a0 Z = true := hw _ (List.mem_of_getElem? (i := 277) rfl)
theorem wd297 {a0 : Array Value} {Z : State} (hw : ∀ d ∈ tables_1, d.before a0 Z = true) : (Jvm.Cond.code ({ cls := "java/util/ImmutableCollections$List12", name := "size", desc := "()I" } : Jvm.MethodName) jdk_44_method_3_code (1 : Nat) (Option.some Jvm.ClassFile.FieldType.int)).before a0 Z = true := hw _ (List.mem_of_getElem? (i := 297) rfl)
theorem wd290 {a0 : Array Value} {Z : State} (hw : ∀ d ∈ tables_1, d.before a0 Z = true) : (Jvm.Cond.methodLink "com/example/peergrove/peergrove/service/FormOfPinLaw" (40 : Nat) ({ cls := "java/util/List", name := "size", desc := "()I" } : Jvm.MethodName)).before a0 Z = true := hw _ (List.mem_of_getElem? (i := 290) rfl)
theorem wd291 {a0 : Array Value} {Z : State} (hw : ∀ d ∈ tables_1, d.before a0 Z = true) : (Jvm.Cond.declares ({ cls := "java/util/List", name := "size", desc := "()I" } : Jvm.MethodName)).before a0 Z = true := hw _ (List.mem_of_getElem? (i := 291) rfl)
theorem wd292 {a0 : Array Value} {Z : State} (hw : ∀ d ∈ tables_1, d.before a0 Z = true) : (Jvm.Cond.interfaceMethod "java/util/List" "java/util/List" "size" "()I").before a0 Z = true := hw _ (List.mem_of_getElem? (i := 292) rfl)
theorem wd293 {a0 : Array Value} {Z : State} (hw : ∀ d ∈ tables_1, d.before a0 Z = true) : (Jvm.Cond.selects "java/util/ImmutableCollections$List12" ({ cls := "java/util/List", name := "size", desc := "()I" } : Jvm.MethodName) ({ cls := "java/util/ImmutableCollections$List12", name := "size", desc := "()I" } : Jvm.MethodName)).before a0 Z = true := hw _ (List.mem_of_getElem? (i := 293) rfl)
theorem wd294 {a0 : Array Value} {Z : State} (hw : ∀ d ∈ tables_1, d.before a0 Z = true) : (Jvm.Cond.instanceMethod ({ cls := "java/util/ImmutableCollections$List12", name := "size", desc := "()I" } : Jvm.MethodName)).before a0 Z = true := hw _ (List.mem_of_getElem? (i := 294) rfl)
theorem wd295 {a0 : Array Value} {Z : State} (hw : ∀ d ∈ tables_1, d.before a0 Z = true) : (Jvm.Cond.publicMethod ({ cls := "java/util/ImmutableCollections$List12", name := "size", desc := "()I" } : Jvm.MethodName)).before a0 Z = true := hw _ (List.mem_of_getElem? (i := 295) rfl)
theorem wd296 {a0 : Array Value} {Z : State} (hw : ∀ d ∈ tables_1, d.before a0 Z = true) : (Jvm.Cond.unhidden "java/util/ImmutableCollections$List12" "size" "()I").before a0 Z = true := hw _ (List.mem_of_getElem? (i := 296) rfl)
theorem wd305 {a0 : Array Value} {Z : State} (hw : ∀ d ∈ tables_1, d.before a0 Z = true) : (Jvm.Cond.code ({ cls := "java/util/ImmutableCollections$List12", name := "get", desc := "(I)Ljava/lang/Object;" } : Jvm.MethodName) jdk_44_method_5_code (2 : Nat) (Option.some (Jvm.ClassFile.FieldType.object "java/lang/Object"))).before a0 Z = true := hw _ (List.mem_of_getElem? (i := 305) rfl)
theorem pd_28I29Ljava2flang2fObject3b : parseMethodDescriptor "(I)Ljava/lang/Object;" = some ⟨[.int], some (.object "java/lang/Object")⟩ := by decide +kernel
theorem wd298 {a0 : Array Value} {Z : State} (hw : ∀ d ∈ tables_1, d.before a0 Z = true) : (Jvm.Cond.methodLink "com/example/peergrove/peergrove/service/FormOfPinLaw" (46 : Nat) ({ cls := "java/util/List", name := "get", desc := "(I)Ljava/lang/Object;" } : Jvm.MethodName)).before a0 Z = true := hw _ (List.mem_of_getElem? (i := 298) rfl)
theorem wd299 {a0 : Array Value} {Z : State} (hw : ∀ d ∈ tables_1, d.before a0 Z = true) : (Jvm.Cond.declares ({ cls := "java/util/List", name := "get", desc := "(I)Ljava/lang/Object;" } : Jvm.MethodName)).before a0 Z = true := hw _ (List.mem_of_getElem? (i := 299) rfl)
theorem wd300 {a0 : Array Value} {Z : State} (hw : ∀ d ∈ tables_1, d.before a0 Z = true) : (Jvm.Cond.interfaceMethod "java/util/List" "java/util/List" "get" "(I)Ljava/lang/Object;").before a0 Z = true := hw _ (List.mem_of_getElem? (i := 300) rfl)
theorem wd301 {a0 : Array Value} {Z : State} (hw : ∀ d ∈ tables_1, d.before a0 Z = true) : (Jvm.Cond.selects "java/util/ImmutableCollections$List12" ({ cls := "java/util/List", name := "get", desc := "(I)Ljava/lang/Object;" } : Jvm.MethodName) ({ cls := "java/util/ImmutableCollections$List12", name := "get", desc := "(I)Ljava/lang/Object;" } : Jvm.MethodName)).before a0 Z = true := hw _ (List.mem_of_getElem? (i := 301) rfl)
theorem wd302 {a0 : Array Value} {Z : State} (hw : ∀ d ∈ tables_1, d.before a0 Z = true) : (Jvm.Cond.instanceMethod ({ cls := "java/util/ImmutableCollections$List12", name := "get", desc := "(I)Ljava/lang/Object;" } : Jvm.MethodName)).before a0 Z = true := hw _ (List.mem_of_getElem? (i := 302) rfl)
theorem wd303 {a0 : Array Value} {Z : State} (hw : ∀ d ∈ tables_1, d.before a0 Z = true) : (Jvm.Cond.publicMethod ({ cls := "java/util/ImmutableCollections$List12", name := "get", desc := "(I)Ljava/lang/Object;" } : Jvm.MethodName)).before a0 Z = true := hw _ (List.mem_of_getElem? (i := 303) rfl)
theorem wd304 {a0 : Array Value} {Z : State} (hw : ∀ d ∈ tables_1, d.before a0 Z = true) : (Jvm.Cond.unhidden "java/util/ImmutableCollections$List12" "get" "(I)Ljava/lang/Object;").before a0 Z = true := hw _ (List.mem_of_getElem? (i := 304) rfl)
theorem wd306 {a0 : Array Value} {Z : State} (hw : ∀ d ∈ tables_1, d.before a0 Z = true) : (Jvm.Cond.methodLink "com/example/peergrove/peergrove/service/FormOfPinLaw" (50 : Nat) ({ cls := "java/lang/String", name := "equals", desc := "(Ljava/lang/Object;)Z" } : Jvm.MethodName)).before a0 Z = true := hw _ (List.mem_of_getElem? (i := 306) rfl)
theorem wd307 {a0 : Array Value} {Z : State} (hw : ∀ d ∈ tables_1, d.before a0 Z = true) : (Jvm.Cond.declares ({ cls := "java/lang/String", name := "equals", desc := "(Ljava/lang/Object;)Z" } : Jvm.MethodName)).before a0 Z = true := hw _ (List.mem_of_getElem? (i := 307) rfl)
theorem wd309 {a0 : Array Value} {Z : State} (hw : ∀ d ∈ tables_1, d.before a0 Z = true) : (Jvm.Cond.selects "java/lang/String" ({ cls := "java/lang/String", name := "equals", desc := "(Ljava/lang/Object;)Z" } : Jvm.MethodName) ({ cls := "java/lang/String", name := "equals", desc := "(Ljava/lang/Object;)Z" } : Jvm.MethodName)).before a0 Z = true := hw _ (List.mem_of_getElem? (i := 309) rfl)
theorem wd335 {a0 : Array Value} {Z : State} (hw : ∀ d ∈ tables_1, d.before a0 Z = true) : (Jvm.Cond.code ({ cls := "java/util/ImmutableCollections$ListN", name := "size", desc := "()I" } : Jvm.MethodName) jdk_45_method_3_code (1 : Nat) (Option.some Jvm.ClassFile.FieldType.int)).before a0 Z = true := hw _ (List.mem_of_getElem? (i := 335) rfl)
theorem wd334 {a0 : Array Value} {Z : State} (hw : ∀ d ∈ tables_1, d.before a0 Z = true) : (Jvm.Cond.initialized "java/util/ImmutableCollections$ListN").before a0 Z = true := hw _ (List.mem_of_getElem? (i := 334) rfl)
theorem wd330 {a0 : Array Value} {Z : State} (hw : ∀ d ∈ tables_1, d.before a0 Z = true) : (Jvm.Cond.selects "java/util/ImmutableCollections$ListN" ({ cls := "java/util/List", name := "size", desc := "()I" } : Jvm.MethodName) ({ cls := "java/util/ImmutableCollections$ListN", name := "size", desc := "()I" } : Jvm.MethodName)).before a0 Z = true := hw _ (List.mem_of_getElem? (i := 330) rfl)
theorem wd331 {a0 : Array Value} {Z : State} (hw : ∀ d ∈ tables_1, d.before a0 Z = true) : (Jvm.Cond.instanceMethod ({ cls := "java/util/ImmutableCollections$ListN", name := "size", desc := "()I" } : Jvm.MethodName)).before a0 Z = true := hw _ (List.mem_of_getElem? (i := 331) rfl)
theorem wd332 {a0 : Array Value} {Z : State} (hw : ∀ d ∈ tables_1, d.before a0 Z = true) : (Jvm.Cond.publicMethod ({ cls := "java/util/ImmutableCollections$ListN", name := "size", desc := "()I" } : Jvm.MethodName)).before a0 Z = true := hw _ (List.mem_of_getElem? (i := 332) rfl)
theorem wd333 {a0 : Array Value} {Z : State} (hw : ∀ d ∈ tables_1, d.before a0 Z = true) : (Jvm.Cond.unhidden "java/util/ImmutableCollections$ListN" "size" "()I").before a0 Z = true := hw _ (List.mem_of_getElem? (i := 333) rfl)
section Law
variable {p : Program} {l : Launch} {e : Env} {s : State} {m : MethodId} {args : Array Value} {below : List Frame} {meth : Method} {c : Code} {Q : Option Value → Heap → Prop} {G : State → Prop} {Z T : State} {L : List Loc} {h : Heap} {a0 : Array Value}
set_option maxRecDepth 65536 in
set_option maxHeartbeats 40000000 in
theorem law_tail (hw : ∀ d ∈ tables_1, d.before a0 Z = true) (hs : ∀ d ∈ jdkStatics_1, d.before a0 Z = true) {p0 p2 p4 : Int64} {p6 : Int32} {nm' vl ot em el ea : Addr} {ke : ClassId} {c1 c2 c3 : List Int32} (SE : Sta Z Z.heap "java/util/ImmutableCollections" "EMPTY" "Ljava/lang/Object;" (.ref em)) (SL : Sta Z Z.heap "java/util/ImmutableCollections" "EMPTY_LIST" "Ljava/util/ImmutableCollections$ListN;" (.ref el)) (EL0 : Exa Z Z.heap el "java/util/ImmutableCollections$ListN") (FA0 : Fld Z Z.heap el "java/util/ImmutableCollections$ListN" "allowNulls" "Z" (.int 0)) (FE0 : Fld Z Z.heap el "java/util/ImmutableCollections$ListN" "elements" "[Ljava/lang/Object;" (.ref ea)) (VA0 : Arv Z Z.heap ea ke (.object "java/lang/Object") 0 [] .null) (hq : ∀ h', h.size ≤ h'.size → Q (some (.int 1)) h') (K : own_K p l e room_1 s m args below meth c code "com/example/peergrove/peergrove/service/FormOfPinLaw" "law" 15 (some .boolean) Q G Z T L 24 120 h) (S1 : own_StS Z h nm' c1) (S2 : own_StS Z h vl c2) (S3 : own_StS Z h ot c3) (g1 : Z.heap.size ≤ nm') (g3 : Z.heap.size ≤ ot) (n21 : vl ≠ nm') (n31 : ot ≠ nm') (n23 : vl ≠ ot) (ok1 : own_ok false c1) (ok3 : own_ok false c3) (l1 : c1.length ≤ 3) (l3 : c3.length ≤ 3) : G (T.setTop (mkF m 33 #[.val (.long p0), .second, .val (.long p2), .second, .val (.long p4), .second, .val (.int p6), .val (.ref nm'), .val (.ref vl), .val (.ref ot), .unset, .unset, .unset, .unset, .unset] [])) := by
  refine own_aload K at_33 rfl rfl rfl ?_
  refine own_aload K at_35 rfl rfl rfl ?_
  refine own_callS K (wd53 hw) (wd54 hw) (rm_formOf hw hs (ky := nm') (vl := vl) (ck := c1) K.O S1 g1 ok1 (by omega) SE) (wd56 hw) (wd55 hw) (by decide) (argsL := [(.ref nm'), (.ref vl)]) (rest := []) rfl pd_28Ljava2flang2fString3bLjava2flang2fString3b29Lcom2fexample2fpeergrove2fpeergrove2fservice2fForm3b rfl rfl (W := 0) rfl (by decide) (by decide) (by decide) (by decide) at_37 rfl ?_
  intro T235 h235 L235 v235 K235 q235
  obtain ⟨f235, mp235, tb235, nd235, ls235, kt235, rfl, Kp235, M235, S235⟩ := q235
  show G (T235.setTop (mkF m 40 #[.val (.long p0), .second, .val (.long p2), .second, .val (.long p4), .second, .val (.int p6), .val (.ref nm'), .val (.ref vl), .val (.ref ot), .unset, .unset, .unset, .unset, .unset] [(.ref f235)]))
  have T2 := own_StS.keep (wd7 hw) S2 Kp235 S1.exa n21
  have T3 := own_StS.keep (wd7 hw) S3 Kp235 S1.exa n31
  refine own_astore K235 (Ls' := #[.val (.long p0), .second, .val (.long p2), .second, .val (.long p4), .second, .val (.int p6), .val (.ref nm'), .val (.ref vl), .val (.ref ot), .val (.ref f235), .unset, .unset, .unset, .unset]) at_40 rfl rfl rfl ?_
  refine own_aload K235 at_42 rfl rfl rfl ?_
  refine own_aload K235 at_44 rfl rfl rfl ?_
  refine own_callV K235 (a := f235) (x0 := (⟨"com/example/peergrove/peergrove/service/Form", "all", "(Ljava/lang/String;)Ljava/util/List;"⟩ : MethodName)) (wd238 hw) (wd239 hw) (fun q => own_nfS (args := #[]) (mvT q (wd241 hw)) rfl) (wd241 hw) (wd240 hw) (rm_allS hw hs (el := el) K235.O M235 S235 g1 ok1 (by omega) SL EL0 FA0) (wd242 hw) (wd55 hw) (by decide) M235.1 (argsL := [(.ref nm')]) (rest := []) rfl pd_28Ljava2flang2fString3b29Ljava2futil2fList3b rfl rfl (W := 0) rfl (by decide) (by decide) (by decide) (by decide) at_46 rfl ?_
  intro T236 h236 L236 v236 K236 q236
  obtain ⟨rfl, Kp236, S236⟩ := q236
  show G (T236.setTop (mkF m 49 #[.val (.long p0), .second, .val (.long p2), .second, .val (.long p4), .second, .val (.int p6), .val (.ref nm'), .val (.ref vl), .val (.ref ot), .val (.ref f235), .unset, .unset, .unset, .unset] [(.ref ls235)]))
  have M236 := M235.keep (wd7 hw) Kp236 S235.exa
  have S2_236 := own_StS.keep (wd7 hw) T2 Kp236 S235.exa n21
  have S3_236 := own_StS.keep (wd7 hw) T3 Kp236 S235.exa n31
  have le236 : h.size ≤ h236.size := Nat.le_trans Kp235.1 Kp236.1
  refine own_astore K236 (Ls' := #[.val (.long p0), .second, .val (.long p2), .second, .val (.long p4), .second, .val (.int p6), .val (.ref nm'), .val (.ref vl), .val (.ref ot), .val (.ref f235), .val (.ref ls235), .unset, .unset, .unset]) at_49 rfl rfl rfl ?_
  refine own_aload K236 at_51 rfl rfl rfl ?_
  refine own_aload K236 at_53 rfl rfl rfl ?_
  refine own_callV K236 (a := f235) (x0 := (⟨"com/example/peergrove/peergrove/service/Form", "has", "(Ljava/lang/String;)Z"⟩ : MethodName)) (wd275 hw) (wd276 hw) (fun q => own_nfS (args := #[]) (mvT q (wd241 hw)) rfl) (wd278 hw) (wd277 hw) (rm_hasS hw hs K236.O M236 S236 g1 ok1 (by omega)) (wd279 hw) (wd55 hw) (by decide) M236.1 (argsL := [(.ref nm')]) (rest := []) rfl pd_28Ljava2flang2fString3b29Z rfl rfl (W := 0) rfl (by decide) (by decide) (by decide) (by decide) at_55 rfl ?_
  intro T237 h237 L237 v237 K237 q237
  obtain ⟨rfl, Kp237, S237⟩ := q237
  show G (T237.setTop (mkF m 58 #[.val (.long p0), .second, .val (.long p2), .second, .val (.long p4), .second, .val (.int p6), .val (.ref nm'), .val (.ref vl), .val (.ref ot), .val (.ref f235), .val (.ref ls235), .unset, .unset, .unset] [(.int (1 : Int32))]))
  have M237 := M236.keep (wd7 hw) Kp237 S236.exa
  have S2_237 := own_StS.keep (wd7 hw) S2_236 Kp237 S236.exa n21
  have S3_237 := own_StS.keep (wd7 hw) S3_236 Kp237 S236.exa n31
  have le237 : h.size ≤ h237.size := Nat.le_trans le236 Kp237.1
  refine own_ifNo K237 at_58 rfl ((if0 _ _).trans (feq (by decide)).1) ?_
  refine own_aload K237 at_61 rfl rfl rfl ?_
  obtain ⟨xa238, xb238, xc238, xl238, xe238, xf238⟩ := id M237
  refine own_callF K237 (a := ls235) (x0 := (⟨"java/util/List", "size", "()I"⟩ : MethodName)) (wd290 hw) (wd291 hw) (fun q => mvT q (wd292 hw)) (wd293 hw) (wd294 hw) (wd295 hw) (wd296 hw) (wd274 hw) (rm_size12 hw hs K237.O xf238 SE) (wd297 hw) (wd89 hw) (by decide) xl238 (argsL := []) (rest := []) rfl pd_2829I rfl rfl (W := 0) rfl (by decide) (by decide) (by decide) (by decide) at_63 rfl ?_
  intro T239 h239 L239 v239 K239 q239
  obtain ⟨rfl, e239⟩ := q239
  have f239 := e239.symm
  subst f239
  show G (T239.setTop (mkF m 68 #[.val (.long p0), .second, .val (.long p2), .second, .val (.long p4), .second, .val (.int p6), .val (.ref nm'), .val (.ref vl), .val (.ref ot), .val (.ref f235), .val (.ref ls235), .unset, .unset, .unset] [(.int (1 : Int32))]))
  refine own_iconst K239 (v := (1 : Int32)) at_68 rfl rfl ?_
  refine own_icmpNo K239 at_69 rfl (teq rfl).2 ?_
  refine own_aload K239 at_72 rfl rfl rfl ?_
  refine own_iconst K239 (v := (0 : Int32)) at_74 rfl rfl ?_
  refine own_callF K239 (a := ls235) (x0 := (⟨"java/util/List", "get", "(I)Ljava/lang/Object;"⟩ : MethodName)) (wd298 hw) (wd299 hw) (fun q => mvT q (wd300 hw)) (wd301 hw) (wd302 hw) (wd303 hw) (wd304 hw) (wd274 hw) (rm_get12 hw hs K239.O xe238) (wd305 hw) (wd89 hw) (by decide) xl238 (argsL := [(.int (0 : Int32))]) (rest := []) rfl pd_28I29Ljava2flang2fObject3b rfl rfl (W := 0) rfl (by decide) (by decide) (by decide) (by decide) at_75 rfl ?_
  intro T240 h240 L240 v240 K240 q240
  obtain ⟨rfl, e240⟩ := q240
  have f240 := e240.symm
  subst f240
  show G (T240.setTop (mkF m 80 #[.val (.long p0), .second, .val (.long p2), .second, .val (.long p4), .second, .val (.int p6), .val (.ref nm'), .val (.ref vl), .val (.ref ot), .val (.ref f235), .val (.ref ls235), .unset, .unset, .unset] [(.ref vl)]))
  refine own_castY K240 (wd6 hw) (Ins.self S2_237.exa) at_80 rfl ?_
  intro T241 K241
  refine own_aload K241 at_83 rfl rfl rfl ?_
  refine own_callV K241 (a := vl) (x0 := (⟨"java/lang/String", "equals", "(Ljava/lang/Object;)Z"⟩ : MethodName)) (wd306 hw) (wd307 hw) (fun q => own_nfS (args := #[]) (mvT q (wd138 hw)) rfl) (wd309 hw) (wd308 hw) (rm_eqSame hw hs (x := vl) K241.O) (wd310 hw) (wd8 hw) (by decide) S2_237.exa (argsL := [(.ref vl)]) (rest := []) rfl pd_28Ljava2flang2fObject3b29Z rfl rfl (W := 0) rfl (by decide) (by decide) (by decide) (by decide) at_85 rfl ?_
  intro T242 h242 L242 v242 K242 q242
  obtain ⟨rfl, e242⟩ := q242
  have f242 := e242.symm
  subst f242
  show G (T242.setTop (mkF m 88 #[.val (.long p0), .second, .val (.long p2), .second, .val (.long p4), .second, .val (.int p6), .val (.ref nm'), .val (.ref vl), .val (.ref ot), .val (.ref f235), .val (.ref ls235), .unset, .unset, .unset] [(.int (1 : Int32))]))
  refine own_ifNo K242 at_88 rfl ((if0 _ _).trans (feq (by decide)).1) ?_
  refine own_iconst K242 (v := (1 : Int32)) at_91 rfl rfl ?_
  refine own_goto K242 at_92 (pc' := 96) (by decide) (by decide) ?_
  refine own_istore K242 (Ls' := #[.val (.long p0), .second, .val (.long p2), .second, .val (.long p4), .second, .val (.int p6), .val (.ref nm'), .val (.ref vl), .val (.ref ot), .val (.ref f235), .val (.ref ls235), .val (.int (1 : Int32)), .unset, .unset]) at_96 rfl rfl ?_
  refine own_aload K242 at_98 rfl rfl rfl ?_
  refine own_aload K242 at_100 rfl rfl rfl ?_
  by_cases hd : c3 = c1
  · skip
    have E3 := S3_237
    rw [hd] at E3
    have ok3' := ok3
    rw [hd] at ok3'
    refine own_callV K242 (a := ot) (x0 := (⟨"java/lang/String", "equals", "(Ljava/lang/Object;)Z"⟩ : MethodName)) (wd306 hw) (wd307 hw) (fun q => own_nfS (args := #[]) (mvT q (wd138 hw)) rfl) (wd309 hw) (wd308 hw) (rm_eqY hw hs (x := ot) (y := nm') (cs := c1) K242.O E3.g S237.g n31 ok1 (by omega)) (wd310 hw) (wd8 hw) (by decide) E3.exa (argsL := [(.ref nm')]) (rest := []) rfl pd_28Ljava2flang2fObject3b29Z rfl rfl (W := 0) rfl (by decide) (by decide) (by decide) (by decide) at_102 rfl ?_
    intro T243 h243 L243 v243 K243 q243
    obtain ⟨rfl, e243⟩ := q243
    have f243 := e243.symm
    subst f243
    show G (T243.setTop (mkF m 105 #[.val (.long p0), .second, .val (.long p2), .second, .val (.long p4), .second, .val (.int p6), .val (.ref nm'), .val (.ref vl), .val (.ref ot), .val (.ref f235), .val (.ref ls235), .val (.int (1 : Int32)), .unset, .unset] [(.int (1 : Int32))]))
    refine own_istore K243 (Ls' := #[.val (.long p0), .second, .val (.long p2), .second, .val (.long p4), .second, .val (.int p6), .val (.ref nm'), .val (.ref vl), .val (.ref ot), .val (.ref f235), .val (.ref ls235), .val (.int (1 : Int32)), .val (.int (1 : Int32)), .unset]) at_105 rfl rfl ?_
    refine own_aload K243 at_107 rfl rfl rfl ?_
    refine own_aload K243 at_109 rfl rfl rfl ?_
    refine own_callV K243 (a := f235) (x0 := (⟨"com/example/peergrove/peergrove/service/Form", "all", "(Ljava/lang/String;)Ljava/util/List;"⟩ : MethodName)) (wd238 hw) (wd239 hw) (fun q => own_nfS (args := #[]) (mvT q (wd241 hw)) rfl) (wd241 hw) (wd240 hw) (rm_allE hw hs (el := el) (y := ot) K243.O M237 E3 g3 ok1 (by omega) S237 n31 SL EL0 FA0) (wd242 hw) (wd55 hw) (by decide) M237.1 (argsL := [(.ref ot)]) (rest := []) rfl pd_28Ljava2flang2fString3b29Ljava2futil2fList3b rfl rfl (W := 0) rfl (by decide) (by decide) (by decide) (by decide) at_111 rfl ?_
    intro T244 h244 L244 v244 K244 q244
    obtain ⟨rfl, Kp244, S244⟩ := q244
    show G (T244.setTop (mkF m 114 #[.val (.long p0), .second, .val (.long p2), .second, .val (.long p4), .second, .val (.int p6), .val (.ref nm'), .val (.ref vl), .val (.ref ot), .val (.ref f235), .val (.ref ls235), .val (.int (1 : Int32)), .val (.int (1 : Int32)), .unset] [(.ref ls235)]))
    have M244 := M237.keep (wd7 hw) Kp244 E3.exa
    have S1_244 := own_StS.keep (wd7 hw) S237 Kp244 E3.exa n31.symm
    have S2_244 := own_StS.keep (wd7 hw) S2_237 Kp244 E3.exa n23
    have le244 : h.size ≤ h244.size := Nat.le_trans le237 Kp244.1
    refine own_astore K244 (Ls' := #[.val (.long p0), .second, .val (.long p2), .second, .val (.long p4), .second, .val (.int p6), .val (.ref nm'), .val (.ref vl), .val (.ref ot), .val (.ref f235), .val (.ref ls235), .val (.int (1 : Int32)), .val (.int (1 : Int32)), .val (.ref ls235)]) at_114 rfl rfl rfl ?_
    refine own_iload K244 at_116 rfl rfl ?_
    refine own_ifNo K244 at_118 rfl ((if0 _ _).trans (feq (by decide)).1) ?_
    refine own_aload K244 at_121 rfl rfl rfl ?_
    refine own_aload K244 at_123 rfl rfl rfl ?_
    refine own_callV K244 (a := f235) (x0 := (⟨"com/example/peergrove/peergrove/service/Form", "has", "(Ljava/lang/String;)Z"⟩ : MethodName)) (wd275 hw) (wd276 hw) (fun q => own_nfS (args := #[]) (mvT q (wd241 hw)) rfl) (wd278 hw) (wd277 hw) (rm_hasE hw hs (y := ot) K244.O M244 S244 g3 ok1 (by omega) S1_244 n31) (wd279 hw) (wd55 hw) (by decide) M244.1 (argsL := [(.ref ot)]) (rest := []) rfl pd_28Ljava2flang2fString3b29Z rfl rfl (W := 0) rfl (by decide) (by decide) (by decide) (by decide) at_125 rfl ?_
    intro T245 h245 L245 v245 K245 q245
    obtain ⟨rfl, Kp245, S245⟩ := q245
    show G (T245.setTop (mkF m 128 #[.val (.long p0), .second, .val (.long p2), .second, .val (.long p4), .second, .val (.int p6), .val (.ref nm'), .val (.ref vl), .val (.ref ot), .val (.ref f235), .val (.ref ls235), .val (.int (1 : Int32)), .val (.int (1 : Int32)), .val (.ref ls235)] [(.int (1 : Int32))]))
    have M245 := M244.keep (wd7 hw) Kp245 S244.exa
    have S1_245 := own_StS.keep (wd7 hw) S1_244 Kp245 S244.exa n31.symm
    have S2_245 := own_StS.keep (wd7 hw) S2_244 Kp245 S244.exa n23
    have le245 : h.size ≤ h245.size := Nat.le_trans le244 Kp245.1
    refine own_iload K245 at_128 rfl rfl ?_
    refine own_icmpNo K245 at_130 rfl (teq rfl).2 ?_
    refine own_aload K245 at_133 rfl rfl rfl ?_
    obtain ⟨xa246, xb246, xc246, xl246, xe246, xf246⟩ := id M245
    refine own_callF K245 (a := ls235) (x0 := (⟨"java/util/List", "size", "()I"⟩ : MethodName)) (wd290 hw) (wd291 hw) (fun q => mvT q (wd292 hw)) (wd293 hw) (wd294 hw) (wd295 hw) (wd296 hw) (wd274 hw) (rm_size12 hw hs K245.O xf246 SE) (wd297 hw) (wd89 hw) (by decide) xl246 (argsL := []) (rest := []) rfl pd_2829I rfl rfl (W := 0) rfl (by decide) (by decide) (by decide) (by decide) at_135 rfl ?_
    intro T247 h247 L247 v247 K247 q247
    obtain ⟨rfl, e247⟩ := q247
    have f247 := e247.symm
    subst f247
    show G (T247.setTop (mkF m 140 #[.val (.long p0), .second, .val (.long p2), .second, .val (.long p4), .second, .val (.int p6), .val (.ref nm'), .val (.ref vl), .val (.ref ot), .val (.ref f235), .val (.ref ls235), .val (.int (1 : Int32)), .val (.int (1 : Int32)), .val (.ref ls235)] [(.int (1 : Int32))]))
    refine own_iload K247 at_140 rfl rfl ?_
    refine own_ifNo K247 at_142 rfl ((if0 _ _).trans (feq (by decide)).1) ?_
    refine own_iconst K247 (v := (1 : Int32)) at_145 rfl rfl ?_
    refine own_goto K247 at_146 (pc' := 150) (by decide) (by decide) ?_
    refine own_icmpNo K247 at_150 rfl (teq rfl).2 ?_
    refine own_iconst K247 (v := (1 : Int32)) at_153 rfl rfl ?_
    refine own_goto K247 at_154 (pc' := 158) (by decide) (by decide) ?_
    refine own_istore K247 (Ls' := #[.val (.long p0), .second, .val (.long p2), .second, .val (.long p4), .second, .val (.int p6), .val (.ref nm'), .val (.ref vl), .val (.ref ot), .val (.ref f235), .val (.ref ls235), .val (.int (1 : Int32)), .val (.int (1 : Int32)), .val (.ref ls235)]) at_158 rfl rfl ?_
    refine own_iload K247 at_160 rfl rfl ?_
    refine own_ifNo K247 at_162 rfl ((if0 _ _).trans (feq (by decide)).1) ?_
    refine own_iload K247 at_165 rfl rfl ?_
    refine own_ifNo K247 at_167 rfl ((if0 _ _).trans (feq (by decide)).1) ?_
    refine own_aload K247 at_170 rfl rfl rfl ?_
    refine own_iconst K247 (v := (0 : Int32)) at_172 rfl rfl ?_
    refine own_callF K247 (a := ls235) (x0 := (⟨"java/util/List", "get", "(I)Ljava/lang/Object;"⟩ : MethodName)) (wd298 hw) (wd299 hw) (fun q => mvT q (wd300 hw)) (wd301 hw) (wd302 hw) (wd303 hw) (wd304 hw) (wd274 hw) (rm_get12 hw hs K247.O xe246) (wd305 hw) (wd89 hw) (by decide) xl246 (argsL := [(.int (0 : Int32))]) (rest := []) rfl pd_28I29Ljava2flang2fObject3b rfl rfl (W := 0) rfl (by decide) (by decide) (by decide) (by decide) at_173 rfl ?_
    intro T248 h248 L248 v248 K248 q248
    obtain ⟨rfl, e248⟩ := q248
    have f248 := e248.symm
    subst f248
    show G (T248.setTop (mkF m 178 #[.val (.long p0), .second, .val (.long p2), .second, .val (.long p4), .second, .val (.int p6), .val (.ref nm'), .val (.ref vl), .val (.ref ot), .val (.ref f235), .val (.ref ls235), .val (.int (1 : Int32)), .val (.int (1 : Int32)), .val (.ref ls235)] [(.ref vl)]))
    refine own_castY K248 (wd6 hw) (Ins.self S2_245.exa) at_178 rfl ?_
    intro T249 K249
    refine own_aload K249 at_181 rfl rfl rfl ?_
    refine own_callV K249 (a := vl) (x0 := (⟨"java/lang/String", "equals", "(Ljava/lang/Object;)Z"⟩ : MethodName)) (wd306 hw) (wd307 hw) (fun q => own_nfS (args := #[]) (mvT q (wd138 hw)) rfl) (wd309 hw) (wd308 hw) (rm_eqSame hw hs (x := vl) K249.O) (wd310 hw) (wd8 hw) (by decide) S2_245.exa (argsL := [(.ref vl)]) (rest := []) rfl pd_28Ljava2flang2fObject3b29Z rfl rfl (W := 0) rfl (by decide) (by decide) (by decide) (by decide) at_183 rfl ?_
    intro T250 h250 L250 v250 K250 q250
    obtain ⟨rfl, e250⟩ := q250
    have f250 := e250.symm
    subst f250
    show G (T250.setTop (mkF m 186 #[.val (.long p0), .second, .val (.long p2), .second, .val (.long p4), .second, .val (.int p6), .val (.ref nm'), .val (.ref vl), .val (.ref ot), .val (.ref f235), .val (.ref ls235), .val (.int (1 : Int32)), .val (.int (1 : Int32)), .val (.ref ls235)] [(.int (1 : Int32))]))
    refine own_istore K250 (Ls' := #[.val (.long p0), .second, .val (.long p2), .second, .val (.long p4), .second, .val (.int p6), .val (.ref nm'), .val (.ref vl), .val (.ref ot), .val (.ref f235), .val (.ref ls235), .val (.int (1 : Int32)), .val (.int (1 : Int32)), .val (.ref ls235)]) at_186 rfl rfl ?_
    refine own_iload K250 at_188 rfl rfl ?_
    exact own_retN K250 (z' := (1 : Int32)) at_190 rfl (by simp) (by decide) (by decide) (by decide) (hq _ le245)
  · skip
    refine own_callV K242 (a := ot) (x0 := (⟨"java/lang/String", "equals", "(Ljava/lang/Object;)Z"⟩ : MethodName)) (wd306 hw) (wd307 hw) (fun q => own_nfS (args := #[]) (mvT q (wd138 hw)) rfl) (wd309 hw) (wd308 hw) (rm_eqN hw hs (x := ot) (y := nm') (cs := c3) (ds := c1) K242.O S3_237.g S237.g n31 ok3 ok1 (by omega) (by omega) hd) (wd310 hw) (wd8 hw) (by decide) S3_237.exa (argsL := [(.ref nm')]) (rest := []) rfl pd_28Ljava2flang2fObject3b29Z rfl rfl (W := 0) rfl (by decide) (by decide) (by decide) (by decide) at_102 rfl ?_
    intro T251 h251 L251 v251 K251 q251
    obtain ⟨rfl, e251⟩ := q251
    have f251 := e251.symm
    subst f251
    show G (T251.setTop (mkF m 105 #[.val (.long p0), .second, .val (.long p2), .second, .val (.long p4), .second, .val (.int p6), .val (.ref nm'), .val (.ref vl), .val (.ref ot), .val (.ref f235), .val (.ref ls235), .val (.int (1 : Int32)), .unset, .unset] [(.int (0 : Int32))]))
    refine own_istore K251 (Ls' := #[.val (.long p0), .second, .val (.long p2), .second, .val (.long p4), .second, .val (.int p6), .val (.ref nm'), .val (.ref vl), .val (.ref ot), .val (.ref f235), .val (.ref ls235), .val (.int (1 : Int32)), .val (.int (0 : Int32)), .unset]) at_105 rfl rfl ?_
    refine own_aload K251 at_107 rfl rfl rfl ?_
    refine own_aload K251 at_109 rfl rfl rfl ?_
    refine own_callV K251 (a := f235) (x0 := (⟨"com/example/peergrove/peergrove/service/Form", "all", "(Ljava/lang/String;)Ljava/util/List;"⟩ : MethodName)) (wd238 hw) (wd239 hw) (fun q => own_nfS (args := #[]) (mvT q (wd241 hw)) rfl) (wd241 hw) (wd240 hw) (rm_allN hw hs (el := el) (y := ot) (ds := c3) K251.O M237 S3_237 g3 ok3 (by omega) S237 n31 ok1 (by omega) hd SL EL0 FA0) (wd242 hw) (wd55 hw) (by decide) M237.1 (argsL := [(.ref ot)]) (rest := []) rfl pd_28Ljava2flang2fString3b29Ljava2futil2fList3b rfl rfl (W := 0) rfl (by decide) (by decide) (by decide) (by decide) at_111 rfl ?_
    intro T252 h252 L252 v252 K252 q252
    obtain ⟨rfl, Kp252, S252⟩ := q252
    show G (T252.setTop (mkF m 114 #[.val (.long p0), .second, .val (.long p2), .second, .val (.long p4), .second, .val (.int p6), .val (.ref nm'), .val (.ref vl), .val (.ref ot), .val (.ref f235), .val (.ref ls235), .val (.int (1 : Int32)), .val (.int (0 : Int32)), .unset] [(.ref el)]))
    have M252 := M237.keep (wd7 hw) Kp252 S3_237.exa
    have S1_252 := own_StS.keep (wd7 hw) S237 Kp252 S3_237.exa n31.symm
    have S2_252 := own_StS.keep (wd7 hw) S2_237 Kp252 S3_237.exa n23
    have le252 : h.size ≤ h252.size := Nat.le_trans le237 Kp252.1
    refine own_astore K252 (Ls' := #[.val (.long p0), .second, .val (.long p2), .second, .val (.long p4), .second, .val (.int p6), .val (.ref nm'), .val (.ref vl), .val (.ref ot), .val (.ref f235), .val (.ref ls235), .val (.int (1 : Int32)), .val (.int (0 : Int32)), .val (.ref el)]) at_114 rfl rfl rfl ?_
    refine own_iload K252 at_116 rfl rfl ?_
    refine own_ifNo K252 at_118 rfl ((if0 _ _).trans (feq (by decide)).1) ?_
    refine own_aload K252 at_121 rfl rfl rfl ?_
    refine own_aload K252 at_123 rfl rfl rfl ?_
    refine own_callV K252 (a := f235) (x0 := (⟨"com/example/peergrove/peergrove/service/Form", "has", "(Ljava/lang/String;)Z"⟩ : MethodName)) (wd275 hw) (wd276 hw) (fun q => own_nfS (args := #[]) (mvT q (wd241 hw)) rfl) (wd278 hw) (wd277 hw) (rm_hasN hw hs (y := ot) (ds := c3) K252.O M252 S252 g3 ok3 (by omega) S1_252 n31 ok1 (by omega) hd) (wd279 hw) (wd55 hw) (by decide) M252.1 (argsL := [(.ref ot)]) (rest := []) rfl pd_28Ljava2flang2fString3b29Z rfl rfl (W := 0) rfl (by decide) (by decide) (by decide) (by decide) at_125 rfl ?_
    intro T253 h253 L253 v253 K253 q253
    obtain ⟨rfl, Kp253, S253⟩ := q253
    show G (T253.setTop (mkF m 128 #[.val (.long p0), .second, .val (.long p2), .second, .val (.long p4), .second, .val (.int p6), .val (.ref nm'), .val (.ref vl), .val (.ref ot), .val (.ref f235), .val (.ref ls235), .val (.int (1 : Int32)), .val (.int (0 : Int32)), .val (.ref el)] [(.int (0 : Int32))]))
    have M253 := M252.keep (wd7 hw) Kp253 S252.exa
    have S1_253 := own_StS.keep (wd7 hw) S1_252 Kp253 S252.exa n31.symm
    have S2_253 := own_StS.keep (wd7 hw) S2_252 Kp253 S252.exa n23
    have le253 : h.size ≤ h253.size := Nat.le_trans le252 Kp253.1
    refine own_iload K253 at_128 rfl rfl ?_
    refine own_icmpNo K253 at_130 rfl (teq rfl).2 ?_
    refine own_aload K253 at_133 rfl rfl rfl ?_
    refine own_callF K253 (a := el) (x0 := (⟨"java/util/List", "size", "()I"⟩ : MethodName)) (wd290 hw) (wd291 hw) (fun q => mvT q (wd292 hw)) (wd330 hw) (wd331 hw) (wd332 hw) (wd333 hw) (wd329 hw) (rm_sizeN hw hs K253.O FE0 VA0) (wd335 hw) (wd334 hw) (by decide) (EL0.ext K253.O) (argsL := []) (rest := []) rfl pd_2829I rfl rfl (W := 0) rfl (by decide) (by decide) (by decide) (by decide) at_135 rfl ?_
    intro T254 h254 L254 v254 K254 q254
    obtain ⟨rfl, e254⟩ := q254
    have f254 := e254.symm
    subst f254
    show G (T254.setTop (mkF m 140 #[.val (.long p0), .second, .val (.long p2), .second, .val (.long p4), .second, .val (.int p6), .val (.ref nm'), .val (.ref vl), .val (.ref ot), .val (.ref f235), .val (.ref ls235), .val (.int (1 : Int32)), .val (.int (0 : Int32)), .val (.ref el)] [(.int (0 : Int32))]))
    refine own_iload K254 at_140 rfl rfl ?_
    refine own_ifYes K254 at_142 (pc' := 149) (by decide) (by decide) ((if0 _ _).trans (teq rfl).1) ?_
    refine own_iconst K254 (v := (0 : Int32)) at_149 rfl rfl ?_
    refine own_icmpNo K254 at_150 rfl (teq rfl).2 ?_
    refine own_iconst K254 (v := (1 : Int32)) at_153 rfl rfl ?_
    refine own_goto K254 at_154 (pc' := 158) (by decide) (by decide) ?_
    refine own_istore K254 (Ls' := #[.val (.long p0), .second, .val (.long p2), .second, .val (.long p4), .second, .val (.int p6), .val (.ref nm'), .val (.ref vl), .val (.ref ot), .val (.ref f235), .val (.ref ls235), .val (.int (1 : Int32)), .val (.int (0 : Int32)), .val (.ref el)]) at_158 rfl rfl ?_
    refine own_iload K254 at_160 rfl rfl ?_
    refine own_ifNo K254 at_162 rfl ((if0 _ _).trans (feq (by decide)).1) ?_
    refine own_iload K254 at_165 rfl rfl ?_
    refine own_ifYes K254 at_167 (pc' := 188) (by decide) (by decide) ((if0 _ _).trans (teq rfl).1) ?_
    refine own_iload K254 at_188 rfl rfl ?_
    exact own_retN K254 (z' := (1 : Int32)) at_190 rfl (by simp) (by decide) (by decide) (by decide) (hq _ le253)
end Law
theorem st17 {a0 : Array Value} {Z : State} (hs : ∀ d ∈ jdkStatics_1, d.before a0 Z = true) : (Jvm.Cond.exactly (Jvm.Term.static "java/util/ImmutableCollections" "EMPTY_LIST" "Ljava/util/ImmutableCollections$ListN;") "java/util/ImmutableCollections$ListN").before a0 Z = true := hs _ (List.mem_of_getElem? (i := 17) rfl)
theorem st16 {a0 : Array Value} {Z : State} (hs : ∀ d ∈ jdkStatics_1, d.before a0 Z = true) : (Jvm.Cond.initializedFor "java/util/ImmutableCollections" "EMPTY_LIST" "Ljava/util/ImmutableCollections$ListN;").before a0 Z = true := hs _ (List.mem_of_getElem? (i := 16) rfl)
theorem st21 {a0 : Array Value} {Z : State} (hs : ∀ d ∈ jdkStatics_1, d.before a0 Z = true) : (Jvm.Cond.arrayOf (Jvm.Term.field (Jvm.Term.static "java/util/ImmutableCollections" "EMPTY_LIST" "Ljava/util/ImmutableCollections$ListN;") "java/util/ImmutableCollections$ListN" "elements" "[Ljava/lang/Object;") (Jvm.ClassFile.FieldType.object "java/lang/Object")).before a0 Z = true := hs _ (List.mem_of_getElem? (i := 21) rfl)
theorem st23 {a0 : Array Value} {Z : State} (hs : ∀ d ∈ jdkStatics_1, d.before a0 Z = true) : (Jvm.Cond.eq (Jvm.Term.length (Jvm.Term.field (Jvm.Term.static "java/util/ImmutableCollections" "EMPTY_LIST" "Ljava/util/ImmutableCollections$ListN;") "java/util/ImmutableCollections$ListN" "elements" "[Ljava/lang/Object;")) (Jvm.Term.int (0 : Int32))).before a0 Z = true := hs _ (List.mem_of_getElem? (i := 23) rfl)
theorem st24 {a0 : Array Value} {Z : State} (hs : ∀ d ∈ jdkStatics_1, d.before a0 Z = true) : (Jvm.Cond.eq (Jvm.Term.field (Jvm.Term.static "java/util/ImmutableCollections" "EMPTY_LIST" "Ljava/util/ImmutableCollections$ListN;") "java/util/ImmutableCollections$ListN" "allowNulls" "Z") (Jvm.Term.int (0 : Int32))).before a0 Z = true := hs _ (List.mem_of_getElem? (i := 24) rfl)
theorem st11 {a0 : Array Value} {Z : State} (hs : ∀ d ∈ jdkStatics_1, d.before a0 Z = true) : (Jvm.Cond.exactly (Jvm.Term.static "java/util/ImmutableCollections" "EMPTY" "Ljava/lang/Object;") "java/lang/Object").before a0 Z = true := hs _ (List.mem_of_getElem? (i := 11) rfl)
theorem st10 {a0 : Array Value} {Z : State} (hs : ∀ d ∈ jdkStatics_1, d.before a0 Z = true) : (Jvm.Cond.initializedFor "java/util/ImmutableCollections" "EMPTY" "Ljava/lang/Object;").before a0 Z = true := hs _ (List.mem_of_getElem? (i := 10) rfl)
theorem own_emptyL {a0 : Array Value} {Z : State} (hs : ∀ d ∈ jdkStatics_1, d.before a0 Z = true) (hf : Fit Z) : ∃ (em el ea : Addr) (ke : ClassId), Sta Z Z.heap "java/util/ImmutableCollections" "EMPTY" "Ljava/lang/Object;" (.ref em) ∧ Sta Z Z.heap "java/util/ImmutableCollections" "EMPTY_LIST" "Ljava/util/ImmutableCollections$ListN;" (.ref el) ∧ Exa Z Z.heap el "java/util/ImmutableCollections$ListN" ∧ Fld Z Z.heap el "java/util/ImmutableCollections$ListN" "allowNulls" "Z" (.int 0) ∧ Fld Z Z.heap el "java/util/ImmutableCollections$ListN" "elements" "[Ljava/lang/Object;" (.ref ea) ∧ Arv Z Z.heap ea ke (.object "java/lang/Object") 0 [] .null := by
  obtain ⟨em, SE, -⟩ := own_staX (st11 hs) (st10 hs)
  obtain ⟨el, e1⟩ := exa_v (Cond.before_iff.mp (st17 hs))
  have e2 := eqv_i (Term.int_eval 0) (Cond.before_iff.mp (st24 hs))
  rw [fld_at e1] at e2
  obtain ⟨ea, e3⟩ := arr_v (Cond.before_iff.mp (st21 hs))
  have e4 := e3
  rw [fld_at e1] at e4
  obtain ⟨cl, A⟩ := Arr.start e3 (Cond.before_iff.mp (st21 hs))
  have e5 := eqv_i (Term.int_eval 0) (Cond.before_iff.mp (st23 hs))
  obtain ⟨q1, q2⟩ := own_len e3 (Arr.fin (Vm.Alike.refl _) A) e5
  have q3 : cl.slots.size.toInt32 = 0 := (Value.int.inj q2).symm
  exact ⟨em, el, ea, cl.cls, SE, Sta.start e1 (Or.inl (st16 hs)), Exa.start e1 (Cond.before_iff.mp (st17 hs)), Fld.start e2, Fld.start e4, Arv.start hf A q1 q3 (by decide) rfl trivial⟩
theorem wd3 {a0 : Array Value} {Z : State} (hw : ∀ d ∈ tables_1, d.before a0 Z = true) : (Jvm.Cond.code ({ cls := "com/example/peergrove/peergrove/service/FormOfPinLaw", name := "draw", desc := "(J)Ljava/lang/String;" } : Jvm.MethodName) method_2_code (6 : Nat) (Option.some (Jvm.ClassFile.FieldType.object "java/lang/String"))).before a0 Z = true := hw _ (List.mem_of_getElem? (i := 3) rfl)
theorem wd2 {a0 : Array Value} {Z : State} (hw : ∀ d ∈ tables_1, d.before a0 Z = true) : (Jvm.Cond.initialized "com/example/peergrove/peergrove/service/FormOfPinLaw").before a0 Z = true := hw _ (List.mem_of_getElem? (i := 2) rfl)
theorem pd_28J29Ljava2flang2fString3b : parseMethodDescriptor "(J)Ljava/lang/String;" = some ⟨[.long], some (.object "java/lang/String")⟩ := by decide +kernel
theorem wd0 {a0 : Array Value} {Z : State} (hw : ∀ d ∈ tables_1, d.before a0 Z = true) : (Jvm.Cond.methodLink "com/example/peergrove/peergrove/service/FormOfPinLaw" (20 : Nat) ({ cls := "com/example/peergrove/peergrove/service/FormOfPinLaw", name := "draw", desc := "(J)Ljava/lang/String;" } : Jvm.MethodName)).before a0 Z = true := hw _ (List.mem_of_getElem? (i := 0) rfl)
theorem wd1 {a0 : Array Value} {Z : State} (hw : ∀ d ∈ tables_1, d.before a0 Z = true) : (Jvm.Cond.static ({ cls := "com/example/peergrove/peergrove/service/FormOfPinLaw", name := "draw", desc := "(J)Ljava/lang/String;" } : Jvm.MethodName)).before a0 Z = true := hw _ (List.mem_of_getElem? (i := 1) rfl)
set_option maxRecDepth 65536 in
set_option maxHeartbeats 40000000 in
theorem rm_law {l : Launch} {Z : State} {a0 : Array Value} (hw : ∀ d ∈ tables_1, d.before a0 Z = true) (hs : ∀ d ∈ jdkStatics_1, d.before a0 Z = true) {p0 : Int64} {p2 : Int64} {p4 : Int64} {p6 : Int32} {h0 : Heap} (O0 : Ext Z.heap h0) (hf : Fit Z) :
    own_CtW l Z consts_1 false false x code maxLocals ret tables_1 room_1 #[(.long p0), (.long p2), (.long p4), (.int p6)] h0 (fun v h => v = some (.int 1)) := by
  refine own_bodyW (Ls := #[.val (.long p0), .second, .val (.long p2), .second, .val (.long p4), .second, .val (.int p6), .unset, .unset, .unset, .unset, .unset, .unset, .unset, .unset]) (own_EL hw) (plainFor_of_name pn_com_example_peergrove_peergrove_service_FormOfPinLaw) (fun m => by first | (simp [entryFrame, mkF, argsToLocals, Value.category, maxLocals]; done) | rfl) O0 ?_
  intro p e s m below meth c T0 G hkn hs0 W0
  obtain ⟨em, el, ea, ke, SE, SL, EL0, FA0, FE0, VA0⟩ := own_emptyL hs hf
  refine own_lloadN W0.K at_0 rfl rfl ?_
  refine own_callSW W0 (own_EL hw) (kn := false) (fun q => nomatch q) (wd0 hw) (wd1 hw) (rm_draw hw hs (q := p0) W0.K.O) (wd3 hw) (wd2 hw) (by decide) (argsL := [(.long p0)]) (rest := []) rfl pd_28J29Ljava2flang2fString3b rfl rfl (Wd := 0) rfl (by decide) (by decide) (by decide) (by decide) at_1 rfl ?_
  intro T255 h255 L255 v255 k1_255 W255 C255 q255
  obtain ⟨a255, c255, rfl, ga255, X255, S255, ok255, hl255⟩ := q255
  show G (T255.setTop (mkF m 4 #[.val (.long p0), .second, .val (.long p2), .second, .val (.long p4), .second, .val (.int p6), .unset, .unset, .unset, .unset, .unset, .unset, .unset, .unset] [(.ref a255)]))
  refine own_astore W255.K (Ls' := #[.val (.long p0), .second, .val (.long p2), .second, .val (.long p4), .second, .val (.int p6), .val (.ref a255), .unset, .unset, .unset, .unset, .unset, .unset, .unset]) at_4 rfl rfl rfl ?_
  refine own_lloadN W255.K at_6 rfl rfl ?_
  have W256 := W255.same W255.K
  refine own_callSW W256 (own_EL hw) (kn := false) (fun q => nomatch q) (wd0 hw) (wd1 hw) (rm_draw hw hs (q := p2) W256.K.O) (wd3 hw) (wd2 hw) (by decide) (argsL := [(.long p2)]) (rest := []) rfl pd_28J29Ljava2flang2fString3b rfl rfl (Wd := 0) rfl (by decide) (by decide) (by decide) (by decide) at_7 rfl ?_
  intro T257 h257 L257 v257 k1_257 W257 C257 q257
  obtain ⟨a257, c257, rfl, ga257, X257, S257, ok257, hl257⟩ := q257
  show G (T257.setTop (mkF m 10 #[.val (.long p0), .second, .val (.long p2), .second, .val (.long p4), .second, .val (.int p6), .val (.ref a255), .unset, .unset, .unset, .unset, .unset, .unset, .unset] [(.ref a257)]))
  refine own_astore W257.K (Ls' := #[.val (.long p0), .second, .val (.long p2), .second, .val (.long p4), .second, .val (.int p6), .val (.ref a255), .val (.ref a257), .unset, .unset, .unset, .unset, .unset, .unset]) at_10 rfl rfl rfl ?_
  refine own_iload W257.K at_12 rfl rfl ?_
  refine own_iconst W257.K (v := (1 : Int32)) at_14 rfl rfl ?_
  refine own_iand W257.K at_15 rfl ?_
  by_cases hb : (p6 &&& (1 : Int32)) = 0
  · skip
    refine own_ifYes W257.K at_16 (pc' := 26) (by decide) (by decide) ((if0 _ _).trans (teq hb).1) ?_
    refine own_lload W257.K at_26 rfl rfl ?_
    have W258 := W257.same W257.K
    refine own_callSW W258 (own_EL hw) (kn := false) (fun q => nomatch q) (wd0 hw) (wd1 hw) (rm_draw hw hs (q := p4) W258.K.O) (wd3 hw) (wd2 hw) (by decide) (argsL := [(.long p4)]) (rest := []) rfl pd_28J29Ljava2flang2fString3b rfl rfl (Wd := 0) rfl (by decide) (by decide) (by decide) (by decide) at_28 rfl ?_
    intro T259 h259 L259 v259 k1_259 W259 C259 q259
    obtain ⟨a259, c259, rfl, ga259, X259, S259, ok259, hl259⟩ := q259
    show G (T259.setTop (mkF m 31 #[.val (.long p0), .second, .val (.long p2), .second, .val (.long p4), .second, .val (.int p6), .val (.ref a255), .val (.ref a257), .unset, .unset, .unset, .unset, .unset, .unset] [(.ref a259)]))
    refine own_astore W259.K (Ls' := #[.val (.long p0), .second, .val (.long p2), .second, .val (.long p4), .second, .val (.int p6), .val (.ref a255), .val (.ref a257), .val (.ref a259), .unset, .unset, .unset, .unset, .unset]) at_31 rfl rfl rfl ?_
    have W260 := W259.same W259.K
    have X12 := X257
    have n21 : a257 ≠ a255 := Nat.ne_of_gt (Nat.lt_of_lt_of_le S255.exa.lt ga257)
    have n31 : a259 ≠ a255 := Nat.ne_of_gt (Nat.lt_of_lt_of_le (S255.exa.ext X257).lt ga259)
    have n23 : a257 ≠ a259 := Nat.ne_of_lt (Nat.lt_of_lt_of_le S257.exa.lt ga259)
    have g1 : Z.heap.size ≤ a255 := Nat.le_trans O0.1 ga255
    have g3 : Z.heap.size ≤ a259 := Nat.le_trans (Nat.le_trans O0.1 (own_ext_trans X255 X257).1) ga259
    exact law_tail hw hs SE SL EL0 FA0 FE0 VA0 (fun h' hle => ⟨⟨rfl, Nat.le_trans W260.le hle⟩, fun q => nomatch q⟩) (W260.K.more (by decide) (by decide)) ((S255.ext X257).ext X259) (S257.ext X259) S259 g1 g3 n21 n31 n23 ok255 ok259 hl255 hl259
  · skip
    refine own_ifNo W257.K at_16 rfl ((if0 _ _).trans (feq hb).1) ?_
    refine own_lloadN W257.K at_19 rfl rfl ?_
    have W261 := W257.same W257.K
    refine own_callSW W261 (own_EL hw) (kn := false) (fun q => nomatch q) (wd0 hw) (wd1 hw) (rm_draw hw hs (q := p0) W261.K.O) (wd3 hw) (wd2 hw) (by decide) (argsL := [(.long p0)]) (rest := []) rfl pd_28J29Ljava2flang2fString3b rfl rfl (Wd := 0) rfl (by decide) (by decide) (by decide) (by decide) at_20 rfl ?_
    intro T262 h262 L262 v262 k1_262 W262 C262 q262
    obtain ⟨a262, c262, rfl, ga262, X262, S262, ok262, hl262⟩ := q262
    show G (T262.setTop (mkF m 23 #[.val (.long p0), .second, .val (.long p2), .second, .val (.long p4), .second, .val (.int p6), .val (.ref a255), .val (.ref a257), .unset, .unset, .unset, .unset, .unset, .unset] [(.ref a262)]))
    refine own_goto W262.K at_23 (pc' := 31) (by decide) (by decide) ?_
    refine own_astore W262.K (Ls' := #[.val (.long p0), .second, .val (.long p2), .second, .val (.long p4), .second, .val (.int p6), .val (.ref a255), .val (.ref a257), .val (.ref a262), .unset, .unset, .unset, .unset, .unset]) at_31 rfl rfl rfl ?_
    have W263 := W262.same W262.K
    have X12 := X257
    have n21 : a257 ≠ a255 := Nat.ne_of_gt (Nat.lt_of_lt_of_le S255.exa.lt ga257)
    have n31 : a262 ≠ a255 := Nat.ne_of_gt (Nat.lt_of_lt_of_le (S255.exa.ext X257).lt ga262)
    have n23 : a257 ≠ a262 := Nat.ne_of_lt (Nat.lt_of_lt_of_le S257.exa.lt ga262)
    have g1 : Z.heap.size ≤ a255 := Nat.le_trans O0.1 ga255
    have g3 : Z.heap.size ≤ a262 := Nat.le_trans (Nat.le_trans O0.1 (own_ext_trans X255 X257).1) ga262
    exact law_tail hw hs SE SL EL0 FA0 FE0 VA0 (fun h' hle => ⟨⟨rfl, Nat.le_trans W263.le hle⟩, fun q => nomatch q⟩) (W263.K.more (by decide) (by decide)) ((S255.ext X257).ext X262) (S257.ext X262) S262 g1 g3 n21 n31 n23 ok255 ok262 hl255 hl262
set_option maxRecDepth 65536 in
set_option maxHeartbeats 40000000 in
theorem comes_1 {Post : Tables → Env → Array Value → State → Outcome → State → Prop} (hpost : ∀ tb e args s v u, (limb_1_1.after args s (.returned v) u = true ∧ limb_1_2.after args s (.returned v) u = true ∧ True) → ReturnedEndW s (.returned v) u (Jvm.fieldLocs frame_1_writes args s ++ Jvm.arrayLocs frame_1_arrays args s ++ Jvm.staticLocs frame_1_statics s) 40 1280 → Post tb e args s (.returned v) u) :
    ArmFor flags0 classFile x code maxLocals ret World_1 tables_1 room_1 Calls_1 rest_1 Pre_1 Post := by
  intro l hfl _ _ p e ha hc hk s m args below hf hA hF happ hP
  obtain ⟨hcalls, hrest, hpre⟩ := hP
  obtain ⟨-, -, -, hnamed, -, -, -, hat⟩ := (Spec.applies_iff hf).mp happ
  obtain ⟨hg, hn⟩ := and_e (Cond.before_iff.mp (show (Jvm.Cond.and given_1 narrow_1).before args s = true from hpre))
  obtain ⟨gg1, gg2⟩ := and_e hg
  obtain ⟨gg3, gg4⟩ := and_e gg2
  obtain ⟨gg5, gg6⟩ := and_e gg4
  obtain ⟨gg7, gg8⟩ := and_e gg6
  obtain ⟨w0, w1, w2, w3, rfl⟩ : ∃ w0 w1 w2 w3 : Value, args = #[w0, w1, w2, w3] := by
    have hs : args.size = 4 := by simpa [Cond.value, given_1] using gg1
    obtain ⟨L⟩ := args
    match L, hs with
    | [w0, w1, w2, w3], _ => exact ⟨w0, w1, w2, w3, rfl⟩
  have hw := fun d (hd : d ∈ tables_1) => atoms_spec (ws := Jvm.Cond.code x code maxLocals ret :: tables_1) hat d (List.mem_cons_of_mem _ hd)
  have hfit : Fit s := fun {y c} hc i hi => by
    obtain ⟨ha, rfl⟩ := Array.getElem?_eq_some_iff.mp hc
    have q := List.all_eq_true.mp ((Array.all_eq_true_iff_forall_mem.mp hF) _ (Array.getElem_mem ha)) i (List.mem_range.mpr hi)
    simpa [Array.getElem?_eq_getElem hi] using q
  obtain ⟨hsets, hown0⟩ := atoms_of _ (rest_1_c_eq ▸ (show rest_1_c.before _ s = true from hrest))
  obtain ⟨i0, ei0⟩ := isL_v gg3
  obtain rfl : w0 = (.long i0) := Option.some.inj ei0
  obtain ⟨i1, ei1⟩ := isL_v gg5
  obtain rfl : w1 = (.long i1) := Option.some.inj ei1
  obtain ⟨i2, ei2⟩ := isL_v gg7
  obtain rfl : w2 = (.long i2) := Option.some.inj ei2
  obtain ⟨i3, ei3⟩ := is_v gg8
  obtain rfl : w3 = (.int i3) := Option.some.inj ei3
  have hCH : CHv s consts_1 s.vm s.heap := CHv.start (own_EL hw) hcalls.1 (st2 hsets) (wd25 hw) (wd7 hw)
  obtain ⟨n, o, h1, h2, h3, _, L, rfl, ⟨N, O, rfl⟩, -, hq⟩ := rm_law hw hsets (own_ext_refl s.heap) hfit p e ha hc hk s m _ below hf ((Spec.applies_iff_loose hf).mp happ).1 ⟨rfl, State.Warmed39.refl s, rfl, hCH⟩ (fun q => nomatch q)
  refine ⟨n, _, h1, h2, h3, hpost _ _ _ _ _ _ ⟨Cond.after_iff.mpr rfl, Cond.after_iff.mpr (eq_i res_at (Term.int_eval (1)) rfl), trivial⟩ ⟨hq.1, hq.2.1, hq.2.2.1, (hq.2.2.2.sift fun y hy => Or.inr (N y hy)).mono (by decide) (by decide)⟩⟩
theorem main_1_1 : Claimed_1_1 := comes_1 fun _ _ _ _ _ _ h hF => ⟨h.1, hF⟩
theorem main_1_2 : Claimed_1_2 := comes_1 fun _ _ _ _ _ _ h hF => ⟨h.2.1, hF⟩
end Jvm.Pilot.@@N@@
namespace Jvm.Pilot.@@N@@
open Jvm Jvm.ClassFile Sem Op Lib Jvm.Free Jvm.Stand Jvm.Pilot.@@N@@.Jvm.D
/-! MADE BY PROGRAM (witnessworld.py) out of the Statement's table words and the real class files: 42 classes; the members and pool entries that the words name. The judged class is class 1, her method 2. -/
namespace start1
open Jvm.ClassFile
def u (s : String) : CpInfo := .utf8 (stringToUtf16 s)
/-- a pool by its gaps: so many unusable entries, then the entry; so many at the end -/
def gap : Nat → List CpInfo → List CpInfo
  | 0, r => r
  | n + 1, r => .unusable :: gap n r
def poolList (es : List (Nat × CpInfo)) (last : Nat) : List CpInfo := es.foldr (fun e r => gap e.1 (e.2 :: r)) (gap last [])
def pool (es : List (Nat × CpInfo)) (last : Nat) : Array CpInfo := ⟨poolList es last⟩
def fileOf (pool : Array CpInfo) (this : Nat) (attrs : Array Attribute := #[]) (ms : Array MethodInfo := #[]) (fl : Nat := 33) (sup : Nat := 0) (ifs : Array Nat := #[]) (fds : Array FieldInfo := #[]) : ClassFile where
  minorVersion := 0
  majorVersion := 65
  constantPool := pool
  accessFlags := fl
  thisClass := this
  superClass := sup
  interfaces := ifs
  fields := fds
  methods := ms
  attributes := attrs
def plain (name : String) (sup : Option ClassId) : Class where
  name := name
  kind := .ordinary
  loader := none
  accessFlags := 33
  super := sup
  interfaces := #[]
  cf := none
  fields := #[]
  methods := #[]
  instanceTypes := #[]
  staticTypes := #[]
  resolved := #[]
  callSites := []
  init := .initialized
  statics := none
  mirror := none

def pool0 : Array CpInfo := pool [(5, u "<init>"), (0, u "()V"), (1, .class_ 10), (1, u "java/lang/Object"), (16, u "hashCode"), (0, u "()I"), (63, u "equals"), (0, u "(Ljava/lang/Object;)Z")] 30

def k0c0 : Code := { maxStack := 0, maxLocals := 1, code := object_method_1_code, exceptionTable := #[], attributes := #[] }
def k0m0 : Method := { name := "<init>", desc := "()V", sig := { parameters := [], returnType := none }, accessFlags := 1, code := some k0c0 }
def k0m1 : Method := { name := "hashCode", desc := "()I", sig := { parameters := [], returnType := some .int }, accessFlags := 257, code := none }
def k0c2 : Code := { maxStack := 2, maxLocals := 2, code := ⟨#[0x2a, 0x2b, 0xa6, 0x00, 0x07, 0x04, 0xa7, 0x00, 0x04, 0x03, 0xac]⟩, exceptionTable := #[], attributes := #[] }
def k0m2 : Method := { name := "equals", desc := "(Ljava/lang/Object;)Z", sig := { parameters := [(.object "java/lang/Object")], returnType := some .boolean }, accessFlags := 1, code := some k0c2 }
/-- java/lang/Object -/
def k0 : Class := { plain "java/lang/Object" none with
  accessFlags := 33
  interfaces := #[]
  cf := some (fileOf pool0 8 #[] #[{ accessFlags := 1, nameIndex := 5, descriptorIndex := 6, attributes := #[] }, { accessFlags := 257, nameIndex := 27, descriptorIndex := 28, attributes := #[] }, { accessFlags := 1, nameIndex := 92, descriptorIndex := 93, attributes := #[] }] 33 0 #[] #[])
  fields := #[]
  methods := #[k0m0, k0m1, k0m2]
  instanceTypes := #[]
  staticTypes := #[]
  resolved := Array.replicate 124 none
  statics := none }

def pool1 : Array CpInfo := pool [(2, .class_ 4), (1, u "java/lang/Object"), (0, u "<init>"), (0, u "()V"), (0, .long 3), (1, .long 255), (1, .class_ 12), (0, u "java/lang/String"), (0, .methodref 11 14), (0, .nameAndType 5 15), (0, u "([C)V"), (0, .methodref 11 17), (0, .nameAndType 18 19), (0, u "valueOf"), (0, u "(C)Ljava/lang/String;"), (0, .methodref 21 22), (0, .class_ 23), (0, .nameAndType 24 25), (0, u "com/example/peergrove/peergrove/service/FormOfPinLaw"), (0, u "draw"), (0, u "(J)Ljava/lang/String;"), (0, .methodref 27 28), (0, .class_ 29), (0, .nameAndType 30 31), (0, u "com/example/peergrove/peergrove/service/Form"), (0, u "of"), (0, u "(Ljava/lang/String;Ljava/lang/String;)Lcom/example/peergrove/peergrove/service/Form;"), (0, .methodref 27 33), (0, .nameAndType 34 35), (0, u "all"), (0, u "(Ljava/lang/String;)Ljava/util/List;"), (0, .methodref 27 37), (0, .nameAndType 38 39), (0, u "has"), (0, u "(Ljava/lang/String;)Z"), (0, .interfaceMethodref 41 42), (0, .class_ 43), (0, .nameAndType 44 45), (0, u "java/util/List"), (0, u "size"), (0, u "()I"), (0, .interfaceMethodref 41 47), (0, .nameAndType 48 49), (0, u "get"), (0, u "(I)Ljava/lang/Object;"), (0, .methodref 11 51), (0, .nameAndType 52 53), (0, u "equals"), (0, u "(Ljava/lang/Object;)Z"), (3, u "law"), (0, u "(JJJI)Z")] 2

def k1m0 : Method := { name := "<init>", desc := "()V", sig := { parameters := [], returnType := none }, accessFlags := 2, code := none }
def k1c1 : Code := { maxStack := 6, maxLocals := 6, code := method_2_code, exceptionTable := #[], attributes := #[] }
def k1m1 : Method := { name := "draw", desc := "(J)Ljava/lang/String;", sig := { parameters := [.long], returnType := some (.object "java/lang/String") }, accessFlags := 10, code := some k1c1 }
def k1c2 : Code := { maxStack := 2, maxLocals := 15, code := code, exceptionTable := #[], attributes := #[] }
def k1m2 : Method := { name := "law", desc := "(JJJI)Z", sig := { parameters := [.long, .long, .long, .int], returnType := some .boolean }, accessFlags := 9, code := some k1c2 }
/-- com/example/peergrove/peergrove/service/FormOfPinLaw -/
def k1 : Class := { plain "com/example/peergrove/peergrove/service/FormOfPinLaw" (some 0) with
  accessFlags := 49
  interfaces := #[]
  cf := some (fileOf pool1 21 #[] #[{ accessFlags := 2, nameIndex := 5, descriptorIndex := 6, attributes := #[] }, { accessFlags := 10, nameIndex := 24, descriptorIndex := 25, attributes := #[] }, { accessFlags := 9, nameIndex := 57, descriptorIndex := 58, attributes := #[] }] 49 2 #[] #[])
  fields := #[]
  methods := #[k1m0, k1m1, k1m2]
  instanceTypes := #[]
  staticTypes := #[]
  resolved := Array.replicate 61 none
  statics := none }

def pool2 : Array CpInfo := pool [(1, .class_ 2), (0, u "java/io/Serializable"), (0, .class_ 4), (0, u "java/lang/Object")] 2

/-- java/io/Serializable -/
def k2 : Class := { plain "java/io/Serializable" (some 0) with
  accessFlags := 1537
  interfaces := #[]
  cf := some (fileOf pool2 1 #[] #[] 1537 3 #[] #[])
  fields := #[]
  methods := #[]
  instanceTypes := #[]
  staticTypes := #[]
  resolved := Array.replicate 7 none
  statics := none }

def pool3 : Array CpInfo := pool [(1, .class_ 2), (0, u "java/lang/Comparable"), (0, .class_ 4), (0, u "java/lang/Object")] 7

/-- java/lang/Comparable -/
def k3 : Class := { plain "java/lang/Comparable" (some 0) with
  accessFlags := 1537
  interfaces := #[]
  cf := some (fileOf pool3 1 #[] #[] 1537 3 #[] #[])
  fields := #[]
  methods := #[]
  instanceTypes := #[]
  staticTypes := #[]
  resolved := Array.replicate 12 none
  statics := none }

def pool4 : Array CpInfo := pool [(2, .class_ 4), (1, u "java/lang/CharSequence"), (42, .class_ 48), (0, u "java/lang/CharSequence$1CodePointIterator"), (10, .class_ 60), (0, u "java/lang/CharSequence$1CharIterator"), (5, .class_ 67), (0, u "java/lang/Object")] 63

/-- java/lang/CharSequence -/
def k4 : Class := { plain "java/lang/CharSequence" (some 0) with
  accessFlags := 1537
  interfaces := #[]
  cf := some (fileOf pool4 2 #[.nestMembers #[47, 59]] #[] 1537 66 #[] #[])
  fields := #[]
  methods := #[]
  instanceTypes := #[]
  staticTypes := #[]
  resolved := Array.replicate 131 none
  statics := none }

def pool5 : Array CpInfo := pool [(1, .class_ 2), (0, u "java/lang/constant/Constable"), (0, .class_ 4), (0, u "java/lang/Object")] 6

/-- java/lang/constant/Constable -/
def k5 : Class := { plain "java/lang/constant/Constable" (some 0) with
  accessFlags := 1537
  interfaces := #[]
  cf := some (fileOf pool5 1 #[] #[] 1537 3 #[] #[])
  fields := #[]
  methods := #[]
  instanceTypes := #[]
  staticTypes := #[]
  resolved := Array.replicate 11 none
  statics := none }

def pool6 : Array CpInfo := pool [(1, .class_ 2), (0, u "java/lang/constant/ConstantDesc"), (0, .class_ 4), (0, u "java/lang/Object")] 32

/-- java/lang/constant/ConstantDesc -/
def k6 : Class := { plain "java/lang/constant/ConstantDesc" (some 0) with
  accessFlags := 1537
  interfaces := #[]
  cf := some (fileOf pool6 1 #[] #[] 1537 3 #[] #[])
  fields := #[]
  methods := #[]
  instanceTypes := #[]
  staticTypes := #[]
  resolved := Array.replicate 37 none
  statics := none }

def pool7 : Array CpInfo := pool [(1, .methodref 2 3), (0, .class_ 4), (0, .nameAndType 5 6), (0, u "java/lang/Object"), (0, u "<init>"), (0, u "()V"), (0, .string 8), (0, u ""), (0, .fieldref 10 11), (0, .class_ 12), (0, .nameAndType 13 14), (0, u "java/lang/String"), (0, u "value"), (0, u "[B"), (0, .fieldref 10 16), (0, .nameAndType 17 18), (0, u "coder"), (0, u "B"), (0, .fieldref 10 20), (0, .nameAndType 21 22), (0, u "hash"), (0, u "I"), (0, .fieldref 10 24), (0, .nameAndType 25 26), (0, u "hashIsZero"), (0, u "Z"), (0, .methodref 10 28), (0, .nameAndType 5 29), (0, u "([CIILjava/lang/Void;)V"), (8, .fieldref 10 39), (0, .nameAndType 40 26), (0, u "COMPACT_STRINGS"), (1, .class_ 44), (1, u "java/lang/StringUTF16"), (0, u "compress"), (1, .methodref 42 48), (0, .nameAndType 49 50), (0, u "coderFromArrayLen"), (0, u "([BI)B"), (2, u "toBytes"), (53, .class_ 109), (1, u "java/lang/StringLatin1"), (32, u "()Z"), (34, .methodref 42 178), (0, .nameAndType 45 179), (0, u "([CII)[B"), (29, .methodref 10 210), (0, .nameAndType 5 211), (0, u "([BB)V"), (122, u "()I"), (34, u "(C)Z"), (122, .methodref 10 493), (0, .nameAndType 494 142), (0, u "isLatin1"), (46, .methodref 107 542), (0, .nameAndType 543 544), (0, u "equals"), (0, u "([B[B)Z"), (28, u "(Ljava/lang/Object;)Z"), (1, .class_ 576), (0, u "java/lang/CharSequence"), (22, u "CASE_INSENSITIVE_ORDER"), (0, u "Ljava/util/Comparator;"), (27, .methodref 107 629), (0, .nameAndType 630 631), (0, u "hashCode"), (0, u "([B)I"), (150, u "valueOf"), (0, u "(C)Ljava/lang/String;"), (226, u "([C)V"), (4, .methodref 107 1016), (0, .nameAndType 1017 369), (0, u "canEncode"), (0, .methodref 107 1019), (0, .nameAndType 53 1020), (0, u "(C)[B"), (80, u "serialPersistentFields"), (0, u "[Ljava/io/ObjectStreamField;"), (0, .class_ 1104), (0, u "java/lang/String$CaseInsensitiveComparator"), (1, .class_ 1107), (0, u "java/io/Serializable"), (0, .class_ 1109), (0, u "java/lang/Comparable"), (0, .class_ 1111), (0, u "java/lang/constant/Constable"), (0, .class_ 1113), (0, u "java/lang/constant/ConstantDesc"), (2, u "serialVersionUID"), (0, u "J"), (3, u "REPL"), (0, u "C"), (2, u "LATIN1"), (1, u "UTF16")] 323

def k7m0 : Method := { name := "<init>", desc := "()V", sig := { parameters := [], returnType := none }, accessFlags := 1, code := none }
def k7c1 : Code := { maxStack := 5, maxLocals := 2, code := jdk_42_method_3_code, exceptionTable := #[], attributes := #[] }
def k7m1 : Method := { name := "<init>", desc := "([C)V", sig := { parameters := [(.array .char)], returnType := none }, accessFlags := 1, code := some k7c1 }
def k7c2 : Code := { maxStack := 2, maxLocals := 3, code := jdk_42_method_66_code, exceptionTable := #[], attributes := #[] }
def k7m2 : Method := { name := "equals", desc := "(Ljava/lang/Object;)Z", sig := { parameters := [(.object "java/lang/Object")], returnType := some .boolean }, accessFlags := 1, code := some k7c2 }
def k7c3 : Code := { maxStack := 2, maxLocals := 2, code := jdk_42_method_78_code, exceptionTable := #[], attributes := #[] }
def k7m3 : Method := { name := "hashCode", desc := "()I", sig := { parameters := [], returnType := some .int }, accessFlags := 1, code := some k7c3 }
def k7c4 : Code := { maxStack := 4, maxLocals := 1, code := jdk_42_method_139_code, exceptionTable := #[], attributes := #[] }
def k7m4 : Method := { name := "valueOf", desc := "(C)Ljava/lang/String;", sig := { parameters := [.char], returnType := some (.object "java/lang/String") }, accessFlags := 9, code := some k7c4 }
def k7c5 : Code := { maxStack := 4, maxLocals := 6, code := jdk_42_method_149_code, exceptionTable := #[], attributes := #[] }
def k7m5 : Method := { name := "<init>", desc := "([CIILjava/lang/Void;)V", sig := { parameters := [(.array .char), .int, .int, (.object "java/lang/Void")], returnType := none }, accessFlags := 2, code := some k7c5 }
def k7c6 : Code := { maxStack := 2, maxLocals := 3, code := jdk_42_method_151_code, exceptionTable := #[], attributes := #[] }
def k7m6 : Method := { name := "<init>", desc := "([BB)V", sig := { parameters := [(.array .byte), .byte], returnType := none }, accessFlags := 0, code := some k7c6 }
def k7c7 : Code := { maxStack := 1, maxLocals := 1, code := jdk_42_method_154_code, exceptionTable := #[], attributes := #[] }
def k7m7 : Method := { name := "isLatin1", desc := "()Z", sig := { parameters := [], returnType := some .boolean }, accessFlags := 0, code := some k7c7 }
/-- java/lang/String -/
def k7 : Class := { plain "java/lang/String" (some 0) with
  accessFlags := 49
  interfaces := #[2, 3, 4, 5, 6]
  cf := some (fileOf pool7 10 #[.nestMembers #[1103]] #[{ accessFlags := 1, nameIndex := 5, descriptorIndex := 6, attributes := #[] }, { accessFlags := 1, nameIndex := 5, descriptorIndex := 1010, attributes := #[] }, { accessFlags := 1, nameIndex := 543, descriptorIndex := 573, attributes := #[] }, { accessFlags := 1, nameIndex := 630, descriptorIndex := 334, attributes := #[] }, { accessFlags := 9, nameIndex := 782, descriptorIndex := 783, attributes := #[] }, { accessFlags := 2, nameIndex := 5, descriptorIndex := 29, attributes := #[] }, { accessFlags := 0, nameIndex := 5, descriptorIndex := 211, attributes := #[] }, { accessFlags := 0, nameIndex := 494, descriptorIndex := 142, attributes := #[] }] 49 2 #[1106, 1108, 575, 1110, 1112] #[{ accessFlags := 18, nameIndex := 13, descriptorIndex := 14, attributes := #[] }, { accessFlags := 18, nameIndex := 17, descriptorIndex := 18, attributes := #[] }, { accessFlags := 2, nameIndex := 21, descriptorIndex := 22, attributes := #[] }, { accessFlags := 2, nameIndex := 25, descriptorIndex := 26, attributes := #[] }, { accessFlags := 26, nameIndex := 1116, descriptorIndex := 1117, attributes := #[] }, { accessFlags := 24, nameIndex := 40, descriptorIndex := 26, attributes := #[] }, { accessFlags := 26, nameIndex := 1101, descriptorIndex := 1102, attributes := #[] }, { accessFlags := 26, nameIndex := 1121, descriptorIndex := 1122, attributes := #[] }, { accessFlags := 25, nameIndex := 599, descriptorIndex := 600, attributes := #[] }, { accessFlags := 24, nameIndex := 1125, descriptorIndex := 18, attributes := #[] }, { accessFlags := 24, nameIndex := 1127, descriptorIndex := 18, attributes := #[] }])
  fields := #[{ name := "value", type := (.array .byte), accessFlags := 18, slot := 0, constantValue := 0 }, { name := "coder", type := .byte, accessFlags := 18, slot := 1, constantValue := 0 }, { name := "hash", type := .int, accessFlags := 2, slot := 2, constantValue := 0 }, { name := "hashIsZero", type := .boolean, accessFlags := 2, slot := 3, constantValue := 0 }, { name := "serialVersionUID", type := .long, accessFlags := 26, slot := 0, constantValue := 0 }, { name := "COMPACT_STRINGS", type := .boolean, accessFlags := 24, slot := 1, constantValue := 0 }, { name := "serialPersistentFields", type := (.array (.object "java/io/ObjectStreamField")), accessFlags := 26, slot := 2, constantValue := 0 }, { name := "REPL", type := .char, accessFlags := 26, slot := 3, constantValue := 0 }, { name := "CASE_INSENSITIVE_ORDER", type := (.object "java/util/Comparator"), accessFlags := 25, slot := 4, constantValue := 0 }, { name := "LATIN1", type := .byte, accessFlags := 24, slot := 5, constantValue := 0 }, { name := "UTF16", type := .byte, accessFlags := 24, slot := 6, constantValue := 0 }]
  methods := #[k7m0, k7m1, k7m2, k7m3, k7m4, k7m5, k7m6, k7m7]
  instanceTypes := #[(.array .byte), .byte, .int, .boolean]
  staticTypes := #[.long, .boolean, (.array (.object "java/io/ObjectStreamField")), .char, (.object "java/util/Comparator"), .byte, .byte]
  resolved := Array.replicate 1451 none
  statics := some 0 }

def pool8 : Array CpInfo := pool [(6, .class_ 8), (1, u "java/lang/Object"), (0, u "<init>"), (0, u "()V"), (1, .class_ 14), (1, u "java/lang/StringUTF16"), (31, u "$assertionsDisabled"), (0, u "Z"), (13, u "HI_BYTE_SHIFT"), (0, u "I"), (2, u "LO_BYTE_SHIFT"), (49, .methodref 12 116), (0, .nameAndType 117 118), (0, u "compress"), (0, u "([CI[BII)I"), (3, u "([CII)[B"), (138, u "coderFromArrayLen"), (0, u "([BI)B"), (106, .class_ 371), (1, u "java/lang/StringUTF16$LinesSpliterator"), (58, u "MAX_LENGTH"), (196, .class_ 628), (0, u "java/lang/StringUTF16$CodePointsSpliterator"), (0, .class_ 630), (0, u "java/lang/StringUTF16$CharsSpliterator")] 4

def k8m0 : Method := { name := "<init>", desc := "()V", sig := { parameters := [], returnType := none }, accessFlags := 0, code := none }
def k8c1 : Code := { maxStack := 2, maxLocals := 2, code := jdk_52_method_15_code, exceptionTable := #[], attributes := #[] }
def k8m1 : Method := { name := "coderFromArrayLen", desc := "([BI)B", sig := { parameters := [(.array .byte), .int], returnType := some .byte }, accessFlags := 8, code := some k8c1 }
def k8c2 : Code := { maxStack := 5, maxLocals := 6, code := jdk_52_method_16_code, exceptionTable := #[], attributes := #[] }
def k8m2 : Method := { name := "compress", desc := "([CII)[B", sig := { parameters := [(.array .char), .int, .int], returnType := some (.array .byte) }, accessFlags := 9, code := some k8c2 }
def k8c3 : Code := { maxStack := 3, maxLocals := 7, code := jdk_52_method_21_code, exceptionTable := #[], attributes := #[] }
def k8m3 : Method := { name := "compress", desc := "([CI[BII)I", sig := { parameters := [(.array .char), .int, (.array .byte), .int, .int], returnType := some .int }, accessFlags := 9, code := some k8c3 }
/-- java/lang/StringUTF16 -/
def k8 : Class := { plain "java/lang/StringUTF16" (some 0) with
  accessFlags := 48
  interfaces := #[]
  cf := some (fileOf pool8 12 #[.nestMembers #[627, 629, 369]] #[{ accessFlags := 0, nameIndex := 9, descriptorIndex := 10, attributes := #[] }, { accessFlags := 8, nameIndex := 261, descriptorIndex := 262, attributes := #[] }, { accessFlags := 9, nameIndex := 117, descriptorIndex := 122, attributes := #[] }, { accessFlags := 9, nameIndex := 117, descriptorIndex := 118, attributes := #[] }] 48 6 #[] #[{ accessFlags := 26, nameIndex := 61, descriptorIndex := 62, attributes := #[] }, { accessFlags := 26, nameIndex := 65, descriptorIndex := 62, attributes := #[] }, { accessFlags := 24, nameIndex := 430, descriptorIndex := 62, attributes := #[] }, { accessFlags := 4120, nameIndex := 46, descriptorIndex := 47, attributes := #[] }])
  fields := #[{ name := "HI_BYTE_SHIFT", type := .int, accessFlags := 26, slot := 0, constantValue := 0 }, { name := "LO_BYTE_SHIFT", type := .int, accessFlags := 26, slot := 1, constantValue := 0 }, { name := "MAX_LENGTH", type := .int, accessFlags := 24, slot := 2, constantValue := 0 }, { name := "$assertionsDisabled", type := .boolean, accessFlags := 4120, slot := 3, constantValue := 0 }]
  methods := #[k8m0, k8m1, k8m2, k8m3]
  instanceTypes := #[]
  staticTypes := #[.int, .int, .int, .boolean]
  resolved := Array.replicate 635 none
  statics := none }

def pool9 : Array CpInfo := pool [(4, .class_ 6), (1, u "java/lang/Object"), (0, u "<init>"), (0, u "()V"), (5, .class_ 16), (1, u "java/lang/StringLatin1"), (28, .class_ 47), (1, u "jdk/internal/util/ArraysSupport"), (9, u "([B)I"), (26, .methodref 45 85), (0, .nameAndType 86 87), (0, u "vectorizedHashCode"), (0, u "(Ljava/lang/Object;IIII)I"), (2, u "canEncode"), (14, u "(C)Z"), (15, u "$assertionsDisabled"), (0, u "Z"), (98, .class_ 223), (1, u "java/lang/StringLatin1$LinesSpliterator"), (57, u "equals"), (0, u "([B[B)Z"), (15, u "hashCode"), (81, u "toBytes"), (1, u "(C)[B"), (7, .class_ 391), (0, u "java/lang/StringLatin1$CharsSpliterator")] 3

def k9m0 : Method := { name := "<init>", desc := "()V", sig := { parameters := [], returnType := none }, accessFlags := 0, code := none }
def k9c1 : Code := { maxStack := 2, maxLocals := 1, code := jdk_43_method_3_code, exceptionTable := #[], attributes := #[] }
def k9m1 : Method := { name := "canEncode", desc := "(C)Z", sig := { parameters := [.char], returnType := some .boolean }, accessFlags := 9, code := some k9c1 }
def k9c2 : Code := { maxStack := 3, maxLocals := 3, code := jdk_43_method_13_code, exceptionTable := #[], attributes := #[] }
def k9m2 : Method := { name := "equals", desc := "([B[B)Z", sig := { parameters := [(.array .byte), (.array .byte)], returnType := some .boolean }, accessFlags := 9, code := some k9c2 }
def k9c3 : Code := { maxStack := 5, maxLocals := 1, code := jdk_43_method_21_code, exceptionTable := #[], attributes := #[] }
def k9m3 : Method := { name := "hashCode", desc := "([B)I", sig := { parameters := [(.array .byte)], returnType := some .int }, accessFlags := 9, code := some k9c3 }
def k9c4 : Code := { maxStack := 4, maxLocals := 1, code := jdk_43_method_46_code, exceptionTable := #[], attributes := #[] }
def k9m4 : Method := { name := "toBytes", desc := "(C)[B", sig := { parameters := [.char], returnType := some (.array .byte) }, accessFlags := 9, code := some k9c4 }
/-- java/lang/StringLatin1 -/
def k9 : Class := { plain "java/lang/StringLatin1" (some 0) with
  accessFlags := 48
  interfaces := #[]
  cf := some (fileOf pool9 14 #[.nestMembers #[390, 221]] #[{ accessFlags := 0, nameIndex := 7, descriptorIndex := 8, attributes := #[] }, { accessFlags := 9, nameIndex := 90, descriptorIndex := 105, attributes := #[] }, { accessFlags := 9, nameIndex := 281, descriptorIndex := 282, attributes := #[] }, { accessFlags := 9, nameIndex := 298, descriptorIndex := 57, attributes := #[] }, { accessFlags := 9, nameIndex := 380, descriptorIndex := 382, attributes := #[] }] 48 4 #[] #[{ accessFlags := 4120, nameIndex := 121, descriptorIndex := 122, attributes := #[] }])
  fields := #[{ name := "$assertionsDisabled", type := .boolean, accessFlags := 4120, slot := 0, constantValue := 0 }]
  methods := #[k9m0, k9m1, k9m2, k9m3, k9m4]
  instanceTypes := #[]
  staticTypes := #[.boolean]
  resolved := Array.replicate 395 none
  statics := none }

def pool10 : Array CpInfo := pool [(1, .methodref 2 3), (0, .class_ 4), (0, .nameAndType 5 6), (0, u "java/lang/Object"), (0, u "<init>"), (0, u "()V"), (0, .fieldref 8 9), (0, .class_ 10), (0, .nameAndType 11 12), (0, u "com/example/peergrove/peergrove/service/Form"), (0, u "values"), (0, u "Ljava/util/Map;"), (0, .class_ 14), (0, u "java/util/LinkedHashMap"), (0, .methodref 13 3), (0, .methodref 8 17), (0, .nameAndType 5 18), (0, u "(Ljava/util/Map;)V"), (15, .class_ 36), (1, u "java/util/Map"), (2, .class_ 40), (0, u "java/util/List"), (3, u "(Ljava/lang/Object;)Z"), (22, .interfaceMethodref 39 68), (0, .nameAndType 69 70), (0, u "of"), (0, u "(Ljava/lang/Object;)Ljava/util/List;"), (0, .interfaceMethodref 34 72), (0, .nameAndType 73 74), (0, u "put"), (0, u "(Ljava/lang/Object;Ljava/lang/Object;)Ljava/lang/Object;"), (25, .interfaceMethodref 34 101), (0, .nameAndType 102 44), (0, u "containsKey"), (0, .interfaceMethodref 39 104), (0, .nameAndType 69 105), (0, u "()Ljava/util/List;"), (0, .interfaceMethodref 34 107), (0, .nameAndType 108 74), (0, u "getOrDefault"), (0, .class_ 110), (0, u "java/util/Collection"), (0, .interfaceMethodref 39 112), (0, .nameAndType 113 114), (0, u "copyOf"), (0, u "(Ljava/util/Collection;)Ljava/util/List;"), (2, u "all"), (0, u "(Ljava/lang/String;)Ljava/util/List;"), (71, u "(Ljava/lang/String;Ljava/lang/String;)Lcom/example/peergrove/peergrove/service/Form;"), (2, u "has"), (0, u "(Ljava/lang/String;)Z")] 48

def k10c0 : Code := { maxStack := 2, maxLocals := 2, code := prog_10_method_1_code, exceptionTable := #[], attributes := #[] }
def k10m0 : Method := { name := "<init>", desc := "(Ljava/util/Map;)V", sig := { parameters := [(.object "java/util/Map")], returnType := none }, accessFlags := 2, code := some k10c0 }
def k10c1 : Code := { maxStack := 3, maxLocals := 3, code := prog_10_method_4_code, exceptionTable := #[], attributes := #[] }
def k10m1 : Method := { name := "of", desc := "(Ljava/lang/String;Ljava/lang/String;)Lcom/example/peergrove/peergrove/service/Form;", sig := { parameters := [(.object "java/lang/String"), (.object "java/lang/String")], returnType := some (.object "com/example/peergrove/peergrove/service/Form") }, accessFlags := 8, code := some k10c1 }
def k10c2 : Code := { maxStack := 2, maxLocals := 2, code := prog_10_method_6_code, exceptionTable := #[], attributes := #[] }
def k10m2 : Method := { name := "has", desc := "(Ljava/lang/String;)Z", sig := { parameters := [(.object "java/lang/String")], returnType := some .boolean }, accessFlags := 0, code := some k10c2 }
def k10c3 : Code := { maxStack := 3, maxLocals := 2, code := prog_10_method_7_code, exceptionTable := #[], attributes := #[] }
def k10m3 : Method := { name := "all", desc := "(Ljava/lang/String;)Ljava/util/List;", sig := { parameters := [(.object "java/lang/String")], returnType := some (.object "java/util/List") }, accessFlags := 0, code := some k10c3 }
/-- com/example/peergrove/peergrove/service/Form -/
def k10 : Class := { plain "com/example/peergrove/peergrove/service/Form" (some 0) with
  accessFlags := 48
  interfaces := #[]
  cf := some (fileOf pool10 8 #[] #[{ accessFlags := 2, nameIndex := 5, descriptorIndex := 18, attributes := #[] }, { accessFlags := 8, nameIndex := 69, descriptorIndex := 190, attributes := #[] }, { accessFlags := 0, nameIndex := 193, descriptorIndex := 194, attributes := #[] }, { accessFlags := 0, nameIndex := 117, descriptorIndex := 118, attributes := #[] }] 48 2 #[] #[{ accessFlags := 18, nameIndex := 11, descriptorIndex := 12, attributes := #[] }])
  fields := #[{ name := "values", type := (.object "java/util/Map"), accessFlags := 18, slot := 0, constantValue := 0 }]
  methods := #[k10m0, k10m1, k10m2, k10m3]
  instanceTypes := #[(.object "java/util/Map")]
  staticTypes := #[]
  resolved := Array.replicate 243 none
  statics := none }

def pool11 : Array CpInfo := pool [(2, .class_ 4), (1, u "java/util/Map"), (4, u "containsKey"), (0, u "(Ljava/lang/Object;)Z"), (25, .class_ 37), (0, u "java/util/Map$Entry"), (25, u "(Ljava/lang/Object;Ljava/lang/Object;)Ljava/lang/Object;"), (5, u "put"), (23, .class_ 94), (0, u "java/lang/Object"), (43, u "getOrDefault")] 124

def k11m0 : Method := { name := "containsKey", desc := "(Ljava/lang/Object;)Z", sig := { parameters := [(.object "java/lang/Object")], returnType := some .boolean }, accessFlags := 1025, code := none }
def k11m1 : Method := { name := "put", desc := "(Ljava/lang/Object;Ljava/lang/Object;)Ljava/lang/Object;", sig := { parameters := [(.object "java/lang/Object"), (.object "java/lang/Object")], returnType := some (.object "java/lang/Object") }, accessFlags := 1025, code := none }
def k11c2 : Code := { maxStack := 2, maxLocals := 4, code := ⟨#[0x2a, 0x2b, 0xb9, 0x00, 0x01, 0x02, 0x00, 0x59, 0x4e, 0xc7, 0x00, 0x0d, 0x2a, 0x2b, 0xb9, 0x00, 0x07, 0x02, 0x00, 0x99, 0x00, 0x07, 0x2d, 0xa7, 0x00, 0x04, 0x2c, 0xb0]⟩, exceptionTable := #[], attributes := #[] }
def k11m2 : Method := { name := "getOrDefault", desc := "(Ljava/lang/Object;Ljava/lang/Object;)Ljava/lang/Object;", sig := { parameters := [(.object "java/lang/Object"), (.object "java/lang/Object")], returnType := some (.object "java/lang/Object") }, accessFlags := 1, code := some k11c2 }
/-- java/util/Map -/
def k11 : Class := { plain "java/util/Map" (some 0) with
  accessFlags := 1537
  interfaces := #[]
  cf := some (fileOf pool11 2 #[.nestMembers #[36]] #[{ accessFlags := 1025, nameIndex := 9, descriptorIndex := 10, attributes := #[] }, { accessFlags := 1025, nameIndex := 69, descriptorIndex := 63, attributes := #[] }, { accessFlags := 1, nameIndex := 138, descriptorIndex := 63, attributes := #[] }] 1537 93 #[] #[])
  fields := #[]
  methods := #[k11m0, k11m1, k11m2]
  instanceTypes := #[]
  staticTypes := #[]
  resolved := Array.replicate 263 none
  statics := none }

def pool12 : Array CpInfo := pool [(1, .methodref 2 3), (0, .class_ 4), (0, .nameAndType 5 6), (0, u "java/lang/Object"), (0, u "<init>"), (0, u "()V"), (1, .class_ 10), (1, u "java/util/AbstractMap"), (42, .class_ 54), (0, u "java/util/Map"), (9, u "keySet"), (0, u "Ljava/util/Set;"), (0, .class_ 67), (0, u "java/util/AbstractMap$1"), (5, u "values"), (0, u "Ljava/util/Collection;"), (0, .class_ 76), (0, u "java/util/AbstractMap$2"), (104, .class_ 182), (0, u "java/util/AbstractMap$ViewCollection"), (0, .class_ 184), (0, u "java/util/AbstractMap$SimpleImmutableEntry"), (0, .class_ 186), (0, u "java/util/AbstractMap$SimpleEntry"), (0, .class_ 188), (0, u "java/util/AbstractMap$2$1"), (0, .class_ 190), (0, u "java/util/AbstractMap$1$1")] 5

def k12c0 : Code := { maxStack := 1, maxLocals := 1, code := jdk_71_method_1_code, exceptionTable := #[], attributes := #[] }
def k12m0 : Method := { name := "<init>", desc := "()V", sig := { parameters := [], returnType := none }, accessFlags := 4, code := some k12c0 }
/-- java/util/AbstractMap -/
def k12 : Class := { plain "java/util/AbstractMap" (some 0) with
  accessFlags := 1057
  interfaces := #[11]
  cf := some (fileOf pool12 8 #[.nestMembers #[181, 183, 185, 75, 187, 66, 189]] #[{ accessFlags := 4, nameIndex := 5, descriptorIndex := 6, attributes := #[] }] 1057 2 #[53] #[{ accessFlags := 128, nameIndex := 64, descriptorIndex := 65, attributes := #[] }, { accessFlags := 128, nameIndex := 73, descriptorIndex := 74, attributes := #[] }])
  fields := #[{ name := "keySet", type := (.object "java/util/Set"), accessFlags := 128, slot := 0, constantValue := 0 }, { name := "values", type := (.object "java/util/Collection"), accessFlags := 128, slot := 1, constantValue := 0 }]
  methods := #[k12m0]
  instanceTypes := #[(.object "java/util/Set"), (.object "java/util/Collection")]
  staticTypes := #[]
  resolved := Array.replicate 196 none
  statics := none }

def pool13 : Array CpInfo := pool [(1, .class_ 2), (0, u "java/lang/Cloneable"), (0, .class_ 4), (0, u "java/lang/Object")] 2

/-- java/lang/Cloneable -/
def k13 : Class := { plain "java/lang/Cloneable" (some 0) with
  accessFlags := 1537
  interfaces := #[]
  cf := some (fileOf pool13 1 #[] #[] 1537 3 #[] #[])
  fields := #[]
  methods := #[]
  instanceTypes := #[]
  staticTypes := #[]
  resolved := Array.replicate 7 none
  statics := none }

def pool14 : Array CpInfo := pool [(1, .methodref 2 3), (0, .class_ 4), (0, .nameAndType 5 6), (0, u "java/lang/Object"), (0, u "hashCode"), (0, u "()I"), (26, u "(Ljava/lang/Object;)I"), (6, .class_ 41), (0, u "java/util/HashMap"), (1, .methodref 44 45), (0, .class_ 46), (0, .nameAndType 47 48), (0, u "java/util/AbstractMap"), (0, u "<init>"), (0, u "()V"), (32, .fieldref 40 82), (0, .nameAndType 83 84), (0, u "loadFactor"), (0, u "F"), (3, .fieldref 40 89), (0, .nameAndType 90 91), (0, u "threshold"), (0, u "I"), (0, .float 1061158912), (8, .class_ 103), (1, u "java/util/Map"), (0, u "size"), (0, .fieldref 40 106), (0, .nameAndType 107 108), (0, u "table"), (0, u "[Ljava/util/HashMap$Node;"), (8, .methodref 40 118), (0, .nameAndType 119 120), (0, u "resize"), (0, u "()[Ljava/util/HashMap$Node;"), (2, u "entrySet"), (15, u "next"), (9, .methodref 40 150), (0, .nameAndType 151 33), (0, u "hash"), (0, .methodref 40 153), (0, .nameAndType 154 155), (0, u "putVal"), (0, u "(ILjava/lang/Object;Ljava/lang/Object;ZZ)Ljava/lang/Object;"), (0, .fieldref 40 157), (0, .nameAndType 104 91), (0, .methodref 40 159), (0, .nameAndType 160 161), (0, u "getNode"), (0, u "(Ljava/lang/Object;)Ljava/util/HashMap$Node;"), (1, .class_ 165), (1, u "java/util/HashMap$Node"), (1, u "Ljava/lang/Object;"), (0, .fieldref 163 169), (0, .nameAndType 151 91), (0, .fieldref 163 171), (0, .nameAndType 172 167), (0, u "key"), (0, .methodref 2 174), (0, .nameAndType 175 176), (0, u "equals"), (0, u "(Ljava/lang/Object;)Z"), (0, .fieldref 163 178), (0, .nameAndType 139 179), (0, u "Ljava/util/HashMap$Node;"), (0, .class_ 181), (0, u "java/util/HashMap$TreeNode"), (4, .methodref 40 187), (0, .nameAndType 188 189), (0, u "newNode"), (0, u "(ILjava/lang/Object;Ljava/lang/Object;Ljava/util/HashMap$Node;)Ljava/util/HashMap$Node;"), (12, .fieldref 40 203), (0, .nameAndType 204 91), (0, u "modCount"), (0, .methodref 40 206), (0, .nameAndType 207 208), (0, u "afterNodeInsertion"), (0, u "(Z)V"), (33, u "Ljava/util/Set;"), (0, .class_ 244), (0, u "java/util/HashMap$KeySet"), (18, .class_ 264), (0, u "java/util/HashMap$Values"), (3, .class_ 269), (0, u "java/util/HashMap$EntrySet"), (17, u "(Ljava/lang/Object;Ljava/lang/Object;)Ljava/lang/Object;"), (58, .class_ 348), (1, u "java/util/HashMap$UnsafeHolder"), (43, .class_ 393), (0, u "java/lang/Cloneable"), (0, .class_ 395), (0, u "java/io/Serializable"), (0, u "serialVersionUID"), (0, u "J"), (3, u "DEFAULT_INITIAL_CAPACITY"), (1, u "MAXIMUM_CAPACITY"), (0, u "DEFAULT_LOAD_FACTOR"), (0, u "TREEIFY_THRESHOLD"), (1, u "UNTREEIFY_THRESHOLD"), (1, u "MIN_TREEIFY_CAPACITY"), (59, u "containsKey"), (0, u "put"), (125, .class_ 597), (0, u "java/util/HashMap$EntrySpliterator"), (0, .class_ 599), (0, u "java/util/HashMap$ValueSpliterator"), (0, .class_ 601), (0, u "java/util/HashMap$KeySpliterator"), (0, .class_ 603), (0, u "java/util/HashMap$HashMapSpliterator"), (0, .class_ 605), (0, u "java/util/HashMap$EntryIterator"), (0, .class_ 607), (0, u "java/util/HashMap$ValueIterator"), (0, .class_ 609), (0, u "java/util/HashMap$KeyIterator"), (0, .class_ 611), (0, u "java/util/HashMap$HashIterator")] 17

def k14c0 : Code := { maxStack := 3, maxLocals := 2, code := jdk_69_method_1_code, exceptionTable := #[], attributes := #[] }
def k14m0 : Method := { name := "hash", desc := "(Ljava/lang/Object;)I", sig := { parameters := [(.object "java/lang/Object")], returnType := some .int }, accessFlags := 24, code := some k14c0 }
def k14c1 : Code := { maxStack := 2, maxLocals := 1, code := jdk_69_method_7_code, exceptionTable := #[], attributes := #[] }
def k14m1 : Method := { name := "<init>", desc := "()V", sig := { parameters := [], returnType := none }, accessFlags := 1, code := some k14c1 }
def k14c2 : Code := { maxStack := 4, maxLocals := 8, code := jdk_69_method_13_code, exceptionTable := #[], attributes := #[] }
def k14m2 : Method := { name := "getNode", desc := "(Ljava/lang/Object;)Ljava/util/HashMap$Node;", sig := { parameters := [(.object "java/lang/Object")], returnType := some (.object "java/util/HashMap$Node") }, accessFlags := 16, code := some k14c2 }
def k14c3 : Code := { maxStack := 2, maxLocals := 2, code := jdk_69_method_14_code, exceptionTable := #[], attributes := #[] }
def k14m3 : Method := { name := "containsKey", desc := "(Ljava/lang/Object;)Z", sig := { parameters := [(.object "java/lang/Object")], returnType := some .boolean }, accessFlags := 1, code := some k14c3 }
def k14c4 : Code := { maxStack := 6, maxLocals := 3, code := jdk_69_method_15_code, exceptionTable := #[], attributes := #[] }
def k14m4 : Method := { name := "put", desc := "(Ljava/lang/Object;Ljava/lang/Object;)Ljava/lang/Object;", sig := { parameters := [(.object "java/lang/Object"), (.object "java/lang/Object")], returnType := some (.object "java/lang/Object") }, accessFlags := 1, code := some k14c4 }
def k14c5 : Code := { maxStack := 7, maxLocals := 13, code := jdk_69_method_16_code, exceptionTable := #[], attributes := #[] }
def k14m5 : Method := { name := "putVal", desc := "(ILjava/lang/Object;Ljava/lang/Object;ZZ)Ljava/lang/Object;", sig := { parameters := [.int, (.object "java/lang/Object"), (.object "java/lang/Object"), .boolean, .boolean], returnType := some (.object "java/lang/Object") }, accessFlags := 16, code := some k14c5 }
def k14c6 : Code := { maxStack := 5, maxLocals := 14, code := jdk_69_method_17_code, exceptionTable := #[], attributes := #[] }
def k14m6 : Method := { name := "resize", desc := "()[Ljava/util/HashMap$Node;", sig := { parameters := [], returnType := some (.array (.object "java/util/HashMap$Node")) }, accessFlags := 16, code := some k14c6 }
def k14c7 : Code := { maxStack := 6, maxLocals := 5, code := ⟨#[0xbb, 0x00, 0xa3, 0x59, 0x1b, 0x2c, 0x2d, 0x19, 0x04, 0xb7, 0x01, 0x77, 0xb0]⟩, exceptionTable := #[], attributes := #[] }
def k14m7 : Method := { name := "newNode", desc := "(ILjava/lang/Object;Ljava/lang/Object;Ljava/util/HashMap$Node;)Ljava/util/HashMap$Node;", sig := { parameters := [.int, (.object "java/lang/Object"), (.object "java/lang/Object"), (.object "java/util/HashMap$Node")], returnType := some (.object "java/util/HashMap$Node") }, accessFlags := 0, code := some k14c7 }
def k14c8 : Code := { maxStack := 0, maxLocals := 2, code := ⟨#[0xb1]⟩, exceptionTable := #[], attributes := #[] }
def k14m8 : Method := { name := "afterNodeInsertion", desc := "(Z)V", sig := { parameters := [.boolean], returnType := none }, accessFlags := 0, code := some k14c8 }
/-- java/util/HashMap -/
def k14 : Class := { plain "java/util/HashMap" (some 12) with
  accessFlags := 33
  interfaces := #[11, 13, 2]
  cf := some (fileOf pool14 40 #[.nestMembers #[180, 596, 598, 600, 602, 604, 606, 608, 610, 346, 268, 263, 243, 163]] #[{ accessFlags := 24, nameIndex := 151, descriptorIndex := 33, attributes := #[] }, { accessFlags := 1, nameIndex := 47, descriptorIndex := 48, attributes := #[] }, { accessFlags := 16, nameIndex := 160, descriptorIndex := 161, attributes := #[] }, { accessFlags := 1, nameIndex := 469, descriptorIndex := 176, attributes := #[] }, { accessFlags := 1, nameIndex := 470, descriptorIndex := 287, attributes := #[] }, { accessFlags := 16, nameIndex := 154, descriptorIndex := 155, attributes := #[] }, { accessFlags := 16, nameIndex := 119, descriptorIndex := 120, attributes := #[] }, { accessFlags := 0, nameIndex := 188, descriptorIndex := 189, attributes := #[] }, { accessFlags := 0, nameIndex := 207, descriptorIndex := 208, attributes := #[] }] 33 44 #[101, 392, 394] #[{ accessFlags := 26, nameIndex := 396, descriptorIndex := 397, attributes := #[] }, { accessFlags := 24, nameIndex := 401, descriptorIndex := 91, attributes := #[] }, { accessFlags := 24, nameIndex := 403, descriptorIndex := 91, attributes := #[] }, { accessFlags := 24, nameIndex := 404, descriptorIndex := 84, attributes := #[] }, { accessFlags := 24, nameIndex := 405, descriptorIndex := 91, attributes := #[] }, { accessFlags := 24, nameIndex := 407, descriptorIndex := 91, attributes := #[] }, { accessFlags := 24, nameIndex := 409, descriptorIndex := 91, attributes := #[] }, { accessFlags := 128, nameIndex := 107, descriptorIndex := 108, attributes := #[] }, { accessFlags := 128, nameIndex := 123, descriptorIndex := 242, attributes := #[] }, { accessFlags := 128, nameIndex := 104, descriptorIndex := 91, attributes := #[] }, { accessFlags := 128, nameIndex := 204, descriptorIndex := 91, attributes := #[] }, { accessFlags := 0, nameIndex := 90, descriptorIndex := 91, attributes := #[] }, { accessFlags := 16, nameIndex := 83, descriptorIndex := 84, attributes := #[] }])
  fields := #[{ name := "serialVersionUID", type := .long, accessFlags := 26, slot := 0, constantValue := 0 }, { name := "DEFAULT_INITIAL_CAPACITY", type := .int, accessFlags := 24, slot := 1, constantValue := 0 }, { name := "MAXIMUM_CAPACITY", type := .int, accessFlags := 24, slot := 2, constantValue := 0 }, { name := "DEFAULT_LOAD_FACTOR", type := .float, accessFlags := 24, slot := 3, constantValue := 0 }, { name := "TREEIFY_THRESHOLD", type := .int, accessFlags := 24, slot := 4, constantValue := 0 }, { name := "UNTREEIFY_THRESHOLD", type := .int, accessFlags := 24, slot := 5, constantValue := 0 }, { name := "MIN_TREEIFY_CAPACITY", type := .int, accessFlags := 24, slot := 6, constantValue := 0 }, { name := "table", type := (.array (.object "java/util/HashMap$Node")), accessFlags := 128, slot := 2, constantValue := 0 }, { name := "entrySet", type := (.object "java/util/Set"), accessFlags := 128, slot := 3, constantValue := 0 }, { name := "size", type := .int, accessFlags := 128, slot := 4, constantValue := 0 }, { name := "modCount", type := .int, accessFlags := 128, slot := 5, constantValue := 0 }, { name := "threshold", type := .int, accessFlags := 0, slot := 6, constantValue := 0 }, { name := "loadFactor", type := .float, accessFlags := 16, slot := 7, constantValue := 0 }]
  methods := #[k14m0, k14m1, k14m2, k14m3, k14m4, k14m5, k14m6, k14m7, k14m8]
  instanceTypes := #[(.object "java/util/Set"), (.object "java/util/Collection"), (.array (.object "java/util/HashMap$Node")), (.object "java/util/Set"), .int, .int, .int, .float]
  staticTypes := #[.long, .int, .int, .float, .int, .int, .int]
  resolved := Array.replicate 629 none
  statics := none }

def pool15 : Array CpInfo := pool [(2, .class_ 4), (1, u "java/util/SequencedMap"), (38, .class_ 44), (0, u "java/util/SequencedMap$1SeqKeySet"), (3, .class_ 49), (0, u "java/util/SequencedMap$1SeqValues"), (1, .class_ 52), (0, u "java/util/SequencedMap$1SeqEntrySet"), (1, .class_ 55), (0, u "java/lang/Object"), (0, .class_ 57), (0, u "java/util/Map")] 48

/-- java/util/SequencedMap -/
def k15 : Class := { plain "java/util/SequencedMap" (some 0) with
  accessFlags := 1537
  interfaces := #[11]
  cf := some (fileOf pool15 2 #[.nestMembers #[51, 48, 43]] #[] 1537 54 #[56] #[])
  fields := #[]
  methods := #[]
  instanceTypes := #[]
  staticTypes := #[]
  resolved := Array.replicate 106 none
  statics := none }

def pool16 : Array CpInfo := pool [(1, .fieldref 2 3), (0, .class_ 4), (0, .nameAndType 5 6), (0, u "java/util/LinkedHashMap"), (0, u "putMode"), (0, u "I"), (0, .fieldref 2 8), (0, .nameAndType 9 10), (0, u "head"), (0, u "Ljava/util/LinkedHashMap$Entry;"), (0, .fieldref 2 12), (0, .nameAndType 13 10), (0, u "tail"), (1, .class_ 17), (1, u "java/util/LinkedHashMap$Entry"), (5, .class_ 25), (1, u "java/util/HashMap"), (1, u "()V"), (0, .methodref 15 29), (0, .nameAndType 30 31), (0, u "<init>"), (0, u "(ILjava/lang/Object;Ljava/lang/Object;Ljava/util/HashMap$Node;)V"), (0, .methodref 2 33), (0, .nameAndType 34 35), (0, u "linkNodeAtEnd"), (0, u "(Ljava/util/LinkedHashMap$Entry;)V"), (6, u "Ljava/lang/Object;"), (1, .nameAndType 45 42), (0, u "value"), (7, .methodref 2 54), (0, .nameAndType 55 56), (0, u "removeEldestEntry"), (0, u "(Ljava/util/Map$Entry;)Z"), (7, .fieldref 2 65), (0, .nameAndType 66 67), (0, u "accessOrder"), (0, u "Z"), (6, u "(Ljava/lang/Object;Ljava/lang/Object;)Ljava/lang/Object;"), (12, .methodref 23 88), (0, .nameAndType 30 27), (10, .methodref 2 100), (0, .nameAndType 101 102), (0, u "getNode"), (0, u "(Ljava/lang/Object;)Ljava/util/HashMap$Node;"), (4, .fieldref 108 44), (0, .class_ 109), (0, u "java/util/HashMap$Node"), (11, .class_ 122), (0, u "java/util/LinkedHashMap$LinkedKeySet"), (20, .class_ 144), (0, u "java/util/LinkedHashMap$LinkedValues"), (9, .class_ 155), (0, u "java/util/LinkedHashMap$LinkedEntrySet"), (44, .class_ 201), (0, u "java/util/LinkedHashMap$ReversedLinkedHashMapView"), (3, .class_ 206), (0, u "java/util/SequencedMap"), (0, u "serialVersionUID"), (0, u "J"), (5, u "PUT_NORM"), (1, u "PUT_FIRST"), (1, u "PUT_LAST"), (18, u "newNode"), (0, u "(ILjava/lang/Object;Ljava/lang/Object;Ljava/util/HashMap$Node;)Ljava/util/HashMap$Node;"), (22, u "afterNodeInsertion"), (0, u "(Z)V"), (28, u "getOrDefault"), (70, .class_ 363), (0, u "java/util/LinkedHashMap$LinkedEntryIterator"), (0, .class_ 365), (0, u "java/util/LinkedHashMap$LinkedValueIterator"), (0, .class_ 367), (0, u "java/util/LinkedHashMap$LinkedKeyIterator"), (0, .class_ 369), (0, u "java/util/LinkedHashMap$LinkedHashIterator")] 16

def k16c0 : Code := { maxStack := 2, maxLocals := 3, code := jdk_94_method_1_code, exceptionTable := #[], attributes := #[] }
def k16m0 : Method := { name := "linkNodeAtEnd", desc := "(Ljava/util/LinkedHashMap$Entry;)V", sig := { parameters := [(.object "java/util/LinkedHashMap$Entry")], returnType := none }, accessFlags := 2, code := some k16c0 }
def k16c1 : Code := { maxStack := 6, maxLocals := 6, code := jdk_94_method_4_code, exceptionTable := #[], attributes := #[] }
def k16m1 : Method := { name := "newNode", desc := "(ILjava/lang/Object;Ljava/lang/Object;Ljava/util/HashMap$Node;)Ljava/util/HashMap$Node;", sig := { parameters := [.int, (.object "java/lang/Object"), (.object "java/lang/Object"), (.object "java/util/HashMap$Node")], returnType := some (.object "java/util/HashMap$Node") }, accessFlags := 0, code := some k16c1 }
def k16c2 : Code := { maxStack := 6, maxLocals := 4, code := jdk_94_method_9_code, exceptionTable := #[], attributes := #[] }
def k16m2 : Method := { name := "afterNodeInsertion", desc := "(Z)V", sig := { parameters := [.boolean], returnType := none }, accessFlags := 0, code := some k16c2 }
def k16c3 : Code := { maxStack := 2, maxLocals := 1, code := jdk_94_method_16_code, exceptionTable := #[], attributes := #[] }
def k16m3 : Method := { name := "<init>", desc := "()V", sig := { parameters := [], returnType := none }, accessFlags := 1, code := some k16c3 }
def k16c4 : Code := { maxStack := 2, maxLocals := 4, code := jdk_94_method_21_code, exceptionTable := #[], attributes := #[] }
def k16m4 : Method := { name := "getOrDefault", desc := "(Ljava/lang/Object;Ljava/lang/Object;)Ljava/lang/Object;", sig := { parameters := [(.object "java/lang/Object"), (.object "java/lang/Object")], returnType := some (.object "java/lang/Object") }, accessFlags := 1, code := some k16c4 }
def k16c5 : Code := { maxStack := 1, maxLocals := 2, code := jdk_94_method_23_code, exceptionTable := #[], attributes := #[] }
def k16m5 : Method := { name := "removeEldestEntry", desc := "(Ljava/util/Map$Entry;)Z", sig := { parameters := [(.object "java/util/Map$Entry")], returnType := some .boolean }, accessFlags := 4, code := some k16c5 }
/-- java/util/LinkedHashMap -/
def k16 : Class := { plain "java/util/LinkedHashMap" (some 14) with
  accessFlags := 33
  interfaces := #[15]
  cf := some (fileOf pool16 2 #[.nestMembers #[200, 362, 364, 366, 368, 154, 143, 121, 15]] #[{ accessFlags := 2, nameIndex := 34, descriptorIndex := 35, attributes := #[] }, { accessFlags := 0, nameIndex := 237, descriptorIndex := 238, attributes := #[] }, { accessFlags := 0, nameIndex := 261, descriptorIndex := 262, attributes := #[] }, { accessFlags := 1, nameIndex := 30, descriptorIndex := 27, attributes := #[] }, { accessFlags := 1, nameIndex := 291, descriptorIndex := 74, attributes := #[] }, { accessFlags := 4, nameIndex := 55, descriptorIndex := 56, attributes := #[] }] 33 23 #[205] #[{ accessFlags := 26, nameIndex := 207, descriptorIndex := 208, attributes := #[] }, { accessFlags := 128, nameIndex := 9, descriptorIndex := 10, attributes := #[] }, { accessFlags := 128, nameIndex := 13, descriptorIndex := 10, attributes := #[] }, { accessFlags := 16, nameIndex := 66, descriptorIndex := 67, attributes := #[] }, { accessFlags := 24, nameIndex := 214, descriptorIndex := 6, attributes := #[] }, { accessFlags := 24, nameIndex := 216, descriptorIndex := 6, attributes := #[] }, { accessFlags := 24, nameIndex := 218, descriptorIndex := 6, attributes := #[] }, { accessFlags := 128, nameIndex := 5, descriptorIndex := 6, attributes := #[] }])
  fields := #[{ name := "serialVersionUID", type := .long, accessFlags := 26, slot := 0, constantValue := 0 }, { name := "head", type := (.object "java/util/LinkedHashMap$Entry"), accessFlags := 128, slot := 8, constantValue := 0 }, { name := "tail", type := (.object "java/util/LinkedHashMap$Entry"), accessFlags := 128, slot := 9, constantValue := 0 }, { name := "accessOrder", type := .boolean, accessFlags := 16, slot := 10, constantValue := 0 }, { name := "PUT_NORM", type := .int, accessFlags := 24, slot := 1, constantValue := 0 }, { name := "PUT_FIRST", type := .int, accessFlags := 24, slot := 2, constantValue := 0 }, { name := "PUT_LAST", type := .int, accessFlags := 24, slot := 3, constantValue := 0 }, { name := "putMode", type := .int, accessFlags := 128, slot := 11, constantValue := 0 }]
  methods := #[k16m0, k16m1, k16m2, k16m3, k16m4, k16m5]
  instanceTypes := #[(.object "java/util/Set"), (.object "java/util/Collection"), (.array (.object "java/util/HashMap$Node")), (.object "java/util/Set"), .int, .int, .int, .float, (.object "java/util/LinkedHashMap$Entry"), (.object "java/util/LinkedHashMap$Entry"), .boolean, .int]
  staticTypes := #[.long, .int, .int, .int]
  resolved := Array.replicate 386 none
  statics := none }

def pool17 : Array CpInfo := pool [(8, .class_ 10), (1, u "java/lang/Iterable"), (24, .class_ 36), (0, u "java/lang/Object")] 25

/-- java/lang/Iterable -/
def k17 : Class := { plain "java/lang/Iterable" (some 0) with
  accessFlags := 1537
  interfaces := #[]
  cf := some (fileOf pool17 8 #[] #[] 1537 35 #[] #[])
  fields := #[]
  methods := #[]
  instanceTypes := #[]
  staticTypes := #[]
  resolved := Array.replicate 62 none
  statics := none }

def pool18 : Array CpInfo := pool [(10, .class_ 12), (1, u "java/util/Collection"), (47, .class_ 61), (0, u "java/lang/Object"), (0, .class_ 63), (0, u "java/lang/Iterable")] 51

/-- java/util/Collection -/
def k18 : Class := { plain "java/util/Collection" (some 0) with
  accessFlags := 1537
  interfaces := #[17]
  cf := some (fileOf pool18 10 #[] #[] 1537 60 #[62] #[])
  fields := #[]
  methods := #[]
  instanceTypes := #[]
  staticTypes := #[]
  resolved := Array.replicate 115 none
  statics := none }

def pool19 : Array CpInfo := pool [(8, .class_ 10), (1, u "java/util/SequencedCollection"), (15, .class_ 27), (0, u "java/lang/Object"), (0, .class_ 29), (0, u "java/util/Collection")] 27

/-- java/util/SequencedCollection -/
def k19 : Class := { plain "java/util/SequencedCollection" (some 0) with
  accessFlags := 1537
  interfaces := #[18]
  cf := some (fileOf pool19 8 #[] #[] 1537 26 #[28] #[])
  fields := #[]
  methods := #[]
  instanceTypes := #[]
  staticTypes := #[]
  resolved := Array.replicate 57 none
  statics := none }

def pool20 : Array CpInfo := pool [(8, .class_ 10), (1, u "java/util/List"), (20, u "(Ljava/lang/Object;)V"), (16, u "<init>"), (26, u "get"), (0, u "(I)Ljava/lang/Object;"), (2, u "size"), (0, u "()I"), (7, u "of"), (1, .fieldref 91 92), (0, .class_ 93), (0, .nameAndType 94 95), (0, u "java/util/ImmutableCollections"), (0, u "EMPTY_LIST"), (0, u "Ljava/util/ImmutableCollections$ListN;"), (0, .class_ 97), (0, u "java/util/ImmutableCollections$List12"), (0, .methodref 96 99), (0, .nameAndType 48 31), (3, .class_ 104), (0, u "java/lang/Object"), (7, .methodref 91 113), (0, .nameAndType 114 115), (0, u "listCopy"), (0, u "(Ljava/util/Collection;)Ljava/util/List;"), (3, u "()Ljava/util/List;"), (0, .class_ 121), (0, u "java/util/SequencedCollection"), (76, u "(Ljava/lang/Object;)Ljava/util/List;"), (35, u "copyOf")] 16

def k20m0 : Method := { name := "size", desc := "()I", sig := { parameters := [], returnType := some .int }, accessFlags := 1025, code := none }
def k20m1 : Method := { name := "get", desc := "(I)Ljava/lang/Object;", sig := { parameters := [.int], returnType := some (.object "java/lang/Object") }, accessFlags := 1025, code := none }
def k20c2 : Code := { maxStack := 1, maxLocals := 0, code := jdk_40_method_36_code, exceptionTable := #[], attributes := #[] }
def k20m2 : Method := { name := "of", desc := "()Ljava/util/List;", sig := { parameters := [], returnType := some (.object "java/util/List") }, accessFlags := 9, code := some k20c2 }
def k20c3 : Code := { maxStack := 3, maxLocals := 1, code := jdk_40_method_37_code, exceptionTable := #[], attributes := #[] }
def k20m3 : Method := { name := "of", desc := "(Ljava/lang/Object;)Ljava/util/List;", sig := { parameters := [(.object "java/lang/Object")], returnType := some (.object "java/util/List") }, accessFlags := 9, code := some k20c3 }
def k20c4 : Code := { maxStack := 1, maxLocals := 1, code := jdk_40_method_48_code, exceptionTable := #[], attributes := #[] }
def k20m4 : Method := { name := "copyOf", desc := "(Ljava/util/Collection;)Ljava/util/List;", sig := { parameters := [(.object "java/util/Collection")], returnType := some (.object "java/util/List") }, accessFlags := 9, code := some k20c4 }
/-- java/util/List -/
def k20 : Class := { plain "java/util/List" (some 0) with
  accessFlags := 1537
  interfaces := #[19]
  cf := some (fileOf pool20 8 #[] #[{ accessFlags := 1025, nameIndex := 79, descriptorIndex := 80, attributes := #[] }, { accessFlags := 1025, nameIndex := 75, descriptorIndex := 76, attributes := #[] }, { accessFlags := 9, nameIndex := 88, descriptorIndex := 119, attributes := #[] }, { accessFlags := 9, nameIndex := 88, descriptorIndex := 198, attributes := #[] }, { accessFlags := 9, nameIndex := 234, descriptorIndex := 115, attributes := #[] }] 1537 103 #[120] #[])
  fields := #[]
  methods := #[k20m0, k20m1, k20m2, k20m3, k20m4]
  instanceTypes := #[]
  staticTypes := #[]
  resolved := Array.replicate 251 none
  statics := none }

def pool21 : Array CpInfo := pool [(1, .methodref 2 3), (0, .class_ 4), (0, .nameAndType 5 6), (0, u "java/lang/Object"), (0, u "<init>"), (0, u "()V"), (1, .class_ 10), (1, u "java/util/AbstractCollection"), (66, .class_ 78), (0, u "java/util/Collection")] 81

def k21c0 : Code := { maxStack := 1, maxLocals := 1, code := jdk_22_method_1_code, exceptionTable := #[], attributes := #[] }
def k21m0 : Method := { name := "<init>", desc := "()V", sig := { parameters := [], returnType := none }, accessFlags := 4, code := some k21c0 }
/-- java/util/AbstractCollection -/
def k21 : Class := { plain "java/util/AbstractCollection" (some 0) with
  accessFlags := 1057
  interfaces := #[18]
  cf := some (fileOf pool21 8 #[] #[{ accessFlags := 4, nameIndex := 5, descriptorIndex := 6, attributes := #[] }] 1057 2 #[77] #[])
  fields := #[]
  methods := #[k21m0]
  instanceTypes := #[]
  staticTypes := #[]
  resolved := Array.replicate 160 none
  statics := none }

def pool22 : Array CpInfo := pool [(1, .methodref 2 3), (0, .class_ 4), (0, .nameAndType 5 6), (0, u "java/util/AbstractCollection"), (0, u "<init>"), (0, u "()V"), (1, .class_ 10), (1, u "java/util/ImmutableCollections"), (2, .class_ 14), (0, u "java/util/ImmutableCollections$AbstractImmutableCollection")] 41

def k22c0 : Code := { maxStack := 1, maxLocals := 1, code := jdk_47_method_1_code, exceptionTable := #[], attributes := #[] }
def k22m0 : Method := { name := "<init>", desc := "()V", sig := { parameters := [], returnType := none }, accessFlags := 0, code := some k22c0 }
/-- java/util/ImmutableCollections$AbstractImmutableCollection -/
def k22 : Class := { plain "java/util/ImmutableCollections$AbstractImmutableCollection" (some 21) with
  accessFlags := 1056
  interfaces := #[]
  cf := some (fileOf pool22 13 #[.nestHost 8] #[{ accessFlags := 0, nameIndex := 5, descriptorIndex := 6, attributes := #[] }] 1056 2 #[] #[])
  fields := #[]
  methods := #[k22m0]
  instanceTypes := #[]
  staticTypes := #[]
  resolved := Array.replicate 56 none
  statics := none }

def pool23 : Array CpInfo := pool [(1, .class_ 2), (0, u "java/util/RandomAccess"), (0, .class_ 4), (0, u "java/lang/Object")] 2

/-- java/util/RandomAccess -/
def k23 : Class := { plain "java/util/RandomAccess" (some 0) with
  accessFlags := 1537
  interfaces := #[]
  cf := some (fileOf pool23 1 #[] #[] 1537 3 #[] #[])
  fields := #[]
  methods := #[]
  instanceTypes := #[]
  staticTypes := #[]
  resolved := Array.replicate 7 none
  statics := none }

def pool24 : Array CpInfo := pool [(1, .methodref 2 3), (0, .class_ 4), (0, .nameAndType 5 6), (0, u "java/util/ImmutableCollections$AbstractImmutableCollection"), (0, u "<init>"), (0, u "()V"), (1, .class_ 10), (1, u "java/util/ImmutableCollections"), (3, .class_ 16), (1, u "java/util/ImmutableCollections$AbstractImmutableList"), (60, .class_ 78), (0, u "java/util/List"), (45, .class_ 125), (0, u "java/util/RandomAccess")] 70

def k24c0 : Code := { maxStack := 1, maxLocals := 1, code := jdk_46_method_1_code, exceptionTable := #[], attributes := #[] }
def k24m0 : Method := { name := "<init>", desc := "()V", sig := { parameters := [], returnType := none }, accessFlags := 0, code := some k24c0 }
/-- java/util/ImmutableCollections$AbstractImmutableList -/
def k24 : Class := { plain "java/util/ImmutableCollections$AbstractImmutableList" (some 22) with
  accessFlags := 1056
  interfaces := #[20, 23]
  cf := some (fileOf pool24 14 #[.nestHost 8] #[{ accessFlags := 0, nameIndex := 5, descriptorIndex := 6, attributes := #[] }] 1056 2 #[77, 124] #[])
  fields := #[]
  methods := #[k24m0]
  instanceTypes := #[]
  staticTypes := #[]
  resolved := Array.replicate 196 none
  statics := none }

def pool25 : Array CpInfo := pool [(1, .methodref 2 3), (0, .class_ 4), (0, .nameAndType 5 6), (0, u "java/util/ImmutableCollections$AbstractImmutableList"), (0, u "<init>"), (0, u "()V"), (0, .methodref 8 9), (0, .class_ 10), (0, .nameAndType 11 12), (0, u "java/util/Objects"), (0, u "requireNonNull"), (0, u "(Ljava/lang/Object;)Ljava/lang/Object;"), (0, .fieldref 14 15), (0, .class_ 16), (0, .nameAndType 17 18), (0, u "java/util/ImmutableCollections$List12"), (0, u "e0"), (0, u "Ljava/lang/Object;"), (0, .fieldref 20 21), (0, .class_ 22), (0, .nameAndType 23 18), (0, u "java/util/ImmutableCollections"), (0, u "EMPTY"), (0, .fieldref 14 25), (0, .nameAndType 26 18), (0, u "e1"), (24, u "size"), (0, u "()I"), (17, .class_ 71), (0, u "java/io/Serializable"), (4, u "(Ljava/lang/Object;)V"), (13, u "get"), (0, u "(I)Ljava/lang/Object;")] 33

def k25c0 : Code := { maxStack := 2, maxLocals := 2, code := jdk_44_method_1_code, exceptionTable := #[], attributes := #[] }
def k25m0 : Method := { name := "<init>", desc := "(Ljava/lang/Object;)V", sig := { parameters := [(.object "java/lang/Object")], returnType := none }, accessFlags := 0, code := some k25c0 }
def k25c1 : Code := { maxStack := 2, maxLocals := 1, code := jdk_44_method_3_code, exceptionTable := #[], attributes := #[] }
def k25m1 : Method := { name := "size", desc := "()I", sig := { parameters := [], returnType := some .int }, accessFlags := 1, code := some k25c1 }
def k25c2 : Code := { maxStack := 2, maxLocals := 2, code := jdk_44_method_5_code, exceptionTable := #[], attributes := #[] }
def k25m2 : Method := { name := "get", desc := "(I)Ljava/lang/Object;", sig := { parameters := [.int], returnType := some (.object "java/lang/Object") }, accessFlags := 1, code := some k25c2 }
/-- java/util/ImmutableCollections$List12 -/
def k25 : Class := { plain "java/util/ImmutableCollections$List12" (some 24) with
  accessFlags := 48
  interfaces := #[2]
  cf := some (fileOf pool25 14 #[.nestHost 20] #[{ accessFlags := 0, nameIndex := 5, descriptorIndex := 76, attributes := #[] }, { accessFlags := 1, nameIndex := 51, descriptorIndex := 52, attributes := #[] }, { accessFlags := 1, nameIndex := 90, descriptorIndex := 91, attributes := #[] }] 48 2 #[70] #[{ accessFlags := 18, nameIndex := 17, descriptorIndex := 18, attributes := #[] }, { accessFlags := 18, nameIndex := 26, descriptorIndex := 18, attributes := #[] }])
  fields := #[{ name := "e0", type := (.object "java/lang/Object"), accessFlags := 18, slot := 0, constantValue := 0 }, { name := "e1", type := (.object "java/lang/Object"), accessFlags := 18, slot := 1, constantValue := 0 }]
  methods := #[k25m0, k25m1, k25m2]
  instanceTypes := #[(.object "java/lang/Object"), (.object "java/lang/Object")]
  staticTypes := #[]
  resolved := Array.replicate 125 none
  statics := none }

def pool26 : Array CpInfo := pool [(2, .class_ 4), (1, u "java/lang/Object"), (0, u "<init>"), (0, u "()V"), (35, .class_ 44), (1, u "java/util/Objects"), (0, u "requireNonNull"), (0, u "(Ljava/lang/Object;)Ljava/lang/Object;")] 137

def k26m0 : Method := { name := "<init>", desc := "()V", sig := { parameters := [], returnType := none }, accessFlags := 2, code := none }
def k26c1 : Code := { maxStack := 2, maxLocals := 1, code := jdk_31_method_10_code, exceptionTable := #[], attributes := #[] }
def k26m1 : Method := { name := "requireNonNull", desc := "(Ljava/lang/Object;)Ljava/lang/Object;", sig := { parameters := [(.object "java/lang/Object")], returnType := some (.object "java/lang/Object") }, accessFlags := 9, code := some k26c1 }
/-- java/util/Objects -/
def k26 : Class := { plain "java/util/Objects" (some 0) with
  accessFlags := 49
  interfaces := #[]
  cf := some (fileOf pool26 42 #[] #[{ accessFlags := 2, nameIndex := 5, descriptorIndex := 6, attributes := #[] }, { accessFlags := 9, nameIndex := 45, descriptorIndex := 46, attributes := #[] }] 49 2 #[] #[])
  fields := #[]
  methods := #[k26m0, k26m1]
  instanceTypes := #[]
  staticTypes := #[]
  resolved := Array.replicate 184 none
  statics := none }

def pool27 : Array CpInfo := pool [(2, .class_ 4), (1, u "java/lang/Object"), (0, u "<init>"), (0, u "()V"), (3, .class_ 11), (0, u "java/util/ImmutableCollections$List12"), (0, .class_ 13), (0, u "java/util/ImmutableCollections$ListN"), (0, .fieldref 12 15), (0, .nameAndType 16 17), (0, u "allowNulls"), (0, u "Z"), (0, .class_ 19), (0, u "java/util/List"), (27, .class_ 49), (1, u "java/util/ImmutableCollections"), (0, u "$assertionsDisabled"), (5, u "[Ljava/lang/Object;"), (5, u "EMPTY_LIST"), (0, u "Ljava/util/ImmutableCollections$ListN;"), (8, u "EMPTY_LIST_NULLS"), (22, u "SALT32L"), (0, u "J"), (2, u "REVERSE"), (6, u "archivedObjects"), (2, u "EMPTY"), (0, u "Ljava/lang/Object;"), (0, .class_ 112), (0, u "java/util/ImmutableCollections$SetN"), (5, u "EMPTY_SET"), (0, u "Ljava/util/ImmutableCollections$SetN;"), (0, .class_ 121), (0, u "java/util/ImmutableCollections$MapN"), (3, u "EMPTY_MAP"), (0, u "Ljava/util/ImmutableCollections$MapN;"), (4, u "EXPAND_FACTOR"), (0, u "I"), (9, u "listCopy"), (0, u "(Ljava/util/Collection;)Ljava/util/List;"), (25, .class_ 170), (0, u "java/util/ImmutableCollections$MapN$MapNIterator"), (0, .class_ 172), (0, u "java/util/ImmutableCollections$MapN$1"), (0, .class_ 174), (0, u "java/util/ImmutableCollections$Map1"), (0, .class_ 176), (0, u "java/util/ImmutableCollections$AbstractImmutableMap"), (0, .class_ 178), (0, u "java/util/ImmutableCollections$SetN$SetNIterator"), (0, .class_ 180), (0, u "java/util/ImmutableCollections$Set12"), (0, .class_ 182), (0, u "java/util/ImmutableCollections$Set12$1"), (0, .class_ 184), (0, u "java/util/ImmutableCollections$AbstractImmutableSet"), (0, .class_ 186), (0, u "java/util/ImmutableCollections$SubList"), (0, .class_ 188), (0, u "java/util/ImmutableCollections$ListItr"), (0, .class_ 190), (0, u "java/util/ImmutableCollections$AbstractImmutableList"), (0, .class_ 192), (0, u "java/util/ImmutableCollections$AbstractImmutableCollection"), (0, .class_ 194), (0, u "java/util/ImmutableCollections$Access"), (0, .class_ 196), (0, u "java/util/ImmutableCollections$Access$1")] 16

def k27m0 : Method := { name := "<init>", desc := "()V", sig := { parameters := [], returnType := none }, accessFlags := 2, code := none }
def k27c1 : Code := { maxStack := 1, maxLocals := 2, code := jdk_56_method_3_code, exceptionTable := #[], attributes := #[] }
def k27m1 : Method := { name := "listCopy", desc := "(Ljava/util/Collection;)Ljava/util/List;", sig := { parameters := [(.object "java/util/Collection")], returnType := some (.object "java/util/List") }, accessFlags := 8, code := some k27c1 }
/-- java/util/ImmutableCollections -/
def k27 : Class := { plain "java/util/ImmutableCollections" (some 0) with
  accessFlags := 32
  interfaces := #[]
  cf := some (fileOf pool27 47 #[.nestMembers #[120, 169, 171, 173, 175, 111, 177, 179, 181, 183, 12, 10, 185, 187, 189, 191, 193, 195]] #[{ accessFlags := 2, nameIndex := 5, descriptorIndex := 6, attributes := #[] }, { accessFlags := 8, nameIndex := 142, descriptorIndex := 143, attributes := #[] }] 32 2 #[] #[{ accessFlags := 26, nameIndex := 95, descriptorIndex := 96, attributes := #[] }, { accessFlags := 26, nameIndex := 99, descriptorIndex := 17, attributes := #[] }, { accessFlags := 10, nameIndex := 106, descriptorIndex := 56, attributes := #[] }, { accessFlags := 26, nameIndex := 109, descriptorIndex := 110, attributes := #[] }, { accessFlags := 24, nameIndex := 62, descriptorIndex := 63, attributes := #[] }, { accessFlags := 24, nameIndex := 72, descriptorIndex := 63, attributes := #[] }, { accessFlags := 24, nameIndex := 118, descriptorIndex := 119, attributes := #[] }, { accessFlags := 24, nameIndex := 125, descriptorIndex := 126, attributes := #[] }, { accessFlags := 24, nameIndex := 131, descriptorIndex := 132, attributes := #[] }, { accessFlags := 4120, nameIndex := 50, descriptorIndex := 17, attributes := #[] }])
  fields := #[{ name := "SALT32L", type := .long, accessFlags := 26, slot := 0, constantValue := 0 }, { name := "REVERSE", type := .boolean, accessFlags := 26, slot := 1, constantValue := 0 }, { name := "archivedObjects", type := (.array (.object "java/lang/Object")), accessFlags := 10, slot := 2, constantValue := 0 }, { name := "EMPTY", type := (.object "java/lang/Object"), accessFlags := 26, slot := 3, constantValue := 0 }, { name := "EMPTY_LIST", type := (.object "java/util/ImmutableCollections$ListN"), accessFlags := 24, slot := 4, constantValue := 0 }, { name := "EMPTY_LIST_NULLS", type := (.object "java/util/ImmutableCollections$ListN"), accessFlags := 24, slot := 5, constantValue := 0 }, { name := "EMPTY_SET", type := (.object "java/util/ImmutableCollections$SetN"), accessFlags := 24, slot := 6, constantValue := 0 }, { name := "EMPTY_MAP", type := (.object "java/util/ImmutableCollections$MapN"), accessFlags := 24, slot := 7, constantValue := 0 }, { name := "EXPAND_FACTOR", type := .int, accessFlags := 24, slot := 8, constantValue := 0 }, { name := "$assertionsDisabled", type := .boolean, accessFlags := 4120, slot := 9, constantValue := 0 }]
  methods := #[k27m0, k27m1]
  instanceTypes := #[]
  staticTypes := #[.long, .boolean, (.array (.object "java/lang/Object")), (.object "java/lang/Object"), (.object "java/util/ImmutableCollections$ListN"), (.object "java/util/ImmutableCollections$ListN"), (.object "java/util/ImmutableCollections$SetN"), (.object "java/util/ImmutableCollections$MapN"), .int, .boolean]
  resolved := Array.replicate 213 none
  statics := some 1 }

def pool28 : Array CpInfo := pool [(9, u "<init>"), (6, .class_ 18), (1, u "java/lang/Object"), (0, u "()V"), (1, .class_ 23), (1, u "jdk/internal/util/ArraysSupport"), (0, u "LOG2_ARRAY_LONG_INDEX_SCALE"), (0, u "I"), (2, u "U"), (0, u "Ljdk/internal/misc/Unsafe;"), (8, u "BIG_ENDIAN"), (0, u "Z"), (8, u "LOG2_BYTE_BIT_SIZE"), (4, u "LOG2_ARRAY_INT_INDEX_SCALE"), (6, .class_ 61), (0, u "[B"), (0, .methodref 21 63), (0, .nameAndType 64 65), (0, u "signedHashCode"), (0, u "(I[BII)I"), (42, u "JLA"), (0, u "Ljdk/internal/access/JavaLangAccess;"), (11, u "LOG2_ARRAY_BOOLEAN_INDEX_SCALE"), (9, u "LOG2_ARRAY_BYTE_INDEX_SCALE"), (5, u "LOG2_ARRAY_CHAR_INDEX_SCALE"), (5, u "LOG2_ARRAY_SHORT_INDEX_SCALE"), (18, u "LOG2_ARRAY_FLOAT_INDEX_SCALE"), (24, u "LOG2_ARRAY_DOUBLE_INDEX_SCALE"), (89, u "T_BOOLEAN"), (2, u "T_CHAR"), (1, u "T_FLOAT"), (1, u "T_DOUBLE"), (1, u "T_BYTE"), (1, u "T_SHORT"), (1, u "T_INT"), (1, u "T_LONG"), (1, u "SOFT_MAX_ARRAY_LENGTH"), (26, u "vectorizedHashCode"), (0, u "(Ljava/lang/Object;IIII)I")] 55

def k28m0 : Method := { name := "<init>", desc := "()V", sig := { parameters := [], returnType := none }, accessFlags := 2, code := none }
def k28c1 : Code := { maxStack := 4, maxLocals := 5, code := jdk_48_method_4_code, exceptionTable := #[], attributes := #[] }
def k28m1 : Method := { name := "vectorizedHashCode", desc := "(Ljava/lang/Object;IIII)I", sig := { parameters := [(.object "java/lang/Object"), .int, .int, .int, .int], returnType := some .int }, accessFlags := 9, code := some k28c1 }
def k28c2 : Code := { maxStack := 3, maxLocals := 6, code := jdk_48_method_5_code, exceptionTable := #[], attributes := #[] }
def k28m2 : Method := { name := "signedHashCode", desc := "(I[BII)I", sig := { parameters := [.int, (.array .byte), .int, .int], returnType := some .int }, accessFlags := 10, code := some k28c2 }
/-- jdk/internal/util/ArraysSupport -/
def k28 : Class := { plain "jdk/internal/util/ArraysSupport" (some 0) with
  accessFlags := 33
  interfaces := #[]
  cf := some (fileOf pool28 21 #[] #[{ accessFlags := 2, nameIndex := 9, descriptorIndex := 19, attributes := #[] }, { accessFlags := 9, nameIndex := 321, descriptorIndex := 322, attributes := #[] }, { accessFlags := 10, nameIndex := 64, descriptorIndex := 65, attributes := #[] }] 33 16 #[] #[{ accessFlags := 24, nameIndex := 28, descriptorIndex := 29, attributes := #[] }, { accessFlags := 26, nameIndex := 38, descriptorIndex := 39, attributes := #[] }, { accessFlags := 25, nameIndex := 121, descriptorIndex := 25, attributes := #[] }, { accessFlags := 25, nameIndex := 131, descriptorIndex := 25, attributes := #[] }, { accessFlags := 25, nameIndex := 137, descriptorIndex := 25, attributes := #[] }, { accessFlags := 25, nameIndex := 143, descriptorIndex := 25, attributes := #[] }, { accessFlags := 25, nameIndex := 53, descriptorIndex := 25, attributes := #[] }, { accessFlags := 25, nameIndex := 24, descriptorIndex := 25, attributes := #[] }, { accessFlags := 25, nameIndex := 162, descriptorIndex := 25, attributes := #[] }, { accessFlags := 25, nameIndex := 187, descriptorIndex := 25, attributes := #[] }, { accessFlags := 26, nameIndex := 48, descriptorIndex := 25, attributes := #[] }, { accessFlags := 25, nameIndex := 277, descriptorIndex := 25, attributes := #[] }, { accessFlags := 25, nameIndex := 280, descriptorIndex := 25, attributes := #[] }, { accessFlags := 25, nameIndex := 282, descriptorIndex := 25, attributes := #[] }, { accessFlags := 25, nameIndex := 284, descriptorIndex := 25, attributes := #[] }, { accessFlags := 25, nameIndex := 286, descriptorIndex := 25, attributes := #[] }, { accessFlags := 25, nameIndex := 288, descriptorIndex := 25, attributes := #[] }, { accessFlags := 25, nameIndex := 290, descriptorIndex := 25, attributes := #[] }, { accessFlags := 25, nameIndex := 292, descriptorIndex := 25, attributes := #[] }, { accessFlags := 26, nameIndex := 108, descriptorIndex := 109, attributes := #[] }, { accessFlags := 25, nameIndex := 294, descriptorIndex := 25, attributes := #[] }])
  fields := #[{ name := "U", type := (.object "jdk/internal/misc/Unsafe"), accessFlags := 24, slot := 0, constantValue := 0 }, { name := "BIG_ENDIAN", type := .boolean, accessFlags := 26, slot := 1, constantValue := 0 }, { name := "LOG2_ARRAY_BOOLEAN_INDEX_SCALE", type := .int, accessFlags := 25, slot := 2, constantValue := 0 }, { name := "LOG2_ARRAY_BYTE_INDEX_SCALE", type := .int, accessFlags := 25, slot := 3, constantValue := 0 }, { name := "LOG2_ARRAY_CHAR_INDEX_SCALE", type := .int, accessFlags := 25, slot := 4, constantValue := 0 }, { name := "LOG2_ARRAY_SHORT_INDEX_SCALE", type := .int, accessFlags := 25, slot := 5, constantValue := 0 }, { name := "LOG2_ARRAY_INT_INDEX_SCALE", type := .int, accessFlags := 25, slot := 6, constantValue := 0 }, { name := "LOG2_ARRAY_LONG_INDEX_SCALE", type := .int, accessFlags := 25, slot := 7, constantValue := 0 }, { name := "LOG2_ARRAY_FLOAT_INDEX_SCALE", type := .int, accessFlags := 25, slot := 8, constantValue := 0 }, { name := "LOG2_ARRAY_DOUBLE_INDEX_SCALE", type := .int, accessFlags := 25, slot := 9, constantValue := 0 }, { name := "LOG2_BYTE_BIT_SIZE", type := .int, accessFlags := 26, slot := 10, constantValue := 0 }, { name := "T_BOOLEAN", type := .int, accessFlags := 25, slot := 11, constantValue := 0 }, { name := "T_CHAR", type := .int, accessFlags := 25, slot := 12, constantValue := 0 }, { name := "T_FLOAT", type := .int, accessFlags := 25, slot := 13, constantValue := 0 }, { name := "T_DOUBLE", type := .int, accessFlags := 25, slot := 14, constantValue := 0 }, { name := "T_BYTE", type := .int, accessFlags := 25, slot := 15, constantValue := 0 }, { name := "T_SHORT", type := .int, accessFlags := 25, slot := 16, constantValue := 0 }, { name := "T_INT", type := .int, accessFlags := 25, slot := 17, constantValue := 0 }, { name := "T_LONG", type := .int, accessFlags := 25, slot := 18, constantValue := 0 }, { name := "JLA", type := (.object "jdk/internal/access/JavaLangAccess"), accessFlags := 26, slot := 19, constantValue := 0 }, { name := "SOFT_MAX_ARRAY_LENGTH", type := .int, accessFlags := 25, slot := 20, constantValue := 0 }]
  methods := #[k28m0, k28m1, k28m2]
  instanceTypes := #[]
  staticTypes := #[(.object "jdk/internal/misc/Unsafe"), .boolean, .int, .int, .int, .int, .int, .int, .int, .int, .int, .int, .int, .int, .int, .int, .int, .int, .int, (.object "jdk/internal/access/JavaLangAccess"), .int]
  resolved := Array.replicate 378 none
  statics := none }

def pool29 : Array CpInfo := pool [(23, .class_ 25), (1, u "java/util/Map$Entry"), (6, .class_ 34), (1, u "java/util/Map"), (34, .class_ 70), (0, u "java/lang/Object")] 107

/-- java/util/Map$Entry -/
def k29 : Class := { plain "java/util/Map$Entry" (some 0) with
  accessFlags := 1537
  interfaces := #[]
  cf := some (fileOf pool29 23 #[.nestHost 32] #[] 1537 69 #[] #[])
  fields := #[]
  methods := #[]
  instanceTypes := #[]
  staticTypes := #[]
  resolved := Array.replicate 178 none
  statics := none }

def pool30 : Array CpInfo := pool [(1, .methodref 2 3), (0, .class_ 4), (0, .nameAndType 5 6), (0, u "java/lang/Object"), (0, u "<init>"), (0, u "()V"), (0, .fieldref 8 9), (0, .class_ 10), (0, .nameAndType 11 12), (0, u "java/util/HashMap$Node"), (0, u "hash"), (0, u "I"), (0, .fieldref 8 14), (0, .nameAndType 15 16), (0, u "key"), (0, u "Ljava/lang/Object;"), (0, .fieldref 8 18), (0, .nameAndType 19 16), (0, u "value"), (0, .fieldref 8 21), (0, .nameAndType 22 23), (0, u "next"), (0, u "Ljava/util/HashMap$Node;"), (22, .class_ 47), (0, u "java/util/Map$Entry"), (15, u "(ILjava/lang/Object;Ljava/lang/Object;Ljava/util/HashMap$Node;)V"), (24, .class_ 89), (0, u "java/util/HashMap")] 5

def k30c0 : Code := { maxStack := 2, maxLocals := 5, code := jdk_70_method_1_code, exceptionTable := #[], attributes := #[] }
def k30m0 : Method := { name := "<init>", desc := "(ILjava/lang/Object;Ljava/lang/Object;Ljava/util/HashMap$Node;)V", sig := { parameters := [.int, (.object "java/lang/Object"), (.object "java/lang/Object"), (.object "java/util/HashMap$Node")], returnType := none }, accessFlags := 0, code := some k30c0 }
/-- java/util/HashMap$Node -/
def k30 : Class := { plain "java/util/HashMap$Node" (some 0) with
  accessFlags := 32
  interfaces := #[29]
  cf := some (fileOf pool30 8 #[.nestHost 88] #[{ accessFlags := 0, nameIndex := 5, descriptorIndex := 63, attributes := #[] }] 32 2 #[46] #[{ accessFlags := 16, nameIndex := 11, descriptorIndex := 12, attributes := #[] }, { accessFlags := 16, nameIndex := 15, descriptorIndex := 16, attributes := #[] }, { accessFlags := 0, nameIndex := 19, descriptorIndex := 16, attributes := #[] }, { accessFlags := 0, nameIndex := 22, descriptorIndex := 23, attributes := #[] }])
  fields := #[{ name := "hash", type := .int, accessFlags := 16, slot := 0, constantValue := 0 }, { name := "key", type := (.object "java/lang/Object"), accessFlags := 16, slot := 1, constantValue := 0 }, { name := "value", type := (.object "java/lang/Object"), accessFlags := 0, slot := 2, constantValue := 0 }, { name := "next", type := (.object "java/util/HashMap$Node"), accessFlags := 0, slot := 3, constantValue := 0 }]
  methods := #[k30m0]
  instanceTypes := #[.int, (.object "java/lang/Object"), (.object "java/lang/Object"), (.object "java/util/HashMap$Node")]
  staticTypes := #[]
  resolved := Array.replicate 95 none
  statics := none }

def pool31 : Array CpInfo := pool [(1, .methodref 2 3), (0, .class_ 4), (0, .nameAndType 5 6), (0, u "java/util/HashMap$Node"), (0, u "<init>"), (0, u "(ILjava/lang/Object;Ljava/lang/Object;Ljava/util/HashMap$Node;)V"), (0, .class_ 8), (0, u "java/util/LinkedHashMap$Entry"), (0, u "before"), (0, u "Ljava/util/LinkedHashMap$Entry;"), (2, u "after"), (20, .class_ 35), (0, u "java/util/LinkedHashMap")] 5

def k31c0 : Code := { maxStack := 5, maxLocals := 5, code := jdk_83_method_1_code, exceptionTable := #[], attributes := #[] }
def k31m0 : Method := { name := "<init>", desc := "(ILjava/lang/Object;Ljava/lang/Object;Ljava/util/HashMap$Node;)V", sig := { parameters := [.int, (.object "java/lang/Object"), (.object "java/lang/Object"), (.object "java/util/HashMap$Node")], returnType := none }, accessFlags := 0, code := some k31c0 }
/-- java/util/LinkedHashMap$Entry -/
def k31 : Class := { plain "java/util/LinkedHashMap$Entry" (some 30) with
  accessFlags := 32
  interfaces := #[]
  cf := some (fileOf pool31 7 #[.nestHost 34] #[{ accessFlags := 0, nameIndex := 5, descriptorIndex := 6, attributes := #[] }] 32 2 #[] #[{ accessFlags := 0, nameIndex := 9, descriptorIndex := 10, attributes := #[] }, { accessFlags := 0, nameIndex := 13, descriptorIndex := 10, attributes := #[] }])
  fields := #[{ name := "before", type := (.object "java/util/LinkedHashMap$Entry"), accessFlags := 0, slot := 4, constantValue := 0 }, { name := "after", type := (.object "java/util/LinkedHashMap$Entry"), accessFlags := 0, slot := 5, constantValue := 0 }]
  methods := #[k31m0]
  instanceTypes := #[.int, (.object "java/lang/Object"), (.object "java/lang/Object"), (.object "java/util/HashMap$Node"), (.object "java/util/LinkedHashMap$Entry"), (.object "java/util/LinkedHashMap$Entry")]
  staticTypes := #[]
  resolved := Array.replicate 41 none
  statics := none }

def pool32 : Array CpInfo := pool [(2, .class_ 4), (1, u "java/util/ImmutableCollections$AbstractImmutableList"), (2, .fieldref 8 9), (0, .class_ 10), (0, .nameAndType 11 12), (0, u "java/util/ImmutableCollections$ListN"), (0, u "elements"), (0, u "[Ljava/lang/Object;"), (2, u "allowNulls"), (0, u "Z"), (42, .class_ 60), (0, u "java/io/Serializable"), (16, u "size"), (0, u "()I"), (35, .class_ 115), (0, u "java/util/ImmutableCollections")] 3

def k32c0 : Code := { maxStack := 1, maxLocals := 1, code := jdk_45_method_3_code, exceptionTable := #[], attributes := #[] }
def k32m0 : Method := { name := "size", desc := "()I", sig := { parameters := [], returnType := some .int }, accessFlags := 1, code := some k32c0 }
/-- java/util/ImmutableCollections$ListN -/
def k32 : Class := { plain "java/util/ImmutableCollections$ListN" (some 24) with
  accessFlags := 48
  interfaces := #[2]
  cf := some (fileOf pool32 8 #[.nestHost 114] #[{ accessFlags := 1, nameIndex := 77, descriptorIndex := 78, attributes := #[] }] 48 2 #[59] #[{ accessFlags := 18, nameIndex := 11, descriptorIndex := 12, attributes := #[] }, { accessFlags := 18, nameIndex := 15, descriptorIndex := 16, attributes := #[] }])
  fields := #[{ name := "elements", type := (.array (.object "java/lang/Object")), accessFlags := 18, slot := 0, constantValue := 0 }, { name := "allowNulls", type := .boolean, accessFlags := 18, slot := 1, constantValue := 0 }]
  methods := #[k32m0]
  instanceTypes := #[(.array (.object "java/lang/Object")), .boolean]
  staticTypes := #[]
  resolved := Array.replicate 119 none
  statics := none }

def pool33 : Array CpInfo := pool [(2, .class_ 4), (1, u "java/lang/Object"), (0, u "<init>"), (0, u "()V"), (17, .class_ 26), (1, u "jdk/internal/util/Preconditions"), (28, .class_ 56), (0, u "jdk/internal/util/Preconditions$4"), (57, .class_ 115), (0, u "jdk/internal/util/Preconditions$1"), (7, u "SIOOBE_FORMATTER"), (0, u "Ljava/util/function/BiFunction;"), (0, .class_ 126), (0, u "jdk/internal/util/Preconditions$2"), (3, u "AIOOBE_FORMATTER"), (0, .class_ 132), (0, u "jdk/internal/util/Preconditions$3"), (3, u "IOOBE_FORMATTER")] 57

def k33m0 : Method := { name := "<init>", desc := "()V", sig := { parameters := [], returnType := none }, accessFlags := 1, code := none }
/-- jdk/internal/util/Preconditions -/
def k33 : Class := { plain "jdk/internal/util/Preconditions" (some 0) with
  accessFlags := 33
  interfaces := #[]
  cf := some (fileOf pool33 24 #[.nestMembers #[55, 131, 125, 114]] #[{ accessFlags := 1, nameIndex := 5, descriptorIndex := 6, attributes := #[] }] 33 2 #[] #[{ accessFlags := 25, nameIndex := 123, descriptorIndex := 124, attributes := #[] }, { accessFlags := 25, nameIndex := 130, descriptorIndex := 124, attributes := #[] }, { accessFlags := 25, nameIndex := 136, descriptorIndex := 124, attributes := #[] }])
  fields := #[{ name := "SIOOBE_FORMATTER", type := (.object "java/util/function/BiFunction"), accessFlags := 25, slot := 0, constantValue := 0 }, { name := "AIOOBE_FORMATTER", type := (.object "java/util/function/BiFunction"), accessFlags := 25, slot := 1, constantValue := 0 }, { name := "IOOBE_FORMATTER", type := (.object "java/util/function/BiFunction"), accessFlags := 25, slot := 2, constantValue := 0 }]
  methods := #[k33m0]
  instanceTypes := #[]
  staticTypes := #[(.object "java/util/function/BiFunction"), (.object "java/util/function/BiFunction"), (.object "java/util/function/BiFunction")]
  resolved := Array.replicate 194 none
  statics := some 2 }

/-- the primitive byte -/
def k34 : Class := { plain "byte" none with kind := .primitive 'B', accessFlags := 0x411 }
/-- [B -/
def k35 : Class := { plain "[B" (some 0) with kind := .array 34 .byte, interfaces := #[13, 2], accessFlags := 1041 }

/-- the primitive char -/
def k36 : Class := { plain "char" none with kind := .primitive 'C', accessFlags := 0x411 }
/-- [C -/
def k37 : Class := { plain "[C" (some 0) with kind := .array 36 .char, interfaces := #[13, 2], accessFlags := 1041 }

/-- the primitive int -/
def k38 : Class := { plain "int" none with kind := .primitive 'I', accessFlags := 0x411 }
/-- [I -/
def k39 : Class := { plain "[I" (some 0) with kind := .array 38 .int, interfaces := #[13, 2], accessFlags := 1041 }

/-- [Ljava/lang/Object; -/
def k40 : Class := { plain "[Ljava/lang/Object;" (some 0) with kind := .array 0 (.object "java/lang/Object"), interfaces := #[13, 2], accessFlags := 1041 }

/-- [Ljava/util/HashMap$Node; -/
def k41 : Class := { plain "[Ljava/util/HashMap$Node;" (some 0) with kind := .array 30 (.object "java/util/HashMap$Node"), interfaces := #[13, 2], accessFlags := 1041 }

def heap : Heap := #[{ cls := 7, slots := #[.long 0, .int 1, .null, .int 0, .null, .int 0, .int 0], vm := .statics 7 },
  { cls := 27, slots := #[.long 0, .int 0, .null, .ref 5, .ref 4, .null, .null, .null, .int 0, .int 1], vm := .statics 27 },
  { cls := 33, slots := #[.null, .null, .null], vm := .statics 33 },
  { cls := 40, slots := #[], vm := .none },
  { cls := 32, slots := #[.ref 3, .int 0], vm := .none },
  { cls := 0, slots := #[], vm := .none }]
def classes : Array Class := #[k0, k1, k2, k3, k4, k5, k6, k7, k8, k9, k10, k11, k12, k13, k14, k15, k16, k17, k18, k19, k20, k21, k22, k23, k24, k25, k26, k27, k28, k29, k30, k31, k32, k33, k34, k35, k36, k37, k38, k39, k40, k41]
def interned : List (Array UInt16 × Addr) := []
def slotsUsed : Nat := 22
def theMethod : MethodId := ⟨1, 2⟩
def args0 : Array Value := #[.long 5, .long 6, .long 7, .int 0]
def aboutOver (below : List Frame) : State where
  vm := { classes := classes, interned := interned.toArray }
  heap := heap
  slotsUsed := slotsUsed
  threads := #[{ frames := .invoking theMethod args0 :: below }]
def below0 : List Frame := [.native { method := ⟨0, 0⟩, args := #[] }]
def about1 : State := aboutOver below0
def p0 : Program := .bare "" "" ""
def e0 : Env := launch0.env 0 0 0
theorem w_frames : about1.frames = Frame.invoking theMethod args0 :: below0 := rfl
set_option maxRecDepth 65536 in
theorem w_args : argsFit about1.vm theMethod args0 = true := by decide +kernel
set_option maxRecDepth 65536 in
theorem w_heap : heapFits about1 = true := by decide +kernel
set_option maxRecDepth 65536 in
theorem w_runnable : about1.curStatus? = some .runnable := by decide +kernel
set_option maxRecDepth 65536 in
theorem w_alone : about1.alone = true := by decide +kernel
set_option maxRecDepth 65536 in
theorem w_named : about1.methodNamed? x = some theMethod := by decide +kernel
set_option maxRecDepth 65536 in
theorem w_hears : about1.hears theMethod below0 = true := by decide +kernel
set_option maxRecDepth 65536 in
theorem w_ripe : about1.ripe theMethod args0 below0 = true := by decide +kernel
theorem w_running : about1.status = .running := rfl
set_option maxRecDepth 65536 in
theorem w_room : about1.hasRoom e0.platform room_1 = true :=
  launch0.hasRoom_least _ room_1 (by decide +kernel) (by decide +kernel) (by decide +kernel) (by decide +kernel) (by decide +kernel) (by decide +kernel)
theorem allAtoms_all (ts : List Jvm.Cond) (a : Array Jvm.Value) (st : Jvm.State) : (allAtoms ts).before a st = ts.all (fun c => c.before a st) := by
  induction ts with
  | nil => rfl
  | cons c t ih =>
    show (Jvm.Cond.and c (allAtoms t)).before a st = _
    rw [Jvm.Cond.before_and, ih, List.all_cons]
def words1 : List Jvm.Cond := Jvm.Cond.code x code maxLocals ret :: tables_1
/-- a 'code' word, met by the world's own term for the bytes: nothing is compared byte by byte -/
theorem code_word {y : MethodName} {bytes : ByteArray} {mx : Nat} {rt : Option FieldType} {a : Array Value} {s : State} {m : MethodId} {meth : Method} {c : Code} (h1 : s.methodNamed? y = some m) (h2 : s.vm.method? m = some meth) (h3 : meth.code = some c) (h4 : c.code = bytes)
    (h5 : (c.maxLocals == mx && c.exceptionTable.isEmpty && decide (c.maxStack ≤ mostOperands) && decide (meth.sig.returnType = rt) && !meth.locks && decide (parseMethodDescriptor y.desc = some meth.sig)) = true) : (Jvm.Cond.code y bytes mx rt).before a s = true := by
  simp only [Bool.and_eq_true, beq_iff_eq, Bool.not_eq_true', decide_eq_true_eq] at h5
  obtain ⟨⟨⟨⟨⟨g1, g2⟩, g3⟩, g4⟩, g5⟩, g6⟩ := h5
  simp [Cond.before, Cond.holds, Cond.value, h1, h2, h3, h4, g1, g2, g3, g4, g5, g6]
def isCode : Jvm.Cond → Bool
  | .code _ _ _ _ => true
  | _ => false
theorem all_split {L : List Jvm.Cond} {P : Jvm.Cond → Bool} (h1 : L.all (fun c => isCode c || P c) = true) (h2 : ∀ c ∈ L.filter isCode, P c = true) : L.all P = true := by
  refine List.all_eq_true.mpr fun c hc => ?_
  have h := List.all_eq_true.mp h1 c hc
  rcases Bool.eq_false_or_eq_true (isCode c) with hi | hi
  · exact h2 c (List.mem_filter.mpr ⟨hc, hi⟩)
  · simpa [hi] using h
set_option maxRecDepth 65536 in
theorem w_c0 : (Jvm.Cond.code x code maxLocals ret).before args0 about1 = true := code_word (m := ⟨1, 2⟩) (meth := k1m2) (c := k1c2) (by decide +kernel) rfl rfl rfl (by decide +kernel)
set_option maxRecDepth 65536 in
theorem w_c1 : (Jvm.Cond.code ({ cls := "com/example/peergrove/peergrove/service/FormOfPinLaw", name := "draw", desc := "(J)Ljava/lang/String;" } : Jvm.MethodName) method_2_code (6 : Nat) (Option.some (Jvm.ClassFile.FieldType.object "java/lang/String"))).before args0 about1 = true := code_word (m := ⟨1, 1⟩) (meth := k1m1) (c := k1c1) (by decide +kernel) rfl rfl rfl (by decide +kernel)
set_option maxRecDepth 65536 in
theorem w_c2 : (Jvm.Cond.code ({ cls := "java/lang/String", name := "<init>", desc := "([C)V" } : Jvm.MethodName) jdk_42_method_3_code (2 : Nat) (Option.none : Option Jvm.ClassFile.FieldType)).before args0 about1 = true := code_word (m := ⟨7, 1⟩) (meth := k7m1) (c := k7c1) (by decide +kernel) rfl rfl rfl (by decide +kernel)
set_option maxRecDepth 65536 in
theorem w_c3 : (Jvm.Cond.code ({ cls := "java/lang/String", name := "<init>", desc := "([CIILjava/lang/Void;)V" } : Jvm.MethodName) jdk_42_method_149_code (6 : Nat) (Option.none : Option Jvm.ClassFile.FieldType)).before args0 about1 = true := code_word (m := ⟨7, 5⟩) (meth := k7m5) (c := k7c5) (by decide +kernel) rfl rfl rfl (by decide +kernel)
set_option maxRecDepth 65536 in
theorem w_c4 : (Jvm.Cond.code ({ cls := "java/lang/Object", name := "<init>", desc := "()V" } : Jvm.MethodName) object_method_1_code (1 : Nat) (Option.none : Option Jvm.ClassFile.FieldType)).before args0 about1 = true := code_word (m := ⟨0, 0⟩) (meth := k0m0) (c := k0c0) (by decide +kernel) rfl rfl rfl (by decide +kernel)
set_option maxRecDepth 65536 in
theorem w_c5 : (Jvm.Cond.code ({ cls := "java/lang/StringUTF16", name := "compress", desc := "([CII)[B" } : Jvm.MethodName) jdk_52_method_16_code (6 : Nat) (Option.some (Jvm.ClassFile.FieldType.array Jvm.ClassFile.FieldType.byte))).before args0 about1 = true := code_word (m := ⟨8, 2⟩) (meth := k8m2) (c := k8c2) (by decide +kernel) rfl rfl rfl (by decide +kernel)
set_option maxRecDepth 65536 in
theorem w_c6 : (Jvm.Cond.code ({ cls := "java/lang/StringUTF16", name := "compress", desc := "([CI[BII)I" } : Jvm.MethodName) jdk_52_method_21_code (7 : Nat) (Option.some Jvm.ClassFile.FieldType.int)).before args0 about1 = true := code_word (m := ⟨8, 3⟩) (meth := k8m3) (c := k8c3) (by decide +kernel) rfl rfl rfl (by decide +kernel)
set_option maxRecDepth 65536 in
theorem w_c7 : (Jvm.Cond.code ({ cls := "java/lang/StringUTF16", name := "coderFromArrayLen", desc := "([BI)B" } : Jvm.MethodName) jdk_52_method_15_code (2 : Nat) (Option.some Jvm.ClassFile.FieldType.byte)).before args0 about1 = true := code_word (m := ⟨8, 1⟩) (meth := k8m1) (c := k8c1) (by decide +kernel) rfl rfl rfl (by decide +kernel)
set_option maxRecDepth 65536 in
theorem w_c8 : (Jvm.Cond.code ({ cls := "java/lang/String", name := "valueOf", desc := "(C)Ljava/lang/String;" } : Jvm.MethodName) jdk_42_method_139_code (1 : Nat) (Option.some (Jvm.ClassFile.FieldType.object "java/lang/String"))).before args0 about1 = true := code_word (m := ⟨7, 4⟩) (meth := k7m4) (c := k7c4) (by decide +kernel) rfl rfl rfl (by decide +kernel)
set_option maxRecDepth 65536 in
theorem w_c9 : (Jvm.Cond.code ({ cls := "java/lang/StringLatin1", name := "canEncode", desc := "(C)Z" } : Jvm.MethodName) jdk_43_method_3_code (1 : Nat) (Option.some Jvm.ClassFile.FieldType.boolean)).before args0 about1 = true := code_word (m := ⟨9, 1⟩) (meth := k9m1) (c := k9c1) (by decide +kernel) rfl rfl rfl (by decide +kernel)
set_option maxRecDepth 65536 in
theorem w_c10 : (Jvm.Cond.code ({ cls := "java/lang/StringLatin1", name := "toBytes", desc := "(C)[B" } : Jvm.MethodName) jdk_43_method_46_code (1 : Nat) (Option.some (Jvm.ClassFile.FieldType.array Jvm.ClassFile.FieldType.byte))).before args0 about1 = true := code_word (m := ⟨9, 4⟩) (meth := k9m4) (c := k9c4) (by decide +kernel) rfl rfl rfl (by decide +kernel)
set_option maxRecDepth 65536 in
theorem w_c11 : (Jvm.Cond.code ({ cls := "java/lang/String", name := "<init>", desc := "([BB)V" } : Jvm.MethodName) jdk_42_method_151_code (3 : Nat) (Option.none : Option Jvm.ClassFile.FieldType)).before args0 about1 = true := code_word (m := ⟨7, 6⟩) (meth := k7m6) (c := k7c6) (by decide +kernel) rfl rfl rfl (by decide +kernel)
set_option maxRecDepth 65536 in
theorem w_c12 : (Jvm.Cond.code ({ cls := "com/example/peergrove/peergrove/service/Form", name := "of", desc := "(Ljava/lang/String;Ljava/lang/String;)Lcom/example/peergrove/peergrove/service/Form;" } : Jvm.MethodName) prog_10_method_4_code (3 : Nat) (Option.some (Jvm.ClassFile.FieldType.object "com/example/peergrove/peergrove/service/Form"))).before args0 about1 = true := code_word (m := ⟨10, 1⟩) (meth := k10m1) (c := k10c1) (by decide +kernel) rfl rfl rfl (by decide +kernel)
set_option maxRecDepth 65536 in
theorem w_c13 : (Jvm.Cond.code ({ cls := "java/util/LinkedHashMap", name := "<init>", desc := "()V" } : Jvm.MethodName) jdk_94_method_16_code (1 : Nat) (Option.none : Option Jvm.ClassFile.FieldType)).before args0 about1 = true := code_word (m := ⟨16, 3⟩) (meth := k16m3) (c := k16c3) (by decide +kernel) rfl rfl rfl (by decide +kernel)
set_option maxRecDepth 65536 in
theorem w_c14 : (Jvm.Cond.code ({ cls := "java/util/HashMap", name := "<init>", desc := "()V" } : Jvm.MethodName) jdk_69_method_7_code (1 : Nat) (Option.none : Option Jvm.ClassFile.FieldType)).before args0 about1 = true := code_word (m := ⟨14, 1⟩) (meth := k14m1) (c := k14c1) (by decide +kernel) rfl rfl rfl (by decide +kernel)
set_option maxRecDepth 65536 in
theorem w_c15 : (Jvm.Cond.code ({ cls := "java/util/AbstractMap", name := "<init>", desc := "()V" } : Jvm.MethodName) jdk_71_method_1_code (1 : Nat) (Option.none : Option Jvm.ClassFile.FieldType)).before args0 about1 = true := code_word (m := ⟨12, 0⟩) (meth := k12m0) (c := k12c0) (by decide +kernel) rfl rfl rfl (by decide +kernel)
set_option maxRecDepth 65536 in
theorem w_c16 : (Jvm.Cond.code ({ cls := "java/util/List", name := "of", desc := "(Ljava/lang/Object;)Ljava/util/List;" } : Jvm.MethodName) jdk_40_method_37_code (1 : Nat) (Option.some (Jvm.ClassFile.FieldType.object "java/util/List"))).before args0 about1 = true := code_word (m := ⟨20, 3⟩) (meth := k20m3) (c := k20c3) (by decide +kernel) rfl rfl rfl (by decide +kernel)
set_option maxRecDepth 65536 in
theorem w_c17 : (Jvm.Cond.code ({ cls := "java/util/ImmutableCollections$List12", name := "<init>", desc := "(Ljava/lang/Object;)V" } : Jvm.MethodName) jdk_44_method_1_code (2 : Nat) (Option.none : Option Jvm.ClassFile.FieldType)).before args0 about1 = true := code_word (m := ⟨25, 0⟩) (meth := k25m0) (c := k25c0) (by decide +kernel) rfl rfl rfl (by decide +kernel)
set_option maxRecDepth 65536 in
theorem w_c18 : (Jvm.Cond.code ({ cls := "java/util/ImmutableCollections$AbstractImmutableList", name := "<init>", desc := "()V" } : Jvm.MethodName) jdk_46_method_1_code (1 : Nat) (Option.none : Option Jvm.ClassFile.FieldType)).before args0 about1 = true := code_word (m := ⟨24, 0⟩) (meth := k24m0) (c := k24c0) (by decide +kernel) rfl rfl rfl (by decide +kernel)
set_option maxRecDepth 65536 in
theorem w_c19 : (Jvm.Cond.code ({ cls := "java/util/ImmutableCollections$AbstractImmutableCollection", name := "<init>", desc := "()V" } : Jvm.MethodName) jdk_47_method_1_code (1 : Nat) (Option.none : Option Jvm.ClassFile.FieldType)).before args0 about1 = true := code_word (m := ⟨22, 0⟩) (meth := k22m0) (c := k22c0) (by decide +kernel) rfl rfl rfl (by decide +kernel)
set_option maxRecDepth 65536 in
theorem w_c20 : (Jvm.Cond.code ({ cls := "java/util/AbstractCollection", name := "<init>", desc := "()V" } : Jvm.MethodName) jdk_22_method_1_code (1 : Nat) (Option.none : Option Jvm.ClassFile.FieldType)).before args0 about1 = true := code_word (m := ⟨21, 0⟩) (meth := k21m0) (c := k21c0) (by decide +kernel) rfl rfl rfl (by decide +kernel)
set_option maxRecDepth 65536 in
theorem w_c21 : (Jvm.Cond.code ({ cls := "java/util/Objects", name := "requireNonNull", desc := "(Ljava/lang/Object;)Ljava/lang/Object;" } : Jvm.MethodName) jdk_31_method_10_code (1 : Nat) (Option.some (Jvm.ClassFile.FieldType.object "java/lang/Object"))).before args0 about1 = true := code_word (m := ⟨26, 1⟩) (meth := k26m1) (c := k26c1) (by decide +kernel) rfl rfl rfl (by decide +kernel)
set_option maxRecDepth 65536 in
theorem w_c22 : (Jvm.Cond.code ({ cls := "java/util/HashMap", name := "put", desc := "(Ljava/lang/Object;Ljava/lang/Object;)Ljava/lang/Object;" } : Jvm.MethodName) jdk_69_method_15_code (3 : Nat) (Option.some (Jvm.ClassFile.FieldType.object "java/lang/Object"))).before args0 about1 = true := code_word (m := ⟨14, 4⟩) (meth := k14m4) (c := k14c4) (by decide +kernel) rfl rfl rfl (by decide +kernel)
set_option maxRecDepth 65536 in
theorem w_c23 : (Jvm.Cond.code ({ cls := "java/util/HashMap", name := "hash", desc := "(Ljava/lang/Object;)I" } : Jvm.MethodName) jdk_69_method_1_code (2 : Nat) (Option.some Jvm.ClassFile.FieldType.int)).before args0 about1 = true := code_word (m := ⟨14, 0⟩) (meth := k14m0) (c := k14c0) (by decide +kernel) rfl rfl rfl (by decide +kernel)
set_option maxRecDepth 65536 in
theorem w_c24 : (Jvm.Cond.code ({ cls := "java/lang/String", name := "hashCode", desc := "()I" } : Jvm.MethodName) jdk_42_method_78_code (2 : Nat) (Option.some Jvm.ClassFile.FieldType.int)).before args0 about1 = true := code_word (m := ⟨7, 3⟩) (meth := k7m3) (c := k7c3) (by decide +kernel) rfl rfl rfl (by decide +kernel)
set_option maxRecDepth 65536 in
theorem w_c25 : (Jvm.Cond.code ({ cls := "java/lang/String", name := "isLatin1", desc := "()Z" } : Jvm.MethodName) jdk_42_method_154_code (1 : Nat) (Option.some Jvm.ClassFile.FieldType.boolean)).before args0 about1 = true := code_word (m := ⟨7, 7⟩) (meth := k7m7) (c := k7c7) (by decide +kernel) rfl rfl rfl (by decide +kernel)
set_option maxRecDepth 65536 in
theorem w_c26 : (Jvm.Cond.code ({ cls := "java/lang/StringLatin1", name := "hashCode", desc := "([B)I" } : Jvm.MethodName) jdk_43_method_21_code (1 : Nat) (Option.some Jvm.ClassFile.FieldType.int)).before args0 about1 = true := code_word (m := ⟨9, 3⟩) (meth := k9m3) (c := k9c3) (by decide +kernel) rfl rfl rfl (by decide +kernel)
set_option maxRecDepth 65536 in
theorem w_c27 : (Jvm.Cond.code ({ cls := "jdk/internal/util/ArraysSupport", name := "vectorizedHashCode", desc := "(Ljava/lang/Object;IIII)I" } : Jvm.MethodName) jdk_48_method_4_code (5 : Nat) (Option.some Jvm.ClassFile.FieldType.int)).before args0 about1 = true := code_word (m := ⟨28, 1⟩) (meth := k28m1) (c := k28c1) (by decide +kernel) rfl rfl rfl (by decide +kernel)
set_option maxRecDepth 65536 in
theorem w_c28 : (Jvm.Cond.code ({ cls := "jdk/internal/util/ArraysSupport", name := "signedHashCode", desc := "(I[BII)I" } : Jvm.MethodName) jdk_48_method_5_code (6 : Nat) (Option.some Jvm.ClassFile.FieldType.int)).before args0 about1 = true := code_word (m := ⟨28, 2⟩) (meth := k28m2) (c := k28c2) (by decide +kernel) rfl rfl rfl (by decide +kernel)
set_option maxRecDepth 65536 in
theorem w_c29 : (Jvm.Cond.code ({ cls := "java/util/HashMap", name := "putVal", desc := "(ILjava/lang/Object;Ljava/lang/Object;ZZ)Ljava/lang/Object;" } : Jvm.MethodName) jdk_69_method_16_code (13 : Nat) (Option.some (Jvm.ClassFile.FieldType.object "java/lang/Object"))).before args0 about1 = true := code_word (m := ⟨14, 5⟩) (meth := k14m5) (c := k14c5) (by decide +kernel) rfl rfl rfl (by decide +kernel)
set_option maxRecDepth 65536 in
theorem w_c30 : (Jvm.Cond.code ({ cls := "java/util/HashMap", name := "resize", desc := "()[Ljava/util/HashMap$Node;" } : Jvm.MethodName) jdk_69_method_17_code (14 : Nat) (Option.some (Jvm.ClassFile.FieldType.array (Jvm.ClassFile.FieldType.object "java/util/HashMap$Node")))).before args0 about1 = true := code_word (m := ⟨14, 6⟩) (meth := k14m6) (c := k14c6) (by decide +kernel) rfl rfl rfl (by decide +kernel)
set_option maxRecDepth 65536 in
theorem w_c31 : (Jvm.Cond.code ({ cls := "java/util/LinkedHashMap", name := "newNode", desc := "(ILjava/lang/Object;Ljava/lang/Object;Ljava/util/HashMap$Node;)Ljava/util/HashMap$Node;" } : Jvm.MethodName) jdk_94_method_4_code (6 : Nat) (Option.some (Jvm.ClassFile.FieldType.object "java/util/HashMap$Node"))).before args0 about1 = true := code_word (m := ⟨16, 1⟩) (meth := k16m1) (c := k16c1) (by decide +kernel) rfl rfl rfl (by decide +kernel)
set_option maxRecDepth 65536 in
theorem w_c32 : (Jvm.Cond.code ({ cls := "java/util/LinkedHashMap$Entry", name := "<init>", desc := "(ILjava/lang/Object;Ljava/lang/Object;Ljava/util/HashMap$Node;)V" } : Jvm.MethodName) jdk_83_method_1_code (5 : Nat) (Option.none : Option Jvm.ClassFile.FieldType)).before args0 about1 = true := code_word (m := ⟨31, 0⟩) (meth := k31m0) (c := k31c0) (by decide +kernel) rfl rfl rfl (by decide +kernel)
set_option maxRecDepth 65536 in
theorem w_c33 : (Jvm.Cond.code ({ cls := "java/util/HashMap$Node", name := "<init>", desc := "(ILjava/lang/Object;Ljava/lang/Object;Ljava/util/HashMap$Node;)V" } : Jvm.MethodName) jdk_70_method_1_code (5 : Nat) (Option.none : Option Jvm.ClassFile.FieldType)).before args0 about1 = true := code_word (m := ⟨30, 0⟩) (meth := k30m0) (c := k30c0) (by decide +kernel) rfl rfl rfl (by decide +kernel)
set_option maxRecDepth 65536 in
theorem w_c34 : (Jvm.Cond.code ({ cls := "java/util/LinkedHashMap", name := "linkNodeAtEnd", desc := "(Ljava/util/LinkedHashMap$Entry;)V" } : Jvm.MethodName) jdk_94_method_1_code (3 : Nat) (Option.none : Option Jvm.ClassFile.FieldType)).before args0 about1 = true := code_word (m := ⟨16, 0⟩) (meth := k16m0) (c := k16c0) (by decide +kernel) rfl rfl rfl (by decide +kernel)
set_option maxRecDepth 65536 in
theorem w_c35 : (Jvm.Cond.code ({ cls := "java/util/LinkedHashMap", name := "afterNodeInsertion", desc := "(Z)V" } : Jvm.MethodName) jdk_94_method_9_code (4 : Nat) (Option.none : Option Jvm.ClassFile.FieldType)).before args0 about1 = true := code_word (m := ⟨16, 2⟩) (meth := k16m2) (c := k16c2) (by decide +kernel) rfl rfl rfl (by decide +kernel)
set_option maxRecDepth 65536 in
theorem w_c36 : (Jvm.Cond.code ({ cls := "java/util/LinkedHashMap", name := "removeEldestEntry", desc := "(Ljava/util/Map$Entry;)Z" } : Jvm.MethodName) jdk_94_method_23_code (2 : Nat) (Option.some Jvm.ClassFile.FieldType.boolean)).before args0 about1 = true := code_word (m := ⟨16, 5⟩) (meth := k16m5) (c := k16c5) (by decide +kernel) rfl rfl rfl (by decide +kernel)
set_option maxRecDepth 65536 in
theorem w_c37 : (Jvm.Cond.code ({ cls := "com/example/peergrove/peergrove/service/Form", name := "<init>", desc := "(Ljava/util/Map;)V" } : Jvm.MethodName) prog_10_method_1_code (2 : Nat) (Option.none : Option Jvm.ClassFile.FieldType)).before args0 about1 = true := code_word (m := ⟨10, 0⟩) (meth := k10m0) (c := k10c0) (by decide +kernel) rfl rfl rfl (by decide +kernel)
set_option maxRecDepth 65536 in
theorem w_c38 : (Jvm.Cond.code ({ cls := "com/example/peergrove/peergrove/service/Form", name := "all", desc := "(Ljava/lang/String;)Ljava/util/List;" } : Jvm.MethodName) prog_10_method_7_code (2 : Nat) (Option.some (Jvm.ClassFile.FieldType.object "java/util/List"))).before args0 about1 = true := code_word (m := ⟨10, 3⟩) (meth := k10m3) (c := k10c3) (by decide +kernel) rfl rfl rfl (by decide +kernel)
set_option maxRecDepth 65536 in
theorem w_c39 : (Jvm.Cond.code ({ cls := "java/util/List", name := "of", desc := "()Ljava/util/List;" } : Jvm.MethodName) jdk_40_method_36_code (0 : Nat) (Option.some (Jvm.ClassFile.FieldType.object "java/util/List"))).before args0 about1 = true := code_word (m := ⟨20, 2⟩) (meth := k20m2) (c := k20c2) (by decide +kernel) rfl rfl rfl (by decide +kernel)
set_option maxRecDepth 65536 in
theorem w_c40 : (Jvm.Cond.code ({ cls := "java/util/LinkedHashMap", name := "getOrDefault", desc := "(Ljava/lang/Object;Ljava/lang/Object;)Ljava/lang/Object;" } : Jvm.MethodName) jdk_94_method_21_code (4 : Nat) (Option.some (Jvm.ClassFile.FieldType.object "java/lang/Object"))).before args0 about1 = true := code_word (m := ⟨16, 4⟩) (meth := k16m4) (c := k16c4) (by decide +kernel) rfl rfl rfl (by decide +kernel)
set_option maxRecDepth 65536 in
theorem w_c41 : (Jvm.Cond.code ({ cls := "java/util/HashMap", name := "getNode", desc := "(Ljava/lang/Object;)Ljava/util/HashMap$Node;" } : Jvm.MethodName) jdk_69_method_13_code (8 : Nat) (Option.some (Jvm.ClassFile.FieldType.object "java/util/HashMap$Node"))).before args0 about1 = true := code_word (m := ⟨14, 2⟩) (meth := k14m2) (c := k14c2) (by decide +kernel) rfl rfl rfl (by decide +kernel)
set_option maxRecDepth 65536 in
theorem w_c42 : (Jvm.Cond.code ({ cls := "java/util/List", name := "copyOf", desc := "(Ljava/util/Collection;)Ljava/util/List;" } : Jvm.MethodName) jdk_40_method_48_code (1 : Nat) (Option.some (Jvm.ClassFile.FieldType.object "java/util/List"))).before args0 about1 = true := code_word (m := ⟨20, 4⟩) (meth := k20m4) (c := k20c4) (by decide +kernel) rfl rfl rfl (by decide +kernel)
set_option maxRecDepth 65536 in
theorem w_c43 : (Jvm.Cond.code ({ cls := "java/util/ImmutableCollections", name := "listCopy", desc := "(Ljava/util/Collection;)Ljava/util/List;" } : Jvm.MethodName) jdk_56_method_3_code (2 : Nat) (Option.some (Jvm.ClassFile.FieldType.object "java/util/List"))).before args0 about1 = true := code_word (m := ⟨27, 1⟩) (meth := k27m1) (c := k27c1) (by decide +kernel) rfl rfl rfl (by decide +kernel)
set_option maxRecDepth 65536 in
theorem w_c44 : (Jvm.Cond.code ({ cls := "com/example/peergrove/peergrove/service/Form", name := "has", desc := "(Ljava/lang/String;)Z" } : Jvm.MethodName) prog_10_method_6_code (2 : Nat) (Option.some Jvm.ClassFile.FieldType.boolean)).before args0 about1 = true := code_word (m := ⟨10, 2⟩) (meth := k10m2) (c := k10c2) (by decide +kernel) rfl rfl rfl (by decide +kernel)
set_option maxRecDepth 65536 in
theorem w_c45 : (Jvm.Cond.code ({ cls := "java/util/HashMap", name := "containsKey", desc := "(Ljava/lang/Object;)Z" } : Jvm.MethodName) jdk_69_method_14_code (2 : Nat) (Option.some Jvm.ClassFile.FieldType.boolean)).before args0 about1 = true := code_word (m := ⟨14, 3⟩) (meth := k14m3) (c := k14c3) (by decide +kernel) rfl rfl rfl (by decide +kernel)
set_option maxRecDepth 65536 in
theorem w_c46 : (Jvm.Cond.code ({ cls := "java/util/ImmutableCollections$List12", name := "size", desc := "()I" } : Jvm.MethodName) jdk_44_method_3_code (1 : Nat) (Option.some Jvm.ClassFile.FieldType.int)).before args0 about1 = true := code_word (m := ⟨25, 1⟩) (meth := k25m1) (c := k25c1) (by decide +kernel) rfl rfl rfl (by decide +kernel)
set_option maxRecDepth 65536 in
theorem w_c47 : (Jvm.Cond.code ({ cls := "java/util/ImmutableCollections$List12", name := "get", desc := "(I)Ljava/lang/Object;" } : Jvm.MethodName) jdk_44_method_5_code (2 : Nat) (Option.some (Jvm.ClassFile.FieldType.object "java/lang/Object"))).before args0 about1 = true := code_word (m := ⟨25, 2⟩) (meth := k25m2) (c := k25c2) (by decide +kernel) rfl rfl rfl (by decide +kernel)
set_option maxRecDepth 65536 in
theorem w_c48 : (Jvm.Cond.code ({ cls := "java/lang/String", name := "equals", desc := "(Ljava/lang/Object;)Z" } : Jvm.MethodName) jdk_42_method_66_code (3 : Nat) (Option.some Jvm.ClassFile.FieldType.boolean)).before args0 about1 = true := code_word (m := ⟨7, 2⟩) (meth := k7m2) (c := k7c2) (by decide +kernel) rfl rfl rfl (by decide +kernel)
set_option maxRecDepth 65536 in
theorem w_c49 : (Jvm.Cond.code ({ cls := "java/lang/StringLatin1", name := "equals", desc := "([B[B)Z" } : Jvm.MethodName) jdk_43_method_13_code (3 : Nat) (Option.some Jvm.ClassFile.FieldType.boolean)).before args0 about1 = true := code_word (m := ⟨9, 2⟩) (meth := k9m2) (c := k9c2) (by decide +kernel) rfl rfl rfl (by decide +kernel)
set_option maxRecDepth 65536 in
theorem w_c50 : (Jvm.Cond.code ({ cls := "java/util/ImmutableCollections$ListN", name := "size", desc := "()I" } : Jvm.MethodName) jdk_45_method_3_code (1 : Nat) (Option.some Jvm.ClassFile.FieldType.int)).before args0 about1 = true := code_word (m := ⟨32, 0⟩) (meth := k32m0) (c := k32c0) (by decide +kernel) rfl rfl rfl (by decide +kernel)
def codes1 : List Jvm.Cond := [Jvm.Cond.code x code maxLocals ret, Jvm.Cond.code ({ cls := "com/example/peergrove/peergrove/service/FormOfPinLaw", name := "draw", desc := "(J)Ljava/lang/String;" } : Jvm.MethodName) method_2_code (6 : Nat) (Option.some (Jvm.ClassFile.FieldType.object "java/lang/String")), Jvm.Cond.code ({ cls := "java/lang/String", name := "<init>", desc := "([C)V" } : Jvm.MethodName) jdk_42_method_3_code (2 : Nat) (Option.none : Option Jvm.ClassFile.FieldType), Jvm.Cond.code ({ cls := "java/lang/String", name := "<init>", desc := "([CIILjava/lang/Void;)V" } : Jvm.MethodName) jdk_42_method_149_code (6 : Nat) (Option.none : Option Jvm.ClassFile.FieldType), Jvm.Cond.code ({ cls := "java/lang/Object", name := "<init>", desc := "()V" } : Jvm.MethodName) object_method_1_code (1 : Nat) (Option.none : Option Jvm.ClassFile.FieldType), Jvm.Cond.code ({ cls := "java/lang/StringUTF16", name := "compress", desc := "([CII)[B" } : Jvm.MethodName) jdk_52_method_16_code (6 : Nat) (Option.some (Jvm.ClassFile.FieldType.array Jvm.ClassFile.FieldType.byte)), Jvm.Cond.code ({ cls := "java/lang/StringUTF16", name := "compress", desc := "([CI[BII)I" } : Jvm.MethodName) jdk_52_method_21_code (7 : Nat) (Option.some Jvm.ClassFile.FieldType.int), Jvm.Cond.code ({ cls := "java/lang/StringUTF16", name := "coderFromArrayLen", desc := "([BI)B" } : Jvm.MethodName) jdk_52_method_15_code (2 : Nat) (Option.some Jvm.ClassFile.FieldType.byte), Jvm.Cond.code ({ cls := "java/lang/String", name := "valueOf", desc := "(C)Ljava/lang/String;" } : Jvm.MethodName) jdk_42_method_139_code (1 : Nat) (Option.some (Jvm.ClassFile.FieldType.object "java/lang/String")), Jvm.Cond.code ({ cls := "java/lang/StringLatin1", name := "canEncode", desc := "(C)Z" } : Jvm.MethodName) jdk_43_method_3_code (1 : Nat) (Option.some Jvm.ClassFile.FieldType.boolean), Jvm.Cond.code ({ cls := "java/lang/StringLatin1", name := "toBytes", desc := "(C)[B" } : Jvm.MethodName) jdk_43_method_46_code (1 : Nat) (Option.some (Jvm.ClassFile.FieldType.array Jvm.ClassFile.FieldType.byte)), Jvm.Cond.code ({ cls := "java/lang/String", name := "<init>", desc := "([BB)V" } : Jvm.MethodName) jdk_42_method_151_code (3 : Nat) (Option.none : Option Jvm.ClassFile.FieldType), Jvm.Cond.code ({ cls := "com/example/peergrove/peergrove/service/Form", name := "of", desc := "(Ljava/lang/String;Ljava/lang/String;)Lcom/example/peergrove/peergrove/service/Form;" } : Jvm.MethodName) prog_10_method_4_code (3 : Nat) (Option.some (Jvm.ClassFile.FieldType.object "com/example/peergrove/peergrove/service/Form")), Jvm.Cond.code ({ cls := "java/util/LinkedHashMap", name := "<init>", desc := "()V" } : Jvm.MethodName) jdk_94_method_16_code (1 : Nat) (Option.none : Option Jvm.ClassFile.FieldType), Jvm.Cond.code ({ cls := "java/util/HashMap", name := "<init>", desc := "()V" } : Jvm.MethodName) jdk_69_method_7_code (1 : Nat) (Option.none : Option Jvm.ClassFile.FieldType), Jvm.Cond.code ({ cls := "java/util/AbstractMap", name := "<init>", desc := "()V" } : Jvm.MethodName) jdk_71_method_1_code (1 : Nat) (Option.none : Option Jvm.ClassFile.FieldType), Jvm.Cond.code ({ cls := "java/util/List", name := "of", desc := "(Ljava/lang/Object;)Ljava/util/List;" } : Jvm.MethodName) jdk_40_method_37_code (1 : Nat) (Option.some (Jvm.ClassFile.FieldType.object "java/util/List")), Jvm.Cond.code ({ cls := "java/util/ImmutableCollections$List12", name := "<init>", desc := "(Ljava/lang/Object;)V" } : Jvm.MethodName) jdk_44_method_1_code (2 : Nat) (Option.none : Option Jvm.ClassFile.FieldType), Jvm.Cond.code ({ cls := "java/util/ImmutableCollections$AbstractImmutableList", name := "<init>", desc := "()V" } : Jvm.MethodName) jdk_46_method_1_code (1 : Nat) (Option.none : Option Jvm.ClassFile.FieldType), Jvm.Cond.code ({ cls := "java/util/ImmutableCollections$AbstractImmutableCollection", name := "<init>", desc := "()V" } : Jvm.MethodName) jdk_47_method_1_code (1 : Nat) (Option.none : Option Jvm.ClassFile.FieldType), Jvm.Cond.code ({ cls := "java/util/AbstractCollection", name := "<init>", desc := "()V" } : Jvm.MethodName) jdk_22_method_1_code (1 : Nat) (Option.none : Option Jvm.ClassFile.FieldType), Jvm.Cond.code ({ cls := "java/util/Objects", name := "requireNonNull", desc := "(Ljava/lang/Object;)Ljava/lang/Object;" } : Jvm.MethodName) jdk_31_method_10_code (1 : Nat) (Option.some (Jvm.ClassFile.FieldType.object "java/lang/Object")), Jvm.Cond.code ({ cls := "java/util/HashMap", name := "put", desc := "(Ljava/lang/Object;Ljava/lang/Object;)Ljava/lang/Object;" } : Jvm.MethodName) jdk_69_method_15_code (3 : Nat) (Option.some (Jvm.ClassFile.FieldType.object "java/lang/Object")), Jvm.Cond.code ({ cls := "java/util/HashMap", name := "hash", desc := "(Ljava/lang/Object;)I" } : Jvm.MethodName) jdk_69_method_1_code (2 : Nat) (Option.some Jvm.ClassFile.FieldType.int), Jvm.Cond.code ({ cls := "java/lang/String", name := "hashCode", desc := "()I" } : Jvm.MethodName) jdk_42_method_78_code (2 : Nat) (Option.some Jvm.ClassFile.FieldType.int), Jvm.Cond.code ({ cls := "java/lang/String", name := "isLatin1", desc := "()Z" } : Jvm.MethodName) jdk_42_method_154_code (1 : Nat) (Option.some Jvm.ClassFile.FieldType.boolean), Jvm.Cond.code ({ cls := "java/lang/StringLatin1", name := "hashCode", desc := "([B)I" } : Jvm.MethodName) jdk_43_method_21_code (1 : Nat) (Option.some Jvm.ClassFile.FieldType.int), Jvm.Cond.code ({ cls := "jdk/internal/util/ArraysSupport", name := "vectorizedHashCode", desc := "(Ljava/lang/Object;IIII)I" } : Jvm.MethodName) jdk_48_method_4_code (5 : Nat) (Option.some Jvm.ClassFile.FieldType.int), Jvm.Cond.code ({ cls := "jdk/internal/util/ArraysSupport", name := "signedHashCode", desc := "(I[BII)I" } : Jvm.MethodName) jdk_48_method_5_code (6 : Nat) (Option.some Jvm.ClassFile.FieldType.int), Jvm.Cond.code ({ cls := "java/util/HashMap", name := "putVal", desc := "(ILjava/lang/Object;Ljava/lang/Object;ZZ)Ljava/lang/Object;" } : Jvm.MethodName) jdk_69_method_16_code (13 : Nat) (Option.some (Jvm.ClassFile.FieldType.object "java/lang/Object")), Jvm.Cond.code ({ cls := "java/util/HashMap", name := "resize", desc := "()[Ljava/util/HashMap$Node;" } : Jvm.MethodName) jdk_69_method_17_code (14 : Nat) (Option.some (Jvm.ClassFile.FieldType.array (Jvm.ClassFile.FieldType.object "java/util/HashMap$Node"))), Jvm.Cond.code ({ cls := "java/util/LinkedHashMap", name := "newNode", desc := "(ILjava/lang/Object;Ljava/lang/Object;Ljava/util/HashMap$Node;)Ljava/util/HashMap$Node;" } : Jvm.MethodName) jdk_94_method_4_code (6 : Nat) (Option.some (Jvm.ClassFile.FieldType.object "java/util/HashMap$Node")), Jvm.Cond.code ({ cls := "java/util/LinkedHashMap$Entry", name := "<init>", desc := "(ILjava/lang/Object;Ljava/lang/Object;Ljava/util/HashMap$Node;)V" } : Jvm.MethodName) jdk_83_method_1_code (5 : Nat) (Option.none : Option Jvm.ClassFile.FieldType), Jvm.Cond.code ({ cls := "java/util/HashMap$Node", name := "<init>", desc := "(ILjava/lang/Object;Ljava/lang/Object;Ljava/util/HashMap$Node;)V" } : Jvm.MethodName) jdk_70_method_1_code (5 : Nat) (Option.none : Option Jvm.ClassFile.FieldType), Jvm.Cond.code ({ cls := "java/util/LinkedHashMap", name := "linkNodeAtEnd", desc := "(Ljava/util/LinkedHashMap$Entry;)V" } : Jvm.MethodName) jdk_94_method_1_code (3 : Nat) (Option.none : Option Jvm.ClassFile.FieldType), Jvm.Cond.code ({ cls := "java/util/LinkedHashMap", name := "afterNodeInsertion", desc := "(Z)V" } : Jvm.MethodName) jdk_94_method_9_code (4 : Nat) (Option.none : Option Jvm.ClassFile.FieldType), Jvm.Cond.code ({ cls := "java/util/LinkedHashMap", name := "removeEldestEntry", desc := "(Ljava/util/Map$Entry;)Z" } : Jvm.MethodName) jdk_94_method_23_code (2 : Nat) (Option.some Jvm.ClassFile.FieldType.boolean), Jvm.Cond.code ({ cls := "com/example/peergrove/peergrove/service/Form", name := "<init>", desc := "(Ljava/util/Map;)V" } : Jvm.MethodName) prog_10_method_1_code (2 : Nat) (Option.none : Option Jvm.ClassFile.FieldType), Jvm.Cond.code ({ cls := "com/example/peergrove/peergrove/service/Form", name := "all", desc := "(Ljava/lang/String;)Ljava/util/List;" } : Jvm.MethodName) prog_10_method_7_code (2 : Nat) (Option.some (Jvm.ClassFile.FieldType.object "java/util/List")), Jvm.Cond.code ({ cls := "java/util/List", name := "of", desc := "()Ljava/util/List;" } : Jvm.MethodName) jdk_40_method_36_code (0 : Nat) (Option.some (Jvm.ClassFile.FieldType.object "java/util/List")), Jvm.Cond.code ({ cls := "java/util/LinkedHashMap", name := "getOrDefault", desc := "(Ljava/lang/Object;Ljava/lang/Object;)Ljava/lang/Object;" } : Jvm.MethodName) jdk_94_method_21_code (4 : Nat) (Option.some (Jvm.ClassFile.FieldType.object "java/lang/Object")), Jvm.Cond.code ({ cls := "java/util/HashMap", name := "getNode", desc := "(Ljava/lang/Object;)Ljava/util/HashMap$Node;" } : Jvm.MethodName) jdk_69_method_13_code (8 : Nat) (Option.some (Jvm.ClassFile.FieldType.object "java/util/HashMap$Node")), Jvm.Cond.code ({ cls := "java/util/List", name := "copyOf", desc := "(Ljava/util/Collection;)Ljava/util/List;" } : Jvm.MethodName) jdk_40_method_48_code (1 : Nat) (Option.some (Jvm.ClassFile.FieldType.object "java/util/List")), Jvm.Cond.code ({ cls := "java/util/ImmutableCollections", name := "listCopy", desc := "(Ljava/util/Collection;)Ljava/util/List;" } : Jvm.MethodName) jdk_56_method_3_code (2 : Nat) (Option.some (Jvm.ClassFile.FieldType.object "java/util/List")), Jvm.Cond.code ({ cls := "com/example/peergrove/peergrove/service/Form", name := "has", desc := "(Ljava/lang/String;)Z" } : Jvm.MethodName) prog_10_method_6_code (2 : Nat) (Option.some Jvm.ClassFile.FieldType.boolean), Jvm.Cond.code ({ cls := "java/util/HashMap", name := "containsKey", desc := "(Ljava/lang/Object;)Z" } : Jvm.MethodName) jdk_69_method_14_code (2 : Nat) (Option.some Jvm.ClassFile.FieldType.boolean), Jvm.Cond.code ({ cls := "java/util/ImmutableCollections$List12", name := "size", desc := "()I" } : Jvm.MethodName) jdk_44_method_3_code (1 : Nat) (Option.some Jvm.ClassFile.FieldType.int), Jvm.Cond.code ({ cls := "java/util/ImmutableCollections$List12", name := "get", desc := "(I)Ljava/lang/Object;" } : Jvm.MethodName) jdk_44_method_5_code (2 : Nat) (Option.some (Jvm.ClassFile.FieldType.object "java/lang/Object")), Jvm.Cond.code ({ cls := "java/lang/String", name := "equals", desc := "(Ljava/lang/Object;)Z" } : Jvm.MethodName) jdk_42_method_66_code (3 : Nat) (Option.some Jvm.ClassFile.FieldType.boolean), Jvm.Cond.code ({ cls := "java/lang/StringLatin1", name := "equals", desc := "([B[B)Z" } : Jvm.MethodName) jdk_43_method_13_code (3 : Nat) (Option.some Jvm.ClassFile.FieldType.boolean), Jvm.Cond.code ({ cls := "java/util/ImmutableCollections$ListN", name := "size", desc := "()I" } : Jvm.MethodName) jdk_45_method_3_code (1 : Nat) (Option.some Jvm.ClassFile.FieldType.int)]
set_option maxRecDepth 65536 in
theorem codes_eq : words1.filter isCode = codes1 := rfl
theorem w_codes : ∀ c ∈ words1.filter isCode, c.before args0 about1 = true := by
  rw [codes_eq]
  intro c hc
  simp only [codes1, List.mem_cons, List.not_mem_nil, or_false] at hc
  rcases hc with rfl | rfl | rfl | rfl | rfl | rfl | rfl | rfl | rfl | rfl | rfl | rfl | rfl | rfl | rfl | rfl | rfl | rfl | rfl | rfl | rfl | rfl | rfl | rfl | rfl | rfl | rfl | rfl | rfl | rfl | rfl | rfl | rfl | rfl | rfl | rfl | rfl | rfl | rfl | rfl | rfl | rfl | rfl | rfl | rfl | rfl | rfl | rfl | rfl | rfl | rfl
  · exact w_c0
  · exact w_c1
  · exact w_c2
  · exact w_c3
  · exact w_c4
  · exact w_c5
  · exact w_c6
  · exact w_c7
  · exact w_c8
  · exact w_c9
  · exact w_c10
  · exact w_c11
  · exact w_c12
  · exact w_c13
  · exact w_c14
  · exact w_c15
  · exact w_c16
  · exact w_c17
  · exact w_c18
  · exact w_c19
  · exact w_c20
  · exact w_c21
  · exact w_c22
  · exact w_c23
  · exact w_c24
  · exact w_c25
  · exact w_c26
  · exact w_c27
  · exact w_c28
  · exact w_c29
  · exact w_c30
  · exact w_c31
  · exact w_c32
  · exact w_c33
  · exact w_c34
  · exact w_c35
  · exact w_c36
  · exact w_c37
  · exact w_c38
  · exact w_c39
  · exact w_c40
  · exact w_c41
  · exact w_c42
  · exact w_c43
  · exact w_c44
  · exact w_c45
  · exact w_c46
  · exact w_c47
  · exact w_c48
  · exact w_c49
  · exact w_c50
set_option maxRecDepth 65536 in
theorem w_t1 : (words1.take 24).all (fun c => isCode c || c.before args0 about1) = true := by decide +kernel
set_option maxRecDepth 65536 in
theorem w_t2 : ((words1.drop 24).take 24).all (fun c => isCode c || c.before args0 about1) = true := by decide +kernel
set_option maxRecDepth 65536 in
theorem w_t3 : (((words1.drop 24).drop 24).take 24).all (fun c => isCode c || c.before args0 about1) = true := by decide +kernel
set_option maxRecDepth 65536 in
theorem w_t4 : ((((words1.drop 24).drop 24).drop 24).take 24).all (fun c => isCode c || c.before args0 about1) = true := by decide +kernel
set_option maxRecDepth 65536 in
theorem w_t5 : (((((words1.drop 24).drop 24).drop 24).drop 24).take 24).all (fun c => isCode c || c.before args0 about1) = true := by decide +kernel
set_option maxRecDepth 65536 in
theorem w_t6 : ((((((words1.drop 24).drop 24).drop 24).drop 24).drop 24).take 24).all (fun c => isCode c || c.before args0 about1) = true := by decide +kernel
set_option maxRecDepth 65536 in
theorem w_t7 : (((((((words1.drop 24).drop 24).drop 24).drop 24).drop 24).drop 24).take 24).all (fun c => isCode c || c.before args0 about1) = true := by decide +kernel
set_option maxRecDepth 65536 in
theorem w_t8 : ((((((((words1.drop 24).drop 24).drop 24).drop 24).drop 24).drop 24).drop 24).take 24).all (fun c => isCode c || c.before args0 about1) = true := by decide +kernel
set_option maxRecDepth 65536 in
theorem w_t9 : (((((((((words1.drop 24).drop 24).drop 24).drop 24).drop 24).drop 24).drop 24).drop 24).take 24).all (fun c => isCode c || c.before args0 about1) = true := by decide +kernel
set_option maxRecDepth 65536 in
theorem w_t10 : ((((((((((words1.drop 24).drop 24).drop 24).drop 24).drop 24).drop 24).drop 24).drop 24).drop 24).take 24).all (fun c => isCode c || c.before args0 about1) = true := by decide +kernel
set_option maxRecDepth 65536 in
theorem w_t11 : (((((((((((words1.drop 24).drop 24).drop 24).drop 24).drop 24).drop 24).drop 24).drop 24).drop 24).drop 24).take 24).all (fun c => isCode c || c.before args0 about1) = true := by decide +kernel
set_option maxRecDepth 65536 in
theorem w_t12 : ((((((((((((words1.drop 24).drop 24).drop 24).drop 24).drop 24).drop 24).drop 24).drop 24).drop 24).drop 24).drop 24).take 24).all (fun c => isCode c || c.before args0 about1) = true := by decide +kernel
set_option maxRecDepth 65536 in
theorem w_t13 : (((((((((((((words1.drop 24).drop 24).drop 24).drop 24).drop 24).drop 24).drop 24).drop 24).drop 24).drop 24).drop 24).drop 24).take 24).all (fun c => isCode c || c.before args0 about1) = true := by decide +kernel
set_option maxRecDepth 65536 in
theorem w_t14 : ((((((((((((((words1.drop 24).drop 24).drop 24).drop 24).drop 24).drop 24).drop 24).drop 24).drop 24).drop 24).drop 24).drop 24).drop 24).take 24).all (fun c => isCode c || c.before args0 about1) = true := by decide +kernel
set_option maxRecDepth 65536 in
theorem w_t15 : ((((((((((((((words1.drop 24).drop 24).drop 24).drop 24).drop 24).drop 24).drop 24).drop 24).drop 24).drop 24).drop 24).drop 24).drop 24).drop 24).all (fun c => isCode c || c.before args0 about1) = true := by decide +kernel
theorem w_tables : (allAtoms (Jvm.Cond.code x code maxLocals ret :: tables_1)).before args0 about1 = true := by
  rw [allAtoms_all]
  show words1.all (fun c => c.before args0 about1) = true
  refine all_split ?_ w_codes
  rw [← List.take_append_drop 24 words1, List.all_append, w_t1, ← List.take_append_drop 24 (words1.drop 24), List.all_append, w_t2, ← List.take_append_drop 24 ((words1.drop 24).drop 24), List.all_append, w_t3, ← List.take_append_drop 24 (((words1.drop 24).drop 24).drop 24), List.all_append, w_t4, ← List.take_append_drop 24 ((((words1.drop 24).drop 24).drop 24).drop 24), List.all_append, w_t5, ← List.take_append_drop 24 (((((words1.drop 24).drop 24).drop 24).drop 24).drop 24), List.all_append, w_t6, ← List.take_append_drop 24 ((((((words1.drop 24).drop 24).drop 24).drop 24).drop 24).drop 24), List.all_append, w_t7, ← List.take_append_drop 24 (((((((words1.drop 24).drop 24).drop 24).drop 24).drop 24).drop 24).drop 24), List.all_append, w_t8, ← List.take_append_drop 24 ((((((((words1.drop 24).drop 24).drop 24).drop 24).drop 24).drop 24).drop 24).drop 24), List.all_append, w_t9, ← List.take_append_drop 24 (((((((((words1.drop 24).drop 24).drop 24).drop 24).drop 24).drop 24).drop 24).drop 24).drop 24), List.all_append, w_t10, ← List.take_append_drop 24 ((((((((((words1.drop 24).drop 24).drop 24).drop 24).drop 24).drop 24).drop 24).drop 24).drop 24).drop 24), List.all_append, w_t11, ← List.take_append_drop 24 (((((((((((words1.drop 24).drop 24).drop 24).drop 24).drop 24).drop 24).drop 24).drop 24).drop 24).drop 24).drop 24), List.all_append, w_t12, ← List.take_append_drop 24 ((((((((((((words1.drop 24).drop 24).drop 24).drop 24).drop 24).drop 24).drop 24).drop 24).drop 24).drop 24).drop 24).drop 24), List.all_append, w_t13, ← List.take_append_drop 24 (((((((((((((words1.drop 24).drop 24).drop 24).drop 24).drop 24).drop 24).drop 24).drop 24).drop 24).drop 24).drop 24).drop 24).drop 24), List.all_append, w_t14, w_t15]
  rfl
set_option maxRecDepth 65536 in
theorem w_rest : rest_1_c.before args0 about1 = true := by decide +kernel
set_option maxRecDepth 65536 in
theorem w_case : (Jvm.Cond.and given_1 narrow_1).before args0 about1 = true := by decide +kernel
set_option maxRecDepth 65536 in
theorem w_consts : constsHeld consts_1 about1 := Jvm.Lit.constsHeldB_iff.mp (by decide +kernel)
theorem w_applies : (headSpec (Jvm.Cond.code x code maxLocals ret :: tables_1) room_1).applies x e0.platform about1 = true :=
  (Spec.applies_iff w_frames).mpr ⟨w_running, w_runnable, w_alone, w_named, w_hears, w_ripe, w_room, w_tables⟩
theorem atStart : AtStart classFile x code maxLocals ret World_1 tables_1 room_1 Calls_1 rest_1 Pre_1 launch0 p0 e0 about1 theMethod args0 below0 :=
  ⟨lists_1, trivial, launch0.admits_env _ _ _, launch0.least_env, fairChoices_fair.cas, fairChoices_fair.clock, w_frames, w_args, w_heap, w_applies, ⟨w_consts, trivial⟩, w_rest, w_case⟩
end start1
theorem witness_1 : WitnessClaimed_1 := ⟨start1.p0, start1.e0, start1.about1, start1.theMethod, start1.args0, start1.below0, start1.atStart⟩
end Jvm.Pilot.@@N@@
