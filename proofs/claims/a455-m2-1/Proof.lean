import JvmDerived
import JvmDerived.Pilot.@@N@@Statement
import JvmDerived.Pilot.@@N@@Code
set_option linter.unusedVariables false
set_option linter.unusedSimpArgs false
namespace Jvm.Pilot.@@N@@
open Jvm Jvm.ClassFile Sem Op Lib Jvm.Free Jvm.Stand Jvm.LawKit Jvm.RoadKit Bundle Jvm.Pilot.@@N@@.Jvm.D

/-! own_K: where a walk stands, with all that its steps ask; own_Ct: a body's contract. -/
section Own
def own_Cl (p : Program) (e : Env) (below : List Frame) (G : State → Prop) : Prop := ∀ S S', (∀ t, Steps p.tables e below S' t → Steps p.tables e below S t) → G S' → G S
def own_Out (p : Program) (e : Env) (m : MethodId) (below : List Frame) (T : State) (v : Option Value) (S : State) : Prop := ∀ fs : List Frame, (∀ (f : JFrame) (acts : List Action), f.method = m → f.locked = none → f.entered = [] → (doReturn e (T.setTop f) acts v).1 = T.setFrames fs) → Steps p.tables e below S (T.setFrames fs)
def own_Fin (p : Program) (l : Launch) (e : Env) (R : Room) (s : State) (m : MethodId) (args : Array Value) (below : List Frame) (meth : Method) (c : Code) (Q : Option Value → Heap → Prop) (G : State → Prop) (Z : State) : Prop :=
  ∀ (T : State) (L : List Loc) (k n : Nat) (v : Option Value) (S : State), Stand p l e R s m args below meth c T L k n → Fr Z.heap.size L → Ext Z.heap T.heap → k ≤ R.cells → n ≤ R.slots → (meth.sig.returnType = none → v = none) → Q v T.heap → own_Out p e m below T v S → G S
def own_K (p : Program) (l : Launch) (e : Env) (R : Room) (s : State) (m : MethodId) (args : Array Value) (below : List Frame) (meth : Method) (c : Code) (bytes : ByteArray) (own nm : String) (mx : Nat) (ret : Option FieldType) (Q : Option Value → Heap → Prop) (G : State → Prop) (Z T : State) (L : List Loc) (k n : Nat) (h : Heap) : Prop :=
  Stand p l e R s m args below meth c T L k n ∧ p.tables.exec = Jvm.exec ∧ c.code = bytes ∧ c.maxLocals = mx ∧ s.vm.findClass own = some m.cls ∧ meth.name = nm ∧ meth.sig.returnType = ret ∧ Z.Warmed39 s.vm ∧ T.heap = h ∧ Fr Z.heap.size L ∧ Ext Z.heap h ∧ own_Cl p e below G ∧ own_Fin p l e R s m args below meth c Q G Z
def own_Ct (l : Launch) (Z : State) (y : MethodName) (bytes : ByteArray) (mx : Nat) (ret : Option FieldType) (ws : List Jvm.Cond) (rm : Room) (as' : Array Value) (h0 : Heap) (Q : Option Value → Heap → Prop) : Prop :=
  MetFree l y (head1 (Jvm.Cond.code y bytes mx ret :: ws) rm) (fun a U => a = as' ∧ Z.Warmed39 U.vm ∧ U.heap = h0) (fun _ _ _ _ _ => True) (fun _ U o U' => ∃ v L, o = .returned v ∧ (Fr Z.heap.size L ∧ Ext Z.heap U'.heap ∧ Q v U'.heap) ∧ FrameEnd U o U' L rm.cells rm.slots)
def own_CtK (l : Launch) (Z : State) (y : MethodName) (bytes : ByteArray) (mx : Nat) (ret : Option FieldType) (ws : List Jvm.Cond) (rm : Room) (as' : Array Value) (h0 : Heap) (Q : Option Value → Heap → Prop) : Prop :=
  MetFree l y (head1 (Jvm.Cond.code y bytes mx ret :: ws) rm) (fun a U => a = as' ∧ Z.Warmed39 U.vm ∧ U.heap = h0) (fun _ _ bl s _ => s.vm.MethodsKnown ∧ s.vm.FramesKnown bl) (fun _ U o U' => ∃ v L, o = .returned v ∧ (Fr Z.heap.size L ∧ Ext Z.heap U'.heap ∧ Q v U'.heap) ∧ FrameEnd U o U' L rm.cells rm.slots)
variable {p : Program} {l : Launch} {e : Env} {R : Room} {s : State} {m : MethodId} {args : Array Value} {below : List Frame} {meth : Method} {c : Code} {bytes : ByteArray} {own nm : String} {mx : Nat} {ret : Option FieldType} {Q : Option Value → Heap → Prop} {G : State → Prop} {Z T T' : State} {L L' : List Loc} {k n k' n' : Nat} {h h' h1 h2 : Heap} {a0 : Array Value} {pc pc' : Nat} {Ls Ls' : Array Slot} {st rest : List Value}
theorem own_K.X (K : own_K p l e R s m args below meth c bytes own nm mx ret Q G Z T L k n h) : Stand p l e R s m args below meth c T L k n := K.1
theorem own_K.here (K : own_K p l e R s m args below meth c bytes own nm mx ret Q G Z T L k n h) : At T m c below := K.1.here
theorem own_K.hx (K : own_K p l e R s m args below meth c bytes own nm mx ret Q G Z T L k n h) : p.tables.exec = Jvm.exec := K.2.1
theorem own_K.hby (K : own_K p l e R s m args below meth c bytes own nm mx ret Q G Z T L k n h) : c.code = bytes := K.2.2.1
theorem own_K.hml (K : own_K p l e R s m args below meth c bytes own nm mx ret Q G Z T L k n h) : c.maxLocals = mx := K.2.2.2.1
theorem own_K.hown (K : own_K p l e R s m args below meth c bytes own nm mx ret Q G Z T L k n h) : s.vm.findClass own = some m.cls := K.2.2.2.2.1
theorem own_K.hnm (K : own_K p l e R s m args below meth c bytes own nm mx ret Q G Z T L k n h) : meth.name = nm := K.2.2.2.2.2.1
theorem own_K.hret (K : own_K p l e R s m args below meth c bytes own nm mx ret Q G Z T L k n h) : meth.sig.returnType = ret := K.2.2.2.2.2.2.1
theorem own_K.hZ (K : own_K p l e R s m args below meth c bytes own nm mx ret Q G Z T L k n h) : Z.Warmed39 s.vm := K.2.2.2.2.2.2.2.1
theorem own_K.eh (K : own_K p l e R s m args below meth c bytes own nm mx ret Q G Z T L k n h) : T.heap = h := K.2.2.2.2.2.2.2.2.1
theorem own_K.fr (K : own_K p l e R s m args below meth c bytes own nm mx ret Q G Z T L k n h) : Fr Z.heap.size L := K.2.2.2.2.2.2.2.2.2.1
theorem own_K.O (K : own_K p l e R s m args below meth c bytes own nm mx ret Q G Z T L k n h) : Ext Z.heap h := K.2.2.2.2.2.2.2.2.2.2.1
theorem own_K.cl (K : own_K p l e R s m args below meth c bytes own nm mx ret Q G Z T L k n h) : own_Cl p e below G := K.2.2.2.2.2.2.2.2.2.2.2.1
theorem own_K.fin (K : own_K p l e R s m args below meth c bytes own nm mx ret Q G Z T L k n h) : own_Fin p l e R s m args below meth c Q G Z := K.2.2.2.2.2.2.2.2.2.2.2.2
theorem own_K.nx (K : own_K p l e R s m args below meth c bytes own nm mx ret Q G Z T L k n h) (X' : Stand p l e R s m args below meth c T' L' k' n') (e' : T'.heap = h') (N' : Fr Z.heap.size L') (O' : Ext Z.heap h') : own_K p l e R s m args below meth c bytes own nm mx ret Q G Z T' L' k' n' h' :=
  ⟨X', K.hx, K.hby, K.hml, K.hown, K.hnm, K.hret, K.hZ, e', N', O', K.cl, K.fin⟩
theorem own_K.more (K : own_K p l e R s m args below meth c bytes own nm mx ret Q G Z T L k n h) (hk : k ≤ k') (hn : n ≤ n') : own_K p l e R s m args below meth c bytes own nm mx ret Q G Z T L k' n' h :=
  K.nx (K.X.more hk hn) K.eh K.fr K.O
theorem own_cat1 {v : Value} (h : v.isRef = true) : v.category = 1 := by cases v <;> simp [Value.isRef] at h <;> rfl
/-- the heap goes on: what was written lies in cells at or above the elder heap's end -/
theorem own_ext_refl (h : Heap) : Ext h h := ⟨Nat.le_refl _, fun _ _ q => q⟩
theorem own_ext_trans (E : Ext h h1) (E' : Ext h1 h2) : Ext h h2 := ⟨Nat.le_trans E.1 E'.1, fun a c q => E'.2 a c (E.2 a c q)⟩
theorem own_ext_keep {ws : List Addr} (E : Ext h h1) (K : Keep h1 h2 ws) (q : ∀ x ∈ ws, h.size ≤ x) : Ext h h2 := ⟨Nat.le_trans E.1 K.1, fun a c r => K.2.1 a c (E.2 a c r) fun z => absurd (Array.getElem?_eq_some_iff.mp r).1 (Nat.not_lt.mpr (q a z))⟩
theorem own_ext_wr {a : Addr} {sl : Nat} {v : Value} (E : Ext h h1) (W : Wr h1 h2 a sl v) (q : h.size ≤ a) : Ext h h2 := own_ext_keep E (Keep.of_wr W) fun x hx => by cases List.mem_singleton.mp hx; exact q
theorem own_keep_ext (K : Keep h h1 []) : Ext h h1 := ⟨K.1, fun a c q => K.2.1 a c q (fun z => nomatch z)⟩
theorem own_ext_of_keep (E : Ext h h1) : Keep h h1 [] := (Keep.refl h []).ext E
/-- a body's contract, from its walk -/
theorem own_body {y : MethodName} {ws : List Jvm.Cond} {rm : Room} {as' : Array Value} {h0 : Heap} (hpl : plainFor y = true) (hef : ∀ m, entryFrame m as' mx = mkF m 0 Ls []) (O0 : Ext Z.heap h0)
    (H : ∀ (p : Program) (e : Env) (s : State) (m : MethodId) (below : List Frame) (meth : Method) (c : Code) (T : State) (G : State → Prop), own_K p l e rm s m as' below meth c bytes y.cls y.name mx ret Q G Z T [] 0 0 h0 → G (T.setTop (mkF m 0 Ls []))) :
    own_Ct l Z y bytes mx ret ws rm as' h0 Q := by
  refine MetFree.of_bodySF hpl hisR ?_
  intro p e s m args below meth c s₁ Bd hml0 hP hK
  obtain ⟨rfl, hZ, hh⟩ := hP
  have X0 : Stand p l e rm s m args below meth c s₁ [] 0 0 := Stand.of_body Bd
  have e0 : s₁.heap = h0 := by rw [← hh, Bd.state]; rfl
  have hlocks := BodyLoose.notSynchronized Bd
  have q := H p e s m below meth c s₁ (fun S => ∃ (T : State) (L : List Loc) (k n : Nat) (v : Option Value), Stand p l e rm s m args below meth c T L k n ∧ Fr Z.heap.size L ∧ Ext Z.heap T.heap ∧ k ≤ rm.cells ∧ n ≤ rm.slots ∧ (meth.sig.returnType = none → v = none) ∧ Q v T.heap ∧ own_Out p e m below T v S)
    ⟨X0, Bd.exec, Bd.bytes, hml0, findClass_of_methodNamed Bd.named, (name_of_methodNamed Bd.named Bd.method).1, Bd.returns, hZ, e0, Fr.nil _, O0, fun S S' hs ⟨T, L, k, n, v, h1, h2, h3, h4, h5, h6, h7, h8⟩ => ⟨T, L, k, n, v, h1, h2, h3, h4, h5, h6, h7, fun fs hfs => hs _ (h8 fs hfs)⟩, fun T L k n v S h1 h2 h3 h4 h5 h6 h7 h8 => ⟨T, L, k, n, v, h1, h2, h3, h4, h5, h6, h7, h8⟩⟩
  obtain ⟨T, L, k, n, v, X, N, O, hk, hn, hv, hQ, hout⟩ := q
  obtain ⟨fs, hr, hrun, hended, hW, hsame⟩ := X.leave (v := v) hv
  refine ⟨_, _, castTop (hef m) (hout fs hr), hrun, hended, _, _, rfl, ⟨N, O, hQ⟩, ⟨_, rfl⟩, hW, hsame.mono hk hn⟩
/-- the same, where a stack trace is filled in beneath -/
theorem own_bodyK {y : MethodName} {ws : List Jvm.Cond} {rm : Room} {as' : Array Value} {h0 : Heap} (hpl : plainFor y = true) (hef : ∀ m, entryFrame m as' mx = mkF m 0 Ls []) (O0 : Ext Z.heap h0)
    (H : ∀ (p : Program) (e : Env) (s : State) (m : MethodId) (below : List Frame) (meth : Method) (c : Code) (T : State) (G : State → Prop), s.vm.MethodsKnown ∧ s.vm.FramesKnown below → s.heap = h0 → own_K p l e rm s m as' below meth c bytes y.cls y.name mx ret Q G Z T [] 0 0 h0 → G (T.setTop (mkF m 0 Ls []))) :
    own_CtK l Z y bytes mx ret ws rm as' h0 Q := by
  refine MetFree.of_bodySF hpl hisR ?_
  intro p e s m args below meth c s₁ Bd hml0 hP hK
  obtain ⟨rfl, hZ, hh⟩ := hP
  have X0 : Stand p l e rm s m args below meth c s₁ [] 0 0 := Stand.of_body Bd
  have e0 : s₁.heap = h0 := by rw [← hh, Bd.state]; rfl
  have hlocks := BodyLoose.notSynchronized Bd
  have q := H p e s m below meth c s₁ (fun S => ∃ (T : State) (L : List Loc) (k n : Nat) (v : Option Value), Stand p l e rm s m args below meth c T L k n ∧ Fr Z.heap.size L ∧ Ext Z.heap T.heap ∧ k ≤ rm.cells ∧ n ≤ rm.slots ∧ (meth.sig.returnType = none → v = none) ∧ Q v T.heap ∧ own_Out p e m below T v S) hK hh
    ⟨X0, Bd.exec, Bd.bytes, hml0, findClass_of_methodNamed Bd.named, (name_of_methodNamed Bd.named Bd.method).1, Bd.returns, hZ, e0, Fr.nil _, O0, fun S S' hs ⟨T, L, k, n, v, h1, h2, h3, h4, h5, h6, h7, h8⟩ => ⟨T, L, k, n, v, h1, h2, h3, h4, h5, h6, h7, fun fs hfs => hs _ (h8 fs hfs)⟩, fun T L k n v S h1 h2 h3 h4 h5 h6 h7 h8 => ⟨T, L, k, n, v, h1, h2, h3, h4, h5, h6, h7, h8⟩⟩
  obtain ⟨T, L, k, n, v, X, N, O, hk, hn, hv, hQ, hout⟩ := q
  obtain ⟨fs, hr, hrun, hended, hW, hsame⟩ := X.leave (v := v) hv
  refine ⟨_, _, castTop (hef m) (hout fs hr), hrun, hended, _, _, rfl, ⟨N, O, hQ⟩, ⟨_, rfl⟩, hW, hsame.mono hk hn⟩

theorem own_iadd (K : own_K p l e R s m args below meth c bytes own nm mx ret Q G Z T L k n h) {x y : Int32} (hd : decode bytes pc = .ok (.iadd, 1)) (hp : pc + 1 = pc') (kk : G (T.setTop (mkF m pc' Ls (.int (x + y) :: rest)))) : G (T.setTop (mkF m pc Ls (.int y :: .int x :: rest))) := by
  subst hp
  exact K.cl _ _ (fun t q => XS.iadd K.here K.hx rfl (hb K.hby hd) rfl q) kk
theorem own_isub (K : own_K p l e R s m args below meth c bytes own nm mx ret Q G Z T L k n h) {x y : Int32} (hd : decode bytes pc = .ok (.isub, 1)) (hp : pc + 1 = pc') (kk : G (T.setTop (mkF m pc' Ls (.int (x - y) :: rest)))) : G (T.setTop (mkF m pc Ls (.int y :: .int x :: rest))) := by
  subst hp
  exact K.cl _ _ (fun t q => XS.isub K.here K.hx rfl (hb K.hby hd) rfl q) kk
theorem own_imul (K : own_K p l e R s m args below meth c bytes own nm mx ret Q G Z T L k n h) {x y : Int32} (hd : decode bytes pc = .ok (.imul, 1)) (hp : pc + 1 = pc') (kk : G (T.setTop (mkF m pc' Ls (.int (x * y) :: rest)))) : G (T.setTop (mkF m pc Ls (.int y :: .int x :: rest))) := by
  subst hp
  exact K.cl _ _ (fun t q => XS.imul K.here K.hx rfl (hb K.hby hd) rfl q) kk
theorem own_iand (K : own_K p l e R s m args below meth c bytes own nm mx ret Q G Z T L k n h) {x y : Int32} (hd : decode bytes pc = .ok (.iand, 1)) (hp : pc + 1 = pc') (kk : G (T.setTop (mkF m pc' Ls (.int (x &&& y) :: rest)))) : G (T.setTop (mkF m pc Ls (.int y :: .int x :: rest))) := by
  subst hp
  exact K.cl _ _ (fun t q => XS.iand K.here K.hx rfl (hb K.hby hd) rfl q) kk
theorem own_ior (K : own_K p l e R s m args below meth c bytes own nm mx ret Q G Z T L k n h) {x y : Int32} (hd : decode bytes pc = .ok (.ior, 1)) (hp : pc + 1 = pc') (kk : G (T.setTop (mkF m pc' Ls (.int (x ||| y) :: rest)))) : G (T.setTop (mkF m pc Ls (.int y :: .int x :: rest))) := by
  subst hp
  exact K.cl _ _ (fun t q => XS.ior K.here K.hx rfl (hb K.hby hd) rfl q) kk
theorem own_ixor (K : own_K p l e R s m args below meth c bytes own nm mx ret Q G Z T L k n h) {x y : Int32} (hd : decode bytes pc = .ok (.ixor, 1)) (hp : pc + 1 = pc') (kk : G (T.setTop (mkF m pc' Ls (.int (x ^^^ y) :: rest)))) : G (T.setTop (mkF m pc Ls (.int y :: .int x :: rest))) := by
  subst hp
  exact K.cl _ _ (fun t q => XS.ixor K.here K.hx rfl (hb K.hby hd) rfl q) kk
theorem own_ishl (K : own_K p l e R s m args below meth c bytes own nm mx ret Q G Z T L k n h) {x y : Int32} (hd : decode bytes pc = .ok (.ishl, 1)) (hp : pc + 1 = pc') (kk : G (T.setTop (mkF m pc' Ls (.int (x <<< (y &&& 31)) :: rest)))) : G (T.setTop (mkF m pc Ls (.int y :: .int x :: rest))) := by
  subst hp
  exact K.cl _ _ (fun t q => XS.ishl K.here K.hx rfl (hb K.hby hd) rfl q) kk
theorem own_ishr (K : own_K p l e R s m args below meth c bytes own nm mx ret Q G Z T L k n h) {x y : Int32} (hd : decode bytes pc = .ok (.ishr, 1)) (hp : pc + 1 = pc') (kk : G (T.setTop (mkF m pc' Ls (.int (x >>> (y &&& 31)) :: rest)))) : G (T.setTop (mkF m pc Ls (.int y :: .int x :: rest))) := by
  subst hp
  exact K.cl _ _ (fun t q => XS.ishr K.here K.hx rfl (hb K.hby hd) rfl q) kk
theorem own_iushr (K : own_K p l e R s m args below meth c bytes own nm mx ret Q G Z T L k n h) {x y : Int32} (hd : decode bytes pc = .ok (.iushr, 1)) (hp : pc + 1 = pc') (kk : G (T.setTop (mkF m pc' Ls (.int ((x.toUInt32 >>> (y &&& 31).toUInt32).toInt32) :: rest)))) : G (T.setTop (mkF m pc Ls (.int y :: .int x :: rest))) := by
  subst hp
  exact K.cl _ _ (fun t q => XS.iushr K.here K.hx rfl (hb K.hby hd) rfl q) kk
theorem own_ladd (K : own_K p l e R s m args below meth c bytes own nm mx ret Q G Z T L k n h) {x y : Int64} (hd : decode bytes pc = .ok (.ladd, 1)) (hp : pc + 1 = pc') (kk : G (T.setTop (mkF m pc' Ls (.long (x + y) :: rest)))) : G (T.setTop (mkF m pc Ls (.long y :: .long x :: rest))) := by
  subst hp
  exact K.cl _ _ (fun t q => XS.ladd K.here K.hx rfl (hb K.hby hd) rfl q) kk
theorem own_lsub (K : own_K p l e R s m args below meth c bytes own nm mx ret Q G Z T L k n h) {x y : Int64} (hd : decode bytes pc = .ok (.lsub, 1)) (hp : pc + 1 = pc') (kk : G (T.setTop (mkF m pc' Ls (.long (x - y) :: rest)))) : G (T.setTop (mkF m pc Ls (.long y :: .long x :: rest))) := by
  subst hp
  exact K.cl _ _ (fun t q => XS.lsub K.here K.hx rfl (hb K.hby hd) rfl q) kk
theorem own_lmul (K : own_K p l e R s m args below meth c bytes own nm mx ret Q G Z T L k n h) {x y : Int64} (hd : decode bytes pc = .ok (.lmul, 1)) (hp : pc + 1 = pc') (kk : G (T.setTop (mkF m pc' Ls (.long (x * y) :: rest)))) : G (T.setTop (mkF m pc Ls (.long y :: .long x :: rest))) := by
  subst hp
  exact K.cl _ _ (fun t q => XS.lmul K.here K.hx rfl (hb K.hby hd) rfl q) kk
theorem own_land (K : own_K p l e R s m args below meth c bytes own nm mx ret Q G Z T L k n h) {x y : Int64} (hd : decode bytes pc = .ok (.land, 1)) (hp : pc + 1 = pc') (kk : G (T.setTop (mkF m pc' Ls (.long (x &&& y) :: rest)))) : G (T.setTop (mkF m pc Ls (.long y :: .long x :: rest))) := by
  subst hp
  exact K.cl _ _ (fun t q => XS.land K.here K.hx rfl (hb K.hby hd) rfl q) kk
theorem own_lor (K : own_K p l e R s m args below meth c bytes own nm mx ret Q G Z T L k n h) {x y : Int64} (hd : decode bytes pc = .ok (.lor, 1)) (hp : pc + 1 = pc') (kk : G (T.setTop (mkF m pc' Ls (.long (x ||| y) :: rest)))) : G (T.setTop (mkF m pc Ls (.long y :: .long x :: rest))) := by
  subst hp
  exact K.cl _ _ (fun t q => XS.lor K.here K.hx rfl (hb K.hby hd) rfl q) kk
theorem own_lxor (K : own_K p l e R s m args below meth c bytes own nm mx ret Q G Z T L k n h) {x y : Int64} (hd : decode bytes pc = .ok (.lxor, 1)) (hp : pc + 1 = pc') (kk : G (T.setTop (mkF m pc' Ls (.long (x ^^^ y) :: rest)))) : G (T.setTop (mkF m pc Ls (.long y :: .long x :: rest))) := by
  subst hp
  exact K.cl _ _ (fun t q => XS.lxor K.here K.hx rfl (hb K.hby hd) rfl q) kk
theorem own_lshl (K : own_K p l e R s m args below meth c bytes own nm mx ret Q G Z T L k n h) {x : Int64} {y : Int32} (hd : decode bytes pc = .ok (.lshl, 1)) (hp : pc + 1 = pc') (kk : G (T.setTop (mkF m pc' Ls (.long (x <<< (y &&& 0x3f).toInt64) :: rest)))) : G (T.setTop (mkF m pc Ls (.int y :: .long x :: rest))) := by
  subst hp
  exact K.cl _ _ (fun t q => XS.lshl K.here K.hx rfl (hb K.hby hd) rfl q) kk
theorem own_lshr (K : own_K p l e R s m args below meth c bytes own nm mx ret Q G Z T L k n h) {x : Int64} {y : Int32} (hd : decode bytes pc = .ok (.lshr, 1)) (hp : pc + 1 = pc') (kk : G (T.setTop (mkF m pc' Ls (.long (x >>> (y &&& 0x3f).toInt64) :: rest)))) : G (T.setTop (mkF m pc Ls (.int y :: .long x :: rest))) := by
  subst hp
  exact K.cl _ _ (fun t q => XS.lshr K.here K.hx rfl (hb K.hby hd) rfl q) kk
theorem own_lushr (K : own_K p l e R s m args below meth c bytes own nm mx ret Q G Z T L k n h) {x : Int64} {y : Int32} (hd : decode bytes pc = .ok (.lushr, 1)) (hp : pc + 1 = pc') (kk : G (T.setTop (mkF m pc' Ls (.long ((x.toUInt64 >>> (y &&& 0x3f).toInt64.toUInt64).toInt64) :: rest)))) : G (T.setTop (mkF m pc Ls (.int y :: .long x :: rest))) := by
  subst hp
  exact K.cl _ _ (fun t q => XS.lushr K.here K.hx rfl (hb K.hby hd) rfl q) kk
theorem own_idiv (K : own_K p l e R s m args below meth c bytes own nm mx ret Q G Z T L k n h) {x y : Int32} (hd : decode bytes pc = .ok (.idiv, 1)) (hp : pc + 1 = pc') (hy : y ≠ 0) (kk : G (T.setTop (mkF m pc' Ls (.int (x / y) :: rest)))) : G (T.setTop (mkF m pc Ls (.int y :: .int x :: rest))) := by
  subst hp
  exact K.cl _ _ (fun t q => XS.idiv K.here K.hx rfl (hb K.hby hd) rfl hy q) kk
theorem own_ldiv (K : own_K p l e R s m args below meth c bytes own nm mx ret Q G Z T L k n h) {x y : Int64} (hd : decode bytes pc = .ok (.ldiv, 1)) (hp : pc + 1 = pc') (hy : y ≠ 0) (kk : G (T.setTop (mkF m pc' Ls (.long (x / y) :: rest)))) : G (T.setTop (mkF m pc Ls (.long y :: .long x :: rest))) := by
  subst hp
  exact K.cl _ _ (fun t q => XS.ldiv K.here K.hx rfl (hb K.hby hd) rfl hy q) kk
theorem own_irem (K : own_K p l e R s m args below meth c bytes own nm mx ret Q G Z T L k n h) {x y : Int32} (hd : decode bytes pc = .ok (.irem, 1)) (hp : pc + 1 = pc') (hy : y ≠ 0) (kk : G (T.setTop (mkF m pc' Ls (.int (x % y) :: rest)))) : G (T.setTop (mkF m pc Ls (.int y :: .int x :: rest))) := by
  subst hp
  exact K.cl _ _ (fun t q => iremM K.X K.hx rfl (hb K.hby hd) rfl hy q) kk
theorem own_lrem (K : own_K p l e R s m args below meth c bytes own nm mx ret Q G Z T L k n h) {x y : Int64} (hd : decode bytes pc = .ok (.lrem, 1)) (hp : pc + 1 = pc') (hy : y ≠ 0) (kk : G (T.setTop (mkF m pc' Ls (.long (x % y) :: rest)))) : G (T.setTop (mkF m pc Ls (.long y :: .long x :: rest))) := by
  subst hp
  exact K.cl _ _ (fun t q => XS.lrem K.here K.hx rfl (hb K.hby hd) rfl hy (by rw [lrem_mod]; exact q)) kk
theorem own_ineg (K : own_K p l e R s m args below meth c bytes own nm mx ret Q G Z T L k n h) {x : Int32} (hd : decode bytes pc = .ok (.ineg, 1)) (hp : pc + 1 = pc') (kk : G (T.setTop (mkF m pc' Ls (.int (-x) :: rest)))) : G (T.setTop (mkF m pc Ls (.int x :: rest))) := by
  subst hp
  exact K.cl _ _ (fun t q => XS.ineg K.here K.hx rfl (hb K.hby hd) rfl q) kk
theorem own_lneg (K : own_K p l e R s m args below meth c bytes own nm mx ret Q G Z T L k n h) {x : Int64} (hd : decode bytes pc = .ok (.lneg, 1)) (hp : pc + 1 = pc') (kk : G (T.setTop (mkF m pc' Ls (.long (-x) :: rest)))) : G (T.setTop (mkF m pc Ls (.long x :: rest))) := by
  subst hp
  exact K.cl _ _ (fun t q => XS.lneg K.here K.hx rfl (hb K.hby hd) rfl q) kk
theorem own_i2l (K : own_K p l e R s m args below meth c bytes own nm mx ret Q G Z T L k n h) {x : Int32} (hd : decode bytes pc = .ok (.i2l, 1)) (hp : pc + 1 = pc') (kk : G (T.setTop (mkF m pc' Ls (.long x.toInt64 :: rest)))) : G (T.setTop (mkF m pc Ls (.int x :: rest))) := by
  subst hp
  exact K.cl _ _ (fun t q => XS.i2l K.here K.hx rfl (hb K.hby hd) rfl q) kk
theorem own_l2i (K : own_K p l e R s m args below meth c bytes own nm mx ret Q G Z T L k n h) {x : Int64} (hd : decode bytes pc = .ok (.l2i, 1)) (hp : pc + 1 = pc') (kk : G (T.setTop (mkF m pc' Ls (.int x.toInt32 :: rest)))) : G (T.setTop (mkF m pc Ls (.long x :: rest))) := by
  subst hp
  exact K.cl _ _ (fun t q => XS.l2i K.here K.hx rfl (hb K.hby hd) rfl q) kk
theorem own_i2b (K : own_K p l e R s m args below meth c bytes own nm mx ret Q G Z T L k n h) {x : Int32} (hd : decode bytes pc = .ok (.i2b, 1)) (hp : pc + 1 = pc') (kk : G (T.setTop (mkF m pc' Ls (.int x.toInt8.toInt32 :: rest)))) : G (T.setTop (mkF m pc Ls (.int x :: rest))) := by
  subst hp
  exact K.cl _ _ (fun t q => XS.i2b K.here K.hx rfl (hb K.hby hd) rfl q) kk
theorem own_i2c (K : own_K p l e R s m args below meth c bytes own nm mx ret Q G Z T L k n h) {x : Int32} (hd : decode bytes pc = .ok (.i2c, 1)) (hp : pc + 1 = pc') (kk : G (T.setTop (mkF m pc' Ls (.int x.toUInt32.toUInt16.toUInt32.toInt32 :: rest)))) : G (T.setTop (mkF m pc Ls (.int x :: rest))) := by
  subst hp
  exact K.cl _ _ (fun t q => XS.i2c K.here K.hx rfl (hb K.hby hd) rfl q) kk
theorem own_i2s (K : own_K p l e R s m args below meth c bytes own nm mx ret Q G Z T L k n h) {x : Int32} (hd : decode bytes pc = .ok (.i2s, 1)) (hp : pc + 1 = pc') (kk : G (T.setTop (mkF m pc' Ls (.int x.toInt16.toInt32 :: rest)))) : G (T.setTop (mkF m pc Ls (.int x :: rest))) := by
  subst hp
  exact K.cl _ _ (fun t q => XS.i2s K.here K.hx rfl (hb K.hby hd) rfl q) kk
theorem own_lcmp (K : own_K p l e R s m args below meth c bytes own nm mx ret Q G Z T L k n h) {x y : Int64} (hd : decode bytes pc = .ok (.lcmp, 1)) (hp : pc + 1 = pc') (kk : G (T.setTop (mkF m pc' Ls (.int (lcmpW x y) :: rest)))) : G (T.setTop (mkF m pc Ls (.long y :: .long x :: rest))) := by
  subst hp
  exact K.cl _ _ (fun t q => XS.lcmp K.here K.hx rfl (hb K.hby hd) rfl q) kk
theorem own_pop (K : own_K p l e R s m args below meth c bytes own nm mx ret Q G Z T L k n h) {x : Value} (hd : decode bytes pc = .ok (.pop, 1)) (hp : pc + 1 = pc') (hc : x.category = 1) (kk : G (T.setTop (mkF m pc' Ls rest))) : G (T.setTop (mkF m pc Ls (x :: rest))) := by
  subst hp
  exact K.cl _ _ (fun t q => XS.pop K.here K.hx rfl (hb K.hby hd) rfl hc q) kk
theorem own_dup (K : own_K p l e R s m args below meth c bytes own nm mx ret Q G Z T L k n h) {x : Value} (hd : decode bytes pc = .ok (.dup, 1)) (hp : pc + 1 = pc') (hc : x.category = 1) (kk : G (T.setTop (mkF m pc' Ls (x :: x :: rest)))) : G (T.setTop (mkF m pc Ls (x :: rest))) := by
  subst hp
  exact K.cl _ _ (fun t q => XS.dup K.here K.hx rfl (hb K.hby hd) rfl hc q) kk
theorem own_dupX1 (K : own_K p l e R s m args below meth c bytes own nm mx ret Q G Z T L k n h) {x y : Value} (hd : decode bytes pc = .ok (.dup_x1, 1)) (hp : pc + 1 = pc') (hc : x.category = 1) (hc' : y.category = 1) (kk : G (T.setTop (mkF m pc' Ls (x :: y :: x :: rest)))) : G (T.setTop (mkF m pc Ls (x :: y :: rest))) := by
  subst hp
  exact K.cl _ _ (fun t q => XS.dupX1 K.here K.hx rfl (hb K.hby hd) rfl hc hc' q) kk
theorem own_aconstNull (K : own_K p l e R s m args below meth c bytes own nm mx ret Q G Z T L k n h)  (hd : decode bytes pc = .ok (.aconst_null, 1)) (hp : pc + 1 = pc') (kk : G (T.setTop (mkF m pc' Ls (.null :: st)))) : G (T.setTop (mkF m pc Ls st)) := by
  subst hp
  exact K.cl _ _ (fun t q => XS.aconstNull K.here K.hx rfl (hb K.hby hd)  q) kk
theorem own_iconst (K : own_K p l e R s m args below meth c bytes own nm mx ret Q G Z T L k n h) {i : Int} {v : Int32} (hd : decode bytes pc = .ok (.iconst i, 1)) (hp : pc + 1 = pc') (hv : Int32.ofInt i = v) (kk : G (T.setTop (mkF m pc' Ls (.int v :: st)))) : G (T.setTop (mkF m pc Ls st)) := by
  subst hp hv
  exact K.cl _ _ (fun t q => XS.iconst K.here K.hx rfl (hb K.hby hd) q) kk
theorem own_bipush (K : own_K p l e R s m args below meth c bytes own nm mx ret Q G Z T L k n h) {i : Int} {v : Int32} (hd : decode bytes pc = .ok (.bipush i, 2)) (hp : pc + 2 = pc') (hv : (Int8.ofInt i).toInt32 = v) (kk : G (T.setTop (mkF m pc' Ls (.int v :: st)))) : G (T.setTop (mkF m pc Ls st)) := by
  subst hp hv
  exact K.cl _ _ (fun t q => XS.bipush K.here K.hx rfl (hb K.hby hd) q) kk
theorem own_sipush (K : own_K p l e R s m args below meth c bytes own nm mx ret Q G Z T L k n h) {i : Int} {v : Int32} (hd : decode bytes pc = .ok (.sipush i, 3)) (hp : pc + 3 = pc') (hv : (Int16.ofInt i).toInt32 = v) (kk : G (T.setTop (mkF m pc' Ls (.int v :: st)))) : G (T.setTop (mkF m pc Ls st)) := by
  subst hp hv
  exact K.cl _ _ (fun t q => XS.sipush K.here K.hx rfl (hb K.hby hd) q) kk
theorem own_lconst (K : own_K p l e R s m args below meth c bytes own nm mx ret Q G Z T L k n h) {i : Fin 2} {v : Int64} (hd : decode bytes pc = .ok (.lconst i, 1)) (hp : pc + 1 = pc') (hv : Int64.ofNat i = v) (kk : G (T.setTop (mkF m pc' Ls (.long v :: st)))) : G (T.setTop (mkF m pc Ls st)) := by
  subst hp hv
  exact K.cl _ _ (fun t q => XS.lconst K.here K.hx rfl (hb K.hby hd) q) kk
theorem own_iload (K : own_K p l e R s m args below meth c bytes own nm mx ret Q G Z T L k n h) {j : Nat} {v : Int32} (hd : decode bytes pc = .ok (.iload j, 2)) (hp : pc + 2 = pc') (hl : Ls[j]? = some (.val (.int v))) (kk : G (T.setTop (mkF m pc' Ls (.int v :: st)))) : G (T.setTop (mkF m pc Ls st)) := by
  subst hp
  exact K.cl _ _ (fun t q => XS.iload K.here K.hx rfl (hb K.hby hd) hl q) kk
theorem own_iloadN (K : own_K p l e R s m args below meth c bytes own nm mx ret Q G Z T L k n h) {j : Fin 4} {v : Int32} (hd : decode bytes pc = .ok (.iload_n j, 1)) (hp : pc + 1 = pc') (hl : Ls[j.val]? = some (.val (.int v))) (kk : G (T.setTop (mkF m pc' Ls (.int v :: st)))) : G (T.setTop (mkF m pc Ls st)) := by
  subst hp
  exact K.cl _ _ (fun t q => XS.iloadN K.here K.hx rfl (hb K.hby hd) hl q) kk
theorem own_lload (K : own_K p l e R s m args below meth c bytes own nm mx ret Q G Z T L k n h) {j : Nat} {v : Int64} (hd : decode bytes pc = .ok (.lload j, 2)) (hp : pc + 2 = pc') (hl : Ls[j]? = some (.val (.long v))) (kk : G (T.setTop (mkF m pc' Ls (.long v :: st)))) : G (T.setTop (mkF m pc Ls st)) := by
  subst hp
  exact K.cl _ _ (fun t q => XS.lload K.here K.hx rfl (hb K.hby hd) hl q) kk
theorem own_lloadN (K : own_K p l e R s m args below meth c bytes own nm mx ret Q G Z T L k n h) {j : Fin 4} {v : Int64} (hd : decode bytes pc = .ok (.lload_n j, 1)) (hp : pc + 1 = pc') (hl : Ls[j.val]? = some (.val (.long v))) (kk : G (T.setTop (mkF m pc' Ls (.long v :: st)))) : G (T.setTop (mkF m pc Ls st)) := by
  subst hp
  exact K.cl _ _ (fun t q => XS.lloadN K.here K.hx rfl (hb K.hby hd) hl q) kk
theorem own_aload (K : own_K p l e R s m args below meth c bytes own nm mx ret Q G Z T L k n h) {j : Nat} {v : Value} (hd : decode bytes pc = .ok (.aload j, 2)) (hp : pc + 2 = pc') (hl : Ls[j]? = some (.val v)) (hv : v.isRef = true) (kk : G (T.setTop (mkF m pc' Ls (v :: st)))) : G (T.setTop (mkF m pc Ls st)) := by
  subst hp
  exact K.cl _ _ (fun t q => XS.aload K.here K.hx rfl (hb K.hby hd) hl hv q) kk
theorem own_aloadN (K : own_K p l e R s m args below meth c bytes own nm mx ret Q G Z T L k n h) {j : Fin 4} {v : Value} (hd : decode bytes pc = .ok (.aload_n j, 1)) (hp : pc + 1 = pc') (hl : Ls[j.val]? = some (.val v)) (hv : v.isRef = true) (kk : G (T.setTop (mkF m pc' Ls (v :: st)))) : G (T.setTop (mkF m pc Ls st)) := by
  subst hp
  exact K.cl _ _ (fun t q => XS.aloadN K.here K.hx rfl (hb K.hby hd) hl hv q) kk
theorem own_istore (K : own_K p l e R s m args below meth c bytes own nm mx ret Q G Z T L k n h) {j : Nat} {v : Int32} (hd : decode bytes pc = .ok (.istore j, 2)) (hp : pc + 2 = pc') (hl : storeLocals Ls j (.int v) = some Ls') (kk : G (T.setTop (mkF m pc' Ls' rest))) : G (T.setTop (mkF m pc Ls (.int v :: rest))) := by
  subst hp
  exact K.cl _ _ (fun t q => XS.istore K.here K.hx rfl (hb K.hby hd) rfl hl q) kk
theorem own_istoreN (K : own_K p l e R s m args below meth c bytes own nm mx ret Q G Z T L k n h) {j : Fin 4} {v : Int32} (hd : decode bytes pc = .ok (.istore_n j, 1)) (hp : pc + 1 = pc') (hl : storeLocals Ls j.val (.int v) = some Ls') (kk : G (T.setTop (mkF m pc' Ls' rest))) : G (T.setTop (mkF m pc Ls (.int v :: rest))) := by
  subst hp
  exact K.cl _ _ (fun t q => XS.istoreN K.here K.hx rfl (hb K.hby hd) rfl hl q) kk
theorem own_lstore (K : own_K p l e R s m args below meth c bytes own nm mx ret Q G Z T L k n h) {j : Nat} {v : Int64} (hd : decode bytes pc = .ok (.lstore j, 2)) (hp : pc + 2 = pc') (hl : storeLocals Ls j (.long v) = some Ls') (kk : G (T.setTop (mkF m pc' Ls' rest))) : G (T.setTop (mkF m pc Ls (.long v :: rest))) := by
  subst hp
  exact K.cl _ _ (fun t q => XS.lstore K.here K.hx rfl (hb K.hby hd) rfl hl q) kk
theorem own_lstoreN (K : own_K p l e R s m args below meth c bytes own nm mx ret Q G Z T L k n h) {j : Fin 4} {v : Int64} (hd : decode bytes pc = .ok (.lstore_n j, 1)) (hp : pc + 1 = pc') (hl : storeLocals Ls j.val (.long v) = some Ls') (kk : G (T.setTop (mkF m pc' Ls' rest))) : G (T.setTop (mkF m pc Ls (.long v :: rest))) := by
  subst hp
  exact K.cl _ _ (fun t q => XS.lstoreN K.here K.hx rfl (hb K.hby hd) rfl hl q) kk
theorem own_astore (K : own_K p l e R s m args below meth c bytes own nm mx ret Q G Z T L k n h) {j : Nat} {v : Value} (hd : decode bytes pc = .ok (.astore j, 2)) (hp : pc + 2 = pc') (hv : v.isRef = true) (hl : storeLocals Ls j v = some Ls') (kk : G (T.setTop (mkF m pc' Ls' rest))) : G (T.setTop (mkF m pc Ls (v :: rest))) := by
  subst hp
  exact K.cl _ _ (fun t q => XS.astore K.here K.hx rfl (hb K.hby hd) rfl hv hl q) kk
theorem own_astoreN (K : own_K p l e R s m args below meth c bytes own nm mx ret Q G Z T L k n h) {j : Fin 4} {v : Value} (hd : decode bytes pc = .ok (.astore_n j, 1)) (hp : pc + 1 = pc') (hv : v.isRef = true) (hl : storeLocals Ls j.val v = some Ls') (kk : G (T.setTop (mkF m pc' Ls' rest))) : G (T.setTop (mkF m pc Ls (v :: rest))) := by
  subst hp
  exact K.cl _ _ (fun t q => XS.astoreN K.here K.hx rfl (hb K.hby hd) rfl hv hl q) kk
theorem own_iinc (K : own_K p l e R s m args below meth c bytes own nm mx ret Q G Z T L k n h) {j : Nat} {cst : Int} {x v : Int32} (hd : decode bytes pc = .ok (.iinc j cst, 3)) (hp : pc + 3 = pc') (hl : Ls[j]? = some (.val (.int x))) (hl' : storeLocals Ls j (.int (x + Int32.ofInt cst)) = some Ls') (kk : G (T.setTop (mkF m pc' Ls' st))) : G (T.setTop (mkF m pc Ls st)) := by
  subst hp
  exact K.cl _ _ (fun t q => XS.iinc K.here K.hx rfl (hb K.hby hd) hl hl' q) kk
theorem own_goto (K : own_K p l e R s m args below meth c bytes own nm mx ret Q G Z T L k n h) {o : Int} (hd : decode bytes pc = .ok (.goto o, 3)) (hp : ((pc : Int) + o).toNat = pc') (ho : 0 ≤ (pc : Int) + o) (kk : G (T.setTop (mkF m pc' Ls st))) : G (T.setTop (mkF m pc Ls st)) :=
  K.cl _ _ (fun t q => XS.goto K.here K.hx rfl rfl (hb K.hby hd) ho hp q) kk
theorem own_ifYes (K : own_K p l e R s m args below meth c bytes own nm mx ret Q G Z T L k n h) {cd : ClassFile.Cond} {x : Int32} {o : Int} (hd : decode bytes pc = .ok (.ifCond cd o, 3)) (hp : ((pc : Int) + o).toNat = pc') (ho : 0 ≤ (pc : Int) + o) (hc : ifCond.holds cd x = true) (kk : G (T.setTop (mkF m pc' Ls rest))) : G (T.setTop (mkF m pc Ls (.int x :: rest))) :=
  K.cl _ _ (fun t q => XS.ifYes K.here K.hx rfl rfl (hb K.hby hd) rfl hc ho hp q) kk
theorem own_ifNo (K : own_K p l e R s m args below meth c bytes own nm mx ret Q G Z T L k n h) {cd : ClassFile.Cond} {x : Int32} {o : Int} (hd : decode bytes pc = .ok (.ifCond cd o, 3)) (hp : pc + 3 = pc') (hc : ifCond.holds cd x = false) (kk : G (T.setTop (mkF m pc' Ls rest))) : G (T.setTop (mkF m pc Ls (.int x :: rest))) := by
  subst hp
  exact K.cl _ _ (fun t q => XS.ifNo K.here K.hx rfl (hb K.hby hd) rfl hc q) kk
theorem own_icmpYes (K : own_K p l e R s m args below meth c bytes own nm mx ret Q G Z T L k n h) {cd : ClassFile.Cond} {x y : Int32} {o : Int} (hd : decode bytes pc = .ok (.if_icmp cd o, 3)) (hp : ((pc : Int) + o).toNat = pc') (ho : 0 ≤ (pc : Int) + o) (hc : if_icmp.holds cd x y = true) (kk : G (T.setTop (mkF m pc' Ls rest))) : G (T.setTop (mkF m pc Ls (.int y :: .int x :: rest))) :=
  K.cl _ _ (fun t q => XS.icmpYes K.here K.hx rfl rfl (hb K.hby hd) rfl hc ho hp q) kk
theorem own_icmpNo (K : own_K p l e R s m args below meth c bytes own nm mx ret Q G Z T L k n h) {cd : ClassFile.Cond} {x y : Int32} {o : Int} (hd : decode bytes pc = .ok (.if_icmp cd o, 3)) (hp : pc + 3 = pc') (hc : if_icmp.holds cd x y = false) (kk : G (T.setTop (mkF m pc' Ls rest))) : G (T.setTop (mkF m pc Ls (.int y :: .int x :: rest))) := by
  subst hp
  exact K.cl _ _ (fun t q => XS.icmpNo K.here K.hx rfl (hb K.hby hd) rfl hc q) kk
theorem own_ifnullYes (K : own_K p l e R s m args below meth c bytes own nm mx ret Q G Z T L k n h) {o : Int} (hd : decode bytes pc = .ok (.ifnull o, 3)) (hp : ((pc : Int) + o).toNat = pc') (ho : 0 ≤ (pc : Int) + o) (kk : G (T.setTop (mkF m pc' Ls rest))) : G (T.setTop (mkF m pc Ls (.null :: rest))) :=
  K.cl _ _ (fun t q => XS.ifnullYes K.here K.hx rfl rfl (hb K.hby hd) rfl ho hp q) kk
theorem own_ifnullNo (K : own_K p l e R s m args below meth c bytes own nm mx ret Q G Z T L k n h) {o : Int} {b : Addr} (hd : decode bytes pc = .ok (.ifnull o, 3)) (hp : pc + 3 = pc') (kk : G (T.setTop (mkF m pc' Ls rest))) : G (T.setTop (mkF m pc Ls (.ref b :: rest))) := by
  subst hp
  exact K.cl _ _ (fun t q => XS.ifnullNo K.here K.hx rfl (hb K.hby hd) rfl q) kk
theorem own_ifnonnullYes (K : own_K p l e R s m args below meth c bytes own nm mx ret Q G Z T L k n h) {o : Int} {b : Addr} (hd : decode bytes pc = .ok (.ifnonnull o, 3)) (hp : ((pc : Int) + o).toNat = pc') (ho : 0 ≤ (pc : Int) + o) (kk : G (T.setTop (mkF m pc' Ls rest))) : G (T.setTop (mkF m pc Ls (.ref b :: rest))) :=
  K.cl _ _ (fun t q => XS.ifnonnullYes K.here K.hx rfl rfl (hb K.hby hd) rfl ho hp q) kk
theorem own_ifnonnullNo (K : own_K p l e R s m args below meth c bytes own nm mx ret Q G Z T L k n h) {o : Int} (hd : decode bytes pc = .ok (.ifnonnull o, 3)) (hp : pc + 3 = pc') (kk : G (T.setTop (mkF m pc' Ls rest))) : G (T.setTop (mkF m pc Ls (.null :: rest))) := by
  subst hp
  exact K.cl _ _ (fun t q => XS.ifnonnullNo K.here K.hx rfl (hb K.hby hd) rfl q) kk
theorem own_acmp (K : own_K p l e R s m args below meth c bytes own nm mx ret Q G Z T L k n h) {cd : ACond} {x y : Value} {o : Int} {same : Bool} (hd : decode bytes pc = .ok (.if_acmp cd o, 3)) (h1 : x.isRef = true) (h2 : y.isRef = true) (hq : decide (x = y) = same) (ho : 0 ≤ (pc : Int) + o) (hp : pc' = if acV cd same = true then ((pc : Int) + o).toNat else pc + 3) (kk : G (T.setTop (mkF m pc' Ls rest))) : G (T.setTop (mkF m pc Ls (y :: x :: rest))) :=
  K.cl _ _ (fun t q => RoadKit.acmp K.X K.hx rfl h1 h2 rfl (hb K.hby hd) rfl hq ho hp q) kk
theorem own_getF (K : own_K p l e R s m args below meth c bytes own nm mx ret Q G Z T L k n h) {R0 O nf d host : String} {index : Nat} {a : Addr} {v : Value} (w : (Cond.fieldLink own index R0 nf d).before a0 Z = true ∨ (Cond.fieldLinkNest own index R0 nf d host).before a0 Z = true) (via : Via Z R0 O nf d) (F : Fld Z h a O nf d v) (hd : decode bytes pc = .ok (.getfield index, 3)) (hp : pc + 3 = pc') (kk : ∀ T', own_K p l e R s m args below meth c bytes own nm mx ret Q G Z T' L k n h → G (T'.setTop (mkF m pc' Ls (v :: rest)))) : G (T.setTop (mkF m pc Ls (.ref a :: rest))) := by
  subst hp
  obtain ⟨T', X', e', st'⟩ := getF K.X K.hx K.hZ K.hown w via K.eh F (g := mkF m pc Ls (.ref a :: rest)) rfl rfl (hb K.hby hd)
  exact K.cl _ _ st' (kk T' (K.nx X' e' K.fr K.O))
theorem own_getS (K : own_K p l e R s m args below meth c bytes own nm mx ret Q G Z T L k n h) {R0 O nf d : String} {index : Nat} {v : Value} (w : (Cond.fieldLink own index R0 nf d).before a0 Z = true) (via : Via Z R0 O nf d) (F : Sta Z h O nf d v) (hd : decode bytes pc = .ok (.getstatic index, 3)) (hp : pc + 3 = pc') (kk : ∀ T', own_K p l e R s m args below meth c bytes own nm mx ret Q G Z T' L k n h → G (T'.setTop (mkF m pc' Ls (v :: st)))) : G (T.setTop (mkF m pc Ls st)) := by
  subst hp
  obtain ⟨T', X', e', st'⟩ := getS (host := "") K.X K.hx K.hZ K.hown w via K.eh F (g := mkF m pc Ls st) rfl (hb K.hby hd)
  exact K.cl _ _ st' (kk T' (K.nx X' e' K.fr K.O))
theorem own_putF (K : own_K p l e R s m args below meth c bytes own nm mx ret Q G Z T L k n h) {R0 O nf d host C : String} {index kk0 : Nat} {ty : FieldType} {a : Addr} {v old : Value} (w : (Cond.fieldLink own index R0 nf d).before a0 Z = true ∨ (Cond.fieldLinkNest own index R0 nf d host).before a0 Z = true) (via : Via Z R0 O nf d) (F : Fld Z h a O nf d old) (E : Exa Z h a C) (Ly : (Cond.lays C O nf d).before a0 Z = true ∨ ((Cond.laysFinal C O nf d).before a0 Z = true ∧ own = O ∧ nm = "<init>")) (wi : (Cond.instantiable C kk0).before a0 Z = true) (hty : parseFieldDescriptor d = some ty) (hn : narrow ty v = v) (hf : fits ty v = true) (ha : Z.heap.size ≤ a) (hd : decode bytes pc = .ok (.putfield index, 3)) (hp : pc + 3 = pc') (kk : ∀ T' h', own_K p l e R s m args below meth c bytes own nm mx ret Q G Z T' (L ++ [⟨a, RoadKit.slotOf Z O nf d⟩]) k n h' → Wr h h' a (RoadKit.slotOf Z O nf d) v → G (T'.setTop (mkF m pc' Ls rest))) : G (T.setTop (mkF m pc Ls (v :: .ref a :: rest))) := by
  subst hp
  obtain ⟨T', h', X', e', W', st'⟩ := putF K.X K.hx K.hZ K.hown w via K.eh F E (Ly.imp id fun q => ⟨q.1, q.2.1, K.hnm.trans q.2.2⟩) wi hty hn hf (g := mkF m pc Ls (v :: .ref a :: rest)) rfl rfl (hb K.hby hd)
  exact K.cl _ _ st' (kk T' h' (K.nx X' e' (Fr.snoc X' K.fr ha) (own_ext_wr K.O W' ha)) W')
theorem own_putFN (K : own_K p l e R s m args below meth c bytes own nm mx ret Q G Z T L k n h) {R0 O nf d C : String} {index kk0 : Nat} {ty : FieldType} {a : Addr} {v v' old : Value} (w : (Cond.fieldLink own index R0 nf d).before a0 Z = true) (via : Via Z R0 O nf d) (F : Fld Z h a O nf d old) (E : Exa Z h a C) (Ly : (Cond.lays C O nf d).before a0 Z = true ∨ ((Cond.laysFinal C O nf d).before a0 Z = true ∧ own = O ∧ nm = "<init>")) (wi : (Cond.instantiable C kk0).before a0 Z = true) (hty : parseFieldDescriptor d = some ty) (hn : narrow ty v = v') (hf : fits ty v' = true) (ha : Z.heap.size ≤ a) (hd : decode bytes pc = .ok (.putfield index, 3)) (hp : pc + 3 = pc') (kk : ∀ T' h', own_K p l e R s m args below meth c bytes own nm mx ret Q G Z T' (L ++ [⟨a, RoadKit.slotOf Z O nf d⟩]) k n h' → Wr h h' a (RoadKit.slotOf Z O nf d) v' → G (T'.setTop (mkF m pc' Ls rest))) : G (T.setTop (mkF m pc Ls (v :: .ref a :: rest))) := by
  subst hp
  obtain ⟨T', h', X', e', W', st'⟩ := putFN K.X K.hx K.hZ K.hown w via K.eh F E (Ly.imp id fun q => ⟨q.1, q.2.1, K.hnm.trans q.2.2⟩) wi hty hn hf (g := mkF m pc Ls (v :: .ref a :: rest)) rfl rfl (hb K.hby hd)
  exact K.cl _ _ st' (kk T' h' (K.nx X' e' (Fr.snoc X' K.fr ha) (own_ext_wr K.O W' ha)) W')
theorem own_newO (K : own_K p l e R s m args below meth c bytes own nm mx ret Q G Z T L k n h) {C : String} {index j : Nat} (w : (Cond.classLink own index C).before a0 Z = true) (wi : (Cond.instantiable C j).before a0 Z = true) (wz : (Cond.initialized C).before a0 Z = true) (hd : decode bytes pc = .ok (.new index, 3)) (hc : k + 1 ≤ R.cells) (hl : n + j ≤ R.slots) (hp : pc + 3 = pc') (kk : ∀ T' h' (a : Addr), own_K p l e R s m args below meth c bytes own nm mx ret Q G Z T' L (k + 1) (n + j) h' → a = h.size → Ext h h' → Exa Z h' a C → (∀ {O nf d : String} {ty : FieldType}, Laid Z a0 C O nf d → parseFieldDescriptor d = some ty → Fld Z h' a O nf d (defaultValue ty)) → Unt h' a → G (T'.setTop (mkF m pc' Ls (.ref a :: st)))) : G (T.setTop (mkF m pc Ls st)) := by
  subst hp
  obtain ⟨T', h', X', e', E', A', D', U', st'⟩ := newO K.X K.hx K.hZ K.hown w wi wz K.eh (g := mkF m pc Ls st) rfl (hb K.hby hd) hc hl
  exact K.cl _ _ st' (kk T' h' h.size (K.nx X' e' K.fr (own_ext_trans K.O E')) rfl E' A' D' U')
theorem own_newP (K : own_K p l e R s m args below meth c bytes own nm mx ret Q G Z T L k n h) {aty : ArrayType} {z : Int32} {cap : Nat} (w : (Cond.arrayClass (newarray.typeOf aty)).before a0 Z = true) (hd : decode bytes pc = .ok (.newarray aty, 2)) (hz : ¬ z < 0) (hcap : z.toNatClampNeg ≤ cap) (hcb : cap * 8 ≤ 536870912) (hc : k + 1 ≤ R.cells) (hl : n + cap ≤ R.slots) (hp : pc + 2 = pc') (kk : ∀ T' h' (a : Addr) (cA : ClassId), own_K p l e R s m args below meth c bytes own nm mx ret Q G Z T' L (k + 1) (n + cap) h' → a = h.size → Ext h h' → Arv Z h' a cA (newarray.typeOf aty) z [] (defaultValue (newarray.typeOf aty)) → G (T'.setTop (mkF m pc' Ls (.ref a :: rest)))) : G (T.setTop (mkF m pc Ls (.int z :: rest))) := by
  subst hp
  obtain ⟨T', h', cA, X', e', E', A', st'⟩ := newP K.X K.hx K.hZ w K.eh (g := mkF m pc Ls (.int z :: rest)) rfl (hb K.hby hd) rfl hz hcap hcb hc hl
  exact K.cl _ _ st' (kk T' h' h.size cA (K.nx X' e' K.fr (own_ext_trans K.O E')) rfl E' (Arv.new A' hz))
theorem own_newR (K : own_K p l e R s m args below meth c bytes own nm mx ret Q G Z T L k n h) {C : String} {index : Nat} {z : Int32} {cap : Nat} (w1 : (Cond.classLink own index C).before a0 Z = true) (w2 : (Cond.arrayOver (.object C)).before a0 Z = true) (hd : decode bytes pc = .ok (.anewarray index, 3)) (hz : ¬ z < 0) (hcap : z.toNatClampNeg ≤ cap) (hcb : cap * 8 ≤ 536870912) (hc : k + 1 ≤ R.cells) (hl : n + cap ≤ R.slots) (hp : pc + 3 = pc') (kk : ∀ T' h' (a : Addr) (cA : ClassId), own_K p l e R s m args below meth c bytes own nm mx ret Q G Z T' L (k + 1) (n + cap) h' → a = h.size → Ext h h' → Arv Z h' a cA (.object C) z [] .null → Ovr Z cA C → G (T'.setTop (mkF m pc' Ls (.ref a :: rest)))) : G (T.setTop (mkF m pc Ls (.int z :: rest))) := by
  subst hp
  obtain ⟨T', h', cA, X', e', E', A', O', st'⟩ := newR K.X K.hx K.hZ K.hown w1 w2 K.eh (g := mkF m pc Ls (.int z :: rest)) rfl (hb K.hby hd) rfl hz hcap hcb hc hl
  exact K.cl _ _ st' (kk T' h' h.size cA (K.nx X' e' K.fr (own_ext_trans K.O E')) rfl E' (Arv.new A' hz) O')
theorem own_castY (K : own_K p l e R s m args below meth c bytes own nm mx ret Q G Z T L k n h) {Kc : String} {index : Nat} {a : Addr} (w : (Cond.classLink own index Kc).before a0 Z = true) (F : Ins Z h a Kc true) (hd : decode bytes pc = .ok (.checkcast index, 3)) (hp : pc + 3 = pc') (kk : ∀ T', own_K p l e R s m args below meth c bytes own nm mx ret Q G Z T' L k n h → G (T'.setTop (mkF m pc' Ls (.ref a :: rest)))) : G (T.setTop (mkF m pc Ls (.ref a :: rest))) := by
  subst hp
  obtain ⟨T', X', e', st'⟩ := castY K.X K.hx K.hZ K.hown w K.eh F (g := mkF m pc Ls (.ref a :: rest)) rfl rfl (hb K.hby hd)
  exact K.cl _ _ st' (kk T' (K.nx X' e' K.fr K.O))
theorem own_instY (K : own_K p l e R s m args below meth c bytes own nm mx ret Q G Z T L k n h) {Kc : String} {index : Nat} {a : Addr} (w : (Cond.classLink own index Kc).before a0 Z = true) (F : Ins Z h a Kc true) (hd : decode bytes pc = .ok (.instanceof index, 3)) (hp : pc + 3 = pc') (kk : ∀ T', own_K p l e R s m args below meth c bytes own nm mx ret Q G Z T' L k n h → G (T'.setTop (mkF m pc' Ls (.int 1 :: rest)))) : G (T.setTop (mkF m pc Ls (.ref a :: rest))) := by
  subst hp
  obtain ⟨T', X', e', st'⟩ := instY K.X K.hx K.hZ K.hown w K.eh F (g := mkF m pc Ls (.ref a :: rest)) rfl rfl (hb K.hby hd)
  exact K.cl _ _ st' (kk T' (K.nx X' e' K.fr K.O))
theorem own_castNull (K : own_K p l e R s m args below meth c bytes own nm mx ret Q G Z T L k n h) {index : Nat} (hd : decode bytes pc = .ok (.checkcast index, 3)) (hp : pc + 3 = pc') (kk : G (T.setTop (mkF m pc' Ls (.null :: rest)))) : G (T.setTop (mkF m pc Ls (.null :: rest))) := by
  subst hp
  exact K.cl _ _ (K.X.checkcastNull K.hx (g := mkF m pc Ls (.null :: rest)) rfl rfl (hb K.hby hd)) kk
theorem own_ldcInt (K : own_K p l e R s m args below meth c bytes own nm mx ret Q G Z T L k n h) {index : Nat} {v : Int32} (w : (Cond.constant own index v).before a0 Z = true) (hd : decode bytes pc = .ok (.ldc index, 2)) (hp : pc + 2 = pc') (kk : G (T.setTop (mkF m pc' Ls (.int v :: st)))) : G (T.setTop (mkF m pc Ls st)) := by
  subst hp
  exact K.cl _ _ (K.X.ldcInt K.hx K.hown (mvT K.hZ w) (g := mkF m pc Ls st) rfl (hb K.hby hd)) kk
theorem own_ldcwInt (K : own_K p l e R s m args below meth c bytes own nm mx ret Q G Z T L k n h) {index : Nat} {v : Int32} (w : (Cond.constant own index v).before a0 Z = true) (hd : decode bytes pc = .ok (.ldc_w index, 3)) (hp : pc + 3 = pc') (kk : G (T.setTop (mkF m pc' Ls (.int v :: st)))) : G (T.setTop (mkF m pc Ls st)) := by
  subst hp
  exact K.cl _ _ (K.X.ldcwInt K.hx K.hown (mvT K.hZ w) (g := mkF m pc Ls st) rfl (hb K.hby hd)) kk
theorem own_ldc2Long (K : own_K p l e R s m args below meth c bytes own nm mx ret Q G Z T L k n h) {index : Nat} {v : Int64} (w : (Cond.constantLong own index v).before a0 Z = true) (hd : decode bytes pc = .ok (.ldc2_w index, 3)) (hp : pc + 3 = pc') (kk : G (T.setTop (mkF m pc' Ls (.long v :: st)))) : G (T.setTop (mkF m pc Ls st)) := by
  subst hp
  exact K.cl _ _ (K.X.ldc2Long K.hx K.hown (mvT K.hZ w) (g := mkF m pc Ls st) rfl (hb K.hby hd)) kk
theorem own_inb {z j : Int32} {cl : Cell} (S : cl.slots.size = z.toNatClampNeg) (q : ¬ j < 0 ∧ j < z) : ¬ (j < 0 ∨ cl.slots.size ≤ j.toNatClampNeg) := inb_of S q
theorem own_at {z j : Int32} {cl : Cell} {vs : List Value} {dv v : Value} (S : cl.slots.size = z.toNatClampNeg) (H : Has cl vs dv) (q : ¬ j < 0 ∧ j < z) (hv : vs.getD j.toNatClampNeg dv = v) : cl.slots[j.toNatClampNeg]? = some v := by
  have h1 := inb_of S q
  rw [← hv]; exact H _ (by omega)
theorem own_iaload (K : own_K p l e R s m args below meth c bytes own nm mx ret Q G Z T L k n h) {a : Addr} {kA : ClassId} {z j : Int32} {vs : List Value} {dv : Value} {x : Int32} (V : Arv Z h a kA .int z vs dv) (hj : ¬ j < 0 ∧ j < z) (hv : vs.getD j.toNatClampNeg dv = .int x) (hd : decode bytes pc = .ok (.iaload, 1)) (hp : pc + 1 = pc') (kk : G (T.setTop (mkF m pc' Ls (.int x :: rest)))) : G (T.setTop (mkF m pc Ls (.int j :: .ref a :: rest))) := by
  subst hp
  obtain ⟨cl, A, -, S, -, H, -⟩ := V
  exact K.cl _ _ (K.X.iaload K.hx (j := j) (v := .int x) (by rw [K.eh]; exact A.1) (State.isArrayOf_alike K.hZ.alike A.2.1) A.2.2 (own_inb S hj) (own_at S H hj hv) (g := mkF m pc Ls (.int j :: .ref a :: rest)) rfl rfl (hb K.hby hd)) kk
theorem own_caload (K : own_K p l e R s m args below meth c bytes own nm mx ret Q G Z T L k n h) {a : Addr} {kA : ClassId} {z j : Int32} {vs : List Value} {dv : Value} {x : Int32} (V : Arv Z h a kA .char z vs dv) (hj : ¬ j < 0 ∧ j < z) (hv : vs.getD j.toNatClampNeg dv = .int x) (hd : decode bytes pc = .ok (.caload, 1)) (hp : pc + 1 = pc') (kk : G (T.setTop (mkF m pc' Ls (.int x :: rest)))) : G (T.setTop (mkF m pc Ls (.int j :: .ref a :: rest))) := by
  subst hp
  obtain ⟨cl, A, -, S, -, H, -⟩ := V
  exact K.cl _ _ (K.X.caload K.hx (j := j) (v := .int x) (by rw [K.eh]; exact A.1) (State.isArrayOf_alike K.hZ.alike A.2.1) A.2.2 (own_inb S hj) (own_at S H hj hv) (g := mkF m pc Ls (.int j :: .ref a :: rest)) rfl rfl (hb K.hby hd)) kk
theorem own_baload (K : own_K p l e R s m args below meth c bytes own nm mx ret Q G Z T L k n h) {a : Addr} {kA : ClassId} {z j : Int32} {vs : List Value} {dv : Value} {x : Int32} (V : Arv Z h a kA .byte z vs dv) (hj : ¬ j < 0 ∧ j < z) (hv : vs.getD j.toNatClampNeg dv = .int x) (hd : decode bytes pc = .ok (.baload, 1)) (hp : pc + 1 = pc') (kk : G (T.setTop (mkF m pc' Ls (.int x :: rest)))) : G (T.setTop (mkF m pc Ls (.int j :: .ref a :: rest))) := by
  subst hp
  obtain ⟨cl, A, -, S, -, H, -⟩ := V
  exact K.cl _ _ (K.X.baloadBytes K.hx (j := j) (v := .int x) (by rw [K.eh]; exact A.1) (State.isArrayOf_alike K.hZ.alike A.2.1) A.2.2 (own_inb S hj) (own_at S H hj hv) (g := mkF m pc Ls (.int j :: .ref a :: rest)) rfl rfl (hb K.hby hd)) kk
theorem own_laload (K : own_K p l e R s m args below meth c bytes own nm mx ret Q G Z T L k n h) {a : Addr} {kA : ClassId} {z j : Int32} {vs : List Value} {dv : Value} {x : Int64} (V : Arv Z h a kA .long z vs dv) (hj : ¬ j < 0 ∧ j < z) (hv : vs.getD j.toNatClampNeg dv = .long x) (hd : decode bytes pc = .ok (.laload, 1)) (hp : pc + 1 = pc') (kk : G (T.setTop (mkF m pc' Ls (.long x :: rest)))) : G (T.setTop (mkF m pc Ls (.int j :: .ref a :: rest))) := by
  subst hp
  obtain ⟨cl, A, -, S, -, H, -⟩ := V
  exact K.cl _ _ (K.X.laload K.hx (j := j) (v := .long x) (by rw [K.eh]; exact A.1) (State.isArrayOf_alike K.hZ.alike A.2.1) A.2.2 (own_inb S hj) (own_at S H hj hv) (g := mkF m pc Ls (.int j :: .ref a :: rest)) rfl rfl (hb K.hby hd)) kk
theorem own_aaload (K : own_K p l e R s m args below meth c bytes own nm mx ret Q G Z T L k n h) {a : Addr} {kA : ClassId} {ty : FieldType} {z j : Int32} {vs : List Value} {dv v : Value} (V : Arv Z h a kA ty z vs dv) (hty : ty.isReference = true) (hj : ¬ j < 0 ∧ j < z) (hv : vs.getD j.toNatClampNeg dv = v) (hr : v.isRef = true) (hd : decode bytes pc = .ok (.aaload, 1)) (hp : pc + 1 = pc') (kk : G (T.setTop (mkF m pc' Ls (v :: rest)))) : G (T.setTop (mkF m pc Ls (.int j :: .ref a :: rest))) := by
  subst hp
  obtain ⟨cl, A, -, S, -, H, -⟩ := V
  exact K.cl _ _ (K.X.aaload K.hx (j := j) (v := v) (by rw [K.eh]; exact A.1) (State.isArrayOf_alike K.hZ.alike A.2.1) hty A.2.2 (own_inb S hj) (own_at S H hj hv) (g := mkF m pc Ls (.int j :: .ref a :: rest)) rfl rfl (hb K.hby hd)) kk
theorem own_arraylength (K : own_K p l e R s m args below meth c bytes own nm mx ret Q G Z T L k n h) {a : Addr} {kA : ClassId} {ty : FieldType} {z : Int32} {vs : List Value} {dv : Value} (V : Arv Z h a kA ty z vs dv) (hd : decode bytes pc = .ok (.arraylength, 1)) (hp : pc + 1 = pc') (kk : G (T.setTop (mkF m pc' Ls (.int z :: rest)))) : G (T.setTop (mkF m pc Ls (.ref a :: rest))) := by
  subst hp
  obtain ⟨cl, A, -, S, hz, H, -⟩ := V
  refine K.cl _ _ (K.X.arraylength K.hx (by rw [K.eh]; exact A.1) (State.isArrayOf_alike K.hZ.alike A.2.1) (g := mkF m pc Ls (.ref a :: rest)) rfl rfl (hb K.hby hd)) ?_
  rw [len_of S hz]; exact kk
theorem own_castore (K : own_K p l e R s m args below meth c bytes own nm mx ret Q G Z T L k n h) {a : Addr} {kA : ClassId} {z j x x' : Int32} {vs : List Value} {dv : Value} (V : Arv Z h a kA .char z vs dv) (hj : ¬ j < 0 ∧ j < z) (i : Nat) (hi : j.toNatClampNeg = i) (hl : i < vs.length) (hx' : nar .char x = x') (ha : Z.heap.size ≤ a) (hd : decode bytes pc = .ok (.castore, 1)) (hp : pc + 1 = pc')
    (kk : ∀ T' h', own_K p l e R s m args below meth c bytes own nm mx ret Q G Z T' (L ++ [⟨a, i⟩]) k n h' → Wr h h' a i (.int x') → Arv Z h' a kA .char z (vs.set i (.int x')) dv → G (T'.setTop (mkF m pc' Ls rest))) : G (T.setTop (mkF m pc Ls (.int x :: .int j :: .ref a :: rest))) := by
  subst hp hx' hi
  obtain ⟨cl, A, q1, S, hz, H, Gf⟩ := V
  obtain ⟨T', h', X', e', W', st'⟩ := stC K.X K.hx K.hZ K.eh A (j := j) (own_inb S hj) (g := mkF m pc Ls (.int x :: .int j :: .ref a :: rest)) rfl rfl (hb K.hby hd)
  exact K.cl _ _ st' (kk T' h' (K.nx X' e' (Fr.snoc X' K.fr ha) (own_ext_wr K.O W' ha)) W' (Arv.set A q1 S hz H Gf (fits_nar_char _) W' _ rfl hl))
theorem own_bastore (K : own_K p l e R s m args below meth c bytes own nm mx ret Q G Z T L k n h) {a : Addr} {kA : ClassId} {z j x x' : Int32} {vs : List Value} {dv : Value} (V : Arv Z h a kA .byte z vs dv) (hj : ¬ j < 0 ∧ j < z) (i : Nat) (hi : j.toNatClampNeg = i) (hl : i < vs.length) (hx' : nar .byte x = x') (ha : Z.heap.size ≤ a) (hd : decode bytes pc = .ok (.bastore, 1)) (hp : pc + 1 = pc')
    (kk : ∀ T' h', own_K p l e R s m args below meth c bytes own nm mx ret Q G Z T' (L ++ [⟨a, i⟩]) k n h' → Wr h h' a i (.int x') → Arv Z h' a kA .byte z (vs.set i (.int x')) dv → G (T'.setTop (mkF m pc' Ls rest))) : G (T.setTop (mkF m pc Ls (.int x :: .int j :: .ref a :: rest))) := by
  subst hp hx' hi
  obtain ⟨cl, A, q1, S, hz, H, Gf⟩ := V
  obtain ⟨T', h', X', e', W', st'⟩ := stB K.X K.hx K.hZ K.eh A (j := j) (own_inb S hj) (g := mkF m pc Ls (.int x :: .int j :: .ref a :: rest)) rfl rfl (hb K.hby hd)
  exact K.cl _ _ st' (kk T' h' (K.nx X' e' (Fr.snoc X' K.fr ha) (own_ext_wr K.O W' ha)) W' (Arv.set A q1 S hz H Gf (fits_nar_byte _) W' _ rfl hl))
theorem own_zastore (K : own_K p l e R s m args below meth c bytes own nm mx ret Q G Z T L k n h) {a : Addr} {kA : ClassId} {z j x x' : Int32} {vs : List Value} {dv : Value} (V : Arv Z h a kA .boolean z vs dv) (hj : ¬ j < 0 ∧ j < z) (i : Nat) (hi : j.toNatClampNeg = i) (hl : i < vs.length) (hx' : nar .boolean x = x') (ha : Z.heap.size ≤ a) (hd : decode bytes pc = .ok (.bastore, 1)) (hp : pc + 1 = pc')
    (kk : ∀ T' h', own_K p l e R s m args below meth c bytes own nm mx ret Q G Z T' (L ++ [⟨a, i⟩]) k n h' → Wr h h' a i (.int x') → Arv Z h' a kA .boolean z (vs.set i (.int x')) dv → G (T'.setTop (mkF m pc' Ls rest))) : G (T.setTop (mkF m pc Ls (.int x :: .int j :: .ref a :: rest))) := by
  subst hp hx' hi
  obtain ⟨cl, A, q1, S, hz, H, Gf⟩ := V
  obtain ⟨T', h', X', e', W', st'⟩ := stZ K.X K.hx K.hZ K.eh A (j := j) (own_inb S hj) (g := mkF m pc Ls (.int x :: .int j :: .ref a :: rest)) rfl rfl (hb K.hby hd)
  exact K.cl _ _ st' (kk T' h' (K.nx X' e' (Fr.snoc X' K.fr ha) (own_ext_wr K.O W' ha)) W' (Arv.set A q1 S hz H Gf (fits_nar_bool _) W' _ rfl hl))
theorem own_aastore (K : own_K p l e R s m args below meth c bytes own nm mx ret Q G Z T L k n h) {a : Addr} {kA : ClassId} {ty : FieldType} {z j : Int32} {v : Value} {vs : List Value} {dv : Value} (V : Arv Z h a kA ty z vs dv) (hty : ty.isReference = true) (hf : fits ty v = true) (F : Sto Z h a v) (hj : ¬ j < 0 ∧ j < z) (i : Nat) (hi : j.toNatClampNeg = i) (hl : i < vs.length) (ha : Z.heap.size ≤ a) (hd : decode bytes pc = .ok (.aastore, 1)) (hp : pc + 1 = pc')
    (kk : ∀ T' h', own_K p l e R s m args below meth c bytes own nm mx ret Q G Z T' (L ++ [⟨a, i⟩]) k n h' → Wr h h' a i v → Arv Z h' a kA ty z (vs.set i v) dv → G (T'.setTop (mkF m pc' Ls rest))) : G (T.setTop (mkF m pc Ls (v :: .int j :: .ref a :: rest))) := by
  subst hp hi
  obtain ⟨cl, A, q1, S, hz, H, Gf⟩ := V
  obtain ⟨T', h', X', e', W', st'⟩ := stR K.X K.hx K.hZ K.eh A (j := j) (own_inb S hj) hty F (g := mkF m pc Ls (v :: .int j :: .ref a :: rest)) rfl rfl (hb K.hby hd)
  exact K.cl _ _ st' (kk T' h' (K.nx X' e' (Fr.snoc X' K.fr ha) (own_ext_wr K.O W' ha)) W' (Arv.set A q1 S hz H Gf hf W' _ rfl hl))
theorem own_initO (K : own_K p l e R s m args below meth c bytes own nm mx ret Q G Z T L k n h) {idx : Nat} {a : Addr} {W : Nat} (w1 : (Cond.methodLink own idx Lib.objectInit).before a0 Z = true) (w2 : (Cond.instanceMethod Lib.objectInit).before a0 Z = true) (w3 : (Cond.code Lib.objectInit ⟨#[0xb1]⟩ 1 none).before a0 Z = true) (hsz : Ls.size = mx) (hW : (rest.map fun v => v.category).sum = W) (hf : 1 ≤ R.frames) (hl : W + 12 ≤ R.locals) (hd : decode bytes pc = .ok (.invokespecial idx, 3)) (hp : pc + 3 = pc')
    (kk : ∀ T', own_K p l e R s m args below meth c bytes own nm mx ret Q G Z T' L k n h → G (T'.setTop (mkF m pc' Ls rest))) : G (T.setTop (mkF m pc Ls (.ref a :: rest))) := by
  subst hp
  obtain ⟨T', X', e', st'⟩ := initO K.X K.hx K.hZ K.hown w1 w2 w3 K.eh (g := mkF m pc Ls (.ref a :: rest)) rfl (by rw [K.hml]; exact hsz) rfl (hb K.hby hd) hf (W := W) (by show 2 * 0 + _ ≤ _; rw [hW]; omega) hl
  exact K.cl _ _ st' (kk T' (K.nx X' e' K.fr K.O))
theorem own_callS (K : own_K p l e R s m args below meth c bytes own nm mx ret Q G Z T L k n h) {index W mx' : Nat} {y : MethodName} {bytes' : ByteArray} {ret' : Option FieldType} {rm : Room} {ps : List FieldType} {rr : Option FieldType} {Qc : Option Value → Heap → Prop} {argsL : List Value} (wl : (Cond.methodLink own index y).before a0 Z = true) (ws : (Cond.static y).before a0 Z = true) (C : own_Ct l Z y bytes' mx' ret' [] rm argsL.toArray h Qc) (hcd : (Cond.code y bytes' mx' ret').before a0 Z = true) (hin : (Cond.initialized (y).cls).before a0 Z = true) (hy : y.cls ≠ "java/lang/invoke/MethodHandle" ∧ y.cls ≠ "java/lang/invoke/VarHandle")  (hstk : st = (argsL.reverse ++ rest)) (hpd : parseMethodDescriptor y.desc = some ⟨ps, rr⟩) (hal : argsL.length = ps.length) (hsz : Ls.size = mx) (hW : (rest.map fun v => v.category).sum = W) (hrf : rm.frames + 1 ≤ R.frames) (hrl : W + (mx' + 11) + rm.locals ≤ R.locals) (hrc : k + rm.cells ≤ R.cells) (hrs : n + rm.slots ≤ R.slots) (hd : decode bytes pc = .ok (.invokestatic index, 3)) (hp : pc + 3 = pc')
    (kk : ∀ T' h' L' v, own_K p l e R s m args below meth c bytes own nm mx ret Q G Z T' (L ++ L') (k + rm.cells) (n + rm.slots) h' → Qc v h' → G (T'.setTop (mkF m pc' Ls (v.toList ++ rest)))) : G (T.setTop (mkF m pc Ls st)) := by
  subst hp hstk
  obtain ⟨v, _, ⟨T', L1, k1, n1⟩, -, X', ⟨L', hQ, l1, l2, l3⟩, st'⟩ := Jvm.LawKit.callS K.X K.hx (y := y) K.hown (mvT K.hZ wl) (mvT K.hZ ws) (mvT K.hZ hin) (mvT K.hZ hcd) hy (backOf (W := W) (Q := fun v h L => Fr Z.heap.size L ∧ Ext Z.heap h ∧ Qc v h) C K.hZ hcd hin hrf hrl) (g := mkF m pc Ls (argsL.reverse ++ rest)) rfl (by rw [K.hml]; exact hsz) (argsL := argsL) (rest := rest) (fun sig q => by rw [hpd] at q; cases q; exact hal) rfl (by show 2 * 0 + _ ≤ _; rw [hW]; omega) (hb K.hby hd) (fun _ _ => ⟨rfl, K.eh, hrc, hrs⟩)
  dsimp only [Pt.U, Pt.locs, Pt.cells, Pt.slots] at X' l1 l2 l3 st' hQ
  subst l1 l2 l3
  obtain ⟨hN, hO, hq⟩ := hQ
  exact K.cl _ _ (fun t q => st' t q) (kk T' T'.heap L' v (K.nx X' rfl (Fr.app K.fr hN) hO) hq)
theorem own_callI (K : own_K p l e R s m args below meth c bytes own nm mx ret Q G Z T L k n h) {index W mx' : Nat} {y : MethodName} {bytes' : ByteArray} {rm : Room} {ps : List FieldType} {rr : Option FieldType} {Qc : Option Value → Heap → Prop} {argsL : List Value} {a : Addr} (wl : (Cond.methodLink own index y).before a0 Z = true) (wi : (Cond.instanceMethod y).before a0 Z = true) (C : own_Ct l Z y bytes' mx' none [] rm (.ref a :: argsL).toArray h Qc) (hcd : (Cond.code y bytes' mx' none).before a0 Z = true) (hin : (Cond.initialized (y).cls).before a0 Z = true) (hy : y.cls ≠ "java/lang/invoke/MethodHandle" ∧ y.cls ≠ "java/lang/invoke/VarHandle") (hy1 : y.name = "<init>")  (hstk : st = (argsL.reverse ++ .ref a :: rest)) (hpd : parseMethodDescriptor y.desc = some ⟨ps, rr⟩) (hal : argsL.length = ps.length) (hsz : Ls.size = mx) (hW : (rest.map fun v => v.category).sum = W) (hrf : rm.frames + 1 ≤ R.frames) (hrl : W + (mx' + 11) + rm.locals ≤ R.locals) (hrc : k + rm.cells ≤ R.cells) (hrs : n + rm.slots ≤ R.slots) (hd : decode bytes pc = .ok (.invokespecial index, 3)) (hp : pc + 3 = pc')
    (kk : ∀ T' h' L' v, own_K p l e R s m args below meth c bytes own nm mx ret Q G Z T' (L ++ L') (k + rm.cells) (n + rm.slots) h' → Qc v h' → G (T'.setTop (mkF m pc' Ls (v.toList ++ rest)))) : G (T.setTop (mkF m pc Ls st)) := by
  subst hp hstk
  obtain ⟨v, _, ⟨T', L1, k1, n1⟩, -, X', ⟨L', hQ, l1, l2, l3⟩, st'⟩ := K.X.specialBack K.hx (y := y) hy1 K.hown (mvT K.hZ wl) (mvT K.hZ wi) (mvT K.hZ hcd) hy (backOf (W := W) (Q := fun v h L => Fr Z.heap.size L ∧ Ext Z.heap h ∧ Qc v h) C K.hZ hcd hin hrf hrl) (g := mkF m pc Ls (argsL.reverse ++ .ref a :: rest)) rfl (by rw [K.hml]; exact hsz) (Steps.refl _) (a := a) (argsL := argsL) (rest := rest) (fun sig q => by rw [hpd] at q; cases q; exact hal) rfl (by show 2 * 0 + _ ≤ _; rw [hW]; omega) (hb K.hby hd) (fun _ _ => ⟨rfl, K.eh, hrc, hrs⟩)
  dsimp only [Pt.U, Pt.locs, Pt.cells, Pt.slots] at X' l1 l2 l3 st' hQ
  subst l1 l2 l3
  obtain ⟨hN, hO, hq⟩ := hQ
  exact K.cl _ _ (fun t q => st'.trans q) (kk T' T'.heap L' v (K.nx X' rfl (Fr.app K.fr hN) hO) hq)
theorem own_callV (K : own_K p l e R s m args below meth c bytes own nm mx ret Q G Z T L k n h) {index W mx' : Nat} {y : MethodName} {bytes' : ByteArray} {ret' : Option FieldType} {rm : Room} {ps : List FieldType} {rr : Option FieldType} {Qc : Option Value → Heap → Prop} {argsL : List Value} {a : Addr} {Cc : String} {x0 : MethodName} (wl : (Cond.methodLink own index x0).before a0 Z = true) (wd : (Cond.declares x0).before a0 Z = true) (hnf : ∀ {s : State}, Z.Warmed39 s.vm → NotFace s x0) (wsel : (Cond.selects Cc x0 y).before a0 Z = true) (wi : (Cond.instanceMethod y).before a0 Z = true) (C : own_Ct l Z y bytes' mx' ret' [] rm (.ref a :: argsL).toArray h Qc) (hcd : (Cond.code y bytes' mx' ret').before a0 Z = true) (hin : (Cond.initialized (y).cls).before a0 Z = true) (hy : x0.cls ≠ "java/lang/invoke/MethodHandle" ∧ x0.cls ≠ "java/lang/invoke/VarHandle") (E : Exa Z h a Cc)  (hstk : st = (argsL.reverse ++ .ref a :: rest)) (hpd : parseMethodDescriptor x0.desc = some ⟨ps, rr⟩) (hal : argsL.length = ps.length) (hsz : Ls.size = mx) (hW : (rest.map fun v => v.category).sum = W) (hrf : rm.frames + 1 ≤ R.frames) (hrl : W + (mx' + 11) + rm.locals ≤ R.locals) (hrc : k + rm.cells ≤ R.cells) (hrs : n + rm.slots ≤ R.slots) (hd : decode bytes pc = .ok (.invokevirtual index, 3)) (hp : pc + 3 = pc')
    (kk : ∀ T' h' L' v, own_K p l e R s m args below meth c bytes own nm mx ret Q G Z T' (L ++ L') (k + rm.cells) (n + rm.slots) h' → Qc v h' → G (T'.setTop (mkF m pc' Ls (v.toList ++ rest)))) : G (T.setTop (mkF m pc Ls st)) := by
  subst hp hstk
  obtain ⟨v, _, ⟨T', L1, k1, n1⟩, -, X', ⟨L', hQ, l1, l2, l3⟩, st'⟩ := (isOf K.hZ K.eh E).elim fun cB q => q.elim fun kB q => K.X.virtualBack K.hx (y := x0) (z := y) K.hown (mvT K.hZ wl) (mvT K.hZ wd) (hnf K.hZ) (mvT K.hZ wsel) (mvT K.hZ wi) hy (backOf (W := W) (Q := fun v h L => Fr Z.heap.size L ∧ Ext Z.heap h ∧ Qc v h) C K.hZ hcd hin hrf hrl) q.1 q.2.2 (g := mkF m pc Ls (argsL.reverse ++ .ref a :: rest)) rfl (by rw [K.hml]; exact hsz) (Steps.refl _) (argsL := argsL) (rest := rest) (fun sig q => by rw [hpd] at q; cases q; exact hal) rfl (by show 2 * 0 + _ ≤ _; rw [hW]; omega) (hb K.hby hd) (fun _ _ => ⟨rfl, K.eh, hrc, hrs⟩)
  dsimp only [Pt.U, Pt.locs, Pt.cells, Pt.slots] at X' l1 l2 l3 st' hQ
  subst l1 l2 l3
  obtain ⟨hN, hO, hq⟩ := hQ
  exact K.cl _ _ (fun t q => st'.trans q) (kk T' T'.heap L' v (K.nx X' rfl (Fr.app K.fr hN) hO) hq)
theorem own_callVU (K : own_K p l e R s m args below meth c bytes own nm mx ret Q G Z T L k n h) {index W mx' : Nat} {y : MethodName} {bytes' : ByteArray} {ret' : Option FieldType} {rm : Room} {ps : List FieldType} {rr : Option FieldType} {Qc : Option Value → Heap → Prop} {argsL : List Value} {a : Addr} {Cc owner : String} {x0 : MethodName} (wl : (Cond.methodLink own index x0).before a0 Z = true) (wsm : (Cond.sameMethod x0.cls owner x0.name x0.desc).before a0 Z = true) (wd : (Cond.declares ⟨owner, x0.name, x0.desc⟩).before a0 Z = true) (wsel : (Cond.selects Cc x0 y).before a0 Z = true) (wi : (Cond.instanceMethod y).before a0 Z = true) (C : own_Ct l Z y bytes' mx' ret' [] rm (.ref a :: argsL).toArray h Qc) (hcd : (Cond.code y bytes' mx' ret').before a0 Z = true) (hin : (Cond.initialized (y).cls).before a0 Z = true) (hy : owner ≠ "java/lang/invoke/MethodHandle" ∧ owner ≠ "java/lang/invoke/VarHandle") (E : Exa Z h a Cc)  (hstk : st = (argsL.reverse ++ .ref a :: rest)) (hpd : parseMethodDescriptor x0.desc = some ⟨ps, rr⟩) (hal : argsL.length = ps.length) (hsz : Ls.size = mx) (hW : (rest.map fun v => v.category).sum = W) (hrf : rm.frames + 1 ≤ R.frames) (hrl : W + (mx' + 11) + rm.locals ≤ R.locals) (hrc : k + rm.cells ≤ R.cells) (hrs : n + rm.slots ≤ R.slots) (hd : decode bytes pc = .ok (.invokevirtual index, 3)) (hp : pc + 3 = pc')
    (kk : ∀ T' h' L' v, own_K p l e R s m args below meth c bytes own nm mx ret Q G Z T' (L ++ L') (k + rm.cells) (n + rm.slots) h' → Qc v h' → G (T'.setTop (mkF m pc' Ls (v.toList ++ rest)))) : G (T.setTop (mkF m pc Ls st)) := by
  subst hp hstk
  obtain ⟨v, _, ⟨T', L1, k1, n1⟩, -, X', ⟨L', hQ, l1, l2, l3⟩, st'⟩ := (isOf K.hZ K.eh E).elim fun cB q => q.elim fun kB q => K.X.virtualBackUp K.hx (x := x0) (y := y) K.hown (mvT K.hZ wl) (mvT K.hZ wsm) (mvT K.hZ wd) hy (mvT K.hZ wsel) (mvT K.hZ wi) (backOf (W := W) (Q := fun v h L => Fr Z.heap.size L ∧ Ext Z.heap h ∧ Qc v h) C K.hZ hcd hin hrf hrl) q.1 q.2.2 (g := mkF m pc Ls (argsL.reverse ++ .ref a :: rest)) rfl (by rw [K.hml]; exact hsz) (Steps.refl _) (argsL := argsL) (rest := rest) (fun sig q => by rw [hpd] at q; cases q; exact hal) rfl (by show 2 * 0 + _ ≤ _; rw [hW]; omega) (hb K.hby hd) (fun _ _ => ⟨rfl, K.eh, hrc, hrs⟩)
  dsimp only [Pt.U, Pt.locs, Pt.cells, Pt.slots] at X' l1 l2 l3 st' hQ
  subst l1 l2 l3
  obtain ⟨hN, hO, hq⟩ := hQ
  exact K.cl _ _ (fun t q => st'.trans q) (kk T' T'.heap L' v (K.nx X' rfl (Fr.app K.fr hN) hO) hq)
theorem own_callF (K : own_K p l e R s m args below meth c bytes own nm mx ret Q G Z T L k n h) {index W mx' : Nat} {y : MethodName} {bytes' : ByteArray} {ret' : Option FieldType} {rm : Room} {ps : List FieldType} {rr : Option FieldType} {Qc : Option Value → Heap → Prop} {argsL : List Value} {cnt : Nat} {a : Addr} {Cc : String} {x0 : MethodName} (wl : (Cond.methodLink own index x0).before a0 Z = true) (wd : (Cond.declares x0).before a0 Z = true) (wf : ∀ {s : State} {args : Array Value}, Z.Warmed39 s.vm → (Cond.interfaceMethod x0.cls x0.cls x0.name x0.desc).before args s = true) (wsel : (Cond.selects Cc x0 y).before a0 Z = true) (wi : (Cond.instanceMethod y).before a0 Z = true) (wp : (Cond.publicMethod y).before a0 Z = true) (wu : (Cond.unhidden Cc x0.name x0.desc).before a0 Z = true) (wc : (Cond.castable Cc x0.cls).before a0 Z = true) (C : own_Ct l Z y bytes' mx' ret' [] rm (.ref a :: argsL).toArray h Qc) (hcd : (Cond.code y bytes' mx' ret').before a0 Z = true) (hin : (Cond.initialized (y).cls).before a0 Z = true) (hy : x0.cls ≠ "java/lang/invoke/MethodHandle" ∧ x0.cls ≠ "java/lang/invoke/VarHandle") (E : Exa Z h a Cc)  (hstk : st = (argsL.reverse ++ .ref a :: rest)) (hpd : parseMethodDescriptor x0.desc = some ⟨ps, rr⟩) (hal : argsL.length = ps.length) (hsz : Ls.size = mx) (hW : (rest.map fun v => v.category).sum = W) (hrf : rm.frames + 1 ≤ R.frames) (hrl : W + (mx' + 11) + rm.locals ≤ R.locals) (hrc : k + rm.cells ≤ R.cells) (hrs : n + rm.slots ≤ R.slots) (hd : decode bytes pc = .ok (.invokeinterface index cnt, 5)) (hp : pc + 5 = pc')
    (kk : ∀ T' h' L' v, own_K p l e R s m args below meth c bytes own nm mx ret Q G Z T' (L ++ L') (k + rm.cells) (n + rm.slots) h' → Qc v h' → G (T'.setTop (mkF m pc' Ls (v.toList ++ rest)))) : G (T.setTop (mkF m pc Ls st)) := by
  subst hp hstk
  obtain ⟨v, _, ⟨T', L1, k1, n1⟩, -, X', ⟨L', hQ, l1, l2, l3⟩, st'⟩ := (isOf K.hZ K.eh E).elim fun cB q => q.elim fun kB q => K.X.interfaceBack K.hx (xi := x0) (y := y) K.hown (mvT K.hZ wl) (mvT K.hZ wd) (wf K.hZ) (mvT K.hZ wsel) (mvT K.hZ wi) (mvT K.hZ wp) (mvT K.hZ wu) (mvT K.hZ wc) hy (backOf (W := W) (Q := fun v h L => Fr Z.heap.size L ∧ Ext Z.heap h ∧ Qc v h) C K.hZ hcd hin hrf hrl) q.1 q.2.1 q.2.2 (g := mkF m pc Ls (argsL.reverse ++ .ref a :: rest)) rfl (by rw [K.hml]; exact hsz) (Steps.refl _) (argsL := argsL) (rest := rest) (fun sig q => by rw [hpd] at q; cases q; exact hal) rfl (by show 2 * 0 + _ ≤ _; rw [hW]; omega) (hb K.hby hd) (fun _ _ => ⟨rfl, K.eh, hrc, hrs⟩)
  dsimp only [Pt.U, Pt.locs, Pt.cells, Pt.slots] at X' l1 l2 l3 st' hQ
  subst l1 l2 l3
  obtain ⟨hN, hO, hq⟩ := hQ
  exact K.cl _ _ (fun t q => st'.trans q) (kk T' T'.heap L' v (K.nx X' rfl (Fr.app K.fr hN) hO) hq)
theorem own_callP (K : own_K p l e R s m args below meth c bytes own nm mx ret Q G Z T L k n h) {index W mx' : Nat} {y : MethodName} {bytes' : ByteArray} {ret' : Option FieldType} {rm : Room} {ps : List FieldType} {rr : Option FieldType} {Qc : Option Value → Heap → Prop} {argsL : List Value} {a : Addr} {Cc : String} (wl : (Cond.methodLink own index y).before a0 Z = true) (wi : (Cond.instanceMethod y).before a0 Z = true) (wsel : (Cond.selects y.cls y y).before a0 Z = true) (wp : (Cond.privateMethod y).before a0 Z = true) (C : own_Ct l Z y bytes' mx' ret' [] rm (.ref a :: argsL).toArray h Qc) (hcd : (Cond.code y bytes' mx' ret').before a0 Z = true) (hin : (Cond.initialized (y).cls).before a0 Z = true) (hy : y.cls ≠ "java/lang/invoke/MethodHandle" ∧ y.cls ≠ "java/lang/invoke/VarHandle") (E : Exa Z h a Cc)  (hstk : st = (argsL.reverse ++ .ref a :: rest)) (hpd : parseMethodDescriptor y.desc = some ⟨ps, rr⟩) (hal : argsL.length = ps.length) (hsz : Ls.size = mx) (hW : (rest.map fun v => v.category).sum = W) (hrf : rm.frames + 1 ≤ R.frames) (hrl : W + (mx' + 11) + rm.locals ≤ R.locals) (hrc : k + rm.cells ≤ R.cells) (hrs : n + rm.slots ≤ R.slots) (hd : decode bytes pc = .ok (.invokevirtual index, 3)) (hp : pc + 3 = pc')
    (kk : ∀ T' h' L' v, own_K p l e R s m args below meth c bytes own nm mx ret Q G Z T' (L ++ L') (k + rm.cells) (n + rm.slots) h' → Qc v h' → G (T'.setTop (mkF m pc' Ls (v.toList ++ rest)))) : G (T.setTop (mkF m pc Ls st)) := by
  subst hp hstk
  obtain ⟨v, _, ⟨T', L1, k1, n1⟩, -, X', ⟨L', hQ, l1, l2, l3⟩, st'⟩ := E.cell.elim fun cq q => K.X.privateBack K.hx (y := y) K.hown (mvT K.hZ wl) (mvT K.hZ wi) (mvT K.hZ wsel) (Cond.privateMethod_at (mvP K.hZ wp (args := #[]))) (mvT K.hZ hcd) hy (backOf (W := W) (Q := fun v h L => Fr Z.heap.size L ∧ Ext Z.heap h ∧ Qc v h) C K.hZ hcd hin hrf hrl) (g := mkF m pc Ls (argsL.reverse ++ .ref a :: rest)) rfl (by rw [K.hml]; exact hsz) (Steps.refl _) (a := a) (by rw [K.eh]; exact q.1) q.2 (argsL := argsL) (rest := rest) (fun sig q => by rw [hpd] at q; cases q; exact hal) rfl (by show 2 * 0 + _ ≤ _; rw [hW]; omega) (hb K.hby hd) (fun _ _ => ⟨rfl, K.eh, hrc, hrs⟩)
  dsimp only [Pt.U, Pt.locs, Pt.cells, Pt.slots] at X' l1 l2 l3 st' hQ
  subst l1 l2 l3
  obtain ⟨hN, hO, hq⟩ := hQ
  exact K.cl _ _ (fun t q => st'.trans q) (kk T' T'.heap L' v (K.nx X' rfl (Fr.app K.fr hN) hO) hq)
theorem own_callSup (K : own_K p l e R s m args below meth c bytes own nm mx ret Q G Z T L k n h) {index W mx' : Nat} {y : MethodName} {bytes' : ByteArray} {ret' : Option FieldType} {rm : Room} {ps : List FieldType} {rr : Option FieldType} {Qc : Option Value → Heap → Prop} {argsL : List Value} {a : Addr} {Cc : String} (wl : (Cond.methodLink own index y).before a0 Z = true) (wsm : (Cond.sameMethod y.cls y.cls y.name y.desc).before a0 Z = true) (wi : (Cond.instanceMethod y).before a0 Z = true) (wsup : (Cond.superclass own y.cls).before a0 Z = true) (C : own_Ct l Z y bytes' mx' ret' [] rm (.ref a :: argsL).toArray h Qc) (hcd : (Cond.code y bytes' mx' ret').before a0 Z = true) (hin : (Cond.initialized (y).cls).before a0 Z = true) (hy : y.name ≠ "<init>") (E : Exa Z h a Cc)  (hstk : st = (argsL.reverse ++ .ref a :: rest)) (hpd : parseMethodDescriptor y.desc = some ⟨ps, rr⟩) (hal : argsL.length = ps.length) (hsz : Ls.size = mx) (hW : (rest.map fun v => v.category).sum = W) (hrf : rm.frames + 1 ≤ R.frames) (hrl : W + (mx' + 11) + rm.locals ≤ R.locals) (hrc : k + rm.cells ≤ R.cells) (hrs : n + rm.slots ≤ R.slots) (hd : decode bytes pc = .ok (.invokespecial index, 3)) (hp : pc + 3 = pc')
    (kk : ∀ T' h' L' v, own_K p l e R s m args below meth c bytes own nm mx ret Q G Z T' (L ++ L') (k + rm.cells) (n + rm.slots) h' → Qc v h' → G (T'.setTop (mkF m pc' Ls (v.toList ++ rest)))) : G (T.setTop (mkF m pc Ls st)) := by
  subst hp hstk
  obtain ⟨v, _, ⟨T', L1, k1, n1⟩, -, X', ⟨L', hQ, l1, l2, l3⟩, st'⟩ := RoadKit.superBack K.X K.hx K.hZ (y := y) K.hown wl wsm wi wsup hy (backOf (W := W) (Q := fun v h L => Fr Z.heap.size L ∧ Ext Z.heap h ∧ Qc v h) C K.hZ hcd hin hrf hrl) K.eh (Ins.self E) (g := mkF m pc Ls (argsL.reverse ++ .ref a :: rest)) rfl (by rw [K.hml]; exact hsz) hcd (argsL := argsL) (rest := rest) (fun sig q => by rw [hpd] at q; cases q; exact hal) rfl (by show 2 * 0 + _ ≤ _; rw [hW]; omega) (hb K.hby hd) (fun _ _ => ⟨rfl, K.eh, hrc, hrs⟩)
  dsimp only [Pt.U, Pt.locs, Pt.cells, Pt.slots] at X' l1 l2 l3 st' hQ
  subst l1 l2 l3
  obtain ⟨hN, hO, hq⟩ := hQ
  exact K.cl _ _ (fun t q => st'.trans q) (kk T' T'.heap L' v (K.nx X' rfl (Fr.app K.fr hN) hO) hq)
theorem own_callSK (K : own_K p l e R s m args below meth c bytes own nm mx ret Q G Z T L k n h) {index W mx' : Nat} {y : MethodName} {bytes' : ByteArray} {ret' : Option FieldType} {rm : Room} {ps : List FieldType} {rr : Option FieldType} {Qc : Option Value → Heap → Prop} {argsL : List Value} (hkn : s.vm.MethodsKnown ∧ s.vm.FramesKnown below) (wl : (Cond.methodLink own index y).before a0 Z = true) (ws : (Cond.static y).before a0 Z = true) (C : own_CtK l Z y bytes' mx' ret' [] rm argsL.toArray h Qc) (hcd : (Cond.code y bytes' mx' ret').before a0 Z = true) (hin : (Cond.initialized (y).cls).before a0 Z = true) (hy : y.cls ≠ "java/lang/invoke/MethodHandle" ∧ y.cls ≠ "java/lang/invoke/VarHandle")  (hstk : st = (argsL.reverse ++ rest)) (hpd : parseMethodDescriptor y.desc = some ⟨ps, rr⟩) (hal : argsL.length = ps.length) (hsz : Ls.size = mx) (hW : (rest.map fun v => v.category).sum = W) (hrf : rm.frames + 1 ≤ R.frames) (hrl : W + (mx' + 11) + rm.locals ≤ R.locals) (hrc : k + rm.cells ≤ R.cells) (hrs : n + rm.slots ≤ R.slots) (hd : decode bytes pc = .ok (.invokestatic index, 3)) (hp : pc + 3 = pc')
    (kk : ∀ T' h' L' v, own_K p l e R s m args below meth c bytes own nm mx ret Q G Z T' (L ++ L') (k + rm.cells) (n + rm.slots) h' → Qc v h' → G (T'.setTop (mkF m pc' Ls (v.toList ++ rest)))) : G (T.setTop (mkF m pc Ls st)) := by
  subst hp hstk
  obtain ⟨v, _, ⟨T', L1, k1, n1⟩, -, X', ⟨L', hQ, l1, l2, l3⟩, st'⟩ := Jvm.LawKit.callS K.X K.hx (y := y) K.hown (mvT K.hZ wl) (mvT K.hZ ws) (mvT K.hZ hin) (mvT K.hZ hcd) hy (backOfKL (W := W) (Q := fun v h L => Fr Z.heap.size L ∧ Ext Z.heap h ∧ Qc v h) C K.hZ hcd hin hrf hrl hkn.1 hkn.2) (g := mkF m pc Ls (argsL.reverse ++ rest)) rfl (by rw [K.hml]; exact hsz) (argsL := argsL) (rest := rest) (fun sig q => by rw [hpd] at q; cases q; exact hal) rfl (by show 2 * 0 + _ ≤ _; rw [hW]; omega) (hb K.hby hd) (fun _ _ => ⟨rfl, K.eh, hrc, hrs⟩)
  dsimp only [Pt.U, Pt.locs, Pt.cells, Pt.slots] at X' l1 l2 l3 st' hQ
  subst l1 l2 l3
  obtain ⟨hN, hO, hq⟩ := hQ
  exact K.cl _ _ (fun t q => st' t q) (kk T' T'.heap L' v (K.nx X' rfl (Fr.app K.fr hN) hO) hq)
theorem own_callIK (K : own_K p l e R s m args below meth c bytes own nm mx ret Q G Z T L k n h) {index W mx' : Nat} {y : MethodName} {bytes' : ByteArray} {rm : Room} {ps : List FieldType} {rr : Option FieldType} {Qc : Option Value → Heap → Prop} {argsL : List Value} (hkn : s.vm.MethodsKnown ∧ s.vm.FramesKnown below) {a : Addr} (wl : (Cond.methodLink own index y).before a0 Z = true) (wi : (Cond.instanceMethod y).before a0 Z = true) (C : own_CtK l Z y bytes' mx' none [] rm (.ref a :: argsL).toArray h Qc) (hcd : (Cond.code y bytes' mx' none).before a0 Z = true) (hin : (Cond.initialized (y).cls).before a0 Z = true) (hy : y.cls ≠ "java/lang/invoke/MethodHandle" ∧ y.cls ≠ "java/lang/invoke/VarHandle") (hy1 : y.name = "<init>")  (hstk : st = (argsL.reverse ++ .ref a :: rest)) (hpd : parseMethodDescriptor y.desc = some ⟨ps, rr⟩) (hal : argsL.length = ps.length) (hsz : Ls.size = mx) (hW : (rest.map fun v => v.category).sum = W) (hrf : rm.frames + 1 ≤ R.frames) (hrl : W + (mx' + 11) + rm.locals ≤ R.locals) (hrc : k + rm.cells ≤ R.cells) (hrs : n + rm.slots ≤ R.slots) (hd : decode bytes pc = .ok (.invokespecial index, 3)) (hp : pc + 3 = pc')
    (kk : ∀ T' h' L' v, own_K p l e R s m args below meth c bytes own nm mx ret Q G Z T' (L ++ L') (k + rm.cells) (n + rm.slots) h' → Qc v h' → G (T'.setTop (mkF m pc' Ls (v.toList ++ rest)))) : G (T.setTop (mkF m pc Ls st)) := by
  subst hp hstk
  obtain ⟨v, _, ⟨T', L1, k1, n1⟩, -, X', ⟨L', hQ, l1, l2, l3⟩, st'⟩ := K.X.specialBack K.hx (y := y) hy1 K.hown (mvT K.hZ wl) (mvT K.hZ wi) (mvT K.hZ hcd) hy (backOfKL (W := W) (Q := fun v h L => Fr Z.heap.size L ∧ Ext Z.heap h ∧ Qc v h) C K.hZ hcd hin hrf hrl hkn.1 hkn.2) (g := mkF m pc Ls (argsL.reverse ++ .ref a :: rest)) rfl (by rw [K.hml]; exact hsz) (Steps.refl _) (a := a) (argsL := argsL) (rest := rest) (fun sig q => by rw [hpd] at q; cases q; exact hal) rfl (by show 2 * 0 + _ ≤ _; rw [hW]; omega) (hb K.hby hd) (fun _ _ => ⟨rfl, K.eh, hrc, hrs⟩)
  dsimp only [Pt.U, Pt.locs, Pt.cells, Pt.slots] at X' l1 l2 l3 st' hQ
  subst l1 l2 l3
  obtain ⟨hN, hO, hq⟩ := hQ
  exact K.cl _ _ (fun t q => st'.trans q) (kk T' T'.heap L' v (K.nx X' rfl (Fr.app K.fr hN) hO) hq)
theorem own_excL1 (K : own_K p l e R s m args below meth c bytes own nm mx ret Q G Z T L k n h) (hkn : s.vm.MethodsKnown ∧ s.vm.FramesKnown below) (hl : l.stackTraces = true) {rc : String} {links : List Jvm.Free.Exc.Link} {ic j W : Nat} {a : Addr} {msg : Value} (hok : Jvm.Free.Exc.linksOk 1 links = true) (w1 : (Cond.methodLink own ic (Jvm.Free.Exc.ctor 1 (Jvm.Free.Exc.headName links))).before a0 Z = true) (w2 : (Cond.instanceMethod (Jvm.Free.Exc.ctor 1 (Jvm.Free.Exc.headName links))).before a0 Z = true) (wT : (Jvm.Free.Exc.chainTab 1 rc links).before a0 Z = true) (wi : (Cond.instantiable rc j).before a0 Z = true) (r : ∀ d ∈ twoRefs, d.before a0 Z = true) (hT0 : ThS Z s.heap) (E : Exa Z h a rc) (N : Unt h a) (B : Fld Z h a "java/lang/Throwable" "backtrace" "Ljava/lang/Object;" .null) (B2 : Fld Z h a "java/lang/Throwable" "detailMessage" "Ljava/lang/String;" .null) (hmsg : msg.isRef = true) (ha : Z.heap.size ≤ a) (hsz : Ls.size = mx) (hW : (rest.map fun v => v.category).sum = W) (hf : 4 + links.length ≤ R.frames) (hlo : W + (56 + 14 * links.length) ≤ R.locals) (hc : k + 1 ≤ R.cells) (hsl : n + 2752 ≤ R.slots) (hd : decode bytes pc = .ok (.invokespecial ic, 3)) (hp : pc + 3 = pc')
    (kk : ∀ T' h', own_K p l e R s m args below meth c bytes own nm mx ret Q G Z T' (L ++ sixLocs Z a) (k + 1) (n + 2752) h' → Kp Z h h' a → Exa Z h' a rc → Unt h' a → Fld Z h' a "java/lang/Throwable" "detailMessage" "Ljava/lang/String;" msg → G (T'.setTop (mkF m pc' Ls rest))) : G (T.setTop (mkF m pc Ls (msg :: .ref a :: rest))) := by
  subst hp
  obtain ⟨T', h', X', e', Kp', E', U', F', -, -, st'⟩ := excL1 K.X K.hx hl K.hZ K.hown (links := links) hok w1 w2 wT wi r hT0 (ThS.start.ext K.O) hkn.1 hkn.2 K.eh E N B B2 hmsg (g := mkF m pc Ls (msg :: .ref a :: rest)) rfl (by rw [K.hml]; exact hsz) (rest := rest) rfl (hb K.hby hd) hf (by show 2 * 0 + _ + _ ≤ _; rw [hW]; omega) hc hsl
  exact K.cl _ _ st' (kk T' h' (K.nx X' e' (Fr.six K.fr ha) (own_ext_keep K.O (keep_of_kp Kp') (fun x hx => by cases List.mem_singleton.mp hx; exact ha))) Kp' E' U' F')
theorem own_retI (K : own_K p l e R s m args below meth c bytes own nm mx ret Q G Z T L k n h) {z : Int32} (hd : decode bytes pc = .ok (.ireturn, 1)) (hr : ret = some .int) (hc : k ≤ R.cells) (hn : n ≤ R.slots) (hq : Q (some (.int z)) h) : G (T.setTop (mkF m pc Ls (.int z :: rest))) :=
  K.fin T L k n (some (.int z)) _ K.X K.fr (by rw [K.eh]; exact K.O) hc hn (fun q => by rw [K.hret, hr] at q; cases q) (by rw [K.eh]; exact hq) (fun fs hfs => retOut K.X K.hx (K.hret.trans hr) rfl (Or.inl ⟨rfl, Or.inl rfl, _, rfl⟩) (hb K.hby hd) hfs)
theorem own_retJ (K : own_K p l e R s m args below meth c bytes own nm mx ret Q G Z T L k n h) {z : Int64} (hd : decode bytes pc = .ok (.lreturn, 1)) (hr : ret = some .long) (hc : k ≤ R.cells) (hn : n ≤ R.slots) (hq : Q (some (.long z)) h) : G (T.setTop (mkF m pc Ls (.long z :: rest))) :=
  K.fin T L k n (some (.long z)) _ K.X K.fr (by rw [K.eh]; exact K.O) hc hn (fun q => by rw [K.hret, hr] at q; cases q) (by rw [K.eh]; exact hq) (fun fs hfs => retOut K.X K.hx (K.hret.trans hr) rfl (Or.inr (Or.inl ⟨rfl, rfl, _, rfl⟩)) (hb K.hby hd) hfs)
theorem own_retA (K : own_K p l e R s m args below meth c bytes own nm mx ret Q G Z T L k n h) {w : Value} {t : FieldType} (hd : decode bytes pc = .ok (.areturn, 1)) (hr : ret = some t) (ht : t.isReference = true) (hw : w.isRef = true) (hnw : narrow t w = w) (hc : k ≤ R.cells) (hn : n ≤ R.slots) (hq : Q (some (w)) h) : G (T.setTop (mkF m pc Ls (w :: rest))) :=
  K.fin T L k n (some (w)) _ K.X K.fr (by rw [K.eh]; exact K.O) hc hn (fun q => by rw [K.hret, hr] at q; cases q) (by rw [K.eh]; exact hq) (fun fs hfs => retOut K.X K.hx (K.hret.trans hr) hnw (Or.inr (Or.inr (Or.inr (Or.inr ⟨rfl, ht, hw⟩)))) (hb K.hby hd) hfs)
theorem own_retN (K : own_K p l e R s m args below meth c bytes own nm mx ret Q G Z T L k n h) {z z' : Int32} {t : FieldType} (hd : decode bytes pc = .ok (.ireturn, 1)) (hr : ret = some t) (ht : t = .boolean ∨ t = .byte ∨ t = .char ∨ t = .short) (hz : nar t z = z') (hc : k ≤ R.cells) (hn : n ≤ R.slots) (hq : Q (some (.int z')) h) : G (T.setTop (mkF m pc Ls (.int z :: rest))) := by
  subst hz
  exact K.fin T L k n (some (.int (nar t z))) _ K.X K.fr (by rw [K.eh]; exact K.O) hc hn (fun q => by rw [K.hret, hr] at q; cases q) (by rw [K.eh]; exact hq) (fun fs hfs => retN K.X K.hx (K.hret.trans hr) ht (hb K.hby hd) hfs)
theorem own_ret0 (K : own_K p l e R s m args below meth c bytes own nm mx ret Q G Z T L k n h) (hd : decode bytes pc = .ok (.return_, 1)) (hr : ret = none) (hc : k ≤ R.cells) (hn : n ≤ R.slots) (hq : Q none h) : G (T.setTop (mkF m pc Ls [])) :=
  K.fin T L k n none _ K.X K.fr (by rw [K.eh]; exact K.O) hc hn (fun _ => rfl) (by rw [K.eh]; exact hq) (fun fs hfs => K.X.returnOut K.hx (K.hret.trans hr) (hb K.hby hd) hfs)
end Own
section OwnNum
theorem own_lt {i n : Nat} (h : i < n) (hn : n < 2147483648) : Int32.ofNat i < Int32.ofNat n := by
  rw [Int32.lt_iff_toInt_lt, Int32.toInt_ofNat_of_lt (by omega), Int32.toInt_ofNat_of_lt (by omega)]
  omega
theorem own_nlt {i n : Nat} (h : n ≤ i) (hn : i < 2147483648) : ¬ Int32.ofNat i < Int32.ofNat n := by
  rw [Int32.lt_iff_toInt_lt, Int32.toInt_ofNat_of_lt (by omega), Int32.toInt_ofNat_of_lt (by omega)]
  omega
theorem own_nn {i : Nat} (h : i < 2147483648) : ¬ Int32.ofNat i < 0 := by
  rw [Int32.lt_iff_toInt_lt, Int32.toInt_ofNat_of_lt (by omega)]
  show ¬ (i : Int) < 0
  omega
theorem own_clamp {i : Nat} (h : i < 2147483648) : (Int32.ofNat i).toNatClampNeg = i := by
  rw [Int32.toNatClampNeg, Int32.toInt_ofNat_of_lt (by omega)]; rfl
theorem own_one (i : Nat) : Int32.ofNat i + (1 : Int32) = Int32.ofNat (i + 1) := (Int32.ofNat_add i 1).symm
theorem own_ofNat_inj {i n : Nat} (hi : i < 2147483648) (hn : n < 2147483648) (h : Int32.ofNat i = Int32.ofNat n) : i = n := by
  have := congrArg Int32.toInt h
  rw [Int32.toInt_ofNat_of_lt (by omega), Int32.toInt_ofNat_of_lt (by omega)] at this; omega
theorem own_i2c255 (x : Int32) : ¬ (x &&& (255 : Int32)).toUInt32.toUInt16.toUInt32.toInt32 < 0 ∧ (x &&& (255 : Int32)).toUInt32.toUInt16.toUInt32.toInt32 < 256 := by
  have h1 := c_mask x 255 8 (by decide) (by decide)
  have h2 := c_i2c (x &&& 255)
  rw [Int32.lt_iff_toInt_lt, Int32.lt_iff_toInt_lt]
  rw [show (0 : Int32).toInt = 0 from rfl, show (256 : Int32).toInt = 256 from rfl]
  omega
theorem own_nar_char {x : Int32} (h : ¬ x < 0 ∧ x < 65536) : nar .char x = x := by
  have h2 := c_i2c x
  rw [Int32.lt_iff_toInt_lt, Int32.lt_iff_toInt_lt, show (0 : Int32).toInt = 0 from rfl, show (65536 : Int32).toInt = 65536 from rfl] at h
  apply Int32.toInt_inj.mp
  show (x.toUInt32.toUInt16.toUInt32.toInt32).toInt = _
  omega
theorem own_lt_trans {x a b : Int32} (h : x < a) (h2 : a ≤ b) : x < b := by
  rw [Int32.lt_iff_toInt_lt] at *; rw [Int32.le_iff_toInt_le] at h2; omega
theorem own_nar_char8 {x : Int32} (h : ¬ x < 0 ∧ x < 256) : nar .char x = x := own_nar_char ⟨h.1, own_lt_trans h.2 (by decide)⟩
theorem own_n255 {x : Int32} (h : ¬ x < 0 ∧ x < 256) : ¬ (255 : Int32) < x := by
  obtain ⟨h1, h2⟩ := h
  rw [Int32.lt_iff_toInt_lt] at *; rw [show (256 : Int32).toInt = 256 from rfl] at h2; rw [show (255 : Int32).toInt = 255 from rfl]; omega
theorem own_nar_byte (x : Int32) : nar .byte x.toInt8.toInt32 = x.toInt8.toInt32 := by
  show (x.toInt8.toInt32).toInt8.toInt32 = _
  simp
theorem own_shr0 (x : Int32) : x >>> ((0 : Int32) &&& 31) = x := by
  have := c_ishr x 0 0 (by decide)
  apply Int32.toInt_inj.mp
  rw [this]; simp
end OwnNum
section OwnStr
/-- the bytes that a Latin-1 String keeps of its chars -/
def own_by (cs : List Int32) : List Value := cs.map fun c => Value.int c.toInt8.toInt32
theorem own_by_len (cs : List Int32) : (own_by cs).length = cs.length := by simp [own_by]
/-- a String of these chars, none above 255 -/
def own_Str (Z : State) (h : Heap) (a : Addr) (cs : List Int32) : Prop := Exa Z h a "java/lang/String" ∧ Fld Z h a "java/lang/String" "coder" "B" (.int 0) ∧ ∃ (b : Addr) (kb : ClassId), Fld Z h a "java/lang/String" "value" "[B" (.ref b) ∧ Arv Z h b kb .byte (Int32.ofNat cs.length) (own_by cs) (.int 0)
variable {Z : State} {h h' : Heap} {a : Addr} {cs : List Int32}
theorem own_Str.ext (S : own_Str Z h a cs) (E : Ext h h') : own_Str Z h' a cs := by
  obtain ⟨h1, h2, b, kb, h3, h4⟩ := S
  exact ⟨h1.ext E, h2.ext E, b, kb, h3.ext E, h4.ext E⟩
theorem own_Str.exa (S : own_Str Z h a cs) : Exa Z h a "java/lang/String" := S.1
theorem own_fill {cs : List Int32} {i : Nat} (hi : i < cs.length) : ((own_by (cs.take i)) ++ List.replicate (cs.length - i) (Value.int 0)).set i (.int (cs[i]).toInt8.toInt32) = (own_by (cs.take (i + 1))) ++ List.replicate (cs.length - (i + 1)) (Value.int 0) := by
  have hl : (own_by (cs.take i)).length = i := by rw [own_by_len, List.length_take]; omega
  rw [List.set_append_right _ _ (by omega), hl, Nat.sub_self, show cs.length - i = (cs.length - (i + 1)) + 1 by omega, List.replicate_succ, List.set_cons_zero]
  have e : own_by (cs.take (i + 1)) = own_by (cs.take i) ++ [.int (cs[i]).toInt8.toInt32] := by
    unfold own_by; rw [List.map_take, List.map_take, List.take_add_one, List.getElem?_map, List.getElem?_eq_getElem hi]; rfl
  rw [e, List.append_assoc, List.singleton_append]
end OwnStr
section OwnNum3
theorem own_ch_lt {x : Int32} (h : ¬ x < 0 ∧ x < 65536) : 0 ≤ x.toInt ∧ x.toInt < 65536 := by
  rw [Int32.lt_iff_toInt_lt, Int32.lt_iff_toInt_lt, show (0 : Int32).toInt = 0 from rfl, show (65536 : Int32).toInt = 65536 from rfl] at h; omega
theorem own_lo_lt {x : Int32} (h : ¬ x < 0 ∧ x < 256) : 0 ≤ x.toInt ∧ x.toInt < 256 := by
  rw [Int32.lt_iff_toInt_lt, Int32.lt_iff_toInt_lt, show (0 : Int32).toInt = 0 from rfl, show (256 : Int32).toInt = 256 from rfl] at h; omega
theorem own_lo_ch {x : Int32} (h : ¬ x < 0 ∧ x < 256) : ¬ x < 0 ∧ x < 65536 := ⟨h.1, own_lt_trans h.2 (by decide)⟩
theorem own_g255 {x : Int32} (h : ¬ x < 256) : (255 : Int32) < x := by
  rw [Int32.lt_iff_toInt_lt] at *; rw [show (256 : Int32).toInt = 256 from rfl] at h; rw [show (255 : Int32).toInt = 255 from rfl]; omega
/-- a Latin-1 byte, read -/
theorem own_rd1 {x : Int32} (h : ¬ x < 0 ∧ x < 256) : x.toInt8.toInt32 &&& 255 = x := by
  have h1 := c_mask x.toInt8.toInt32 255 8 (by decide) (by decide)
  have h2 := c_i2b x
  have h3 := own_lo_lt h
  apply Int32.toInt_inj.mp
  omega
theorem own_i2c_id {x : Int32} (h : ¬ x < 0 ∧ x < 65536) : x.toUInt32.toUInt16.toUInt32.toInt32 = x := by
  have h2 := c_i2c x
  have h3 := own_ch_lt h
  apply Int32.toInt_inj.mp
  omega
/-- the two bytes of a char -/
def own_b0 (x : Int32) : Int32 := (x >>> ((0 : Int32) &&& 31)).toInt8.toInt32
def own_b1 (x : Int32) : Int32 := (x >>> ((8 : Int32) &&& 31)).toInt8.toInt32
theorem own_rd2 {x : Int32} (h : ¬ x < 0 ∧ x < 65536) : nar .char (((own_b0 x &&& 255) <<< ((0 : Int32) &&& 31)) ||| ((own_b1 x &&& 255) <<< ((8 : Int32) &&& 31))).toUInt32.toUInt16.toUInt32.toInt32 = x := by
  have h3 := own_ch_lt h
  have a1 := c_ishr x 0 0 (by decide)
  have a2 := c_ishr x 8 8 (by decide)
  have b1 := c_i2b (x >>> ((0 : Int32) &&& 31))
  have b2 := c_i2b (x >>> ((8 : Int32) &&& 31))
  have m1 := c_mask (own_b0 x) 255 8 (by decide) (by decide)
  have m2 := c_mask (own_b1 x) 255 8 (by decide) (by decide)
  have s1 := c_ishl (own_b0 x &&& 255) 0 0 (by decide)
  have s2 := c_ishl (own_b1 x &&& 255) 8 8 (by decide)
  have r1 : ∀ y : Int32, -2147483648 ≤ y.toInt ∧ y.toInt < 2147483648 := fun y => ⟨Int32.le_toInt y, Int32.toInt_lt y⟩
  have r2 := r1 ((own_b0 x &&& 255) <<< ((0 : Int32) &&& 31))
  have r3 := r1 ((own_b1 x &&& 255) <<< ((8 : Int32) &&& 31))
  have e0 : own_b0 x = (x >>> ((0 : Int32) &&& 31)).toInt8.toInt32 := rfl
  have e1 : own_b1 x = (x >>> ((8 : Int32) &&& 31)).toInt8.toInt32 := rfl
  rw [← e0] at b1; rw [← e1] at b2
  have o := c_or' ((own_b0 x &&& 255) <<< ((0 : Int32) &&& 31)) ((own_b1 x &&& 255) <<< ((8 : Int32) &&& 31)) 8 (by decide) 256 rfl (by omega) (by omega) (by omega)
  generalize ((own_b0 x &&& 255) <<< ((0 : Int32) &&& 31)) ||| ((own_b1 x &&& 255) <<< ((8 : Int32) &&& 31)) = y at o
  have q := c_i2c y
  have r4 := r1 y
  have q2 := c_i2c y.toUInt32.toUInt16.toUInt32.toInt32
  apply Int32.toInt_inj.mp
  show (y.toUInt32.toUInt16.toUInt32.toInt32.toUInt32.toUInt16.toUInt32.toInt32).toInt = _
  omega
theorem own_nar_b0 (x : Int32) : nar .byte (own_b0 x) = own_b0 x := own_nar_byte _
theorem own_nar_b1 (x : Int32) : nar .byte (own_b1 x) = own_b1 x := own_nar_byte _
theorem own_shl1 {i : Nat} (h : i < 1073741824) : Int32.ofNat i <<< ((1 : Int32) &&& 31) = Int32.ofNat (2 * i) := by
  have := c_ishl (Int32.ofNat i) 1 1 (by decide)
  have r1 : ∀ y : Int32, -2147483648 ≤ y.toInt ∧ y.toInt < 2147483648 := fun y => ⟨Int32.le_toInt y, Int32.toInt_lt y⟩
  have r := r1 (Int32.ofNat i <<< ((1 : Int32) &&& 31))
  rw [Int32.toInt_ofNat_of_lt (by omega)] at this
  apply Int32.toInt_inj.mp
  rw [Int32.toInt_ofNat_of_lt (by omega)]
  omega
theorem own_shl0 (x : Int32) : x <<< ((0 : Int32) &&& 31) = x := by
  have := c_ishl x 0 0 (by decide)
  have r1 : ∀ y : Int32, -2147483648 ≤ y.toInt ∧ y.toInt < 2147483648 := fun y => ⟨Int32.le_toInt y, Int32.toInt_lt y⟩
  have r := r1 (x <<< ((0 : Int32) &&& 31))
  have r2 := r1 x
  apply Int32.toInt_inj.mp
  omega
theorem own_shr1 {i : Nat} (h : i < 1073741824) : Int32.ofNat (2 * i) >>> ((1 : Int32) &&& 31) = Int32.ofNat i := by
  have := c_ishr (Int32.ofNat (2 * i)) 1 1 (by decide)
  rw [Int32.toInt_ofNat_of_lt (by omega)] at this
  apply Int32.toInt_inj.mp
  rw [Int32.toInt_ofNat_of_lt (by omega)]
  omega
theorem own_addN (i j : Nat) : Int32.ofNat i + Int32.ofNat j = Int32.ofNat (i + j) := (Int32.ofNat_add i j).symm
theorem own_subN {i j : Nat} (h : j ≤ i) : Int32.ofNat i - Int32.ofNat j = Int32.ofNat (i - j) := by
  obtain ⟨k, rfl⟩ := Nat.exists_eq_add_of_le h
  rw [← own_addN, Nat.add_sub_cancel_left, Int32.add_comm, Int32.add_sub_cancel]
theorem own_orNN {i j : Nat} (hi : i < 2147483648) (hj : j < 2147483648) : ¬ (Int32.ofNat i ||| Int32.ofNat j) < 0 := by
  have := (c_orS (Int32.ofNat i) (Int32.ofNat j)).1
  rw [Int32.toInt_ofNat_of_lt (by omega), Int32.toInt_ofNat_of_lt (by omega)] at this
  rw [Int32.lt_iff_toInt_lt, show (0 : Int32).toInt = 0 from rfl]
  omega
theorem own_orNN3 {i j k : Nat} (hi : i < 2147483648) (hj : j < 2147483648) (hk : k < 2147483648) : ¬ (Int32.ofNat i ||| Int32.ofNat j ||| Int32.ofNat k) < 0 := by
  have h1 := own_orNN hi hj
  have := (c_orS (Int32.ofNat i ||| Int32.ofNat j) (Int32.ofNat k)).1
  rw [Int32.lt_iff_toInt_lt, show (0 : Int32).toInt = 0 from rfl] at h1
  rw [Int32.toInt_ofNat_of_lt (by omega)] at this
  rw [Int32.lt_iff_toInt_lt, show (0 : Int32).toInt = 0 from rfl]
  omega
theorem own_ne0 {i : Nat} (h : 0 < i) (hn : i < 2147483648) : ¬ Int32.ofNat i = 0 := fun q => by have := own_ofNat_inj hn (by decide : 0 < 2147483648) q; omega
end OwnNum3
section OwnStr3
/-- the bytes of a UTF-16 String's chars -/
def own_by2 : List Int32 → List Value
  | [] => []
  | c :: cs => .int (own_b0 c) :: .int (own_b1 c) :: own_by2 cs
theorem own_by2_len : ∀ cs : List Int32, (own_by2 cs).length = 2 * cs.length
  | [] => rfl
  | c :: cs => by simp only [own_by2, List.length_cons, own_by2_len cs]; omega
theorem own_by2_app : ∀ cs ds : List Int32, own_by2 (cs ++ ds) = own_by2 cs ++ own_by2 ds
  | [], ds => rfl
  | c :: cs, ds => by simp only [own_by2, List.cons_append, own_by2_app cs ds]
theorem own_by_app (cs ds : List Int32) : own_by (cs ++ ds) = own_by cs ++ own_by ds := by simp [own_by]
theorem own_by2_get : ∀ (cs : List Int32) (i : Nat) (h : i < cs.length), (own_by2 cs).getD (2 * i) (.int 0) = .int (own_b0 cs[i]) ∧ (own_by2 cs).getD (2 * i + 1) (.int 0) = .int (own_b1 cs[i])
  | c :: cs, 0, _ => ⟨rfl, rfl⟩
  | c :: cs, i + 1, h => by
    have := own_by2_get cs i (by simpa using h)
    rw [show 2 * (i + 1) = (2 * i) + 1 + 1 by omega]
    exact this
theorem own_by_get (cs : List Int32) (i : Nat) (h : i < cs.length) : (own_by cs).getD i (.int 0) = .int (cs[i]).toInt8.toInt32 := by
  simp [own_by, h]
/-- coder, bytes and how many, by whether the String is UTF-16 -/
def own_cd (u : Bool) : Int32 := cond u 1 0
def own_bs (u : Bool) (cs : List Int32) : List Value := cond u (own_by2 cs) (own_by cs)
def own_bn (u : Bool) (n : Nat) : Nat := cond u (2 * n) n
theorem own_bs_len (u : Bool) (cs : List Int32) : (own_bs u cs).length = own_bn u cs.length := by cases u; exact own_by_len cs; exact own_by2_len cs
theorem own_bs_app (u : Bool) (cs ds : List Int32) : own_bs u (cs ++ ds) = own_bs u cs ++ own_bs u ds := by cases u; exact own_by_app cs ds; exact own_by2_app cs ds
theorem own_bn_le (u : Bool) {n m : Nat} (h : n ≤ m) : own_bn u n ≤ own_bn u m := by cases u <;> simp only [own_bn, cond] <;> omega
theorem own_bn_2 (u : Bool) (n : Nat) : own_bn u n ≤ 2 * n := by cases u <;> simp only [own_bn, cond] <;> omega
/-- each is a char; no char of a Latin-1 one is above 255 -/
def own_ok (u : Bool) (cs : List Int32) : Prop := ∀ c ∈ cs, ¬ c < 0 ∧ c < cond u 65536 256
/-- a String of these chars -/
def own_StrG (Z : State) (h : Heap) (a : Addr) (u : Bool) (cs : List Int32) : Prop := Exa Z h a "java/lang/String" ∧ Fld Z h a "java/lang/String" "coder" "B" (.int (own_cd u)) ∧ ∃ (b : Addr) (kb : ClassId), Fld Z h a "java/lang/String" "value" "[B" (.ref b) ∧ Arv Z h b kb .byte (Int32.ofNat (own_bn u cs.length)) (own_bs u cs) (.int 0)
variable {Z : State} {h h' : Heap} {a : Addr} {cs : List Int32} {u : Bool}
theorem own_StrG.ext (S : own_StrG Z h a u cs) (E : Ext h h') : own_StrG Z h' a u cs := by
  obtain ⟨h1, h2, b, kb, h3, h4⟩ := S
  exact ⟨h1.ext E, h2.ext E, b, kb, h3.ext E, h4.ext E⟩
theorem own_StrG.exa (S : own_StrG Z h a u cs) : Exa Z h a "java/lang/String" := S.1
theorem own_set_end (vs : List Value) (x d : Value) : (vs ++ List.replicate 1 d).set vs.length x = vs ++ [x] := by
  rw [List.set_append_right _ _ (Nat.le_refl _), Nat.sub_self]; rfl
theorem own_set_end2 (vs : List Value) (x y d : Value) : ((vs ++ List.replicate 2 d).set vs.length x).set (vs.length + 1) y = vs ++ [x, y] := by
  rw [List.set_append_right _ _ (Nat.le_refl _), Nat.sub_self, List.set_append_right _ _ (by omega), Nat.add_sub_cancel_left]; rfl
end OwnStr3
section OwnStep3
theorem own_nfS {args : Array Value} {s : State} {C : String} {y1 y2 y : MethodName} (hsel : (Cond.selects C y1 y2).before args s = true) (hc : y2.cls = y.cls) : NotFace s y := fun r0 h0 => by
  obtain ⟨c, r, m, -, -, q3, -, mk, q4, q5⟩ := Cond.selects_spec hsel
  have e1 := findClass_of_methodNamed q3
  have e2 := findClass_of_methodNamed h0
  rw [hc, e2] at e1
  rw [← Option.some.inj e1] at q4
  exact ⟨mk, q4, q5⟩
theorem own_sameSelf {args : Array Value} {s : State} {y : MethodName} (hi : (Cond.instanceMethod y).before args s = true) (hn : NotFace s y) (hx : y.cls ≠ "java/lang/invoke/MethodHandle" ∧ y.cls ≠ "java/lang/invoke/VarHandle") : (Cond.sameMethod y.cls y.cls y.name y.desc).before args s = true := by
  obtain ⟨mk, methM, hnamed, hmethM, -, -⟩ := Cond.instanceMethod_spec hi
  obtain ⟨kr, q1, q2⟩ := hn mk hnamed
  have hf := State.methodFound?_of_named hnamed hx
  have hc := findClass_of_methodNamed hnamed
  have hnamed' : s.methodNamed? ⟨y.cls, y.name, y.desc⟩ = some mk := hnamed
  simp [Cond.before, Cond.holds, Cond.value, hf, hc, hnamed', q1, q2]
theorem own_selfSel {args : Array Value} {s : State} {y : MethodName} (hi : (Cond.instanceMethod y).before args s = true) (hp : (Cond.privateMethod y).before args s = true) (hn : NotFace s y) (hx : y.cls ≠ "java/lang/invoke/MethodHandle" ∧ y.cls ≠ "java/lang/invoke/VarHandle") : (Cond.selects y.cls y y).before args s = true := by
  obtain ⟨mk, methM, hnamed, hmethM, -, -⟩ := Cond.instanceMethod_spec hi
  obtain ⟨kr, q1, q2⟩ := hn mk hnamed
  have hf := State.methodFound?_of_named hnamed hx
  have hc := findClass_of_methodNamed hnamed
  have hs : selectMethod {} s.vm mk.cls mk = .method mk := selectMethod_private hmethM (Cond.privateMethod_at hp mk methM hnamed hmethM)
  simp [Cond.before, Cond.holds, Cond.value, hf, hc, hnamed, q1, q2, hs]
variable {p : Program} {l : Launch} {e : Env} {R : Room} {s : State} {m : MethodId} {args : Array Value} {below : List Frame} {meth : Method} {c : Code} {bytes : ByteArray} {own nm : String} {mx : Nat} {ret : Option FieldType} {Q : Option Value → Heap → Prop} {G : State → Prop} {Z T T' : State} {L L' : List Loc} {k n k' n' : Nat} {h h' h1 h2 : Heap} {a0 : Array Value} {pc pc' : Nat} {Ls Ls' : Array Slot} {st rest : List Value}
theorem own_lookup (K : own_K p l e R s m args below meth c bytes own nm mx ret Q G Z T L k n h) {df off : Int} {ps : Array (Int × Int)} {ln : Nat} {i : Int32} (hd : decode bytes pc = .ok (.lookupswitch df ps, ln)) (hso : (ps.toList.zip ps.toList.tail).all (fun q => decide (q.1.1 < q.2.1)) = true) (ho : lookupswitch.offset ps.toList df i.toInt = off) (h0 : 0 ≤ (pc : Int) + off) (hp : ((pc : Int) + off).toNat = pc') (kk : G (T.setTop (mkF m pc' Ls rest))) : G (T.setTop (mkF m pc Ls (.int i :: rest))) := by
  subst hp ho
  refine K.cl _ _ (fun t q => ?_) kk
  have hh := K.here
  have hd' : decode c.code pc = .ok (.lookupswitch df ps, ln) := by rw [K.hby]; exact hd
  have hz : 0 ≤ ((mkF m pc Ls (.int i :: rest)).pc : Int) + lookupswitch.offset ps.toList df i.toInt := h0
  jvm_step hh [hh.top, K.hx, hd', lookupswitch.wp_chain, hz, mkF]
  exact ⟨fun a b a1 b1 hm => of_decide_eq_true (List.all_eq_true.mp hso _ hm), q⟩
theorem own_arraycopy (K : own_K p l e R s m args below meth c bytes own nm mx ret Q G Z T L k n h) {index W : Nat} (w1 : (Cond.methodLink own index Jvm.Stand.acN).before a0 Z = true) (w2 : (Cond.native Jvm.Stand.acN).before a0 Z = true) (w3 : (Cond.static Jvm.Stand.acN).before a0 Z = true) (w4 : (Cond.initialized "java/lang/System").before a0 Z = true)
    {a b : Addr} {ka kb : ClassId} {z z' : Int32} {vs vd us : List Value} {dv dd : Value} {sp dp nn : Nat} (A : Arv Z h a ka .byte z vs dv) (B : Arv Z h b kb .byte z' vd dd) (hsp : sp < 2147483648) (hdp : dp < 2147483648) (hnn : nn < 2147483648) (h4 : sp + nn ≤ z.toNatClampNeg) (h5 : dp + nn ≤ z'.toNatClampNeg) (hus : (List.range nn).map (fun i => vs.getD (sp + i) dv) = us) (hl : dp + nn ≤ vd.length) (gb : Z.heap.size ≤ b) (hsz : Ls.size = mx) (hW : (rest.map fun v => v.category).sum = W) (hf : 1 ≤ R.frames) (hlo : W + (nativeFrameWords "java/lang/System" "arraycopy" 5 + 11) ≤ R.locals) (hd : decode bytes pc = .ok (.invokestatic index, 3)) (hp : pc + 3 = pc')
    (kk : ∀ T' h' L', own_K p l e R s m args below meth c bytes own nm mx ret Q G Z T' L' k n h' → Keep h h' [b] → Arv Z h' b kb .byte z' (vd.take dp ++ us ++ vd.drop (dp + nn)) dd → G (T'.setTop (mkF m pc' Ls rest))) : G (T.setTop (mkF m pc Ls (.int (Int32.ofNat nn) :: .int (Int32.ofNat dp) :: .ref b :: .int (Int32.ofNat sp) :: .ref a :: rest))) := by
  subst hp hus
  obtain ⟨T', h', L', X', e', N', Kp, V, st'⟩ := cpA K.X K.hx K.hZ K.hown w1 w2 w3 w4 K.eh A B (sp := Int32.ofNat sp) (dp := Int32.ofNat dp) (nn := Int32.ofNat nn) (us := (List.range nn).map fun i => vs.getD (sp + i) dv) (Or.inl ⟨rfl, rfl⟩) (own_nn hsp) (own_nn hdp) (own_nn hnn) (by rw [own_clamp hsp, own_clamp hnn]; exact h4) (by rw [own_clamp hdp, own_clamp hnn]; exact h5) (by rw [own_clamp hsp, own_clamp hnn]) (by rw [own_clamp hdp, own_clamp hnn]; exact hl) K.fr gb (g := mkF m pc Ls (.int (Int32.ofNat nn) :: .int (Int32.ofNat dp) :: .ref b :: .int (Int32.ofNat sp) :: .ref a :: rest)) rfl (by rw [K.hml]; exact hsz) (rest := rest) rfl (hb K.hby hd) hf (W := W) (by show 2 * 0 + _ ≤ _; rw [hW]; omega) hlo
  rw [own_clamp hdp, own_clamp hnn] at V
  exact K.cl _ _ st' (kk T' h' L' (K.nx X' e' N' (own_ext_keep K.O Kp (fun x hx => by cases List.mem_singleton.mp hx; exact gb))) Kp V)
end OwnStep3
section OwnAc
theorem own_ext_of_keep' {h h1 : Heap} (E : Ext h h1) (ws : List Addr) : Keep h h1 ws := (Keep.refl h ws).ext E
theorem own_acw : nativeFrameWords "java/lang/System" "arraycopy" 5 + 11 ≤ 40 := by decide +kernel
end OwnAc
section OwnSta
theorem own_staR {a0 : Array Value} {Z : State} {C F D : String} (q : (Jvm.Cond.isRef (.static C F D)).before a0 Z = true) (w1 : (Cond.initializedFor C F D).before a0 Z = true) : ∃ u, Sta Z Z.heap C F D u ∧ u.isRef = true := by
  obtain ⟨u, e, r⟩ := isR_v (Cond.before_iff.mp q)
  exact ⟨u, Sta.start e (Or.inl w1), r⟩
theorem own_staI {a0 : Array Value} {Z : State} {C F D : String} {v : Int32} (q : (Jvm.Cond.eq (.static C F D) (.int v)).before a0 Z = true) (w1 : (Cond.initializedFor C F D).before a0 Z = true) : Sta Z Z.heap C F D (.int v) := by
  exact Sta.start (eqv_i (Term.int_eval v) (Cond.before_iff.mp q)) (Or.inl w1)
end OwnSta
section OwnClone
variable {p : Program} {l : Launch} {e : Env} {R : Room} {s : State} {m : MethodId} {args : Array Value} {below : List Frame} {meth : Method} {c : Code} {bytes : ByteArray} {own nm : String} {mx : Nat} {ret : Option FieldType} {Q : Option Value → Heap → Prop} {G : State → Prop} {Z T T' : State} {L L' : List Loc} {k n k' n' : Nat} {h h' h1 h2 : Heap} {a0 : Array Value} {pc pc' : Nat} {Ls Ls' : Array Slot} {st rest : List Value}
theorem own_newPB (K : own_K p l e R s m args below meth c bytes own nm mx ret Q G Z T L k n h) {z : Int32} {cap : Nat} (w : (Cond.arrayClass .byte).before a0 Z = true) (hd : decode bytes pc = .ok (.newarray .byte, 2)) (hz : ¬ z < 0) (hcap : z.toNatClampNeg ≤ cap) (hcb : cap * 8 ≤ 536870912) (hc : k + 1 ≤ R.cells) (hl : n + cap ≤ R.slots) (hp : pc + 2 = pc')
    (kk : ∀ T' h' (a : Addr) (cA : ClassId), own_K p l e R s m args below meth c bytes own nm mx ret Q G Z T' L (k + 1) (n + cap) h' → a = h.size → Ext h h' → Arv Z h' a cA .byte z [] (.int 0) → Exa Z h' a "[B" → G (T'.setTop (mkF m pc' Ls (.ref a :: rest)))) : G (T.setTop (mkF m pc Ls (.int z :: rest))) := by
  subst hp
  obtain ⟨T', h', cA, X', e', E', A', B', st'⟩ := newPE K.X K.hx K.hZ (aty := .byte) w K.eh (g := mkF m pc Ls (.int z :: rest)) rfl (hb K.hby hd) rfl hz hcap hcb hc hl (ad := "[B") (by decide)
  exact K.cl _ _ st' (kk T' h' h.size cA (K.nx X' e' K.fr (own_ext_trans K.O E')) rfl E' (Arv.new A' hz) B')
theorem own_clone (K : own_K p l e R s m args below meth c bytes own nm mx ret Q G Z T L k n h) {ad : String} {index W cap : Nat} {a : Addr} {kA : ClassId} {ty : FieldType} {z : Int32} {vs : List Value} {dv : Value}
    (w1 : (Cond.methodLink own index ⟨ad, "clone", "()Ljava/lang/Object;"⟩).before a0 Z = true) (w2 : (Cond.sameMethod ad "java/lang/Object" "clone" "()Ljava/lang/Object;").before a0 Z = true) (w3 : (Cond.native ⟨"java/lang/Object", "clone", "()Ljava/lang/Object;"⟩).before a0 Z = true)
    (w4 : (Cond.instanceMethod ⟨"java/lang/Object", "clone", "()Ljava/lang/Object;"⟩).before a0 Z = true) (w5 : (Cond.selects ad ⟨ad, "clone", "()Ljava/lang/Object;"⟩ ⟨"java/lang/Object", "clone", "()Ljava/lang/Object;"⟩).before a0 Z = true) (w6 : (Cond.castable ad "java/lang/Cloneable").before a0 Z = true)
    (V : Arv Z h a kA ty z vs dv) (E : Exa Z h a ad) (hsz : Ls.size = mx) (hW : (rest.map fun v => v.category).sum = W) (hf : 1 ≤ R.frames) (hlo : W + 14 ≤ R.locals) (hcap : z.toNatClampNeg ≤ cap) (hc : k + 1 ≤ R.cells) (hl : n + cap ≤ R.slots) (hd : decode bytes pc = .ok (.invokevirtual index, 3)) (hp : pc + 3 = pc')
    (kk : ∀ T' h' (b : Addr), own_K p l e R s m args below meth c bytes own nm mx ret Q G Z T' L (k + 1) (n + cap) h' → b = h.size → Ext h h' → Arv Z h' b kA ty z vs dv → Exa Z h' b ad → G (T'.setTop (mkF m pc' Ls (.ref b :: rest)))) : G (T.setTop (mkF m pc Ls (.ref a :: rest))) := by
  subst hp
  obtain ⟨cl, A, q1, S, q3, H, Gf⟩ := V
  have FC : FitC Z cl := fitC_of A fun i hi v hv => by rw [H i hi] at hv; cases hv; exact Gf i hi
  obtain ⟨T', h', X', e', E', A', B', st'⟩ := cloneA K.X K.hx K.hZ K.hown w1 w2 w3 w4 w5 w6 K.eh A E FC (g := mkF m pc Ls (.ref a :: rest)) rfl (by rw [K.hml]; exact hsz) rfl (hb K.hby hd) hf (W := W) (by show 2 * 0 + _ ≤ _; rw [hW]; omega) hlo (by rw [S]; exact hcap) hc hl
  exact K.cl _ _ st' (kk T' h' h.size (K.nx X' e' K.fr (own_ext_trans K.O E')) rfl E' ⟨cloneOf cl, A', q1, S, q3, H, Gf⟩ B')
end OwnClone

section OwnW
open Jvm.Free.SB Jvm.Free.SBG
/-- a wide contract: kc: the constants' invariant is handed on at the end; kn: known frames are asked -/
def own_CtW (l : Launch) (Z : State) (EL : List (String × Nat)) (kc kn : Bool) (y : MethodName) (bytes : ByteArray) (mx : Nat) (ret : Option FieldType) (ws : List Jvm.Cond) (rm : Room) (as' : Array Value) (h0 : Heap) (Q : Option Value → Heap → Prop) : Prop :=
  MetFree l y (head1 (Jvm.Cond.code y bytes mx ret :: ws) rm) (fun a U => a = as' ∧ Z.Warmed39 U.vm ∧ U.heap = h0 ∧ CHv Z EL U.vm h0) (fun _ _ bl s _ => kn = true → s.vm.MethodsKnown ∧ s.vm.FramesKnown bl) (fun _ U o U' => ∃ v L, o = .returned v ∧ (Fr Z.heap.size L ∧ Ext Z.heap U'.heap ∧ Q v U'.heap) ∧ (kc = true → CHr Z EL U.vm U.heap U'.vm U'.heap) ∧ ReturnedEndW U o U' L rm.cells rm.slots)
/-- what the body's end asks where the tables stand at vm -/
def own_QW (Z : State) (EL : List (String × Nat)) (kc : Bool) (vm0 : Vm) (h0 : Heap) (vm : Vm) (k1 : Nat) (Q : Option Value → Heap → Prop) : Option Value → Heap → Prop := fun v h => (Q v h ∧ k1 ≤ h.size) ∧ (kc = true → CHr Z EL vm0 h0 vm h)
def own_FW (p : Program) (l : Launch) (e : Env) (R : Room) (s : State) (m : MethodId) (args : Array Value) (below : List Frame) (meth : Method) (c : Code) (Q : Option Value → Heap → Prop) (G : State → Prop) (Z : State) (EL : List (String × Nat)) (kc : Bool) (vm0 : Vm) (h0 : Heap) : Prop :=
  ∀ (vm : Vm) (k1 : Nat), s.Since vm k1 → Z.Warmed39 vm → own_Fin p l e R (s.setVm vm) m args below meth c (own_QW Z EL kc vm0 h0 vm k1 Q) G Z
/-- where a walk that may intern stands -/
def own_KW (p : Program) (l : Launch) (e : Env) (R : Room) (s : State) (m : MethodId) (args : Array Value) (below : List Frame) (meth : Method) (c : Code) (bytes : ByteArray) (own nm : String) (mx : Nat) (ret : Option FieldType) (Q : Option Value → Heap → Prop) (G : State → Prop) (Z : State) (EL : List (String × Nat)) (kc : Bool) (vm0 : Vm) (h0 : Heap) (vm : Vm) (k1 : Nat) (T : State) (L : List Loc) (k n : Nat) (h : Heap) : Prop :=
  own_K p l e R (s.setVm vm) m args below meth c bytes own nm mx ret (own_QW Z EL kc vm0 h0 vm k1 Q) G Z T L k n h ∧ own_FW p l e R s m args below meth c Q G Z EL kc vm0 h0 ∧ s.Since vm k1 ∧ k1 ≤ h.size ∧ CHr Z EL vm0 h0 vm h
variable {p : Program} {l : Launch} {e : Env} {R : Room} {s : State} {m : MethodId} {args : Array Value} {below : List Frame} {meth : Method} {c : Code} {bytes : ByteArray} {own nm : String} {mx : Nat} {ret : Option FieldType} {Q : Option Value → Heap → Prop} {G : State → Prop} {Z T T' : State} {L L' : List Loc} {k n k' n' : Nat} {h h' h0 h1 h2 : Heap} {a0 : Array Value} {pc pc' : Nat} {Ls Ls' : Array Slot} {st rest : List Value} {EL : List (String × Nat)} {kc : Bool} {vm0 vm vm' : Vm} {k1 : Nat}
theorem own_KW.K (W : own_KW p l e R s m args below meth c bytes own nm mx ret Q G Z EL kc vm0 h0 vm k1 T L k n h) : own_K p l e R (s.setVm vm) m args below meth c bytes own nm mx ret (own_QW Z EL kc vm0 h0 vm k1 Q) G Z T L k n h := W.1
theorem own_KW.F (W : own_KW p l e R s m args below meth c bytes own nm mx ret Q G Z EL kc vm0 h0 vm k1 T L k n h) : own_FW p l e R s m args below meth c Q G Z EL kc vm0 h0 := W.2.1
theorem own_KW.S (W : own_KW p l e R s m args below meth c bytes own nm mx ret Q G Z EL kc vm0 h0 vm k1 T L k n h) : s.Since vm k1 := W.2.2.1
theorem own_KW.le (W : own_KW p l e R s m args below meth c bytes own nm mx ret Q G Z EL kc vm0 h0 vm k1 T L k n h) : k1 ≤ h.size := W.2.2.2.1
theorem own_KW.C (W : own_KW p l e R s m args below meth c bytes own nm mx ret Q G Z EL kc vm0 h0 vm k1 T L k n h) : CHr Z EL vm0 h0 vm h := W.2.2.2.2
theorem own_KW.hZ (W : own_KW p l e R s m args below meth c bytes own nm mx ret Q G Z EL kc vm0 h0 vm k1 T L k n h) : Z.Warmed39 vm := W.1.hZ
/-- narrow steps behind: the heap has gone on as the constants' invariant allows -/
theorem own_KW.nx (W : own_KW p l e R s m args below meth c bytes own nm mx ret Q G Z EL kc vm0 h0 vm k1 T L k n h) (K' : own_K p l e R (s.setVm vm) m args below meth c bytes own nm mx ret (own_QW Z EL kc vm0 h0 vm k1 Q) G Z T' L' k' n' h') (C' : CHr Z EL vm h vm h') : own_KW p l e R s m args below meth c bytes own nm mx ret Q G Z EL kc vm0 h0 vm k1 T' L' k' n' h' :=
  ⟨K', W.F, W.S, Nat.le_trans W.le C'.2.1, W.C.trans C'⟩
theorem own_KW.same (W : own_KW p l e R s m args below meth c bytes own nm mx ret Q G Z EL kc vm0 h0 vm k1 T L k n h) (K' : own_K p l e R (s.setVm vm) m args below meth c bytes own nm mx ret (own_QW Z EL kc vm0 h0 vm k1 Q) G Z T' L' k' n' h) : own_KW p l e R s m args below meth c bytes own nm mx ret Q G Z EL kc vm0 h0 vm k1 T' L' k' n' h := W.nx K' (CHr.refl W.C.1)
theorem own_KW.ext (W : own_KW p l e R s m args below meth c bytes own nm mx ret Q G Z EL kc vm0 h0 vm k1 T L k n h) (K' : own_K p l e R (s.setVm vm) m args below meth c bytes own nm mx ret (own_QW Z EL kc vm0 h0 vm k1 Q) G Z T' L' k' n' h') (E : Ext h h') : own_KW p l e R s m args below meth c bytes own nm mx ret Q G Z EL kc vm0 h0 vm k1 T' L' k' n' h' := W.nx K' (CHr.ext E W.C.1)
theorem own_KW.wr (W : own_KW p l e R s m args below meth c bytes own nm mx ret Q G Z EL kc vm0 h0 vm k1 T L k n h) (K' : own_K p l e R (s.setVm vm) m args below meth c bytes own nm mx ret (own_QW Z EL kc vm0 h0 vm k1 Q) G Z T' L' k' n' h') {a : Addr} {sl : Nat} {v : Value} (X : Wr h h' a sl v) (S : Safe Z EL vm h a) : own_KW p l e R s m args below meth c bytes own nm mx ret Q G Z EL kc vm0 h0 vm k1 T' L' k' n' h' := W.nx K' (CHr.wr X S W.C.1)
theorem own_KW.keep (W : own_KW p l e R s m args below meth c bytes own nm mx ret Q G Z EL kc vm0 h0 vm k1 T L k n h) (K' : own_K p l e R (s.setVm vm) m args below meth c bytes own nm mx ret (own_QW Z EL kc vm0 h0 vm k1 Q) G Z T' L' k' n' h') {ws : List Addr} (X : Keep h h' ws) (S : ∀ x ∈ ws, Safe Z EL vm h x) : own_KW p l e R s m args below meth c bytes own nm mx ret Q G Z EL kc vm0 h0 vm k1 T' L' k' n' h' := W.nx K' (CHr.keep X S W.C.1)
theorem own_bodyW {y : MethodName} {ws : List Jvm.Cond} {rm : Room} {as' : Array Value} {kn : Bool} (hEL : EW Z a0 EL) (hpl : plainFor y = true) (hef : ∀ m, entryFrame m as' mx = mkF m 0 Ls []) (O0 : Ext Z.heap h0)
    (H : ∀ (p : Program) (e : Env) (s : State) (m : MethodId) (below : List Frame) (meth : Method) (c : Code) (T : State) (G : State → Prop), (kn = true → s.vm.MethodsKnown ∧ s.vm.FramesKnown below) → s.heap = h0 → own_KW p l e rm s m as' below meth c bytes y.cls y.name mx ret Q G Z EL kc s.vm h0 s.vm 0 T [] 0 0 h0 → G (T.setTop (mkF m 0 Ls []))) :
    own_CtW l Z EL kc kn y bytes mx ret ws rm as' h0 Q := by
  refine MetFree.of_bodySF hpl hisR ?_
  intro p e s m args below meth c s₁ Bd hml0 hP hK
  obtain ⟨rfl, hZ, hh, hC⟩ := hP
  have X0 : Stand p l e rm s m args below meth c s₁ [] 0 0 := Stand.of_body Bd
  have e0 : s₁.heap = h0 := by rw [← hh, Bd.state]; rfl
  have hlocks := BodyLoose.notSynchronized Bd
  have hS0 : s.Since s.vm 0 := (State.WarmedH.refl s).since 0
  have q := H p e s m below meth c s₁ (fun S => ∃ (vm : Vm) (k1 : Nat) (T : State) (L : List Loc) (k n : Nat) (v : Option Value), s.Since vm k1 ∧ Z.Warmed39 vm ∧ Stand p l e rm (s.setVm vm) m args below meth c T L k n ∧ Fr Z.heap.size L ∧ Ext Z.heap T.heap ∧ k ≤ rm.cells ∧ n ≤ rm.slots ∧ (meth.sig.returnType = none → v = none) ∧ own_QW Z EL kc s.vm h0 vm k1 Q v T.heap ∧ own_Out p e m below T v S) hK hh
    ⟨⟨X0, Bd.exec, Bd.bytes, hml0, findClass_of_methodNamed Bd.named, (name_of_methodNamed Bd.named Bd.method).1, Bd.returns, hZ, e0, Fr.nil _, O0, fun S S' hs ⟨vmx, k1, T, L, k, n, v, g1, g2, g3, g4, g5, g6, g7, g8, g9, g10⟩ => ⟨vmx, k1, T, L, k, n, v, g1, g2, g3, g4, g5, g6, g7, g8, g9, fun fs hfs => hs _ (g10 fs hfs)⟩, fun T L k n v S g1 g2 g3 g4 g5 g6 g7 g8 => ⟨s.vm, 0, T, L, k, n, v, hS0, hZ, g1, g2, g3, g4, g5, g6, g7, g8⟩⟩,
      fun vmx k1 hS hZ' T L k n v S g1 g2 g3 g4 g5 g6 g7 g8 => ⟨vmx, k1, T, L, k, n, v, hS, hZ', g1, g2, g3, g4, g5, g6, g7, g8⟩, hS0, Nat.zero_le _, CHr.refl hC⟩
  obtain ⟨vmx, k1, T, L, k, n, v, hS, hZ', X, N, O, hk, hn, hv, ⟨⟨hQ, hle⟩, hCH⟩, hout⟩ := q
  obtain ⟨fs, hr, hrun, hended, hend⟩ := X.leaveW hS hle (v := v) hv
  refine ⟨_, _, castTop (hef m) (hout fs hr), hrun, hended, _, _, rfl, ⟨N, O, hQ⟩, fun q => ?_, hend.1, hend.2.1, hend.2.2.1, hend.2.2.2.mono hk hn⟩
  have hC1 := hCH q
  have := CHv.at (h := T.heap) X hZ' hEL hC1.1
  rw [hh]
  exact hC1.trans this
/-- ldc of any String constant, unread -/
theorem own_ldcO (W : own_KW p l e R s m args below meth c bytes own nm mx ret Q G Z EL kc vm0 h0 vm k1 T L k n h) (hEL : EW Z a0 EL) {text : String} {index nn : Nat} (w : (Cond.stringLink own index text).before a0 Z = true) (wS : ∀ a ∈ Bundle.stringAtoms, a.before a0 Z = true) (hn : 4 * text.toList.length ≤ nn) (hbig : nn ≤ 536870912) (hc : k + 2 ≤ R.cells) (hl : n + (nn + 4) ≤ R.slots) (hd : decode bytes pc = .ok (.ldc index, 2)) (hp : pc + 2 = pc')
    (kk : ∀ T' h' k1' (a : Addr), own_KW p l e R s m args below meth c bytes own nm mx ret Q G Z EL kc vm0 h0 T'.vm k1' T' L (k + 2) (n + (nn + 4)) h' → Ext h h' → CHr Z EL vm h T'.vm h' → G (T'.setTop (mkF m pc' Ls (.ref a :: st)))) : G (T.setTop (mkF m pc Ls st)) := by
  subst hp
  obtain ⟨a, T', h', k1', X', e', E', S', le', hZ', hown', C', -, st'⟩ := ldcOH W.K.X W.K.hx W.hZ W.K.hown w wS W.K.eh W.S W.le hEL W.C.1 (g := mkF m pc Ls st) rfl (hb W.K.hby hd) hn hbig hc hl
  exact W.K.cl _ _ st' (kk T' h' k1' a ⟨⟨X', W.K.hx, W.K.hby, W.K.hml, hown', W.K.hnm, W.K.hret, hZ', e', W.K.fr, own_ext_trans W.K.O E', W.K.cl, W.F _ _ S' hZ'⟩, W.F, S', le', W.C.trans C'⟩ E' C')
/-- ldc of a constant of EL, its text read -/
theorem own_ldcC (W : own_KW p l e R s m args below meth c bytes own nm mx ret Q G Z EL kc vm0 h0 vm k1 T L k n h) (hEL : EW Z a0 EL) {text : String} {index nn : Nat} (hmem : (own, index) ∈ EL) (w : (Cond.stringLink own index text).before a0 Z = true) (wS : ∀ a ∈ Bundle.stringAtoms, a.before a0 Z = true) {vs : List Value} {z : Int32} (ht : (∀ c ∈ text.toList, c.toNat < 256) ∧ text.toList.map (fun c => Value.int (Jvm.Lit.byteI c.toNat.toUInt16)) = vs) (hz : ¬ z < 0) (hlv : z.toNatClampNeg = vs.length) (hn : 4 * text.toList.length ≤ nn) (hbig : nn ≤ 536870912) (hc : k + 2 ≤ R.cells) (hl : n + (nn + 4) ≤ R.slots) (hd : decode bytes pc = .ok (.ldc index, 2)) (hp : pc + 2 = pc')
    (kk : ∀ T' h' k1' (a b : Addr) (kb : ClassId), own_KW p l e R s m args below meth c bytes own nm mx ret Q G Z EL kc vm0 h0 T'.vm k1' T' L (k + 2) (n + (nn + 4)) h' → Ext h h' → CHr Z EL vm h T'.vm h' → Exa Z h' a "java/lang/String" → Fld Z h' a "java/lang/String" "coder" "B" (.int 0) → Fld Z h' a "java/lang/String" "value" "[B" (.ref b) → Arv Z h' b kb .byte z vs (.int 0) → (∀ x, Safe Z EL T'.vm h' x → x ≠ a ∧ x ≠ b) → G (T'.setTop (mkF m pc' Ls (.ref a :: st)))) : G (T.setTop (mkF m pc Ls st)) := by
  subst hp
  obtain ⟨a, T', h', k1', b, kb, X', e', E', S', le', hZ', hown', A1, A2, A3, A4, -, -, C', -, sf, st'⟩ := ldcCH W.K.X W.K.hx W.hZ W.K.hown w wS W.K.eh W.S W.le hEL hmem W.C.1 ht hz hlv (g := mkF m pc Ls st) rfl (hb W.K.hby hd) hn hbig hc hl
  exact W.K.cl _ _ st' (kk T' h' k1' a b kb ⟨⟨X', W.K.hx, W.K.hby, W.K.hml, hown', W.K.hnm, W.K.hret, hZ', e', W.K.fr, own_ext_trans W.K.O E', W.K.cl, W.F _ _ S' hZ'⟩, W.F, S', le', W.C.trans C'⟩ E' C' A1 A2 A3 A4 sf)
theorem own_backW {y : MethodName} {bytes' : ByteArray} {mx' : Nat} {ret' : Option FieldType} {rm : Room} {len Wd : Nat} {as' : Array Value} {Qc : Option Value → Heap → Prop} {kn : Bool} (C : own_CtW l Z EL true kn y bytes' mx' ret' [] rm as' h Qc) (hZ : Z.Warmed39 vm) (wc : (Cond.code y bytes' mx' ret').before a0 Z = true) (wz : (Cond.initialized y.cls).before a0 Z = true) (hf : rm.frames + 1 ≤ R.frames) (hl : Wd + (mx' + 11) + rm.locals ≤ R.locals) (hEL : EW Z a0 EL) (H : CHv Z EL vm h) (hkn : kn = true → vm.MethodsKnown ∧ vm.FramesKnown below) :
    BackS l R p e below (s.setVm vm) args y len Wd (fun A a => a = as' ∧ A.U.heap = h ∧ A.cells + rm.cells ≤ R.cells ∧ A.slots + rm.slots ≤ R.slots)
      (fun A _ v B => ∃ L, (Fr Z.heap.size L ∧ Ext Z.heap B.U.heap ∧ Qc v B.U.heap) ∧ B.locs = A.locs ++ L ∧ B.cells = A.cells + rm.cells ∧ B.slots = A.slots + rm.slots ∧ CHr Z EL vm h B.U.vm B.U.heap) := by
  cases kn with
  | false =>
    refine backOfSH (Q := fun v h L => Fr Z.heap.size L ∧ Ext Z.heap h ∧ Qc v h) (fun p e q1 q2 q3 s m args below q4 q5 q6 _ => ?_) hZ wc wz hf hl hEL H
    obtain ⟨n, o, z1, z2, z3, v, L, z4, z5, z6, z7⟩ := C p e q1 q2 q3 s m args below q4 q5 q6 (fun q => nomatch q)
    exact ⟨n, o, z1, z2, z3, v, L, z4, z5, z6 rfl, z7⟩
  | true =>
    refine backOfSKH (Q := fun v h L => Fr Z.heap.size L ∧ Ext Z.heap h ∧ Qc v h) (fun p e q1 q2 q3 s m args below q4 q5 q6 q7 => ?_) hZ wc wz hf hl hEL H (hkn rfl).1 (hkn rfl).2
    obtain ⟨n, o, z1, z2, z3, v, L, z4, z5, z6, z7⟩ := C p e q1 q2 q3 s m args below q4 q5 q6 (fun _ => q7)
    exact ⟨n, o, z1, z2, z3, v, L, z4, z5, z6 rfl, z7⟩

theorem own_callSW (W : own_KW p l e R s m args below meth c bytes own nm mx ret Q G Z EL kc vm0 h0 vm k1 T L k n h) (hEL : EW Z a0 EL) {index Wd mx' : Nat} {kn : Bool} {y : MethodName} {bytes' : ByteArray} {ret' : Option FieldType} {rm : Room} {ps : List FieldType} {rr : Option FieldType} {Qc : Option Value → Heap → Prop} {argsL : List Value} (hkn : kn = true → vm.MethodsKnown ∧ vm.FramesKnown below) (wl : (Cond.methodLink own index y).before a0 Z = true) (ws : (Cond.static y).before a0 Z = true) (C : own_CtW l Z EL true kn y bytes' mx' ret' [] rm argsL.toArray h Qc) (hcd : (Cond.code y bytes' mx' ret').before a0 Z = true) (hin : (Cond.initialized y.cls).before a0 Z = true) (hy : y.cls ≠ "java/lang/invoke/MethodHandle" ∧ y.cls ≠ "java/lang/invoke/VarHandle") (hstk : st = (argsL.reverse ++ rest)) (hpd : parseMethodDescriptor y.desc = some ⟨ps, rr⟩) (hal : argsL.length = ps.length) (hsz : Ls.size = mx) (hW : (rest.map fun v => v.category).sum = Wd) (hrf : rm.frames + 1 ≤ R.frames) (hrl : Wd + (mx' + 11) + rm.locals ≤ R.locals) (hrc : k + rm.cells ≤ R.cells) (hrs : n + rm.slots ≤ R.slots) (hd : decode bytes pc = .ok (.invokestatic index, 3)) (hp : pc + 3 = pc')
    (kk : ∀ T' h' L' v k1', own_KW p l e R s m args below meth c bytes own nm mx ret Q G Z EL kc vm0 h0 T'.vm k1' T' (L ++ L') (k + rm.cells) (n + rm.slots) h' → CHr Z EL vm h T'.vm h' → Qc v h' → G (T'.setTop (mkF m pc' Ls (v.toList ++ rest)))) : G (T.setTop (mkF m pc Ls st)) := by
  subst hp hstk
  obtain ⟨v, _, ⟨T', L1, k2, n2⟩, -, X', S', gr, ⟨L', hQ, l1, l2, l3, C'⟩, st'⟩ := callSS W.K.X W.K.hx (y := y) W.K.hown (mvT W.K.hZ wl) (mvT W.K.hZ ws) (mvT W.K.hZ hin) (mvT W.K.hZ hcd) hy (own_backW (Wd := Wd) C W.hZ hcd hin hrf hrl hEL W.C.1 hkn) (g := mkF m pc Ls (argsL.reverse ++ rest)) rfl (by rw [W.K.hml]; exact hsz) (argsL := argsL) (rest := rest) (fun sig q => by rw [hpd] at q; cases q; exact hal) rfl (by show 2 * 0 + _ ≤ _; rw [hW]; omega) (hb W.K.hby hd) (fun _ _ => ⟨rfl, W.K.eh, hrc, hrs⟩)
  dsimp only [Pt.U, Pt.locs, Pt.cells, Pt.slots] at X' S' gr l1 l2 l3 st' hQ C'
  subst l1 l2 l3
  obtain ⟨hN, hO, hq⟩ := hQ
  have hZ' : Z.Warmed39 T'.vm := State.Warmed39.trans (t := s.setVm vm) W.hZ S'.1
  have S2 : s.Since T'.vm T'.heap.size := W.S.trans S' (Nat.le_trans W.le (by rw [← W.K.eh]; exact gr))
  have hown' : (s.setVm T'.vm).vm.findClass own = some m.cls := (S'.1.alike.findClass _ _).trans W.K.hown
  exact W.K.cl _ _ (fun t q => st'.trans q) (kk T' T'.heap L' v T'.heap.size ⟨⟨X', W.K.hx, W.K.hby, W.K.hml, hown', W.K.hnm, W.K.hret, hZ', rfl, Fr.app W.K.fr hN, hO, W.K.cl, W.F _ _ S2 hZ'⟩, W.F, S2, Nat.le_refl _, W.C.trans C'⟩ C' hq)
theorem own_callIW (W : own_KW p l e R s m args below meth c bytes own nm mx ret Q G Z EL kc vm0 h0 vm k1 T L k n h) (hEL : EW Z a0 EL) {index Wd mx' : Nat} {kn : Bool} {y : MethodName} {bytes' : ByteArray} {rm : Room} {ps : List FieldType} {rr : Option FieldType} {Qc : Option Value → Heap → Prop} {argsL : List Value} (hkn : kn = true → vm.MethodsKnown ∧ vm.FramesKnown below) {a : Addr} (wl : (Cond.methodLink own index y).before a0 Z = true) (wi : (Cond.instanceMethod y).before a0 Z = true) (C : own_CtW l Z EL true kn y bytes' mx' none [] rm (.ref a :: argsL).toArray h Qc) (hcd : (Cond.code y bytes' mx' none).before a0 Z = true) (hin : (Cond.initialized y.cls).before a0 Z = true) (hy : y.cls ≠ "java/lang/invoke/MethodHandle" ∧ y.cls ≠ "java/lang/invoke/VarHandle") (hy1 : y.name = "<init>") (hstk : st = (argsL.reverse ++ .ref a :: rest)) (hpd : parseMethodDescriptor y.desc = some ⟨ps, rr⟩) (hal : argsL.length = ps.length) (hsz : Ls.size = mx) (hW : (rest.map fun v => v.category).sum = Wd) (hrf : rm.frames + 1 ≤ R.frames) (hrl : Wd + (mx' + 11) + rm.locals ≤ R.locals) (hrc : k + rm.cells ≤ R.cells) (hrs : n + rm.slots ≤ R.slots) (hd : decode bytes pc = .ok (.invokespecial index, 3)) (hp : pc + 3 = pc')
    (kk : ∀ T' h' L' v k1', own_KW p l e R s m args below meth c bytes own nm mx ret Q G Z EL kc vm0 h0 T'.vm k1' T' (L ++ L') (k + rm.cells) (n + rm.slots) h' → CHr Z EL vm h T'.vm h' → Qc v h' → G (T'.setTop (mkF m pc' Ls (v.toList ++ rest)))) : G (T.setTop (mkF m pc Ls st)) := by
  subst hp hstk
  obtain ⟨v, _, ⟨T', L1, k2, n2⟩, -, X', S', gr, ⟨L', hQ, l1, l2, l3, C'⟩, st'⟩ := W.K.X.specialBackS W.K.hx (y := y) hy1 W.K.hown (mvT W.K.hZ wl) (mvT W.K.hZ wi) (mvT W.K.hZ hcd) hy (own_backW (Wd := Wd) C W.hZ hcd hin hrf hrl hEL W.C.1 hkn) (g := mkF m pc Ls (argsL.reverse ++ .ref a :: rest)) rfl (by rw [W.K.hml]; exact hsz) (Steps.refl _) (a := a) (argsL := argsL) (rest := rest) (fun sig q => by rw [hpd] at q; cases q; exact hal) rfl (by show 2 * 0 + _ ≤ _; rw [hW]; omega) (hb W.K.hby hd) (fun _ _ => ⟨rfl, W.K.eh, hrc, hrs⟩)
  dsimp only [Pt.U, Pt.locs, Pt.cells, Pt.slots] at X' S' gr l1 l2 l3 st' hQ C'
  subst l1 l2 l3
  obtain ⟨hN, hO, hq⟩ := hQ
  have hZ' : Z.Warmed39 T'.vm := State.Warmed39.trans (t := s.setVm vm) W.hZ S'.1
  have S2 : s.Since T'.vm T'.heap.size := W.S.trans S' (Nat.le_trans W.le (by rw [← W.K.eh]; exact gr))
  have hown' : (s.setVm T'.vm).vm.findClass own = some m.cls := (S'.1.alike.findClass _ _).trans W.K.hown
  exact W.K.cl _ _ (fun t q => st'.trans q) (kk T' T'.heap L' v T'.heap.size ⟨⟨X', W.K.hx, W.K.hby, W.K.hml, hown', W.K.hnm, W.K.hret, hZ', rfl, Fr.app W.K.fr hN, hO, W.K.cl, W.F _ _ S2 hZ'⟩, W.F, S2, Nat.le_refl _, W.C.trans C'⟩ C' hq)
theorem own_callVW (W : own_KW p l e R s m args below meth c bytes own nm mx ret Q G Z EL kc vm0 h0 vm k1 T L k n h) (hEL : EW Z a0 EL) {index Wd mx' : Nat} {kn : Bool} {y : MethodName} {bytes' : ByteArray} {ret' : Option FieldType} {rm : Room} {ps : List FieldType} {rr : Option FieldType} {Qc : Option Value → Heap → Prop} {argsL : List Value} (hkn : kn = true → vm.MethodsKnown ∧ vm.FramesKnown below) {a : Addr} {Cc : String} {x0 : MethodName} (wl : (Cond.methodLink own index x0).before a0 Z = true) (wd : (Cond.declares x0).before a0 Z = true) (hnf : ∀ {s : State}, Z.Warmed39 s.vm → NotFace s x0) (wsel : (Cond.selects Cc x0 y).before a0 Z = true) (wi : (Cond.instanceMethod y).before a0 Z = true) (C : own_CtW l Z EL true kn y bytes' mx' ret' [] rm (.ref a :: argsL).toArray h Qc) (hcd : (Cond.code y bytes' mx' ret').before a0 Z = true) (hin : (Cond.initialized y.cls).before a0 Z = true) (hy : x0.cls ≠ "java/lang/invoke/MethodHandle" ∧ x0.cls ≠ "java/lang/invoke/VarHandle") (E : Exa Z h a Cc) (hstk : st = (argsL.reverse ++ .ref a :: rest)) (hpd : parseMethodDescriptor x0.desc = some ⟨ps, rr⟩) (hal : argsL.length = ps.length) (hsz : Ls.size = mx) (hW : (rest.map fun v => v.category).sum = Wd) (hrf : rm.frames + 1 ≤ R.frames) (hrl : Wd + (mx' + 11) + rm.locals ≤ R.locals) (hrc : k + rm.cells ≤ R.cells) (hrs : n + rm.slots ≤ R.slots) (hd : decode bytes pc = .ok (.invokevirtual index, 3)) (hp : pc + 3 = pc')
    (kk : ∀ T' h' L' v k1', own_KW p l e R s m args below meth c bytes own nm mx ret Q G Z EL kc vm0 h0 T'.vm k1' T' (L ++ L') (k + rm.cells) (n + rm.slots) h' → CHr Z EL vm h T'.vm h' → Qc v h' → G (T'.setTop (mkF m pc' Ls (v.toList ++ rest)))) : G (T.setTop (mkF m pc Ls st)) := by
  subst hp hstk
  obtain ⟨v, _, ⟨T', L1, k2, n2⟩, -, X', S', gr, ⟨L', hQ, l1, l2, l3, C'⟩, st'⟩ := (isOf W.K.hZ W.K.eh E).elim fun cB q => q.elim fun kB q => W.K.X.virtualBackS W.K.hx (y := x0) (z := y) W.K.hown (mvT W.K.hZ wl) (mvT W.K.hZ wd) (hnf W.K.hZ) (mvT W.K.hZ wsel) (mvT W.K.hZ wi) hy (own_backW (Wd := Wd) C W.hZ hcd hin hrf hrl hEL W.C.1 hkn) q.1 q.2.2 (g := mkF m pc Ls (argsL.reverse ++ .ref a :: rest)) rfl (by rw [W.K.hml]; exact hsz) (Steps.refl _) (argsL := argsL) (rest := rest) (fun sig q => by rw [hpd] at q; cases q; exact hal) rfl (by show 2 * 0 + _ ≤ _; rw [hW]; omega) (hb W.K.hby hd) (fun _ _ => ⟨rfl, W.K.eh, hrc, hrs⟩)
  dsimp only [Pt.U, Pt.locs, Pt.cells, Pt.slots] at X' S' gr l1 l2 l3 st' hQ C'
  subst l1 l2 l3
  obtain ⟨hN, hO, hq⟩ := hQ
  have hZ' : Z.Warmed39 T'.vm := State.Warmed39.trans (t := s.setVm vm) W.hZ S'.1
  have S2 : s.Since T'.vm T'.heap.size := W.S.trans S' (Nat.le_trans W.le (by rw [← W.K.eh]; exact gr))
  have hown' : (s.setVm T'.vm).vm.findClass own = some m.cls := (S'.1.alike.findClass _ _).trans W.K.hown
  exact W.K.cl _ _ (fun t q => st'.trans q) (kk T' T'.heap L' v T'.heap.size ⟨⟨X', W.K.hx, W.K.hby, W.K.hml, hown', W.K.hnm, W.K.hret, hZ', rfl, Fr.app W.K.fr hN, hO, W.K.cl, W.F _ _ S2 hZ'⟩, W.F, S2, Nat.le_refl _, W.C.trans C'⟩ C' hq)
end OwnW
section OwnSafe
open Jvm.Free.SB Jvm.Free.SBG
/-- a String whose value is null is no booked one -/
theorem own_safe_null {Z : State} {EL : List (String × Nat)} {vm : Vm} {h : Heap} {x : Addr} (hal : Z.vm.Alike vm) (E : Exa Z h x "java/lang/String") (F : Fld Z h x "java/lang/String" "value" "[B" .null) : Safe Z EL vm h x := fun B => by
  obtain ⟨p, -, u, a, -, q, -, G, rfl | rfl⟩ := B
  · obtain ⟨cell, cf, k, i, f, e1, e2, -, -, -, -, e7⟩ := F
    cases (show h[q.sa]? = some q.sC from G.ha).symm.trans e1
    obtain ⟨cS, ⟨⟨-, -, -, ⟨c1, k1, i1, f1, -⟩, -, -, -, v1, -⟩, -⟩, -⟩ := G
    obtain ⟨k3, e3, -⟩ := State.fieldFound?_setVm (s := ({ Z with heap := h } : State)) hal e2
    have e4 := (show (Wst Z vm h).fieldFound? _ _ _ = _ from e3).symm.trans f1
    simp only [Option.some.injEq, Prod.mk.injEq] at e4
    rw [← e4.2.2.2, e7] at v1
    cases v1
  · obtain ⟨cell, k, e1, e2, e3, -, -⟩ := E
    cases (show h[q.sd]? = some q.SA from G.hd).symm.trans e1
    obtain ⟨cS, -, -, f, -⟩ := G
    have f' : vm.findClass "[B" = some q.SA.cls := f
    rw [hal.findClass] at f'
    obtain ⟨k1, q1, q2⟩ := Vm.findClass_spec f'
    obtain ⟨k2, q3, q4⟩ := Vm.findClass_spec e2
    cases q1.symm.trans q3
    exact absurd (q2.symm.trans q4) (by decide)
end OwnSafe
/-- is a char above 255 among them? -/
def own_ub (cs : List Int32) : Bool := cs.any fun c => !decide (c < 256)
def own_chs (cs : List Int32) : Prop := ∀ c ∈ cs, ¬ c < 0 ∧ c < 65536
theorem own_ub_ok {cs : List Int32} (h : own_chs cs) : own_ok (own_ub cs) cs := fun c hc => by
  refine ⟨(h c hc).1, ?_⟩
  cases hu : own_ub cs
  · have := List.any_eq_false.mp hu c hc
    simpa using this
  · exact (h c hc).2
theorem own_ub_bad {cs : List Int32} (h : own_ub cs = true) : ∃ q, ∃ hq : q < cs.length, ¬ cs[q] < 256 := by
  obtain ⟨c, hc, h1⟩ := List.any_eq_true.mp h
  obtain ⟨q, hq, rfl⟩ := List.getElem_of_mem hc
  exact ⟨q, hq, by simpa using h1⟩
theorem own_ub_app (cs ds : List Int32) : own_ub (cs ++ ds) = (own_ub cs || own_ub ds) := List.any_append
theorem own_ub_one (y : Int32) : own_ub [y] = !decide (y < 256) := by simp [own_ub]
theorem own_chs_nil : own_chs [] := fun _ q => nomatch q
theorem own_chs_cons {c : Int32} {cs : List Int32} (h : ¬ c < 0 ∧ c < 65536) (h' : own_chs cs) : own_chs (c :: cs) := fun d hd => (List.mem_cons.mp hd).elim (fun q => q ▸ h) (h' d)
theorem own_chs_app {cs ds : List Int32} (h : own_chs cs) (h' : own_chs ds) : own_chs (cs ++ ds) := fun d hd => (List.mem_append.mp hd).elim (h d) (h' d)
theorem own_add8 (i : Nat) : Int32.ofNat i + (8 : Int32) = Int32.ofNat (i + 8) := own_addN i 8
theorem own_add2 (i : Nat) : Int32.ofNat i + (2 : Int32) = Int32.ofNat (i + 2) := own_addN i 2
theorem own_addL (a b : List Int32) : Int32.ofNat a.length + Int32.ofNat b.length = Int32.ofNat (a ++ b).length := by rw [own_addN, List.length_append]
theorem own_i2c_rng (x : Int32) : ¬ x.toUInt32.toUInt16.toUInt32.toInt32 < 0 ∧ x.toUInt32.toUInt16.toUInt32.toInt32 < 65536 := by
  have h := c_i2c x
  rw [Int32.lt_iff_toInt_lt, Int32.lt_iff_toInt_lt, show (0 : Int32).toInt = 0 from rfl, show (65536 : Int32).toInt = 65536 from rfl]; omega
theorem own_nar_i2c (x : Int32) : nar .char x.toUInt32.toUInt16.toUInt32.toInt32 = x.toUInt32.toUInt16.toUInt32.toInt32 := own_nar_char (own_i2c_rng x)
def own_sp (c : Int32) : Prop := c = 34 ∨ c = 43 ∨ c = 44 ∨ c = 59 ∨ c = 60 ∨ c = 62 ∨ c = 92
def own_spb (c : Int32) : Bool := decide (c = 34) || decide (c = 43) || decide (c = 44) || decide (c = 59) || decide (c = 60) || decide (c = 62) || decide (c = 92)
theorem own_sp_b (c : Int32) : own_spb c = true ↔ own_sp c := by simp [own_spb, own_sp, or_assoc]
/-- what the escape makes of a char (first: is it the first? last: the last?) -/
def own_dn (c : Int32) (f l : Bool) : List Int32 := if own_spb c = true then [92, c] else if c = 0 then [92, 48, 48] else if c = 32 ∧ (f || l) = true then [92, c] else if c = 35 ∧ f = true then [92, c] else [c]
theorem own_dn_cases (c : Int32) (f l : Bool) : own_dn c f l = [c] ∨ own_dn c f l = [92, c] ∨ own_dn c f l = [92, 48, 48] := by
  unfold own_dn
  split
  · exact Or.inr (Or.inl rfl)
  · split
    · exact Or.inr (Or.inr rfl)
    · split
      · exact Or.inr (Or.inl rfl)
      · split
        · exact Or.inr (Or.inl rfl)
        · exact Or.inl rfl
theorem own_dn_len (c : Int32) (f l : Bool) : (own_dn c f l).length ≤ 3 := by rcases own_dn_cases c f l with q | q | q <;> rw [q] <;> simp
theorem own_dn_chs {c : Int32} (h : ¬ c < 0 ∧ c < 65536) (f l : Bool) : own_chs (own_dn c f l) := by
  rcases own_dn_cases c f l with q | q | q <;> rw [q]
  · exact own_chs_cons h own_chs_nil
  · exact own_chs_cons (by decide) (own_chs_cons h own_chs_nil)
  · exact own_chs_cons (by decide) (own_chs_cons (by decide) (own_chs_cons (by decide) own_chs_nil))
/-- the text made of the first i chars -/
def own_dnT (cs : List Int32) : Nat → List Int32
  | 0 => []
  | i + 1 => own_dnT cs i ++ own_dn (cs.getD i 0) (i == 0) (i + 1 == cs.length)
theorem own_dnT_len (cs : List Int32) : ∀ i, (own_dnT cs i).length ≤ 3 * i
  | 0 => Nat.le_refl _
  | i + 1 => by
    have h1 := own_dn_len (cs.getD i 0) (i == 0) (i + 1 == cs.length)
    have h2 := own_dnT_len cs i
    simp only [own_dnT, List.length_append]; omega
theorem own_dnT_chs {cs : List Int32} (h : own_chs cs) : ∀ i, i ≤ cs.length → own_chs (own_dnT cs i)
  | 0, _ => own_chs_nil
  | i + 1, hi => own_chs_app (own_dnT_chs h i (by omega)) (own_dn_chs (by
      have hlt : i < cs.length := by omega
      rw [List.getD_eq_getElem?_getD, List.getElem?_eq_getElem hlt]
      exact h _ (List.getElem_mem hlt)) _ _)
theorem own_dnT_succ {cs : List Int32} {i : Nat} (h : i < cs.length) : own_dnT cs (i + 1) = own_dnT cs i ++ own_dn cs[i] (i == 0) (i + 1 == cs.length) := by
  simp only [own_dnT]; rw [List.getD_eq_getElem?_getD, List.getElem?_eq_getElem h]; rfl
theorem own_lastN {i n : Nat} (h : i < n) (hn : n ≤ 4000) : ¬ (Int32.ofNat n - 1) < Int32.ofNat i := by
  rw [show (1 : Int32) = Int32.ofNat 1 from rfl, own_subN (by omega)]; exact own_nlt (by omega) (by omega)
theorem own_lastY {n : Nat} (hn : n ≤ 4000) : (Int32.ofNat n - 1) < Int32.ofNat n := by
  cases n with
  | zero => decide
  | succ k => rw [show (1 : Int32) = Int32.ofNat 1 from rfl, own_subN (by omega)]; exact own_lt (by omega) (by omega)
theorem own_lastE {i n : Nat} (h : i < n) (hn : n ≤ 4000) : Int32.ofNat i = Int32.ofNat n - 1 ↔ i + 1 = n := by
  rw [show (1 : Int32) = Int32.ofNat 1 from rfl, own_subN (by omega)]
  exact ⟨fun q => by have := own_ofNat_inj (by omega) (by omega) q; omega, fun q => by rw [show n - 1 = i by omega]⟩
theorem own_zero {i : Nat} (hn : i ≤ 4000) : Int32.ofNat i = 0 ↔ i = 0 := ⟨fun q => own_ofNat_inj (by omega) (by decide : 0 < 2147483648) q, fun q => by rw [q]; rfl⟩
theorem own_sw (c : Int32) (h0 : ¬ c = 0) (h32 : ¬ c = 32) (h35 : ¬ c = 35) (hs : ¬ own_sp c) : lookupswitch.offset [(0, 105), (32, 115), (34, 90), (35, 141), (43, 90), (44, 90), (59, 90), (60, 90), (62, 90), (92, 90)] 162 c.toInt = 162 := by
  have e : ∀ d : Int32, ¬ c = d → ¬ d.toInt = c.toInt := fun d q r => q (Int32.toInt_inj.mp r.symm)
  simp only [own_sp, not_or] at hs
  rw [lookupswitch.offset_cons, if_neg (show ¬ (0 : Int) = c.toInt from e 0 h0), lookupswitch.offset_cons, if_neg (show ¬ (32 : Int) = c.toInt from e 32 h32), lookupswitch.offset_cons, if_neg (show ¬ (34 : Int) = c.toInt from e 34 hs.1), lookupswitch.offset_cons, if_neg (show ¬ (35 : Int) = c.toInt from e 35 h35), lookupswitch.offset_cons, if_neg (show ¬ (43 : Int) = c.toInt from e 43 hs.2.1), lookupswitch.offset_cons, if_neg (show ¬ (44 : Int) = c.toInt from e 44 hs.2.2.1), lookupswitch.offset_cons, if_neg (show ¬ (59 : Int) = c.toInt from e 59 hs.2.2.2.1), lookupswitch.offset_cons, if_neg (show ¬ (60 : Int) = c.toInt from e 60 hs.2.2.2.2.1), lookupswitch.offset_cons, if_neg (show ¬ (62 : Int) = c.toInt from e 62 hs.2.2.2.2.2.1), lookupswitch.offset_cons, if_neg (show ¬ (92 : Int) = c.toInt from e 92 hs.2.2.2.2.2.2), lookupswitch.offset_nil]
theorem d_jdk_42_m152_0 : decode jdk_42_method_152_code 0 = .ok (.getstatic 38, 3) := by decide +kernel
theorem wd46 {a0 : Array Value} {Z : State} (hw : ∀ d ∈ tables_1, d.before a0 Z = true) : (Jvm.Cond.fieldLink "java/lang/String" (38 : Nat) "java/lang/String" "COMPACT_STRINGS" "Z").before a0 Z = true := hw _ (List.mem_of_getElem? (i := 46) rfl)
theorem d_jdk_42_m152_3 : decode jdk_42_method_152_code 3 = .ok (.ifCond .eq 10, 3) := by decide +kernel
theorem d_jdk_42_m152_6 : decode jdk_42_method_152_code 6 = .ok (.aload_n 0, 1) := by decide +kernel
theorem wd28 {a0 : Array Value} {Z : State} (hw : ∀ d ∈ tables_1, d.before a0 Z = true) : (Jvm.Cond.fieldLink "java/lang/String" (15 : Nat) "java/lang/String" "coder" "B").before a0 Z = true := hw _ (List.mem_of_getElem? (i := 28) rfl)
theorem d_jdk_42_m152_7 : decode jdk_42_method_152_code 7 = .ok (.getfield 15, 3) := by decide +kernel
theorem d_jdk_42_m152_10 : decode jdk_42_method_152_code 10 = .ok (.goto 4, 3) := by decide +kernel
theorem d_jdk_42_m152_14 : decode jdk_42_method_152_code 14 = .ok (.ireturn, 1) := by decide +kernel
theorem st0 {a0 : Array Value} {Z : State} (hs : ∀ d ∈ jdkStatics_1, d.before a0 Z = true) : (Jvm.Cond.initializedFor "java/lang/String" "COMPACT_STRINGS" "Z").before a0 Z = true := hs _ (List.mem_of_getElem? (i := 0) rfl)
theorem st1 {a0 : Array Value} {Z : State} (hs : ∀ d ∈ jdkStatics_1, d.before a0 Z = true) : (Jvm.Cond.isInt (Jvm.Term.static "java/lang/String" "COMPACT_STRINGS" "Z")).before a0 Z = true := hs _ (List.mem_of_getElem? (i := 1) rfl)
theorem st2 {a0 : Array Value} {Z : State} (hs : ∀ d ∈ jdkStatics_1, d.before a0 Z = true) : (Jvm.Cond.not (Jvm.Cond.eq (Jvm.Term.static "java/lang/String" "COMPACT_STRINGS" "Z") (Jvm.Term.int (0 : Int32)))).before a0 Z = true := hs _ (List.mem_of_getElem? (i := 2) rfl)
theorem own_compact {a0 : Array Value} {Z : State} (hs : ∀ d ∈ jdkStatics_1, d.before a0 Z = true) : ∃ zc : Int32, Sta Z Z.heap "java/lang/String" "COMPACT_STRINGS" "Z" (.int zc) ∧ ¬ zc = 0 := by
  obtain ⟨i, e⟩ := is_v (Cond.before_iff.mp (st1 hs))
  exact ⟨i, Sta.start e (Or.inl (st0 hs)), gotF (Cond.eq_ints e (Term.int_eval (0))) (not_v (Cond.before_iff.mp (st2 hs)))⟩
theorem pn_java_lang_String : plainName "java/lang/String" = true := by first | (simp [plainName, overriddenIn]; done) | decide +kernel
set_option maxRecDepth 65536 in
set_option maxHeartbeats 40000000 in
theorem rm_coder {l : Launch} {Z : State} {a0 : Array Value} (hw : ∀ d ∈ tables_1, d.before a0 Z = true) (hs : ∀ d ∈ jdkStatics_1, d.before a0 Z = true) {x : Addr} {u : Bool} {cs : List Int32} {h0 : Heap} (O0 : Ext Z.heap h0) (S : own_StrG Z h0 x u cs) (hlen : cs.length ≤ 4000) :
    own_Ct l Z (⟨"java/lang/String", "coder", "()B"⟩ : MethodName) jdk_42_method_152_code 1 (some .byte) [] ({ frames := 0, locals := 0, cells := 0, slots := 0 } : Room) #[(.ref x)] h0 (fun v h => v = some (.int (own_cd u)) ∧ h = h0) := by
  obtain ⟨zc, SC, hzc⟩ := own_compact hs
  obtain ⟨E, Fc, b, kb, Fv, V⟩ := S
  refine own_body (Ls := #[.val (.ref x)]) (plainFor_of_name pn_java_lang_String) (fun m => by first | (simp [entryFrame, mkF, argsToLocals, Value.category]; done) | rfl) O0 ?_
  intro p e s m below meth c T0 G K0
  refine own_getS K0 (wd46 hw) Via.refl (SC.ext K0.O) d_jdk_42_m152_0 rfl ?_
  intro T1 K1
  refine own_ifNo K1 d_jdk_42_m152_3 rfl ((if0 _ _).trans (feq hzc).1) ?_
  refine own_aloadN K1 d_jdk_42_m152_6 rfl rfl rfl ?_
  refine own_getF K1 (host := "") (Or.inl (wd28 hw)) Via.refl Fc d_jdk_42_m152_7 rfl ?_
  intro T2 K2
  refine own_goto K2 d_jdk_42_m152_10 (pc' := 14) (by decide) (by decide) ?_
  exact own_retN K2 (z' := own_cd u) d_jdk_42_m152_14 rfl (by simp) (by cases u <;> decide) (by decide) (by decide) ⟨rfl, rfl⟩
theorem own_lenS (u : Bool) {n : Nat} (h : n ≤ 4000) : Int32.ofNat (own_bn u n) >>> (own_cd u &&& 31) = Int32.ofNat n := by
  cases u
  · exact own_shr0 _
  · exact own_shr1 (by omega)
theorem d_jdk_42_m54_0 : decode jdk_42_method_54_code 0 = .ok (.aload_n 0, 1) := by decide +kernel
theorem wd27 {a0 : Array Value} {Z : State} (hw : ∀ d ∈ tables_1, d.before a0 Z = true) : (Jvm.Cond.fieldLink "java/lang/String" (9 : Nat) "java/lang/String" "value" "[B").before a0 Z = true := hw _ (List.mem_of_getElem? (i := 27) rfl)
theorem d_jdk_42_m54_1 : decode jdk_42_method_54_code 1 = .ok (.getfield 9, 3) := by decide +kernel
theorem d_jdk_42_m54_4 : decode jdk_42_method_54_code 4 = .ok (.arraylength, 1) := by decide +kernel
theorem d_jdk_42_m54_5 : decode jdk_42_method_54_code 5 = .ok (.aload_n 0, 1) := by decide +kernel
theorem d_jdk_42_m54_6 : decode jdk_42_method_54_code 6 = .ok (.invokevirtual 335, 3) := by decide +kernel
theorem wd45 {a0 : Array Value} {Z : State} (hw : ∀ d ∈ tables_1, d.before a0 Z = true) : (Jvm.Cond.code ({ cls := "java/lang/String", name := "coder", desc := "()B" } : Jvm.MethodName) jdk_42_method_152_code (1 : Nat) (Option.some Jvm.ClassFile.FieldType.byte)).before a0 Z = true := hw _ (List.mem_of_getElem? (i := 45) rfl)
theorem wd10 {a0 : Array Value} {Z : State} (hw : ∀ d ∈ tables_1, d.before a0 Z = true) : (Jvm.Cond.initialized "java/lang/String").before a0 Z = true := hw _ (List.mem_of_getElem? (i := 10) rfl)
theorem pd_2829B : parseMethodDescriptor "()B" = some ⟨[], some .byte⟩ := by decide +kernel
theorem wd39 {a0 : Array Value} {Z : State} (hw : ∀ d ∈ tables_1, d.before a0 Z = true) : (Jvm.Cond.selects "java/lang/String" ({ cls := "java/lang/String", name := "length", desc := "()I" } : Jvm.MethodName) ({ cls := "java/lang/String", name := "length", desc := "()I" } : Jvm.MethodName)).before a0 Z = true := hw _ (List.mem_of_getElem? (i := 39) rfl)
theorem wd41 {a0 : Array Value} {Z : State} (hw : ∀ d ∈ tables_1, d.before a0 Z = true) : (Jvm.Cond.methodLink "java/lang/String" (335 : Nat) ({ cls := "java/lang/String", name := "coder", desc := "()B" } : Jvm.MethodName)).before a0 Z = true := hw _ (List.mem_of_getElem? (i := 41) rfl)
theorem wd42 {a0 : Array Value} {Z : State} (hw : ∀ d ∈ tables_1, d.before a0 Z = true) : (Jvm.Cond.declares ({ cls := "java/lang/String", name := "coder", desc := "()B" } : Jvm.MethodName)).before a0 Z = true := hw _ (List.mem_of_getElem? (i := 42) rfl)
theorem wd44 {a0 : Array Value} {Z : State} (hw : ∀ d ∈ tables_1, d.before a0 Z = true) : (Jvm.Cond.selects "java/lang/String" ({ cls := "java/lang/String", name := "coder", desc := "()B" } : Jvm.MethodName) ({ cls := "java/lang/String", name := "coder", desc := "()B" } : Jvm.MethodName)).before a0 Z = true := hw _ (List.mem_of_getElem? (i := 44) rfl)
theorem wd43 {a0 : Array Value} {Z : State} (hw : ∀ d ∈ tables_1, d.before a0 Z = true) : (Jvm.Cond.instanceMethod ({ cls := "java/lang/String", name := "coder", desc := "()B" } : Jvm.MethodName)).before a0 Z = true := hw _ (List.mem_of_getElem? (i := 43) rfl)
theorem d_jdk_42_m54_9 : decode jdk_42_method_54_code 9 = .ok (.ishr, 1) := by decide +kernel
theorem d_jdk_42_m54_10 : decode jdk_42_method_54_code 10 = .ok (.ireturn, 1) := by decide +kernel
set_option maxRecDepth 65536 in
set_option maxHeartbeats 40000000 in
theorem rm_lengthS {l : Launch} {Z : State} {a0 : Array Value} (hw : ∀ d ∈ tables_1, d.before a0 Z = true) (hs : ∀ d ∈ jdkStatics_1, d.before a0 Z = true) {x : Addr} {u : Bool} {cs : List Int32} {h0 : Heap} (O0 : Ext Z.heap h0) (S : own_StrG Z h0 x u cs) (hlen : cs.length ≤ 4000) :
    own_Ct l Z (⟨"java/lang/String", "length", "()I"⟩ : MethodName) jdk_42_method_54_code 1 (some .int) [] ({ frames := 1, locals := 13, cells := 0, slots := 0 } : Room) #[(.ref x)] h0 (fun v h => v = some (.int (Int32.ofNat cs.length)) ∧ h = h0) := by
  have S' := S
  obtain ⟨E, Fc, b, kb, Fv, V⟩ := S'
  refine own_body (Ls := #[.val (.ref x)]) (plainFor_of_name pn_java_lang_String) (fun m => by first | (simp [entryFrame, mkF, argsToLocals, Value.category]; done) | rfl) O0 ?_
  intro p e s m below meth c T0 G K0
  refine own_aloadN K0 d_jdk_42_m54_0 rfl rfl rfl ?_
  refine own_getF K0 (host := "") (Or.inl (wd27 hw)) Via.refl Fv d_jdk_42_m54_1 rfl ?_
  intro T3 K3
  refine own_arraylength K3 V d_jdk_42_m54_4 rfl ?_
  refine own_aloadN K3 d_jdk_42_m54_5 rfl rfl rfl ?_
  refine own_callV K3 (a := x) (x0 := (⟨"java/lang/String", "coder", "()B"⟩ : MethodName)) (wd41 hw) (wd42 hw) (fun q => own_nfS (args := #[]) (mvT q (wd39 hw)) rfl) (wd44 hw) (wd43 hw) (rm_coder hw hs K3.O S hlen) (wd45 hw) (wd10 hw) (by decide) S.exa (argsL := []) (rest := [(.int (Int32.ofNat (own_bn u cs.length)))]) rfl pd_2829B rfl rfl (W := 1) rfl (by decide) (by decide) (by decide) (by decide) d_jdk_42_m54_6 rfl ?_
  intro T4 h4 L4 v4 K4 q4
  obtain ⟨rfl, e4⟩ := q4
  have f4 := e4.symm
  subst f4
  show G (T4.setTop (mkF m 9 #[.val (.ref x)] [(.int (own_cd u)), (.int (Int32.ofNat (own_bn u cs.length)))]))
  refine own_ishr K4 d_jdk_42_m54_9 rfl ?_
  exact own_retI K4 d_jdk_42_m54_10 rfl (by decide) (by decide) ⟨by rw [own_lenS u hlen], rfl⟩
theorem d_jdk_42_m154_0 : decode jdk_42_method_154_code 0 = .ok (.getstatic 38, 3) := by decide +kernel
theorem d_jdk_42_m154_3 : decode jdk_42_method_154_code 3 = .ok (.ifCond .eq 14, 3) := by decide +kernel
theorem d_jdk_42_m154_6 : decode jdk_42_method_154_code 6 = .ok (.aload_n 0, 1) := by decide +kernel
theorem d_jdk_42_m154_7 : decode jdk_42_method_154_code 7 = .ok (.getfield 15, 3) := by decide +kernel
theorem d_jdk_42_m154_10 : decode jdk_42_method_154_code 10 = .ok (.ifCond .ne 7, 3) := by decide +kernel
theorem d_jdk_42_m154_13 : decode jdk_42_method_154_code 13 = .ok (.iconst 1, 1) := by decide +kernel
theorem d_jdk_42_m154_14 : decode jdk_42_method_154_code 14 = .ok (.goto 4, 3) := by decide +kernel
theorem d_jdk_42_m154_18 : decode jdk_42_method_154_code 18 = .ok (.ireturn, 1) := by decide +kernel
theorem d_jdk_42_m154_17 : decode jdk_42_method_154_code 17 = .ok (.iconst 0, 1) := by decide +kernel
set_option maxRecDepth 65536 in
set_option maxHeartbeats 40000000 in
theorem rm_isLatin1 {l : Launch} {Z : State} {a0 : Array Value} (hw : ∀ d ∈ tables_1, d.before a0 Z = true) (hs : ∀ d ∈ jdkStatics_1, d.before a0 Z = true) {x : Addr} {u : Bool} {cs : List Int32} {h0 : Heap} (O0 : Ext Z.heap h0) (S : own_StrG Z h0 x u cs) (hlen : cs.length ≤ 4000) :
    own_Ct l Z (⟨"java/lang/String", "isLatin1", "()Z"⟩ : MethodName) jdk_42_method_154_code 1 (some .boolean) [] ({ frames := 0, locals := 0, cells := 0, slots := 0 } : Room) #[(.ref x)] h0 (fun v h => v = some (.int (cond u 0 1)) ∧ h = h0) := by
  obtain ⟨zc, SC, hzc⟩ := own_compact hs
  obtain ⟨E, Fc, b, kb, Fv, V⟩ := S
  refine own_body (Ls := #[.val (.ref x)]) (plainFor_of_name pn_java_lang_String) (fun m => by first | (simp [entryFrame, mkF, argsToLocals, Value.category]; done) | rfl) O0 ?_
  intro p e s m below meth c T0 G K0
  refine own_getS K0 (wd46 hw) Via.refl (SC.ext K0.O) d_jdk_42_m154_0 rfl ?_
  intro T5 K5
  refine own_ifNo K5 d_jdk_42_m154_3 rfl ((if0 _ _).trans (feq hzc).1) ?_
  refine own_aloadN K5 d_jdk_42_m154_6 rfl rfl rfl ?_
  refine own_getF K5 (host := "") (Or.inl (wd28 hw)) Via.refl Fc d_jdk_42_m154_7 rfl ?_
  intro T6 K6
  cases u with
  | false =>
    refine own_ifNo K6 d_jdk_42_m154_10 rfl ((if0 _ _).trans (teq rfl).2) ?_
    refine own_iconst K6 (v := (1 : Int32)) d_jdk_42_m154_13 rfl rfl ?_
    refine own_goto K6 d_jdk_42_m154_14 (pc' := 18) (by decide) (by decide) ?_
    exact own_retN K6 (z' := (1 : Int32)) d_jdk_42_m154_18 rfl (by simp) (by decide) (by decide) (by decide) ⟨rfl, rfl⟩
  | true =>
    refine own_ifYes K6 d_jdk_42_m154_10 (pc' := 17) (by decide) (by decide) ((if0 _ _).trans (feq (by decide)).2) ?_
    refine own_iconst K6 (v := (0 : Int32)) d_jdk_42_m154_17 rfl rfl ?_
    exact own_retN K6 (z' := (0 : Int32)) d_jdk_42_m154_18 rfl (by simp) (by decide) (by decide) (by decide) ⟨rfl, rfl⟩
theorem d_jdk_41_m11_0 : decode jdk_41_method_11_code 0 = .ok (.iload_n 0, 1) := by decide +kernel
theorem d_jdk_41_m11_1 : decode jdk_41_method_11_code 1 = .ok (.ifCond .lt 8, 3) := by decide +kernel
theorem d_jdk_41_m11_4 : decode jdk_41_method_11_code 4 = .ok (.iload_n 0, 1) := by decide +kernel
theorem d_jdk_41_m11_5 : decode jdk_41_method_11_code 5 = .ok (.iload_n 1, 1) := by decide +kernel
theorem d_jdk_41_m11_6 : decode jdk_41_method_11_code 6 = .ok (.if_icmp .lt 10, 3) := by decide +kernel
theorem d_jdk_41_m11_16 : decode jdk_41_method_11_code 16 = .ok (.iload_n 0, 1) := by decide +kernel
theorem d_jdk_41_m11_17 : decode jdk_41_method_11_code 17 = .ok (.ireturn, 1) := by decide +kernel
theorem pn_jdk_internal_util_Preconditions : plainName "jdk/internal/util/Preconditions" = true := by first | (simp [plainName, overriddenIn]; done) | decide +kernel
set_option maxRecDepth 65536 in
set_option maxHeartbeats 40000000 in
theorem rm_checkIndexP {l : Launch} {Z : State} {a0 : Array Value} (hw : ∀ d ∈ tables_1, d.before a0 Z = true) (hs : ∀ d ∈ jdkStatics_1, d.before a0 Z = true) {i : Nat} {nn : Nat} {fm : Value} {h0 : Heap} (O0 : Ext Z.heap h0) (hfm : fm.isRef = true) (hi : i < nn) (hn : nn ≤ 8000) :
    own_Ct l Z (⟨"jdk/internal/util/Preconditions", "checkIndex", "(IILjava/util/function/BiFunction;)I"⟩ : MethodName) jdk_41_method_11_code 3 (some .int) [] ({ frames := 0, locals := 0, cells := 0, slots := 0 } : Room) #[(.int (Int32.ofNat i)), (.int (Int32.ofNat nn)), fm] h0 (fun v h => v = some (.int (Int32.ofNat i)) ∧ h = h0) := by
  refine own_body (Ls := #[.val (.int (Int32.ofNat i)), .val (.int (Int32.ofNat nn)), .val fm]) (plainFor_of_name pn_jdk_internal_util_Preconditions) (fun m => by first | (simp [entryFrame, mkF, argsToLocals, Value.category]; done) | rfl | (revert hfm; cases fm <;> intro hfm <;> first | (simp [Value.isRef] at hfm; done) | (simp [entryFrame, mkF, argsToLocals, Value.category]; done))) O0 ?_
  intro p e s m below meth c T0 G K0
  refine own_iloadN K0 d_jdk_41_m11_0 rfl rfl ?_
  refine own_ifNo K0 d_jdk_41_m11_1 rfl ((if0 _ _).trans (flt (own_nn (by omega))).1) ?_
  refine own_iloadN K0 d_jdk_41_m11_4 rfl rfl ?_
  refine own_iloadN K0 d_jdk_41_m11_5 rfl rfl ?_
  refine own_icmpYes K0 d_jdk_41_m11_6 (pc' := 16) (by decide) (by decide) (tlt (own_lt hi (by omega))).1 ?_
  refine own_iloadN K0 d_jdk_41_m11_16 rfl rfl ?_
  exact own_retI K0 d_jdk_41_m11_17 rfl (by decide) (by decide) ⟨rfl, rfl⟩
theorem d_jdk_42_m155_0 : decode jdk_42_method_155_code 0 = .ok (.iload_n 0, 1) := by decide +kernel
theorem d_jdk_42_m155_1 : decode jdk_42_method_155_code 1 = .ok (.iload_n 1, 1) := by decide +kernel
theorem d_jdk_42_m155_2 : decode jdk_42_method_155_code 2 = .ok (.getstatic 1053, 3) := by decide +kernel
theorem wd141 {a0 : Array Value} {Z : State} (hw : ∀ d ∈ tables_1, d.before a0 Z = true) : (Jvm.Cond.fieldLink "java/lang/String" (1053 : Nat) "jdk/internal/util/Preconditions" "SIOOBE_FORMATTER" "Ljava/util/function/BiFunction;").before a0 Z = true := hw _ (List.mem_of_getElem? (i := 141) rfl)
theorem d_jdk_42_m155_5 : decode jdk_42_method_155_code 5 = .ok (.invokestatic 1059, 3) := by decide +kernel
theorem wd145 {a0 : Array Value} {Z : State} (hw : ∀ d ∈ tables_1, d.before a0 Z = true) : (Jvm.Cond.code ({ cls := "jdk/internal/util/Preconditions", name := "checkIndex", desc := "(IILjava/util/function/BiFunction;)I" } : Jvm.MethodName) jdk_41_method_11_code (3 : Nat) (Option.some Jvm.ClassFile.FieldType.int)).before a0 Z = true := hw _ (List.mem_of_getElem? (i := 145) rfl)
theorem wd142 {a0 : Array Value} {Z : State} (hw : ∀ d ∈ tables_1, d.before a0 Z = true) : (Jvm.Cond.initialized "jdk/internal/util/Preconditions").before a0 Z = true := hw _ (List.mem_of_getElem? (i := 142) rfl)
theorem pd_28IILjava2futil2ffunction2fBiFunction3b29I : parseMethodDescriptor "(IILjava/util/function/BiFunction;)I" = some ⟨[.int, .int, (.object "java/util/function/BiFunction")], some .int⟩ := by decide +kernel
theorem wd143 {a0 : Array Value} {Z : State} (hw : ∀ d ∈ tables_1, d.before a0 Z = true) : (Jvm.Cond.methodLink "java/lang/String" (1059 : Nat) ({ cls := "jdk/internal/util/Preconditions", name := "checkIndex", desc := "(IILjava/util/function/BiFunction;)I" } : Jvm.MethodName)).before a0 Z = true := hw _ (List.mem_of_getElem? (i := 143) rfl)
theorem wd144 {a0 : Array Value} {Z : State} (hw : ∀ d ∈ tables_1, d.before a0 Z = true) : (Jvm.Cond.static ({ cls := "jdk/internal/util/Preconditions", name := "checkIndex", desc := "(IILjava/util/function/BiFunction;)I" } : Jvm.MethodName)).before a0 Z = true := hw _ (List.mem_of_getElem? (i := 144) rfl)
theorem d_jdk_42_m155_8 : decode jdk_42_method_155_code 8 = .ok (.pop, 1) := by decide +kernel
theorem d_jdk_42_m155_9 : decode jdk_42_method_155_code 9 = .ok (.return_, 1) := by decide +kernel
theorem st8 {a0 : Array Value} {Z : State} (hs : ∀ d ∈ jdkStatics_1, d.before a0 Z = true) : (Jvm.Cond.isRef (Jvm.Term.static "jdk/internal/util/Preconditions" "SIOOBE_FORMATTER" "Ljava/util/function/BiFunction;")).before a0 Z = true := hs _ (List.mem_of_getElem? (i := 8) rfl)
theorem st7 {a0 : Array Value} {Z : State} (hs : ∀ d ∈ jdkStatics_1, d.before a0 Z = true) : (Jvm.Cond.initializedFor "jdk/internal/util/Preconditions" "SIOOBE_FORMATTER" "Ljava/util/function/BiFunction;").before a0 Z = true := hs _ (List.mem_of_getElem? (i := 7) rfl)
theorem own_fmt {a0 : Array Value} {Z : State} (hs : ∀ d ∈ jdkStatics_1, d.before a0 Z = true) : ∃ fm, Sta Z Z.heap "jdk/internal/util/Preconditions" "SIOOBE_FORMATTER" "Ljava/util/function/BiFunction;" fm ∧ fm.isRef = true :=
  own_staR (st8 hs) (st7 hs)
set_option maxRecDepth 65536 in
set_option maxHeartbeats 40000000 in
theorem rm_checkIndexS {l : Launch} {Z : State} {a0 : Array Value} (hw : ∀ d ∈ tables_1, d.before a0 Z = true) (hs : ∀ d ∈ jdkStatics_1, d.before a0 Z = true) {i : Nat} {nn : Nat} {h0 : Heap} (O0 : Ext Z.heap h0) (hi : i < nn) (hn : nn ≤ 8000) :
    own_Ct l Z (⟨"java/lang/String", "checkIndex", "(II)V"⟩ : MethodName) jdk_42_method_155_code 2 none [] ({ frames := 1, locals := 14, cells := 0, slots := 0 } : Room) #[(.int (Int32.ofNat i)), (.int (Int32.ofNat nn))] h0 (fun v h => v = none ∧ h = h0) := by
  obtain ⟨fm, SFm, hfm⟩ := own_fmt hs
  refine own_body (Ls := #[.val (.int (Int32.ofNat i)), .val (.int (Int32.ofNat nn))]) (plainFor_of_name pn_java_lang_String) (fun m => by first | (simp [entryFrame, mkF, argsToLocals, Value.category]; done) | rfl) O0 ?_
  intro p e s m below meth c T0 G K0
  refine own_iloadN K0 d_jdk_42_m155_0 rfl rfl ?_
  refine own_iloadN K0 d_jdk_42_m155_1 rfl rfl ?_
  refine own_getS K0 (wd141 hw) Via.refl (SFm.ext K0.O) d_jdk_42_m155_2 rfl ?_
  intro T7 K7
  refine own_callS K7 (wd143 hw) (wd144 hw) (rm_checkIndexP hw hs K7.O hfm hi hn) (wd145 hw) (wd142 hw) (by decide) (argsL := [(.int (Int32.ofNat i)), (.int (Int32.ofNat nn)), fm]) (rest := []) rfl pd_28IILjava2futil2ffunction2fBiFunction3b29I rfl rfl (W := 0) rfl (by decide) (by decide) (by decide) (by decide) d_jdk_42_m155_5 rfl ?_
  intro T8 h8 L8 v8 K8 q8
  obtain ⟨rfl, e8⟩ := q8
  have f8 := e8.symm
  subst f8
  show G (T8.setTop (mkF m 8 #[.val (.int (Int32.ofNat i)), .val (.int (Int32.ofNat nn))] [(.int (Int32.ofNat i))]))
  refine own_pop K8 d_jdk_42_m155_8 rfl rfl ?_
  exact own_ret0 K8 d_jdk_42_m155_9 rfl (by decide) (by decide) ⟨rfl, rfl⟩
theorem d_jdk_43_m2_0 : decode jdk_43_method_2_code 0 = .ok (.iload_n 1, 1) := by decide +kernel
theorem d_jdk_43_m2_1 : decode jdk_43_method_2_code 1 = .ok (.aload_n 0, 1) := by decide +kernel
theorem d_jdk_43_m2_2 : decode jdk_43_method_2_code 2 = .ok (.arraylength, 1) := by decide +kernel
theorem d_jdk_43_m2_3 : decode jdk_43_method_2_code 3 = .ok (.invokestatic 9, 3) := by decide +kernel
theorem wd140 {a0 : Array Value} {Z : State} (hw : ∀ d ∈ tables_1, d.before a0 Z = true) : (Jvm.Cond.code ({ cls := "java/lang/String", name := "checkIndex", desc := "(II)V" } : Jvm.MethodName) jdk_42_method_155_code (2 : Nat) (Option.none : Option Jvm.ClassFile.FieldType)).before a0 Z = true := hw _ (List.mem_of_getElem? (i := 140) rfl)
theorem pd_28II29V : parseMethodDescriptor "(II)V" = some ⟨[.int, .int], none⟩ := by decide +kernel
theorem wd138 {a0 : Array Value} {Z : State} (hw : ∀ d ∈ tables_1, d.before a0 Z = true) : (Jvm.Cond.methodLink "java/lang/StringLatin1" (9 : Nat) ({ cls := "java/lang/String", name := "checkIndex", desc := "(II)V" } : Jvm.MethodName)).before a0 Z = true := hw _ (List.mem_of_getElem? (i := 138) rfl)
theorem wd139 {a0 : Array Value} {Z : State} (hw : ∀ d ∈ tables_1, d.before a0 Z = true) : (Jvm.Cond.static ({ cls := "java/lang/String", name := "checkIndex", desc := "(II)V" } : Jvm.MethodName)).before a0 Z = true := hw _ (List.mem_of_getElem? (i := 139) rfl)
theorem d_jdk_43_m2_6 : decode jdk_43_method_2_code 6 = .ok (.aload_n 0, 1) := by decide +kernel
theorem d_jdk_43_m2_7 : decode jdk_43_method_2_code 7 = .ok (.iload_n 1, 1) := by decide +kernel
theorem d_jdk_43_m2_8 : decode jdk_43_method_2_code 8 = .ok (.baload, 1) := by decide +kernel
theorem d_jdk_43_m2_9 : decode jdk_43_method_2_code 9 = .ok (.sipush 255, 3) := by decide +kernel
theorem d_jdk_43_m2_12 : decode jdk_43_method_2_code 12 = .ok (.iand, 1) := by decide +kernel
theorem d_jdk_43_m2_13 : decode jdk_43_method_2_code 13 = .ok (.i2c, 1) := by decide +kernel
theorem d_jdk_43_m2_14 : decode jdk_43_method_2_code 14 = .ok (.ireturn, 1) := by decide +kernel
theorem pn_java_lang_StringLatin1 : plainName "java/lang/StringLatin1" = true := by first | (simp [plainName, overriddenIn]; done) | decide +kernel
set_option maxRecDepth 65536 in
set_option maxHeartbeats 40000000 in
theorem rm_charAt1 {l : Launch} {Z : State} {a0 : Array Value} (hw : ∀ d ∈ tables_1, d.before a0 Z = true) (hs : ∀ d ∈ jdkStatics_1, d.before a0 Z = true) {b : Addr} {kb : ClassId} {cs : List Int32} {i : Nat} {h0 : Heap} (O0 : Ext Z.heap h0) (V : Arv Z h0 b kb .byte (Int32.ofNat cs.length) (own_by cs) (.int 0)) (hlen : cs.length ≤ 4000) (hok : own_ok false cs) (hi : i < cs.length) :
    own_Ct l Z (⟨"java/lang/StringLatin1", "charAt", "([BI)C"⟩ : MethodName) jdk_43_method_2_code 2 (some .char) [] ({ frames := 2, locals := 27, cells := 0, slots := 0 } : Room) #[(.ref b), (.int (Int32.ofNat i))] h0 (fun v h => v = some (.int cs[i]) ∧ h = h0) := by
  refine own_body (Ls := #[.val (.ref b), .val (.int (Int32.ofNat i))]) (plainFor_of_name pn_java_lang_StringLatin1) (fun m => by first | (simp [entryFrame, mkF, argsToLocals, Value.category]; done) | rfl) O0 ?_
  intro p e s m below meth c T0 G K0
  refine own_iloadN K0 d_jdk_43_m2_0 rfl rfl ?_
  refine own_aloadN K0 d_jdk_43_m2_1 rfl rfl rfl ?_
  refine own_arraylength K0 V d_jdk_43_m2_2 rfl ?_
  refine own_callS K0 (wd138 hw) (wd139 hw) (rm_checkIndexS hw hs K0.O hi (by omega)) (wd140 hw) (wd10 hw) (by decide) (argsL := [(.int (Int32.ofNat i)), (.int (Int32.ofNat cs.length))]) (rest := []) rfl pd_28II29V rfl rfl (W := 0) rfl (by decide) (by decide) (by decide) (by decide) d_jdk_43_m2_3 rfl ?_
  intro T9 h9 L9 v9 K9 q9
  obtain ⟨rfl, e9⟩ := q9
  have f9 := e9.symm
  subst f9
  show G (T9.setTop (mkF m 6 #[.val (.ref b), .val (.int (Int32.ofNat i))] []))
  refine own_aloadN K9 d_jdk_43_m2_6 rfl rfl rfl ?_
  refine own_iloadN K9 d_jdk_43_m2_7 rfl rfl ?_
  refine own_baload K9 (x := (cs[i]).toInt8.toInt32) V ⟨own_nn (by omega), own_lt hi (by omega)⟩ (by rw [own_clamp (by omega)]; exact own_by_get cs i hi) d_jdk_43_m2_8 rfl ?_
  refine own_sipush K9 (v := (255 : Int32)) d_jdk_43_m2_9 rfl rfl ?_
  refine own_iand K9 d_jdk_43_m2_12 rfl ?_
  refine own_i2c K9 d_jdk_43_m2_13 rfl ?_
  exact own_retN K9 (z' := cs[i]) d_jdk_43_m2_14 rfl (by simp) (by rw [own_rd1 (hok _ (List.getElem_mem hi)), own_i2c_id (own_lo_ch (hok _ (List.getElem_mem hi)))]; exact own_nar_char8 (hok _ (List.getElem_mem hi))) (by decide) (by decide) ⟨rfl, rfl⟩
theorem d_jdk_52_m6_0 : decode jdk_52_method_6_code 0 = .ok (.aload_n 0, 1) := by decide +kernel
theorem d_jdk_52_m6_1 : decode jdk_52_method_6_code 1 = .ok (.arraylength, 1) := by decide +kernel
theorem d_jdk_52_m6_2 : decode jdk_52_method_6_code 2 = .ok (.iconst 1, 1) := by decide +kernel
theorem d_jdk_52_m6_3 : decode jdk_52_method_6_code 3 = .ok (.ishr, 1) := by decide +kernel
theorem d_jdk_52_m6_4 : decode jdk_52_method_6_code 4 = .ok (.ireturn, 1) := by decide +kernel
theorem pn_java_lang_StringUTF16 : plainName "java/lang/StringUTF16" = true := by first | (simp [plainName, overriddenIn]; done) | decide +kernel
set_option maxRecDepth 65536 in
set_option maxHeartbeats 40000000 in
theorem rm_lengthU {l : Launch} {Z : State} {a0 : Array Value} (hw : ∀ d ∈ tables_1, d.before a0 Z = true) (hs : ∀ d ∈ jdkStatics_1, d.before a0 Z = true) {b : Addr} {kb : ClassId} {vs : List Value} {nn : Nat} {h0 : Heap} (O0 : Ext Z.heap h0) (V : Arv Z h0 b kb .byte (Int32.ofNat (2 * nn)) vs (.int 0)) (hn : nn ≤ 8000) :
    own_Ct l Z (⟨"java/lang/StringUTF16", "length", "([B)I"⟩ : MethodName) jdk_52_method_6_code 1 (some .int) [] ({ frames := 0, locals := 0, cells := 0, slots := 0 } : Room) #[(.ref b)] h0 (fun v h => v = some (.int (Int32.ofNat nn)) ∧ h = h0) := by
  refine own_body (Ls := #[.val (.ref b)]) (plainFor_of_name pn_java_lang_StringUTF16) (fun m => by first | (simp [entryFrame, mkF, argsToLocals, Value.category]; done) | rfl) O0 ?_
  intro p e s m below meth c T0 G K0
  refine own_aloadN K0 d_jdk_52_m6_0 rfl rfl rfl ?_
  refine own_arraylength K0 V d_jdk_52_m6_1 rfl ?_
  refine own_iconst K0 (v := (1 : Int32)) d_jdk_52_m6_2 rfl rfl ?_
  refine own_ishr K0 d_jdk_52_m6_3 rfl ?_
  exact own_retI K0 d_jdk_52_m6_4 rfl (by decide) (by decide) ⟨by rw [own_shr1 (by omega)], rfl⟩
theorem d_jdk_52_m91_0 : decode jdk_52_method_91_code 0 = .ok (.iload_n 0, 1) := by decide +kernel
theorem d_jdk_52_m91_1 : decode jdk_52_method_91_code 1 = .ok (.aload_n 1, 1) := by decide +kernel
theorem d_jdk_52_m91_2 : decode jdk_52_method_91_code 2 = .ok (.invokestatic 48, 3) := by decide +kernel
theorem wd229 {a0 : Array Value} {Z : State} (hw : ∀ d ∈ tables_1, d.before a0 Z = true) : (Jvm.Cond.code ({ cls := "java/lang/StringUTF16", name := "length", desc := "([B)I" } : Jvm.MethodName) jdk_52_method_6_code (1 : Nat) (Option.some Jvm.ClassFile.FieldType.int)).before a0 Z = true := hw _ (List.mem_of_getElem? (i := 229) rfl)
theorem wd116 {a0 : Array Value} {Z : State} (hw : ∀ d ∈ tables_1, d.before a0 Z = true) : (Jvm.Cond.initialized "java/lang/StringUTF16").before a0 Z = true := hw _ (List.mem_of_getElem? (i := 116) rfl)
theorem pd_285bB29I : parseMethodDescriptor "([B)I" = some ⟨[(.array .byte)], some .int⟩ := by decide +kernel
theorem wd227 {a0 : Array Value} {Z : State} (hw : ∀ d ∈ tables_1, d.before a0 Z = true) : (Jvm.Cond.methodLink "java/lang/StringUTF16" (48 : Nat) ({ cls := "java/lang/StringUTF16", name := "length", desc := "([B)I" } : Jvm.MethodName)).before a0 Z = true := hw _ (List.mem_of_getElem? (i := 227) rfl)
theorem wd228 {a0 : Array Value} {Z : State} (hw : ∀ d ∈ tables_1, d.before a0 Z = true) : (Jvm.Cond.static ({ cls := "java/lang/StringUTF16", name := "length", desc := "([B)I" } : Jvm.MethodName)).before a0 Z = true := hw _ (List.mem_of_getElem? (i := 228) rfl)
theorem d_jdk_52_m91_5 : decode jdk_52_method_91_code 5 = .ok (.invokestatic 414, 3) := by decide +kernel
theorem wd230 {a0 : Array Value} {Z : State} (hw : ∀ d ∈ tables_1, d.before a0 Z = true) : (Jvm.Cond.methodLink "java/lang/StringUTF16" (414 : Nat) ({ cls := "java/lang/String", name := "checkIndex", desc := "(II)V" } : Jvm.MethodName)).before a0 Z = true := hw _ (List.mem_of_getElem? (i := 230) rfl)
theorem d_jdk_52_m91_8 : decode jdk_52_method_91_code 8 = .ok (.return_, 1) := by decide +kernel
set_option maxRecDepth 65536 in
set_option maxHeartbeats 40000000 in
theorem rm_checkIndexU {l : Launch} {Z : State} {a0 : Array Value} (hw : ∀ d ∈ tables_1, d.before a0 Z = true) (hs : ∀ d ∈ jdkStatics_1, d.before a0 Z = true) {b : Addr} {kb : ClassId} {vs : List Value} {nn : Nat} {i : Nat} {h0 : Heap} (O0 : Ext Z.heap h0) (V : Arv Z h0 b kb .byte (Int32.ofNat (2 * nn)) vs (.int 0)) (hn : nn ≤ 8000) (hi : i < nn) :
    own_Ct l Z (⟨"java/lang/StringUTF16", "checkIndex", "(I[B)V"⟩ : MethodName) jdk_52_method_91_code 2 none [] ({ frames := 2, locals := 27, cells := 0, slots := 0 } : Room) #[(.int (Int32.ofNat i)), (.ref b)] h0 (fun v h => v = none ∧ h = h0) := by
  refine own_body (Ls := #[.val (.int (Int32.ofNat i)), .val (.ref b)]) (plainFor_of_name pn_java_lang_StringUTF16) (fun m => by first | (simp [entryFrame, mkF, argsToLocals, Value.category]; done) | rfl) O0 ?_
  intro p e s m below meth c T0 G K0
  refine own_iloadN K0 d_jdk_52_m91_0 rfl rfl ?_
  refine own_aloadN K0 d_jdk_52_m91_1 rfl rfl rfl ?_
  refine own_callS K0 (wd227 hw) (wd228 hw) (rm_lengthU hw hs K0.O V hn) (wd229 hw) (wd116 hw) (by decide) (argsL := [(.ref b)]) (rest := [(.int (Int32.ofNat i))]) rfl pd_285bB29I rfl rfl (W := 1) rfl (by decide) (by decide) (by decide) (by decide) d_jdk_52_m91_2 rfl ?_
  intro T10 h10 L10 v10 K10 q10
  obtain ⟨rfl, e10⟩ := q10
  have f10 := e10.symm
  subst f10
  show G (T10.setTop (mkF m 5 #[.val (.int (Int32.ofNat i)), .val (.ref b)] [(.int (Int32.ofNat nn)), (.int (Int32.ofNat i))]))
  refine own_callS K10 (wd230 hw) (wd139 hw) (rm_checkIndexS hw hs K10.O hi hn) (wd140 hw) (wd10 hw) (by decide) (argsL := [(.int (Int32.ofNat i)), (.int (Int32.ofNat nn))]) (rest := []) rfl pd_28II29V rfl rfl (W := 0) rfl (by decide) (by decide) (by decide) (by decide) d_jdk_52_m91_5 rfl ?_
  intro T11 h11 L11 v11 K11 q11
  obtain ⟨rfl, e11⟩ := q11
  have f11 := e11.symm
  subst f11
  show G (T11.setTop (mkF m 8 #[.val (.int (Int32.ofNat i)), .val (.ref b)] []))
  exact own_ret0 K11 d_jdk_52_m91_8 rfl (by decide) (by decide) ⟨rfl, rfl⟩
theorem st12 {a0 : Array Value} {Z : State} (hs : ∀ d ∈ jdkStatics_1, d.before a0 Z = true) : (Jvm.Cond.eq (Jvm.Term.static "java/lang/StringUTF16" "$assertionsDisabled" "Z") (Jvm.Term.int (1 : Int32))).before a0 Z = true := hs _ (List.mem_of_getElem? (i := 12) rfl)
theorem st11 {a0 : Array Value} {Z : State} (hs : ∀ d ∈ jdkStatics_1, d.before a0 Z = true) : (Jvm.Cond.initializedFor "java/lang/StringUTF16" "$assertionsDisabled" "Z").before a0 Z = true := hs _ (List.mem_of_getElem? (i := 11) rfl)
theorem own_sta_assertionsDisabled {a0 : Array Value} {Z : State} (hs : ∀ d ∈ jdkStatics_1, d.before a0 Z = true) : Sta Z Z.heap "java/lang/StringUTF16" "$assertionsDisabled" "Z" (.int 1) :=
  own_staI (st12 hs) (st11 hs)
theorem d_jdk_52_m5_0 : decode jdk_52_method_5_code 0 = .ok (.getstatic 44, 3) := by decide +kernel
theorem wd215 {a0 : Array Value} {Z : State} (hw : ∀ d ∈ tables_1, d.before a0 Z = true) : (Jvm.Cond.fieldLink "java/lang/StringUTF16" (44 : Nat) "java/lang/StringUTF16" "$assertionsDisabled" "Z").before a0 Z = true := hw _ (List.mem_of_getElem? (i := 215) rfl)
theorem d_jdk_52_m5_3 : decode jdk_52_method_5_code 3 = .ok (.ifCond .ne 25, 3) := by decide +kernel
theorem d_jdk_52_m5_28 : decode jdk_52_method_5_code 28 = .ok (.iload_n 1, 1) := by decide +kernel
theorem d_jdk_52_m5_29 : decode jdk_52_method_5_code 29 = .ok (.iconst 1, 1) := by decide +kernel
theorem d_jdk_52_m5_30 : decode jdk_52_method_5_code 30 = .ok (.ishl, 1) := by decide +kernel
theorem d_jdk_52_m5_31 : decode jdk_52_method_5_code 31 = .ok (.istore_n 1, 1) := by decide +kernel
theorem d_jdk_52_m5_32 : decode jdk_52_method_5_code 32 = .ok (.aload_n 0, 1) := by decide +kernel
theorem d_jdk_52_m5_33 : decode jdk_52_method_5_code 33 = .ok (.iload_n 1, 1) := by decide +kernel
theorem d_jdk_52_m5_34 : decode jdk_52_method_5_code 34 = .ok (.iinc 1 1, 3) := by decide +kernel
theorem d_jdk_52_m5_37 : decode jdk_52_method_5_code 37 = .ok (.baload, 1) := by decide +kernel
theorem d_jdk_52_m5_38 : decode jdk_52_method_5_code 38 = .ok (.sipush 255, 3) := by decide +kernel
theorem d_jdk_52_m5_41 : decode jdk_52_method_5_code 41 = .ok (.iand, 1) := by decide +kernel
theorem st15 {a0 : Array Value} {Z : State} (hs : ∀ d ∈ jdkStatics_1, d.before a0 Z = true) : (Jvm.Cond.eq (Jvm.Term.static "java/lang/StringUTF16" "HI_BYTE_SHIFT" "I") (Jvm.Term.int (0 : Int32))).before a0 Z = true := hs _ (List.mem_of_getElem? (i := 15) rfl)
theorem st14 {a0 : Array Value} {Z : State} (hs : ∀ d ∈ jdkStatics_1, d.before a0 Z = true) : (Jvm.Cond.initializedFor "java/lang/StringUTF16" "HI_BYTE_SHIFT" "I").before a0 Z = true := hs _ (List.mem_of_getElem? (i := 14) rfl)
theorem own_sta_HI_BYTE_SHIFT {a0 : Array Value} {Z : State} (hs : ∀ d ∈ jdkStatics_1, d.before a0 Z = true) : Sta Z Z.heap "java/lang/StringUTF16" "HI_BYTE_SHIFT" "I" (.int 0) :=
  own_staI (st15 hs) (st14 hs)
theorem d_jdk_52_m5_42 : decode jdk_52_method_5_code 42 = .ok (.getstatic 59, 3) := by decide +kernel
theorem wd216 {a0 : Array Value} {Z : State} (hw : ∀ d ∈ tables_1, d.before a0 Z = true) : (Jvm.Cond.fieldLink "java/lang/StringUTF16" (59 : Nat) "java/lang/StringUTF16" "HI_BYTE_SHIFT" "I").before a0 Z = true := hw _ (List.mem_of_getElem? (i := 216) rfl)
theorem d_jdk_52_m5_45 : decode jdk_52_method_5_code 45 = .ok (.ishl, 1) := by decide +kernel
theorem d_jdk_52_m5_46 : decode jdk_52_method_5_code 46 = .ok (.aload_n 0, 1) := by decide +kernel
theorem d_jdk_52_m5_47 : decode jdk_52_method_5_code 47 = .ok (.iload_n 1, 1) := by decide +kernel
theorem d_jdk_52_m5_48 : decode jdk_52_method_5_code 48 = .ok (.baload, 1) := by decide +kernel
theorem d_jdk_52_m5_49 : decode jdk_52_method_5_code 49 = .ok (.sipush 255, 3) := by decide +kernel
theorem d_jdk_52_m5_52 : decode jdk_52_method_5_code 52 = .ok (.iand, 1) := by decide +kernel
theorem st18 {a0 : Array Value} {Z : State} (hs : ∀ d ∈ jdkStatics_1, d.before a0 Z = true) : (Jvm.Cond.eq (Jvm.Term.static "java/lang/StringUTF16" "LO_BYTE_SHIFT" "I") (Jvm.Term.int (8 : Int32))).before a0 Z = true := hs _ (List.mem_of_getElem? (i := 18) rfl)
theorem st17 {a0 : Array Value} {Z : State} (hs : ∀ d ∈ jdkStatics_1, d.before a0 Z = true) : (Jvm.Cond.initializedFor "java/lang/StringUTF16" "LO_BYTE_SHIFT" "I").before a0 Z = true := hs _ (List.mem_of_getElem? (i := 17) rfl)
theorem own_sta_LO_BYTE_SHIFT {a0 : Array Value} {Z : State} (hs : ∀ d ∈ jdkStatics_1, d.before a0 Z = true) : Sta Z Z.heap "java/lang/StringUTF16" "LO_BYTE_SHIFT" "I" (.int 8) :=
  own_staI (st18 hs) (st17 hs)
theorem d_jdk_52_m5_53 : decode jdk_52_method_5_code 53 = .ok (.getstatic 63, 3) := by decide +kernel
theorem wd217 {a0 : Array Value} {Z : State} (hw : ∀ d ∈ tables_1, d.before a0 Z = true) : (Jvm.Cond.fieldLink "java/lang/StringUTF16" (63 : Nat) "java/lang/StringUTF16" "LO_BYTE_SHIFT" "I").before a0 Z = true := hw _ (List.mem_of_getElem? (i := 217) rfl)
theorem d_jdk_52_m5_56 : decode jdk_52_method_5_code 56 = .ok (.ishl, 1) := by decide +kernel
theorem d_jdk_52_m5_57 : decode jdk_52_method_5_code 57 = .ok (.ior, 1) := by decide +kernel
theorem d_jdk_52_m5_58 : decode jdk_52_method_5_code 58 = .ok (.i2c, 1) := by decide +kernel
theorem d_jdk_52_m5_59 : decode jdk_52_method_5_code 59 = .ok (.ireturn, 1) := by decide +kernel
set_option maxRecDepth 65536 in
set_option maxHeartbeats 40000000 in
theorem rm_getChar {l : Launch} {Z : State} {a0 : Array Value} (hw : ∀ d ∈ tables_1, d.before a0 Z = true) (hs : ∀ d ∈ jdkStatics_1, d.before a0 Z = true) {b : Addr} {kb : ClassId} {cs : List Int32} {nn : Nat} {i : Nat} {h0 : Heap} (O0 : Ext Z.heap h0) (V : Arv Z h0 b kb .byte (Int32.ofNat (2 * nn)) (own_by2 cs) (.int 0)) (hn : cs.length ≤ nn ∧ nn ≤ 8000) (hok : own_ok true cs) (hi : i < cs.length) :
    own_Ct l Z (⟨"java/lang/StringUTF16", "getChar", "([BI)C"⟩ : MethodName) jdk_52_method_5_code 2 (some .char) [] ({ frames := 0, locals := 0, cells := 0, slots := 0 } : Room) #[(.ref b), (.int (Int32.ofNat i))] h0 (fun v h => v = some (.int cs[i]) ∧ h = h0) := by
  refine own_body (Ls := #[.val (.ref b), .val (.int (Int32.ofNat i))]) (plainFor_of_name pn_java_lang_StringUTF16) (fun m => by first | (simp [entryFrame, mkF, argsToLocals, Value.category]; done) | rfl) O0 ?_
  intro p e s m below meth c T0 G K0
  refine own_getS K0 (wd215 hw) Via.refl ((own_sta_assertionsDisabled hs).ext K0.O) d_jdk_52_m5_0 rfl ?_
  intro T12 K12
  refine own_ifYes K12 d_jdk_52_m5_3 (pc' := 28) (by decide) (by decide) ((if0 _ _).trans (feq (by decide)).2) ?_
  refine own_iloadN K12 d_jdk_52_m5_28 rfl rfl ?_
  refine own_iconst K12 (v := (1 : Int32)) d_jdk_52_m5_29 rfl rfl ?_
  refine own_ishl K12 d_jdk_52_m5_30 rfl ?_
  refine own_istoreN K12 (Ls' := #[.val (.ref b), .val (.int ((Int32.ofNat i) <<< ((1 : Int32) &&& 31)))]) d_jdk_52_m5_31 rfl rfl ?_
  refine own_aloadN K12 d_jdk_52_m5_32 rfl rfl rfl ?_
  refine own_iloadN K12 d_jdk_52_m5_33 rfl rfl ?_
  refine own_iinc K12 (Ls' := #[.val (.ref b), .val (.int (((Int32.ofNat i) <<< ((1 : Int32) &&& 31)) + (1 : Int32)))]) (x := ((Int32.ofNat i) <<< ((1 : Int32) &&& 31))) (v := ((Int32.ofNat i) <<< ((1 : Int32) &&& 31))) d_jdk_52_m5_34 rfl rfl rfl ?_
  rw [own_shl1 (by omega), own_one]
  refine own_baload K12 (x := (own_b0 cs[i])) V ⟨own_nn (by omega), own_lt (by omega) (by omega)⟩ (by rw [own_clamp (by omega)]; exact (own_by2_get cs i hi).1) d_jdk_52_m5_37 rfl ?_
  refine own_sipush K12 (v := (255 : Int32)) d_jdk_52_m5_38 rfl rfl ?_
  refine own_iand K12 d_jdk_52_m5_41 rfl ?_
  refine own_getS K12 (wd216 hw) Via.refl ((own_sta_HI_BYTE_SHIFT hs).ext K12.O) d_jdk_52_m5_42 rfl ?_
  intro T13 K13
  refine own_ishl K13 d_jdk_52_m5_45 rfl ?_
  refine own_aloadN K13 d_jdk_52_m5_46 rfl rfl rfl ?_
  refine own_iloadN K13 d_jdk_52_m5_47 rfl rfl ?_
  refine own_baload K13 (x := (own_b1 cs[i])) V ⟨own_nn (by omega), own_lt (by omega) (by omega)⟩ (by rw [own_clamp (by omega)]; exact (own_by2_get cs i hi).2) d_jdk_52_m5_48 rfl ?_
  refine own_sipush K13 (v := (255 : Int32)) d_jdk_52_m5_49 rfl rfl ?_
  refine own_iand K13 d_jdk_52_m5_52 rfl ?_
  refine own_getS K13 (wd217 hw) Via.refl ((own_sta_LO_BYTE_SHIFT hs).ext K13.O) d_jdk_52_m5_53 rfl ?_
  intro T14 K14
  refine own_ishl K14 d_jdk_52_m5_56 rfl ?_
  refine own_ior K14 d_jdk_52_m5_57 rfl ?_
  refine own_i2c K14 d_jdk_52_m5_58 rfl ?_
  exact own_retN K14 (z' := cs[i]) d_jdk_52_m5_59 rfl (by simp) (own_rd2 (hok _ (List.getElem_mem hi))) (by decide) (by decide) ⟨rfl, rfl⟩
theorem d_jdk_52_m83_0 : decode jdk_52_method_83_code 0 = .ok (.iload_n 1, 1) := by decide +kernel
theorem d_jdk_52_m83_1 : decode jdk_52_method_83_code 1 = .ok (.aload_n 0, 1) := by decide +kernel
theorem d_jdk_52_m83_2 : decode jdk_52_method_83_code 2 = .ok (.invokestatic 67, 3) := by decide +kernel
theorem wd226 {a0 : Array Value} {Z : State} (hw : ∀ d ∈ tables_1, d.before a0 Z = true) : (Jvm.Cond.code ({ cls := "java/lang/StringUTF16", name := "checkIndex", desc := "(I[B)V" } : Jvm.MethodName) jdk_52_method_91_code (2 : Nat) (Option.none : Option Jvm.ClassFile.FieldType)).before a0 Z = true := hw _ (List.mem_of_getElem? (i := 226) rfl)
theorem pd_28I5bB29V : parseMethodDescriptor "(I[B)V" = some ⟨[.int, (.array .byte)], none⟩ := by decide +kernel
theorem wd224 {a0 : Array Value} {Z : State} (hw : ∀ d ∈ tables_1, d.before a0 Z = true) : (Jvm.Cond.methodLink "java/lang/StringUTF16" (67 : Nat) ({ cls := "java/lang/StringUTF16", name := "checkIndex", desc := "(I[B)V" } : Jvm.MethodName)).before a0 Z = true := hw _ (List.mem_of_getElem? (i := 224) rfl)
theorem wd225 {a0 : Array Value} {Z : State} (hw : ∀ d ∈ tables_1, d.before a0 Z = true) : (Jvm.Cond.static ({ cls := "java/lang/StringUTF16", name := "checkIndex", desc := "(I[B)V" } : Jvm.MethodName)).before a0 Z = true := hw _ (List.mem_of_getElem? (i := 225) rfl)
theorem d_jdk_52_m83_5 : decode jdk_52_method_83_code 5 = .ok (.aload_n 0, 1) := by decide +kernel
theorem d_jdk_52_m83_6 : decode jdk_52_method_83_code 6 = .ok (.iload_n 1, 1) := by decide +kernel
theorem d_jdk_52_m83_7 : decode jdk_52_method_83_code 7 = .ok (.invokestatic 71, 3) := by decide +kernel
theorem wd220 {a0 : Array Value} {Z : State} (hw : ∀ d ∈ tables_1, d.before a0 Z = true) : (Jvm.Cond.code ({ cls := "java/lang/StringUTF16", name := "getChar", desc := "([BI)C" } : Jvm.MethodName) jdk_52_method_5_code (2 : Nat) (Option.some Jvm.ClassFile.FieldType.char)).before a0 Z = true := hw _ (List.mem_of_getElem? (i := 220) rfl)
theorem pd_285bBI29C : parseMethodDescriptor "([BI)C" = some ⟨[(.array .byte), .int], some .char⟩ := by decide +kernel
theorem wd218 {a0 : Array Value} {Z : State} (hw : ∀ d ∈ tables_1, d.before a0 Z = true) : (Jvm.Cond.methodLink "java/lang/StringUTF16" (71 : Nat) ({ cls := "java/lang/StringUTF16", name := "getChar", desc := "([BI)C" } : Jvm.MethodName)).before a0 Z = true := hw _ (List.mem_of_getElem? (i := 218) rfl)
theorem wd219 {a0 : Array Value} {Z : State} (hw : ∀ d ∈ tables_1, d.before a0 Z = true) : (Jvm.Cond.static ({ cls := "java/lang/StringUTF16", name := "getChar", desc := "([BI)C" } : Jvm.MethodName)).before a0 Z = true := hw _ (List.mem_of_getElem? (i := 219) rfl)
theorem d_jdk_52_m83_10 : decode jdk_52_method_83_code 10 = .ok (.ireturn, 1) := by decide +kernel
set_option maxRecDepth 65536 in
set_option maxHeartbeats 40000000 in
theorem rm_charAtU {l : Launch} {Z : State} {a0 : Array Value} (hw : ∀ d ∈ tables_1, d.before a0 Z = true) (hs : ∀ d ∈ jdkStatics_1, d.before a0 Z = true) {b : Addr} {kb : ClassId} {cs : List Int32} {i : Nat} {h0 : Heap} (O0 : Ext Z.heap h0) (V : Arv Z h0 b kb .byte (Int32.ofNat (2 * cs.length)) (own_by2 cs) (.int 0)) (hlen : cs.length ≤ 4000) (hok : own_ok true cs) (hi : i < cs.length) :
    own_Ct l Z (⟨"java/lang/StringUTF16", "charAt", "([BI)C"⟩ : MethodName) jdk_52_method_83_code 2 (some .char) [] ({ frames := 3, locals := 40, cells := 0, slots := 0 } : Room) #[(.ref b), (.int (Int32.ofNat i))] h0 (fun v h => v = some (.int cs[i]) ∧ h = h0) := by
  refine own_body (Ls := #[.val (.ref b), .val (.int (Int32.ofNat i))]) (plainFor_of_name pn_java_lang_StringUTF16) (fun m => by first | (simp [entryFrame, mkF, argsToLocals, Value.category]; done) | rfl) O0 ?_
  intro p e s m below meth c T0 G K0
  refine own_iloadN K0 d_jdk_52_m83_0 rfl rfl ?_
  refine own_aloadN K0 d_jdk_52_m83_1 rfl rfl rfl ?_
  refine own_callS K0 (wd224 hw) (wd225 hw) (rm_checkIndexU hw hs K0.O V (by omega) hi) (wd226 hw) (wd116 hw) (by decide) (argsL := [(.int (Int32.ofNat i)), (.ref b)]) (rest := []) rfl pd_28I5bB29V rfl rfl (W := 0) rfl (by decide) (by decide) (by decide) (by decide) d_jdk_52_m83_2 rfl ?_
  intro T15 h15 L15 v15 K15 q15
  obtain ⟨rfl, e15⟩ := q15
  have f15 := e15.symm
  subst f15
  show G (T15.setTop (mkF m 5 #[.val (.ref b), .val (.int (Int32.ofNat i))] []))
  refine own_aloadN K15 d_jdk_52_m83_5 rfl rfl rfl ?_
  refine own_iloadN K15 d_jdk_52_m83_6 rfl rfl ?_
  refine own_callS K15 (wd218 hw) (wd219 hw) (rm_getChar hw hs K15.O V ⟨Nat.le_refl _, by omega⟩ hok hi) (wd220 hw) (wd116 hw) (by decide) (argsL := [(.ref b), (.int (Int32.ofNat i))]) (rest := []) rfl pd_285bBI29C rfl rfl (W := 0) rfl (by decide) (by decide) (by decide) (by decide) d_jdk_52_m83_7 rfl ?_
  intro T16 h16 L16 v16 K16 q16
  obtain ⟨rfl, e16⟩ := q16
  have f16 := e16.symm
  subst f16
  show G (T16.setTop (mkF m 10 #[.val (.ref b), .val (.int (Int32.ofNat i))] [(.int cs[i])]))
  exact own_retN K16 (z' := cs[i]) d_jdk_52_m83_10 rfl (by simp) (own_nar_char (hok _ (List.getElem_mem hi))) (by decide) (by decide) ⟨rfl, rfl⟩
theorem d_jdk_42_m56_0 : decode jdk_42_method_56_code 0 = .ok (.aload_n 0, 1) := by decide +kernel
theorem d_jdk_42_m56_1 : decode jdk_42_method_56_code 1 = .ok (.invokevirtual 492, 3) := by decide +kernel
theorem wd133 {a0 : Array Value} {Z : State} (hw : ∀ d ∈ tables_1, d.before a0 Z = true) : (Jvm.Cond.code ({ cls := "java/lang/String", name := "isLatin1", desc := "()Z" } : Jvm.MethodName) jdk_42_method_154_code (1 : Nat) (Option.some Jvm.ClassFile.FieldType.boolean)).before a0 Z = true := hw _ (List.mem_of_getElem? (i := 133) rfl)
theorem pd_2829Z : parseMethodDescriptor "()Z" = some ⟨[], some .boolean⟩ := by decide +kernel
theorem wd129 {a0 : Array Value} {Z : State} (hw : ∀ d ∈ tables_1, d.before a0 Z = true) : (Jvm.Cond.methodLink "java/lang/String" (492 : Nat) ({ cls := "java/lang/String", name := "isLatin1", desc := "()Z" } : Jvm.MethodName)).before a0 Z = true := hw _ (List.mem_of_getElem? (i := 129) rfl)
theorem wd130 {a0 : Array Value} {Z : State} (hw : ∀ d ∈ tables_1, d.before a0 Z = true) : (Jvm.Cond.declares ({ cls := "java/lang/String", name := "isLatin1", desc := "()Z" } : Jvm.MethodName)).before a0 Z = true := hw _ (List.mem_of_getElem? (i := 130) rfl)
theorem wd132 {a0 : Array Value} {Z : State} (hw : ∀ d ∈ tables_1, d.before a0 Z = true) : (Jvm.Cond.selects "java/lang/String" ({ cls := "java/lang/String", name := "isLatin1", desc := "()Z" } : Jvm.MethodName) ({ cls := "java/lang/String", name := "isLatin1", desc := "()Z" } : Jvm.MethodName)).before a0 Z = true := hw _ (List.mem_of_getElem? (i := 132) rfl)
theorem wd131 {a0 : Array Value} {Z : State} (hw : ∀ d ∈ tables_1, d.before a0 Z = true) : (Jvm.Cond.instanceMethod ({ cls := "java/lang/String", name := "isLatin1", desc := "()Z" } : Jvm.MethodName)).before a0 Z = true := hw _ (List.mem_of_getElem? (i := 131) rfl)
theorem d_jdk_42_m56_4 : decode jdk_42_method_56_code 4 = .ok (.ifCond .eq 12, 3) := by decide +kernel
theorem d_jdk_42_m56_7 : decode jdk_42_method_56_code 7 = .ok (.aload_n 0, 1) := by decide +kernel
theorem d_jdk_42_m56_8 : decode jdk_42_method_56_code 8 = .ok (.getfield 9, 3) := by decide +kernel
theorem d_jdk_42_m56_11 : decode jdk_42_method_56_code 11 = .ok (.iload_n 1, 1) := by decide +kernel
theorem d_jdk_42_m56_12 : decode jdk_42_method_56_code 12 = .ok (.invokestatic 495, 3) := by decide +kernel
theorem wd137 {a0 : Array Value} {Z : State} (hw : ∀ d ∈ tables_1, d.before a0 Z = true) : (Jvm.Cond.code ({ cls := "java/lang/StringLatin1", name := "charAt", desc := "([BI)C" } : Jvm.MethodName) jdk_43_method_2_code (2 : Nat) (Option.some Jvm.ClassFile.FieldType.char)).before a0 Z = true := hw _ (List.mem_of_getElem? (i := 137) rfl)
theorem wd136 {a0 : Array Value} {Z : State} (hw : ∀ d ∈ tables_1, d.before a0 Z = true) : (Jvm.Cond.initialized "java/lang/StringLatin1").before a0 Z = true := hw _ (List.mem_of_getElem? (i := 136) rfl)
theorem wd134 {a0 : Array Value} {Z : State} (hw : ∀ d ∈ tables_1, d.before a0 Z = true) : (Jvm.Cond.methodLink "java/lang/String" (495 : Nat) ({ cls := "java/lang/StringLatin1", name := "charAt", desc := "([BI)C" } : Jvm.MethodName)).before a0 Z = true := hw _ (List.mem_of_getElem? (i := 134) rfl)
theorem wd135 {a0 : Array Value} {Z : State} (hw : ∀ d ∈ tables_1, d.before a0 Z = true) : (Jvm.Cond.static ({ cls := "java/lang/StringLatin1", name := "charAt", desc := "([BI)C" } : Jvm.MethodName)).before a0 Z = true := hw _ (List.mem_of_getElem? (i := 135) rfl)
theorem d_jdk_42_m56_15 : decode jdk_42_method_56_code 15 = .ok (.ireturn, 1) := by decide +kernel
theorem d_jdk_42_m56_16 : decode jdk_42_method_56_code 16 = .ok (.aload_n 0, 1) := by decide +kernel
theorem d_jdk_42_m56_17 : decode jdk_42_method_56_code 17 = .ok (.getfield 9, 3) := by decide +kernel
theorem d_jdk_42_m56_20 : decode jdk_42_method_56_code 20 = .ok (.iload_n 1, 1) := by decide +kernel
theorem d_jdk_42_m56_21 : decode jdk_42_method_56_code 21 = .ok (.invokestatic 498, 3) := by decide +kernel
theorem wd223 {a0 : Array Value} {Z : State} (hw : ∀ d ∈ tables_1, d.before a0 Z = true) : (Jvm.Cond.code ({ cls := "java/lang/StringUTF16", name := "charAt", desc := "([BI)C" } : Jvm.MethodName) jdk_52_method_83_code (2 : Nat) (Option.some Jvm.ClassFile.FieldType.char)).before a0 Z = true := hw _ (List.mem_of_getElem? (i := 223) rfl)
theorem wd221 {a0 : Array Value} {Z : State} (hw : ∀ d ∈ tables_1, d.before a0 Z = true) : (Jvm.Cond.methodLink "java/lang/String" (498 : Nat) ({ cls := "java/lang/StringUTF16", name := "charAt", desc := "([BI)C" } : Jvm.MethodName)).before a0 Z = true := hw _ (List.mem_of_getElem? (i := 221) rfl)
theorem wd222 {a0 : Array Value} {Z : State} (hw : ∀ d ∈ tables_1, d.before a0 Z = true) : (Jvm.Cond.static ({ cls := "java/lang/StringUTF16", name := "charAt", desc := "([BI)C" } : Jvm.MethodName)).before a0 Z = true := hw _ (List.mem_of_getElem? (i := 222) rfl)
theorem d_jdk_42_m56_24 : decode jdk_42_method_56_code 24 = .ok (.ireturn, 1) := by decide +kernel
set_option maxRecDepth 65536 in
set_option maxHeartbeats 40000000 in
theorem rm_charAt {l : Launch} {Z : State} {a0 : Array Value} (hw : ∀ d ∈ tables_1, d.before a0 Z = true) (hs : ∀ d ∈ jdkStatics_1, d.before a0 Z = true) {x : Addr} {u : Bool} {cs : List Int32} {i : Nat} {h0 : Heap} (O0 : Ext Z.heap h0) (S : own_StrG Z h0 x u cs) (hlen : cs.length ≤ 4000) (hok : own_ok u cs) (hi : i < cs.length) :
    own_Ct l Z (⟨"java/lang/String", "charAt", "(I)C"⟩ : MethodName) jdk_42_method_56_code 2 (some .char) [] ({ frames := 4, locals := 53, cells := 0, slots := 0 } : Room) #[(.ref x), (.int (Int32.ofNat i))] h0 (fun v h => v = some (.int cs[i]) ∧ h = h0) := by
  have S' := S
  obtain ⟨E, Fc, b, kb, Fv, V⟩ := S'
  refine own_body (Ls := #[.val (.ref x), .val (.int (Int32.ofNat i))]) (plainFor_of_name pn_java_lang_String) (fun m => by first | (simp [entryFrame, mkF, argsToLocals, Value.category]; done) | rfl) O0 ?_
  intro p e s m below meth c T0 G K0
  refine own_aloadN K0 d_jdk_42_m56_0 rfl rfl rfl ?_
  refine own_callV K0 (a := x) (x0 := (⟨"java/lang/String", "isLatin1", "()Z"⟩ : MethodName)) (wd129 hw) (wd130 hw) (fun q => own_nfS (args := #[]) (mvT q (wd39 hw)) rfl) (wd132 hw) (wd131 hw) (rm_isLatin1 hw hs K0.O S hlen) (wd133 hw) (wd10 hw) (by decide) S.exa (argsL := []) (rest := []) rfl pd_2829Z rfl rfl (W := 0) rfl (by decide) (by decide) (by decide) (by decide) d_jdk_42_m56_1 rfl ?_
  intro T17 h17 L17 v17 K17 q17
  obtain ⟨rfl, e17⟩ := q17
  have f17 := e17.symm
  subst f17
  show G (T17.setTop (mkF m 4 #[.val (.ref x), .val (.int (Int32.ofNat i))] [(.int (cond u 0 1))]))
  cases u with
  | false =>
    refine own_ifNo K17 d_jdk_42_m56_4 rfl ((if0 _ _).trans (feq (by decide)).1) ?_
    refine own_aloadN K17 d_jdk_42_m56_7 rfl rfl rfl ?_
    refine own_getF K17 (host := "") (Or.inl (wd27 hw)) Via.refl Fv d_jdk_42_m56_8 rfl ?_
    intro T18 K18
    refine own_iloadN K18 d_jdk_42_m56_11 rfl rfl ?_
    refine own_callS K18 (wd134 hw) (wd135 hw) (rm_charAt1 hw hs K18.O V hlen hok hi) (wd137 hw) (wd136 hw) (by decide) (argsL := [(.ref b), (.int (Int32.ofNat i))]) (rest := []) rfl pd_285bBI29C rfl rfl (W := 0) rfl (by decide) (by decide) (by decide) (by decide) d_jdk_42_m56_12 rfl ?_
    intro T19 h19 L19 v19 K19 q19
    obtain ⟨rfl, e19⟩ := q19
    have f19 := e19.symm
    subst f19
    show G (T19.setTop (mkF m 15 #[.val (.ref x), .val (.int (Int32.ofNat i))] [(.int cs[i])]))
    exact own_retN K19 (z' := cs[i]) d_jdk_42_m56_15 rfl (by simp) (own_nar_char8 (hok _ (List.getElem_mem hi))) (by decide) (by decide) ⟨rfl, rfl⟩
  | true =>
    refine own_ifYes K17 d_jdk_42_m56_4 (pc' := 16) (by decide) (by decide) ((if0 _ _).trans (teq rfl).1) ?_
    refine own_aloadN K17 d_jdk_42_m56_16 rfl rfl rfl ?_
    refine own_getF K17 (host := "") (Or.inl (wd27 hw)) Via.refl Fv d_jdk_42_m56_17 rfl ?_
    intro T20 K20
    refine own_iloadN K20 d_jdk_42_m56_20 rfl rfl ?_
    refine own_callS K20 (wd221 hw) (wd222 hw) (rm_charAtU hw hs K20.O V hlen hok hi) (wd223 hw) (wd116 hw) (by decide) (argsL := [(.ref b), (.int (Int32.ofNat i))]) (rest := []) rfl pd_285bBI29C rfl rfl (W := 0) rfl (by decide) (by decide) (by decide) (by decide) d_jdk_42_m56_21 rfl ?_
    intro T21 h21 L21 v21 K21 q21
    obtain ⟨rfl, e21⟩ := q21
    have f21 := e21.symm
    subst f21
    show G (T21.setTop (mkF m 24 #[.val (.ref x), .val (.int (Int32.ofNat i))] [(.int cs[i])]))
    exact own_retN K21 (z' := cs[i]) d_jdk_42_m56_24 rfl (by simp) (own_nar_char (hok _ (List.getElem_mem hi))) (by decide) (by decide) ⟨rfl, rfl⟩
/-- a StringBuilder: its coder, its count n, the chars that stand in its array b, room for N chars -/
def own_SB (Z : State) (h : Heap) (a : Addr) (u : Bool) (n : Nat) (cs : List Int32) (b : Addr) (kb : ClassId) (N : Nat) : Prop :=
  Exa Z h a "java/lang/StringBuilder" ∧ Fld Z h a "java/lang/AbstractStringBuilder" "value" "[B" (.ref b) ∧ Fld Z h a "java/lang/AbstractStringBuilder" "coder" "B" (.int (own_cd u)) ∧ Fld Z h a "java/lang/AbstractStringBuilder" "count" "I" (.int (Int32.ofNat n)) ∧ Fld Z h a "java/lang/AbstractStringBuilder" "maybeLatin1" "Z" (.int 0) ∧ Arv Z h b kb .byte (Int32.ofNat (own_bn u N)) (own_bs u cs) (.int 0) ∧ Exa Z h b "[B" ∧ a ≠ b ∧ Z.heap.size ≤ a ∧ Z.heap.size ≤ b ∧ cs.length ≤ N ∧ N ≤ 2000 ∧ n ≤ cs.length
theorem own_SB.ext {Z : State} {h h' : Heap} {a : Addr} {u : Bool} {n : Nat} {cs : List Int32} {b : Addr} {kb : ClassId} {N : Nat} (B : own_SB Z h a u n cs b kb N) (E : Ext h h') : own_SB Z h' a u n cs b kb N := by
  obtain ⟨E0, F0, F1, F2, F3, V, X0, r⟩ := B
  exact ⟨E0.ext E, F0.ext E, F1.ext E, F2.ext E, F3.ext E, V.ext E, X0.ext E, r⟩
theorem own_SB.exa {Z : State} {h : Heap} {a : Addr} {u : Bool} {n : Nat} {cs : List Int32} {b : Addr} {kb : ClassId} {N : Nat} (B : own_SB Z h a u n cs b kb N) : Exa Z h a "java/lang/StringBuilder" := B.1
theorem own_SB.lt {Z : State} {h : Heap} {a : Addr} {u : Bool} {n : Nat} {cs : List Int32} {b : Addr} {kb : ClassId} {N : Nat} (B : own_SB Z h a u n cs b kb N) : a < h.size ∧ b < h.size := by
  obtain ⟨E0, F0, F1, F2, F3, V, r⟩ := B
  exact ⟨E0.lt, V.lt⟩
theorem own_nosub {i j : Nat} (h : i ≤ j) (hj : j < 1000000) : ¬ 0 < Int32.ofNat i - Int32.ofNat j := by
  have h1 := c_isub (Int32.ofNat i) (Int32.ofNat j)
  have h3 : ∀ y : Int32, -2147483648 ≤ y.toInt ∧ y.toInt < 2147483648 := fun y => ⟨Int32.le_toInt y, Int32.toInt_lt y⟩
  have h4 := h3 (Int32.ofNat i - Int32.ofNat j)
  rw [Int32.toInt_ofNat_of_lt (by omega), Int32.toInt_ofNat_of_lt (by omega)] at h1
  rw [Int32.lt_iff_toInt_lt, show (0 : Int32).toInt = 0 from rfl]; omega
theorem own_shrU (u : Bool) {n : Nat} (h : n ≤ 4000) : Int32.ofNat (own_bn u n) >>> (own_cd u &&& 31) = Int32.ofNat n := by
  cases u
  · exact own_shr0 _
  · exact own_shr1 (by omega)
theorem own_shlU (u : Bool) {n : Nat} (h : n ≤ 4000) : Int32.ofNat n <<< (own_cd u &&& 31) = Int32.ofNat (own_bn u n) := by
  cases u
  · exact own_shl0 _
  · exact own_shl1 (by omega)
theorem own_acp (vs us : List Value) (d : Value) (n : Nat) : (vs ++ List.replicate n d).take vs.length ++ us ++ (vs ++ List.replicate n d).drop (vs.length + n) = vs ++ us := by
  rw [List.take_left' rfl, List.drop_eq_nil_of_le (by simp), List.append_nil]
theorem own_rng (vs : List Value) (d : Value) (n : Nat) (h : n = vs.length) : (List.range n).map (fun i => vs.getD (0 + i) d) = vs := by
  subst h
  apply List.ext_getElem
  · simp
  · intro i h1 h2
    simp at h1
    simp [h1]
theorem d_jdk_68_m2_0 : decode jdk_68_method_2_code 0 = .ok (.aload_n 0, 1) := by decide +kernel
theorem d_jdk_68_m2_1 : decode jdk_68_method_2_code 1 = .ok (.invokespecial 3, 3) := by decide +kernel
theorem wd56 {a0 : Array Value} {Z : State} (hw : ∀ d ∈ tables_1, d.before a0 Z = true) : (Jvm.Cond.methodLink "java/lang/AbstractStringBuilder" (3 : Nat) ({ cls := "java/lang/Object", name := "<init>", desc := "()V" } : Jvm.MethodName)).before a0 Z = true := hw _ (List.mem_of_getElem? (i := 56) rfl)
theorem wd19 {a0 : Array Value} {Z : State} (hw : ∀ d ∈ tables_1, d.before a0 Z = true) : (Jvm.Cond.instanceMethod ({ cls := "java/lang/Object", name := "<init>", desc := "()V" } : Jvm.MethodName)).before a0 Z = true := hw _ (List.mem_of_getElem? (i := 19) rfl)
theorem wd20 {a0 : Array Value} {Z : State} (hw : ∀ d ∈ tables_1, d.before a0 Z = true) : (Jvm.Cond.code ({ cls := "java/lang/Object", name := "<init>", desc := "()V" } : Jvm.MethodName) object_method_1_code (1 : Nat) (Option.none : Option Jvm.ClassFile.FieldType)).before a0 Z = true := hw _ (List.mem_of_getElem? (i := 20) rfl)
theorem d_jdk_68_m2_4 : decode jdk_68_method_2_code 4 = .ok (.getstatic 18, 3) := by decide +kernel
theorem wd57 {a0 : Array Value} {Z : State} (hw : ∀ d ∈ tables_1, d.before a0 Z = true) : (Jvm.Cond.fieldLink "java/lang/AbstractStringBuilder" (18 : Nat) "java/lang/String" "COMPACT_STRINGS" "Z").before a0 Z = true := hw _ (List.mem_of_getElem? (i := 57) rfl)
theorem d_jdk_68_m2_7 : decode jdk_68_method_2_code 7 = .ok (.ifCond .eq 18, 3) := by decide +kernel
theorem d_jdk_68_m2_10 : decode jdk_68_method_2_code 10 = .ok (.aload_n 0, 1) := by decide +kernel
theorem d_jdk_68_m2_11 : decode jdk_68_method_2_code 11 = .ok (.iload_n 1, 1) := by decide +kernel
theorem d_jdk_68_m2_12 : decode jdk_68_method_2_code 12 = .ok (.newarray .byte, 2) := by decide +kernel
theorem wd22 {a0 : Array Value} {Z : State} (hw : ∀ d ∈ tables_1, d.before a0 Z = true) : (Jvm.Cond.arrayClass Jvm.ClassFile.FieldType.byte).before a0 Z = true := hw _ (List.mem_of_getElem? (i := 22) rfl)
theorem wd58 {a0 : Array Value} {Z : State} (hw : ∀ d ∈ tables_1, d.before a0 Z = true) : (Jvm.Cond.fieldLink "java/lang/AbstractStringBuilder" (15 : Nat) "java/lang/AbstractStringBuilder" "value" "[B").before a0 Z = true := hw _ (List.mem_of_getElem? (i := 58) rfl)
theorem wd59 {a0 : Array Value} {Z : State} (hw : ∀ d ∈ tables_1, d.before a0 Z = true) : (Jvm.Cond.lays "java/lang/StringBuilder" "java/lang/AbstractStringBuilder" "value" "[B").before a0 Z = true := hw _ (List.mem_of_getElem? (i := 59) rfl)
theorem d_jdk_68_m2_14 : decode jdk_68_method_2_code 14 = .ok (.putfield 15, 3) := by decide +kernel
theorem wd34 {a0 : Array Value} {Z : State} (hw : ∀ d ∈ tables_1, d.before a0 Z = true) : (Jvm.Cond.instantiable "java/lang/StringBuilder" (4 : Nat)).before a0 Z = true := hw _ (List.mem_of_getElem? (i := 34) rfl)
theorem wd61 {a0 : Array Value} {Z : State} (hw : ∀ d ∈ tables_1, d.before a0 Z = true) : (Jvm.Cond.lays "java/lang/StringBuilder" "java/lang/AbstractStringBuilder" "coder" "B").before a0 Z = true := hw _ (List.mem_of_getElem? (i := 61) rfl)
theorem wd89 {a0 : Array Value} {Z : State} (hw : ∀ d ∈ tables_1, d.before a0 Z = true) : (Jvm.Cond.lays "java/lang/StringBuilder" "java/lang/AbstractStringBuilder" "count" "I").before a0 Z = true := hw _ (List.mem_of_getElem? (i := 89) rfl)
theorem wd256 {a0 : Array Value} {Z : State} (hw : ∀ d ∈ tables_1, d.before a0 Z = true) : (Jvm.Cond.lays "java/lang/StringBuilder" "java/lang/AbstractStringBuilder" "maybeLatin1" "Z").before a0 Z = true := hw _ (List.mem_of_getElem? (i := 256) rfl)
theorem d_jdk_68_m2_17 : decode jdk_68_method_2_code 17 = .ok (.aload_n 0, 1) := by decide +kernel
theorem d_jdk_68_m2_18 : decode jdk_68_method_2_code 18 = .ok (.iconst 0, 1) := by decide +kernel
theorem wd60 {a0 : Array Value} {Z : State} (hw : ∀ d ∈ tables_1, d.before a0 Z = true) : (Jvm.Cond.fieldLink "java/lang/AbstractStringBuilder" (22 : Nat) "java/lang/AbstractStringBuilder" "coder" "B").before a0 Z = true := hw _ (List.mem_of_getElem? (i := 60) rfl)
theorem d_jdk_68_m2_19 : decode jdk_68_method_2_code 19 = .ok (.putfield 22, 3) := by decide +kernel
theorem d_jdk_68_m2_22 : decode jdk_68_method_2_code 22 = .ok (.goto 16, 3) := by decide +kernel
theorem d_jdk_68_m2_38 : decode jdk_68_method_2_code 38 = .ok (.return_, 1) := by decide +kernel
theorem pn_java_lang_AbstractStringBuilder : plainName "java/lang/AbstractStringBuilder" = true := by first | (simp [plainName, overriddenIn]; done) | decide +kernel
set_option maxRecDepth 65536 in
set_option maxHeartbeats 40000000 in
theorem rm_asbInit {l : Launch} {Z : State} {a0 : Array Value} (hw : ∀ d ∈ tables_1, d.before a0 Z = true) (hs : ∀ d ∈ jdkStatics_1, d.before a0 Z = true) {x : Addr} {cap : Nat} {h0 : Heap} (O0 : Ext Z.heap h0) (E : Exa Z h0 x "java/lang/StringBuilder") (Fvalue : Fld Z h0 x "java/lang/AbstractStringBuilder" "value" "[B" .null) (Fcoder : Fld Z h0 x "java/lang/AbstractStringBuilder" "coder" "B" (.int 0)) (Fcount : Fld Z h0 x "java/lang/AbstractStringBuilder" "count" "I" (.int 0)) (FmaybeLatin1 : Fld Z h0 x "java/lang/AbstractStringBuilder" "maybeLatin1" "Z" (.int 0)) (gx : Z.heap.size ≤ x) (hcap2 : cap ≤ 2000) :
    own_Ct l Z (⟨"java/lang/AbstractStringBuilder", "<init>", "(I)V"⟩ : MethodName) jdk_68_method_2_code 2 none [] ({ frames := 1, locals := 12, cells := 1, slots := 0 + cap } : Room) #[(.ref x), (.int (Int32.ofNat cap))] h0 (fun v h => v = none ∧ Keep h0 h [x] ∧ ∃ (b : Addr) (kb : ClassId), h0.size ≤ b ∧ own_SB Z h x false 0 [] b kb cap) := by
  obtain ⟨zc, SC, hzc⟩ := own_compact hs
  refine own_body (Ls := #[.val (.ref x), .val (.int (Int32.ofNat cap))]) (plainFor_of_name pn_java_lang_AbstractStringBuilder) (fun m => by first | (simp [entryFrame, mkF, argsToLocals, Value.category]; done) | rfl) O0 ?_
  intro p e s m below meth c T0 G K0
  refine own_aloadN K0 d_jdk_68_m2_0 rfl rfl rfl ?_
  refine own_initO K0 (W := 0) (wd56 hw) (wd19 hw) (wd20 hw) rfl rfl (by first | decide | (dsimp only; omega)) (by first | decide | (dsimp only; omega)) d_jdk_68_m2_1 rfl ?_
  intro T22 K22
  refine own_getS K22 (wd57 hw) Via.refl (SC.ext K22.O) d_jdk_68_m2_4 rfl ?_
  intro T23 K23
  refine own_ifNo K23 d_jdk_68_m2_7 rfl ((if0 _ _).trans (feq hzc).1) ?_
  refine own_aloadN K23 d_jdk_68_m2_10 rfl rfl rfl ?_
  refine own_iloadN K23 d_jdk_68_m2_11 rfl rfl ?_
  refine own_newPB K23 (wd22 hw) d_jdk_68_m2_12 (own_nn (by omega)) (cap := cap) (by rw [own_clamp (by omega)]; exact Nat.le_refl _) (by omega) (by first | decide | (dsimp only; omega)) (by first | decide | (dsimp only; omega)) rfl ?_
  intro T24 h24 a24 c24 K24 g24 E24 V24 X24
  have hab : x ≠ a24 := Nat.ne_of_lt (Nat.lt_of_lt_of_le E.lt (Nat.le_of_eq g24.symm))
  have gb : Z.heap.size ≤ a24 := by rw [g24]; exact K0.O.1
  have Xvalue := Fvalue.ext E24
  have Xcoder := Fcoder.ext E24
  have Xcount := Fcount.ext E24
  have XmaybeLatin1 := FmaybeLatin1.ext E24
  have XE := E.ext E24
  refine own_putF K24 (host := "") (Or.inl (wd58 hw)) Via.refl Xvalue XE (Or.inl (wd59 hw)) (wd34 hw) (ty := (.array .byte)) (by decide) rfl rfl gx d_jdk_68_m2_14 rfl ?_
  intro T25 h25 K25 W25
  have value_26 := Xvalue.same W25
  have coder_26 := Xcoder.other W25 (Or.inr (slot_ne (Or.inl (wd61 hw)) (Or.inl (wd59 hw)) (by decide) (t := .byte) (t' := (.array .byte)) (by decide) (by decide)))
  have count_26 := Xcount.other W25 (Or.inr (slot_ne (Or.inl (wd89 hw)) (Or.inl (wd59 hw)) (by decide) (t := .int) (t' := (.array .byte)) (by decide) (by decide)))
  have maybeLatin1_26 := XmaybeLatin1.other W25 (Or.inr (slot_ne (Or.inl (wd256 hw)) (Or.inl (wd59 hw)) (by decide) (t := .boolean) (t' := (.array .byte)) (by decide) (by decide)))
  have E_26 := XE.wr W25
  have X_26 := X24.wr W25
  have V_26 := V24.other W25 (Ne.symm hab)
  refine own_aloadN K25 d_jdk_68_m2_17 rfl rfl rfl ?_
  refine own_iconst K25 (v := (0 : Int32)) d_jdk_68_m2_18 rfl rfl ?_
  refine own_putFN K25 (wd60 hw) Via.refl coder_26 E_26 (Or.inl (wd61 hw)) (wd34 hw) (ty := .byte) (v' := .int 0) (by decide) rfl rfl gx d_jdk_68_m2_19 rfl ?_
  intro T27 h27 K27 W27
  have value_28 := value_26.other W27 (Or.inr (slot_ne (Or.inl (wd59 hw)) (Or.inl (wd61 hw)) (by decide) (t := (.array .byte)) (t' := .byte) (by decide) (by decide)))
  have coder_28 := coder_26.same W27
  have count_28 := count_26.other W27 (Or.inr (slot_ne (Or.inl (wd89 hw)) (Or.inl (wd61 hw)) (by decide) (t := .int) (t' := .byte) (by decide) (by decide)))
  have maybeLatin1_28 := maybeLatin1_26.other W27 (Or.inr (slot_ne (Or.inl (wd256 hw)) (Or.inl (wd61 hw)) (by decide) (t := .boolean) (t' := .byte) (by decide) (by decide)))
  have E_28 := E_26.wr W27
  have X_28 := X_26.wr W27
  have V_28 := V_26.other W27 (Ne.symm hab)
  refine own_goto K27 d_jdk_68_m2_22 (pc' := 38) (by decide) (by decide) ?_
  exact own_ret0 K27 d_jdk_68_m2_38 rfl (by first | decide | (dsimp only; omega)) (by first | decide | (dsimp only; omega)) ⟨rfl, (((Keep.refl h0 [x]).ext E24).wr W25 (Or.inl (List.mem_singleton.mpr rfl))).wr W27 (Or.inl (List.mem_singleton.mpr rfl)), a24, c24, Nat.le_of_eq g24.symm, ⟨E_28, value_28, coder_28, count_28, maybeLatin1_28, V_28, X_28, hab, gx, gb, Nat.zero_le _, hcap2, Nat.le_refl _⟩⟩
theorem d_jdk_67_m2_0 : decode jdk_67_method_2_code 0 = .ok (.aload_n 0, 1) := by decide +kernel
theorem d_jdk_67_m2_1 : decode jdk_67_method_2_code 1 = .ok (.iload_n 1, 1) := by decide +kernel
theorem d_jdk_67_m2_2 : decode jdk_67_method_2_code 2 = .ok (.invokespecial 1, 3) := by decide +kernel
theorem wd55 {a0 : Array Value} {Z : State} (hw : ∀ d ∈ tables_1, d.before a0 Z = true) : (Jvm.Cond.code ({ cls := "java/lang/AbstractStringBuilder", name := "<init>", desc := "(I)V" } : Jvm.MethodName) jdk_68_method_2_code (2 : Nat) (Option.none : Option Jvm.ClassFile.FieldType)).before a0 Z = true := hw _ (List.mem_of_getElem? (i := 55) rfl)
theorem wd54 {a0 : Array Value} {Z : State} (hw : ∀ d ∈ tables_1, d.before a0 Z = true) : (Jvm.Cond.initialized "java/lang/AbstractStringBuilder").before a0 Z = true := hw _ (List.mem_of_getElem? (i := 54) rfl)
theorem pd_28I29V : parseMethodDescriptor "(I)V" = some ⟨[.int], none⟩ := by decide +kernel
theorem wd50 {a0 : Array Value} {Z : State} (hw : ∀ d ∈ tables_1, d.before a0 Z = true) : (Jvm.Cond.methodLink "java/lang/StringBuilder" (1 : Nat) ({ cls := "java/lang/AbstractStringBuilder", name := "<init>", desc := "(I)V" } : Jvm.MethodName)).before a0 Z = true := hw _ (List.mem_of_getElem? (i := 50) rfl)
theorem wd51 {a0 : Array Value} {Z : State} (hw : ∀ d ∈ tables_1, d.before a0 Z = true) : (Jvm.Cond.instanceMethod ({ cls := "java/lang/AbstractStringBuilder", name := "<init>", desc := "(I)V" } : Jvm.MethodName)).before a0 Z = true := hw _ (List.mem_of_getElem? (i := 51) rfl)
theorem d_jdk_67_m2_5 : decode jdk_67_method_2_code 5 = .ok (.return_, 1) := by decide +kernel
theorem pn_java_lang_StringBuilder : plainName "java/lang/StringBuilder" = true := by first | (simp [plainName, overriddenIn]; done) | decide +kernel
set_option maxRecDepth 65536 in
set_option maxHeartbeats 40000000 in
theorem rm_sbInit {l : Launch} {Z : State} {a0 : Array Value} (hw : ∀ d ∈ tables_1, d.before a0 Z = true) (hs : ∀ d ∈ jdkStatics_1, d.before a0 Z = true) {x : Addr} {cap : Nat} {h0 : Heap} (O0 : Ext Z.heap h0) (E : Exa Z h0 x "java/lang/StringBuilder") (Fvalue : Fld Z h0 x "java/lang/AbstractStringBuilder" "value" "[B" .null) (Fcoder : Fld Z h0 x "java/lang/AbstractStringBuilder" "coder" "B" (.int 0)) (Fcount : Fld Z h0 x "java/lang/AbstractStringBuilder" "count" "I" (.int 0)) (FmaybeLatin1 : Fld Z h0 x "java/lang/AbstractStringBuilder" "maybeLatin1" "Z" (.int 0)) (gx : Z.heap.size ≤ x) (hcap2 : cap ≤ 2000) :
    own_Ct l Z (⟨"java/lang/StringBuilder", "<init>", "(I)V"⟩ : MethodName) jdk_67_method_2_code 2 none [] ({ frames := 2, locals := 25, cells := 1, slots := 0 + 0 + cap } : Room) #[(.ref x), (.int (Int32.ofNat cap))] h0 (fun v h => v = none ∧ Keep h0 h [x] ∧ ∃ (b : Addr) (kb : ClassId), h0.size ≤ b ∧ own_SB Z h x false 0 [] b kb cap) := by
  refine own_body (Ls := #[.val (.ref x), .val (.int (Int32.ofNat cap))]) (plainFor_of_name pn_java_lang_StringBuilder) (fun m => by first | (simp [entryFrame, mkF, argsToLocals, Value.category]; done) | rfl) O0 ?_
  intro p e s m below meth c T0 G K0
  refine own_aloadN K0 d_jdk_67_m2_0 rfl rfl rfl ?_
  refine own_iloadN K0 d_jdk_67_m2_1 rfl rfl ?_
  refine own_callI K0 (a := x) (wd50 hw) (wd51 hw) (rm_asbInit hw hs (cap := cap) K0.O E Fvalue Fcoder Fcount FmaybeLatin1 gx hcap2) (wd55 hw) (wd54 hw) (by decide) rfl (argsL := [(.int (Int32.ofNat cap))]) (rest := []) rfl pd_28I29V rfl rfl (W := 0) rfl (by first | decide | (dsimp only; omega)) (by first | decide | (dsimp only; omega)) (by first | decide | (dsimp only; omega)) (by first | decide | (dsimp only; omega)) d_jdk_67_m2_2 rfl ?_
  intro T29 h29 L29 v29 K29 q29
  obtain ⟨rfl, Kp29, q29⟩ := q29
  show G (T29.setTop (mkF m 5 #[.val (.ref x), .val (.int (Int32.ofNat cap))] []))
  exact own_ret0 K29 d_jdk_67_m2_5 rfl (by first | decide | (dsimp only; omega)) (by first | decide | (dsimp only; omega)) ⟨rfl, Kp29, q29⟩
theorem d_jdk_68_m9_0 : decode jdk_68_method_9_code 0 = .ok (.aload_n 0, 1) := by decide +kernel
theorem d_jdk_68_m9_1 : decode jdk_68_method_9_code 1 = .ok (.getfield 15, 3) := by decide +kernel
theorem d_jdk_68_m9_4 : decode jdk_68_method_9_code 4 = .ok (.arraylength, 1) := by decide +kernel
theorem d_jdk_68_m9_5 : decode jdk_68_method_9_code 5 = .ok (.aload_n 0, 1) := by decide +kernel
theorem d_jdk_68_m9_6 : decode jdk_68_method_9_code 6 = .ok (.getfield 22, 3) := by decide +kernel
theorem d_jdk_68_m9_9 : decode jdk_68_method_9_code 9 = .ok (.ishr, 1) := by decide +kernel
theorem d_jdk_68_m9_10 : decode jdk_68_method_9_code 10 = .ok (.istore_n 2, 1) := by decide +kernel
theorem d_jdk_68_m9_11 : decode jdk_68_method_9_code 11 = .ok (.iload_n 1, 1) := by decide +kernel
theorem d_jdk_68_m9_12 : decode jdk_68_method_9_code 12 = .ok (.iload_n 2, 1) := by decide +kernel
theorem d_jdk_68_m9_13 : decode jdk_68_method_9_code 13 = .ok (.isub, 1) := by decide +kernel
theorem d_jdk_68_m9_14 : decode jdk_68_method_9_code 14 = .ok (.ifCond .le 24, 3) := by decide +kernel
theorem d_jdk_68_m9_38 : decode jdk_68_method_9_code 38 = .ok (.return_, 1) := by decide +kernel
set_option maxRecDepth 65536 in
set_option maxHeartbeats 40000000 in
theorem rm_ensure {l : Launch} {Z : State} {a0 : Array Value} (hw : ∀ d ∈ tables_1, d.before a0 Z = true) (hs : ∀ d ∈ jdkStatics_1, d.before a0 Z = true) {x : Addr} {u : Bool} {cs : List Int32} {b : Addr} {kb : ClassId} {N : Nat} {mm : Nat} {h0 : Heap} (O0 : Ext Z.heap h0) (B : own_SB Z h0 x u cs.length cs b kb N) (hm : mm ≤ N) :
    own_Ct l Z (⟨"java/lang/AbstractStringBuilder", "ensureCapacityInternal", "(I)V"⟩ : MethodName) jdk_68_method_9_code 3 none [] ({ frames := 0, locals := 0, cells := 0, slots := 0 } : Room) #[(.ref x), (.int (Int32.ofNat mm))] h0 (fun v h => v = none ∧ h = h0) := by
  obtain ⟨BE, Bvalue, Bcoder, Bcount, BmaybeLatin1, BV, BX, hab, ga, gb, hcN, hN, hnc⟩ := B
  refine own_body (Ls := #[.val (.ref x), .val (.int (Int32.ofNat mm)), .unset]) (plainFor_of_name pn_java_lang_AbstractStringBuilder) (fun m => by first | (simp [entryFrame, mkF, argsToLocals, Value.category]; done) | rfl) O0 ?_
  intro p e s m below meth c T0 G K0
  refine own_aloadN K0 d_jdk_68_m9_0 rfl rfl rfl ?_
  refine own_getF K0 (host := "") (Or.inl (wd58 hw)) Via.refl Bvalue d_jdk_68_m9_1 rfl ?_
  intro T30 K30
  refine own_arraylength K30 BV d_jdk_68_m9_4 rfl ?_
  refine own_aloadN K30 d_jdk_68_m9_5 rfl rfl rfl ?_
  refine own_getF K30 (host := "") (Or.inl (wd60 hw)) Via.refl Bcoder d_jdk_68_m9_6 rfl ?_
  intro T31 K31
  refine own_ishr K31 d_jdk_68_m9_9 rfl ?_
  rw [own_shrU u (by omega)]
  refine own_istoreN K31 (Ls' := #[.val (.ref x), .val (.int (Int32.ofNat mm)), .val (.int (Int32.ofNat N))]) d_jdk_68_m9_10 rfl rfl ?_
  refine own_iloadN K31 d_jdk_68_m9_11 rfl rfl ?_
  refine own_iloadN K31 d_jdk_68_m9_12 rfl rfl ?_
  refine own_isub K31 d_jdk_68_m9_13 rfl ?_
  refine own_ifYes K31 d_jdk_68_m9_14 (pc' := 38) (by decide) (by decide) ((if0 _ _).trans (flt (own_nosub hm (by omega))).2.2.2) ?_
  exact own_ret0 K31 d_jdk_68_m9_38 rfl (by decide) (by decide) ⟨rfl, rfl⟩
theorem d_jdk_68_m68_0 : decode jdk_68_method_68_code 0 = .ok (.getstatic 18, 3) := by decide +kernel
theorem d_jdk_68_m68_3 : decode jdk_68_method_68_code 3 = .ok (.ifCond .eq 14, 3) := by decide +kernel
theorem d_jdk_68_m68_6 : decode jdk_68_method_68_code 6 = .ok (.aload_n 0, 1) := by decide +kernel
theorem d_jdk_68_m68_7 : decode jdk_68_method_68_code 7 = .ok (.getfield 22, 3) := by decide +kernel
theorem d_jdk_68_m68_10 : decode jdk_68_method_68_code 10 = .ok (.ifCond .ne 7, 3) := by decide +kernel
theorem d_jdk_68_m68_13 : decode jdk_68_method_68_code 13 = .ok (.iconst 1, 1) := by decide +kernel
theorem d_jdk_68_m68_14 : decode jdk_68_method_68_code 14 = .ok (.goto 4, 3) := by decide +kernel
theorem d_jdk_68_m68_18 : decode jdk_68_method_68_code 18 = .ok (.ireturn, 1) := by decide +kernel
theorem d_jdk_68_m68_17 : decode jdk_68_method_68_code 17 = .ok (.iconst 0, 1) := by decide +kernel
set_option maxRecDepth 65536 in
set_option maxHeartbeats 40000000 in
theorem rm_isLatin1B {l : Launch} {Z : State} {a0 : Array Value} (hw : ∀ d ∈ tables_1, d.before a0 Z = true) (hs : ∀ d ∈ jdkStatics_1, d.before a0 Z = true) {x : Addr} {u : Bool} {h0 : Heap} (O0 : Ext Z.heap h0) (F : Fld Z h0 x "java/lang/AbstractStringBuilder" "coder" "B" (.int (own_cd u))) :
    own_Ct l Z (⟨"java/lang/AbstractStringBuilder", "isLatin1", "()Z"⟩ : MethodName) jdk_68_method_68_code 1 (some .boolean) [] ({ frames := 0, locals := 0, cells := 0, slots := 0 } : Room) #[(.ref x)] h0 (fun v h => v = some (.int (cond u 0 1)) ∧ h = h0) := by
  obtain ⟨zc, SC, hzc⟩ := own_compact hs
  refine own_body (Ls := #[.val (.ref x)]) (plainFor_of_name pn_java_lang_AbstractStringBuilder) (fun m => by first | (simp [entryFrame, mkF, argsToLocals, Value.category]; done) | rfl) O0 ?_
  intro p e s m below meth c T0 G K0
  refine own_getS K0 (wd57 hw) Via.refl (SC.ext K0.O) d_jdk_68_m68_0 rfl ?_
  intro T32 K32
  refine own_ifNo K32 d_jdk_68_m68_3 rfl ((if0 _ _).trans (feq hzc).1) ?_
  refine own_aloadN K32 d_jdk_68_m68_6 rfl rfl rfl ?_
  refine own_getF K32 (host := "") (Or.inl (wd60 hw)) Via.refl F d_jdk_68_m68_7 rfl ?_
  intro T33 K33
  cases u with
  | false =>
    refine own_ifNo K33 d_jdk_68_m68_10 rfl ((if0 _ _).trans (teq rfl).2) ?_
    refine own_iconst K33 (v := (1 : Int32)) d_jdk_68_m68_13 rfl rfl ?_
    refine own_goto K33 d_jdk_68_m68_14 (pc' := 18) (by decide) (by decide) ?_
    exact own_retN K33 (z' := (1 : Int32)) d_jdk_68_m68_18 rfl (by simp) (by decide) (by decide) (by decide) ⟨rfl, rfl⟩
  | true =>
    refine own_ifYes K33 d_jdk_68_m68_10 (pc' := 17) (by decide) (by decide) ((if0 _ _).trans (feq (by decide)).2) ?_
    refine own_iconst K33 (v := (0 : Int32)) d_jdk_68_m68_17 rfl rfl ?_
    exact own_retN K33 (z' := (0 : Int32)) d_jdk_68_m68_18 rfl (by simp) (by decide) (by decide) (by decide) ⟨rfl, rfl⟩
theorem d_jdk_52_m3_0 : decode jdk_52_method_3_code 0 = .ok (.iload_n 0, 1) := by decide +kernel
theorem d_jdk_52_m3_1 : decode jdk_52_method_3_code 1 = .ok (.ifCond .ge 11, 3) := by decide +kernel
theorem d_jdk_52_m3_12 : decode jdk_52_method_3_code 12 = .ok (.iload_n 0, 1) := by decide +kernel
theorem wd211 {a0 : Array Value} {Z : State} (hw : ∀ d ∈ tables_1, d.before a0 Z = true) : (Jvm.Cond.constant "java/lang/StringUTF16" (20 : Nat) (1073741823 : Int32)).before a0 Z = true := hw _ (List.mem_of_getElem? (i := 211) rfl)
theorem d_jdk_52_m3_13 : decode jdk_52_method_3_code 13 = .ok (.ldc 20, 2) := by decide +kernel
theorem d_jdk_52_m3_15 : decode jdk_52_method_3_code 15 = .ok (.if_icmp .lt 40, 3) := by decide +kernel
theorem d_jdk_52_m3_55 : decode jdk_52_method_3_code 55 = .ok (.iload_n 0, 1) := by decide +kernel
theorem d_jdk_52_m3_56 : decode jdk_52_method_3_code 56 = .ok (.iconst 1, 1) := by decide +kernel
theorem d_jdk_52_m3_57 : decode jdk_52_method_3_code 57 = .ok (.ishl, 1) := by decide +kernel
theorem d_jdk_52_m3_58 : decode jdk_52_method_3_code 58 = .ok (.ireturn, 1) := by decide +kernel
set_option maxRecDepth 65536 in
set_option maxHeartbeats 40000000 in
theorem rm_newBytesLength {l : Launch} {Z : State} {a0 : Array Value} (hw : ∀ d ∈ tables_1, d.before a0 Z = true) (hs : ∀ d ∈ jdkStatics_1, d.before a0 Z = true) {nn : Nat} {h0 : Heap} (O0 : Ext Z.heap h0) (hn : nn ≤ 8000) :
    own_Ct l Z (⟨"java/lang/StringUTF16", "newBytesLength", "(I)I"⟩ : MethodName) jdk_52_method_3_code 1 (some .int) [] ({ frames := 0, locals := 0, cells := 0, slots := 0 } : Room) #[(.int (Int32.ofNat nn))] h0 (fun v h => v = some (.int (Int32.ofNat (2 * nn))) ∧ h = h0) := by
  refine own_body (Ls := #[.val (.int (Int32.ofNat nn))]) (plainFor_of_name pn_java_lang_StringUTF16) (fun m => by first | (simp [entryFrame, mkF, argsToLocals, Value.category]; done) | rfl) O0 ?_
  intro p e s m below meth c T0 G K0
  refine own_iloadN K0 d_jdk_52_m3_0 rfl rfl ?_
  refine own_ifYes K0 d_jdk_52_m3_1 (pc' := 12) (by decide) (by decide) ((if0 _ _).trans (flt (own_nn (by omega))).2.1) ?_
  refine own_iloadN K0 d_jdk_52_m3_12 rfl rfl ?_
  refine own_ldcInt K0 (wd211 hw) d_jdk_52_m3_13 rfl ?_
  refine own_icmpYes K0 d_jdk_52_m3_15 (pc' := 55) (by decide) (by decide) (tlt (own_lt (n := 1073741823) (by omega) (by decide))).1 ?_
  refine own_iloadN K0 d_jdk_52_m3_55 rfl rfl ?_
  refine own_iconst K0 (v := (1 : Int32)) d_jdk_52_m3_56 rfl rfl ?_
  refine own_ishl K0 d_jdk_52_m3_57 rfl ?_
  exact own_retI K0 d_jdk_52_m3_58 rfl (by decide) (by decide) ⟨by rw [own_shl1 (by omega)], rfl⟩
theorem d_jdk_52_m2_0 : decode jdk_52_method_2_code 0 = .ok (.iload_n 0, 1) := by decide +kernel
theorem d_jdk_52_m2_1 : decode jdk_52_method_2_code 1 = .ok (.invokestatic 11, 3) := by decide +kernel
theorem wd210 {a0 : Array Value} {Z : State} (hw : ∀ d ∈ tables_1, d.before a0 Z = true) : (Jvm.Cond.code ({ cls := "java/lang/StringUTF16", name := "newBytesLength", desc := "(I)I" } : Jvm.MethodName) jdk_52_method_3_code (1 : Nat) (Option.some Jvm.ClassFile.FieldType.int)).before a0 Z = true := hw _ (List.mem_of_getElem? (i := 210) rfl)
theorem pd_28I29I : parseMethodDescriptor "(I)I" = some ⟨[.int], some .int⟩ := by decide +kernel
theorem wd208 {a0 : Array Value} {Z : State} (hw : ∀ d ∈ tables_1, d.before a0 Z = true) : (Jvm.Cond.methodLink "java/lang/StringUTF16" (11 : Nat) ({ cls := "java/lang/StringUTF16", name := "newBytesLength", desc := "(I)I" } : Jvm.MethodName)).before a0 Z = true := hw _ (List.mem_of_getElem? (i := 208) rfl)
theorem wd209 {a0 : Array Value} {Z : State} (hw : ∀ d ∈ tables_1, d.before a0 Z = true) : (Jvm.Cond.static ({ cls := "java/lang/StringUTF16", name := "newBytesLength", desc := "(I)I" } : Jvm.MethodName)).before a0 Z = true := hw _ (List.mem_of_getElem? (i := 209) rfl)
theorem d_jdk_52_m2_4 : decode jdk_52_method_2_code 4 = .ok (.newarray .byte, 2) := by decide +kernel
theorem d_jdk_52_m2_6 : decode jdk_52_method_2_code 6 = .ok (.areturn, 1) := by decide +kernel
set_option maxRecDepth 65536 in
set_option maxHeartbeats 40000000 in
theorem rm_newBytesFor {l : Launch} {Z : State} {a0 : Array Value} (hw : ∀ d ∈ tables_1, d.before a0 Z = true) (hs : ∀ d ∈ jdkStatics_1, d.before a0 Z = true) {nn : Nat} {cap : Nat} {h0 : Heap} (O0 : Ext Z.heap h0) (hn : nn ≤ 8000) (hcap : 2 * nn ≤ cap) (hcap2 : cap ≤ 20000) :
    own_Ct l Z (⟨"java/lang/StringUTF16", "newBytesFor", "(I)[B"⟩ : MethodName) jdk_52_method_2_code 1 (some (.array .byte)) [] ({ frames := 1, locals := 12, cells := 1, slots := 0 + cap } : Room) #[(.int (Int32.ofNat nn))] h0 (fun v h => ∃ (b : Addr) (kb : ClassId), v = some (.ref b) ∧ b = h0.size ∧ Ext h0 h ∧ Arv Z h b kb .byte (Int32.ofNat (2 * nn)) [] (.int 0) ∧ Exa Z h b "[B") := by
  refine own_body (Ls := #[.val (.int (Int32.ofNat nn))]) (plainFor_of_name pn_java_lang_StringUTF16) (fun m => by first | (simp [entryFrame, mkF, argsToLocals, Value.category]; done) | rfl) O0 ?_
  intro p e s m below meth c T0 G K0
  refine own_iloadN K0 d_jdk_52_m2_0 rfl rfl ?_
  refine own_callS K0 (wd208 hw) (wd209 hw) (rm_newBytesLength hw hs K0.O hn) (wd210 hw) (wd116 hw) (by decide) (argsL := [(.int (Int32.ofNat nn))]) (rest := []) rfl pd_28I29I rfl rfl (W := 0) rfl (by first | decide | (dsimp only; omega)) (by first | decide | (dsimp only; omega)) (by first | decide | (dsimp only; omega)) (by first | decide | (dsimp only; omega)) d_jdk_52_m2_1 rfl ?_
  intro T34 h34 L34 v34 K34 q34
  obtain ⟨rfl, e34⟩ := q34
  have f34 := e34.symm
  subst f34
  show G (T34.setTop (mkF m 4 #[.val (.int (Int32.ofNat nn))] [(.int (Int32.ofNat (2 * nn)))]))
  refine own_newPB K34 (wd22 hw) d_jdk_52_m2_4 (own_nn (by omega)) (cap := cap) (by rw [own_clamp (by omega)]; exact hcap) (by omega) (by first | decide | (dsimp only; omega)) (by first | decide | (dsimp only; omega)) rfl ?_
  intro T35 h35 a35 c35 K35 g35 E35 V35 X35
  exact own_retA K35 d_jdk_52_m2_6 rfl rfl rfl rfl (by first | decide | (dsimp only; omega)) (by first | decide | (dsimp only; omega)) ⟨a35, c35, rfl, g35, E35, V35, X35⟩
theorem d_jdk_52_m4_0 : decode jdk_52_method_4_code 0 = .ok (.getstatic 44, 3) := by decide +kernel
theorem d_jdk_52_m4_3 : decode jdk_52_method_4_code 3 = .ok (.ifCond .ne 25, 3) := by decide +kernel
theorem d_jdk_52_m4_28 : decode jdk_52_method_4_code 28 = .ok (.iload_n 1, 1) := by decide +kernel
theorem d_jdk_52_m4_29 : decode jdk_52_method_4_code 29 = .ok (.iconst 1, 1) := by decide +kernel
theorem d_jdk_52_m4_30 : decode jdk_52_method_4_code 30 = .ok (.ishl, 1) := by decide +kernel
theorem d_jdk_52_m4_31 : decode jdk_52_method_4_code 31 = .ok (.istore_n 1, 1) := by decide +kernel
theorem d_jdk_52_m4_32 : decode jdk_52_method_4_code 32 = .ok (.aload_n 0, 1) := by decide +kernel
theorem d_jdk_52_m4_33 : decode jdk_52_method_4_code 33 = .ok (.iload_n 1, 1) := by decide +kernel
theorem d_jdk_52_m4_34 : decode jdk_52_method_4_code 34 = .ok (.iinc 1 1, 3) := by decide +kernel
theorem d_jdk_52_m4_37 : decode jdk_52_method_4_code 37 = .ok (.iload_n 2, 1) := by decide +kernel
theorem d_jdk_52_m4_38 : decode jdk_52_method_4_code 38 = .ok (.getstatic 59, 3) := by decide +kernel
theorem d_jdk_52_m4_41 : decode jdk_52_method_4_code 41 = .ok (.ishr, 1) := by decide +kernel
theorem d_jdk_52_m4_42 : decode jdk_52_method_4_code 42 = .ok (.i2b, 1) := by decide +kernel
theorem d_jdk_52_m4_43 : decode jdk_52_method_4_code 43 = .ok (.bastore, 1) := by decide +kernel
theorem d_jdk_52_m4_44 : decode jdk_52_method_4_code 44 = .ok (.aload_n 0, 1) := by decide +kernel
theorem d_jdk_52_m4_45 : decode jdk_52_method_4_code 45 = .ok (.iload_n 1, 1) := by decide +kernel
theorem d_jdk_52_m4_46 : decode jdk_52_method_4_code 46 = .ok (.iload_n 2, 1) := by decide +kernel
theorem d_jdk_52_m4_47 : decode jdk_52_method_4_code 47 = .ok (.getstatic 63, 3) := by decide +kernel
theorem d_jdk_52_m4_50 : decode jdk_52_method_4_code 50 = .ok (.ishr, 1) := by decide +kernel
theorem d_jdk_52_m4_51 : decode jdk_52_method_4_code 51 = .ok (.i2b, 1) := by decide +kernel
theorem d_jdk_52_m4_52 : decode jdk_52_method_4_code 52 = .ok (.bastore, 1) := by decide +kernel
theorem d_jdk_52_m4_53 : decode jdk_52_method_4_code 53 = .ok (.return_, 1) := by decide +kernel
set_option maxRecDepth 65536 in
set_option maxHeartbeats 40000000 in
theorem rm_putChar {l : Launch} {Z : State} {a0 : Array Value} (hw : ∀ d ∈ tables_1, d.before a0 Z = true) (hs : ∀ d ∈ jdkStatics_1, d.before a0 Z = true) {b : Addr} {kb : ClassId} {cs : List Int32} {nn : Nat} {y : Int32} {h0 : Heap} (O0 : Ext Z.heap h0) (V : Arv Z h0 b kb .byte (Int32.ofNat (2 * nn)) (own_by2 cs) (.int 0)) (hn : cs.length < nn ∧ nn ≤ 8000) (gb : Z.heap.size ≤ b) :
    own_Ct l Z (⟨"java/lang/StringUTF16", "putChar", "([BII)V"⟩ : MethodName) jdk_52_method_4_code 3 none [] ({ frames := 0, locals := 0, cells := 0, slots := 0 } : Room) #[(.ref b), (.int (Int32.ofNat cs.length)), (.int y)] h0 (fun v h => v = none ∧ Keep h0 h [b] ∧ Arv Z h b kb .byte (Int32.ofNat (2 * nn)) (own_by2 (cs ++ [y])) (.int 0)) := by
  refine own_body (Ls := #[.val (.ref b), .val (.int (Int32.ofNat cs.length)), .val (.int y)]) (plainFor_of_name pn_java_lang_StringUTF16) (fun m => by first | (simp [entryFrame, mkF, argsToLocals, Value.category]; done) | rfl) O0 ?_
  intro p e s m below meth c T0 G K0
  refine own_getS K0 (wd215 hw) Via.refl ((own_sta_assertionsDisabled hs).ext K0.O) d_jdk_52_m4_0 rfl ?_
  intro T36 K36
  refine own_ifYes K36 d_jdk_52_m4_3 (pc' := 28) (by decide) (by decide) ((if0 _ _).trans (feq (by decide)).2) ?_
  refine own_iloadN K36 d_jdk_52_m4_28 rfl rfl ?_
  refine own_iconst K36 (v := (1 : Int32)) d_jdk_52_m4_29 rfl rfl ?_
  refine own_ishl K36 d_jdk_52_m4_30 rfl ?_
  refine own_istoreN K36 (Ls' := #[.val (.ref b), .val (.int ((Int32.ofNat cs.length) <<< ((1 : Int32) &&& 31))), .val (.int y)]) d_jdk_52_m4_31 rfl rfl ?_
  rw [own_shl1 (by omega)]
  refine own_aloadN K36 d_jdk_52_m4_32 rfl rfl rfl ?_
  refine own_iloadN K36 d_jdk_52_m4_33 rfl rfl ?_
  refine own_iinc K36 (Ls' := #[.val (.ref b), .val (.int ((Int32.ofNat (2 * cs.length)) + (1 : Int32))), .val (.int y)]) (x := (Int32.ofNat (2 * cs.length))) (v := (Int32.ofNat (2 * cs.length))) d_jdk_52_m4_34 rfl rfl rfl ?_
  refine own_iloadN K36 d_jdk_52_m4_37 rfl rfl ?_
  refine own_getS K36 (wd216 hw) Via.refl ((own_sta_HI_BYTE_SHIFT hs).ext K36.O) d_jdk_52_m4_38 rfl ?_
  intro T37 K37
  refine own_ishr K37 d_jdk_52_m4_41 rfl ?_
  refine own_i2b K37 d_jdk_52_m4_42 rfl ?_
  rw [own_one]
  refine own_bastore K37 (V.pad (pad_rep _ _ 2)) ⟨own_nn (by omega), own_lt (by omega) (by omega)⟩ (2 * cs.length) (own_clamp (by omega)) (by rw [List.length_append, own_by2_len, List.length_replicate]; omega) (x' := (own_b0 y)) (own_nar_b0 y) gb d_jdk_52_m4_43 rfl ?_
  intro T38 h38 K38 W38 V38
  refine own_aloadN K38 d_jdk_52_m4_44 rfl rfl rfl ?_
  refine own_iloadN K38 d_jdk_52_m4_45 rfl rfl ?_
  refine own_iloadN K38 d_jdk_52_m4_46 rfl rfl ?_
  refine own_getS K38 (wd217 hw) Via.refl ((own_sta_LO_BYTE_SHIFT hs).ext K38.O) d_jdk_52_m4_47 rfl ?_
  intro T39 K39
  refine own_ishr K39 d_jdk_52_m4_50 rfl ?_
  refine own_i2b K39 d_jdk_52_m4_51 rfl ?_
  refine own_bastore K39 V38 ⟨own_nn (by omega), own_lt (by omega) (by omega)⟩ (2 * cs.length + 1) (own_clamp (by omega)) (by rw [List.length_set, List.length_append, own_by2_len, List.length_replicate]; omega) (x' := (own_b1 y)) (own_nar_b1 y) gb d_jdk_52_m4_52 rfl ?_
  intro T40 h40 K40 W40 V40
  exact own_ret0 K40 d_jdk_52_m4_53 rfl (by decide) (by decide) ⟨rfl, (Keep.of_wr W38).wr W40 (Or.inl (List.mem_singleton.mpr rfl)), by have q := V40; rw [← own_by2_len, own_set_end2] at q; rw [own_by2_app]; exact q⟩
theorem d_jdk_41_m13_0 : decode jdk_41_method_13_code 0 = .ok (.iload_n 2, 1) := by decide +kernel
theorem d_jdk_41_m13_1 : decode jdk_41_method_13_code 1 = .ok (.iload_n 0, 1) := by decide +kernel
theorem d_jdk_41_m13_2 : decode jdk_41_method_13_code 2 = .ok (.ior, 1) := by decide +kernel
theorem d_jdk_41_m13_3 : decode jdk_41_method_13_code 3 = .ok (.iload_n 1, 1) := by decide +kernel
theorem d_jdk_41_m13_4 : decode jdk_41_method_13_code 4 = .ok (.ior, 1) := by decide +kernel
theorem d_jdk_41_m13_5 : decode jdk_41_method_13_code 5 = .ok (.ifCond .lt 10, 3) := by decide +kernel
theorem d_jdk_41_m13_8 : decode jdk_41_method_13_code 8 = .ok (.iload_n 1, 1) := by decide +kernel
theorem d_jdk_41_m13_9 : decode jdk_41_method_13_code 9 = .ok (.iload_n 2, 1) := by decide +kernel
theorem d_jdk_41_m13_10 : decode jdk_41_method_13_code 10 = .ok (.iload_n 0, 1) := by decide +kernel
theorem d_jdk_41_m13_11 : decode jdk_41_method_13_code 11 = .ok (.isub, 1) := by decide +kernel
theorem d_jdk_41_m13_12 : decode jdk_41_method_13_code 12 = .ok (.if_icmp .le 11, 3) := by decide +kernel
theorem d_jdk_41_m13_23 : decode jdk_41_method_13_code 23 = .ok (.iload_n 0, 1) := by decide +kernel
theorem d_jdk_41_m13_24 : decode jdk_41_method_13_code 24 = .ok (.ireturn, 1) := by decide +kernel
set_option maxRecDepth 65536 in
set_option maxHeartbeats 40000000 in
theorem rm_checkFIS {l : Launch} {Z : State} {a0 : Array Value} (hw : ∀ d ∈ tables_1, d.before a0 Z = true) (hs : ∀ d ∈ jdkStatics_1, d.before a0 Z = true) {i : Nat} {k : Nat} {nn : Nat} {fm : Value} {h0 : Heap} (O0 : Ext Z.heap h0) (hfm : fm.isRef = true) (hi : i + k ≤ nn) (hn : nn ≤ 8000) :
    own_Ct l Z (⟨"jdk/internal/util/Preconditions", "checkFromIndexSize", "(IIILjava/util/function/BiFunction;)I"⟩ : MethodName) jdk_41_method_13_code 4 (some .int) [] ({ frames := 0, locals := 0, cells := 0, slots := 0 } : Room) #[(.int (Int32.ofNat i)), (.int (Int32.ofNat k)), (.int (Int32.ofNat nn)), fm] h0 (fun v h => v = some (.int (Int32.ofNat i)) ∧ h = h0) := by
  refine own_body (Ls := #[.val (.int (Int32.ofNat i)), .val (.int (Int32.ofNat k)), .val (.int (Int32.ofNat nn)), .val fm]) (plainFor_of_name pn_jdk_internal_util_Preconditions) (fun m => by first | (simp [entryFrame, mkF, argsToLocals, Value.category]; done) | rfl | (revert hfm; cases fm <;> intro hfm <;> first | (simp [Value.isRef] at hfm; done) | (simp [entryFrame, mkF, argsToLocals, Value.category]; done))) O0 ?_
  intro p e s m below meth c T0 G K0
  refine own_iloadN K0 d_jdk_41_m13_0 rfl rfl ?_
  refine own_iloadN K0 d_jdk_41_m13_1 rfl rfl ?_
  refine own_ior K0 d_jdk_41_m13_2 rfl ?_
  refine own_iloadN K0 d_jdk_41_m13_3 rfl rfl ?_
  refine own_ior K0 d_jdk_41_m13_4 rfl ?_
  refine own_ifNo K0 d_jdk_41_m13_5 rfl ((if0 _ _).trans (flt (own_orNN3 (by omega) (by omega) (by omega))).1) ?_
  refine own_iloadN K0 d_jdk_41_m13_8 rfl rfl ?_
  refine own_iloadN K0 d_jdk_41_m13_9 rfl rfl ?_
  refine own_iloadN K0 d_jdk_41_m13_10 rfl rfl ?_
  refine own_isub K0 d_jdk_41_m13_11 rfl ?_
  refine own_icmpYes K0 d_jdk_41_m13_12 (pc' := 23) (by decide) (by decide) (flt (by rw [own_subN (by omega)]; exact own_nlt (by omega) (by omega))).2.2.2 ?_
  refine own_iloadN K0 d_jdk_41_m13_23 rfl rfl ?_
  exact own_retI K0 d_jdk_41_m13_24 rfl (by decide) (by decide) ⟨rfl, rfl⟩
theorem d_jdk_42_m157_0 : decode jdk_42_method_157_code 0 = .ok (.iload_n 0, 1) := by decide +kernel
theorem d_jdk_42_m157_1 : decode jdk_42_method_157_code 1 = .ok (.iload_n 1, 1) := by decide +kernel
theorem d_jdk_42_m157_2 : decode jdk_42_method_157_code 2 = .ok (.iload_n 2, 1) := by decide +kernel
theorem d_jdk_42_m157_3 : decode jdk_42_method_157_code 3 = .ok (.getstatic 1053, 3) := by decide +kernel
theorem d_jdk_42_m157_6 : decode jdk_42_method_157_code 6 = .ok (.invokestatic 1065, 3) := by decide +kernel
theorem wd251 {a0 : Array Value} {Z : State} (hw : ∀ d ∈ tables_1, d.before a0 Z = true) : (Jvm.Cond.code ({ cls := "jdk/internal/util/Preconditions", name := "checkFromIndexSize", desc := "(IIILjava/util/function/BiFunction;)I" } : Jvm.MethodName) jdk_41_method_13_code (4 : Nat) (Option.some Jvm.ClassFile.FieldType.int)).before a0 Z = true := hw _ (List.mem_of_getElem? (i := 251) rfl)
theorem pd_28IIILjava2futil2ffunction2fBiFunction3b29I : parseMethodDescriptor "(IIILjava/util/function/BiFunction;)I" = some ⟨[.int, .int, .int, (.object "java/util/function/BiFunction")], some .int⟩ := by decide +kernel
theorem wd249 {a0 : Array Value} {Z : State} (hw : ∀ d ∈ tables_1, d.before a0 Z = true) : (Jvm.Cond.methodLink "java/lang/String" (1065 : Nat) ({ cls := "jdk/internal/util/Preconditions", name := "checkFromIndexSize", desc := "(IIILjava/util/function/BiFunction;)I" } : Jvm.MethodName)).before a0 Z = true := hw _ (List.mem_of_getElem? (i := 249) rfl)
theorem wd250 {a0 : Array Value} {Z : State} (hw : ∀ d ∈ tables_1, d.before a0 Z = true) : (Jvm.Cond.static ({ cls := "jdk/internal/util/Preconditions", name := "checkFromIndexSize", desc := "(IIILjava/util/function/BiFunction;)I" } : Jvm.MethodName)).before a0 Z = true := hw _ (List.mem_of_getElem? (i := 250) rfl)
theorem d_jdk_42_m157_9 : decode jdk_42_method_157_code 9 = .ok (.ireturn, 1) := by decide +kernel
set_option maxRecDepth 65536 in
set_option maxHeartbeats 40000000 in
theorem rm_checkBOC {l : Launch} {Z : State} {a0 : Array Value} (hw : ∀ d ∈ tables_1, d.before a0 Z = true) (hs : ∀ d ∈ jdkStatics_1, d.before a0 Z = true) {i : Nat} {k : Nat} {nn : Nat} {h0 : Heap} (O0 : Ext Z.heap h0) (hi : i + k ≤ nn) (hn : nn ≤ 8000) :
    own_Ct l Z (⟨"java/lang/String", "checkBoundsOffCount", "(III)I"⟩ : MethodName) jdk_42_method_157_code 3 (some .int) [] ({ frames := 1, locals := 15, cells := 0, slots := 0 } : Room) #[(.int (Int32.ofNat i)), (.int (Int32.ofNat k)), (.int (Int32.ofNat nn))] h0 (fun v h => v = some (.int (Int32.ofNat i)) ∧ h = h0) := by
  obtain ⟨fm, SFm, hfm⟩ := own_fmt hs
  refine own_body (Ls := #[.val (.int (Int32.ofNat i)), .val (.int (Int32.ofNat k)), .val (.int (Int32.ofNat nn))]) (plainFor_of_name pn_java_lang_String) (fun m => by first | (simp [entryFrame, mkF, argsToLocals, Value.category]; done) | rfl) O0 ?_
  intro p e s m below meth c T0 G K0
  refine own_iloadN K0 d_jdk_42_m157_0 rfl rfl ?_
  refine own_iloadN K0 d_jdk_42_m157_1 rfl rfl ?_
  refine own_iloadN K0 d_jdk_42_m157_2 rfl rfl ?_
  refine own_getS K0 (wd141 hw) Via.refl (SFm.ext K0.O) d_jdk_42_m157_3 rfl ?_
  intro T41 K41
  refine own_callS K41 (wd249 hw) (wd250 hw) (rm_checkFIS hw hs K41.O hfm hi hn) (wd251 hw) (wd142 hw) (by decide) (argsL := [(.int (Int32.ofNat i)), (.int (Int32.ofNat k)), (.int (Int32.ofNat nn)), fm]) (rest := []) rfl pd_28IIILjava2futil2ffunction2fBiFunction3b29I rfl rfl (W := 0) rfl (by decide) (by decide) (by decide) (by decide) d_jdk_42_m157_6 rfl ?_
  intro T42 h42 L42 v42 K42 q42
  obtain ⟨rfl, e42⟩ := q42
  have f42 := e42.symm
  subst f42
  show G (T42.setTop (mkF m 9 #[.val (.int (Int32.ofNat i)), .val (.int (Int32.ofNat k)), .val (.int (Int32.ofNat nn))] [(.int (Int32.ofNat i))]))
  exact own_retI K42 d_jdk_42_m157_9 rfl (by decide) (by decide) ⟨rfl, rfl⟩
theorem d_jdk_52_m94_0 : decode jdk_52_method_94_code 0 = .ok (.iload_n 0, 1) := by decide +kernel
theorem d_jdk_52_m94_1 : decode jdk_52_method_94_code 1 = .ok (.iload_n 1, 1) := by decide +kernel
theorem d_jdk_52_m94_2 : decode jdk_52_method_94_code 2 = .ok (.aload_n 2, 1) := by decide +kernel
theorem d_jdk_52_m94_3 : decode jdk_52_method_94_code 3 = .ok (.invokestatic 48, 3) := by decide +kernel
theorem d_jdk_52_m94_6 : decode jdk_52_method_94_code 6 = .ok (.invokestatic 419, 3) := by decide +kernel
theorem wd248 {a0 : Array Value} {Z : State} (hw : ∀ d ∈ tables_1, d.before a0 Z = true) : (Jvm.Cond.code ({ cls := "java/lang/String", name := "checkBoundsOffCount", desc := "(III)I" } : Jvm.MethodName) jdk_42_method_157_code (3 : Nat) (Option.some Jvm.ClassFile.FieldType.int)).before a0 Z = true := hw _ (List.mem_of_getElem? (i := 248) rfl)
theorem pd_28III29I : parseMethodDescriptor "(III)I" = some ⟨[.int, .int, .int], some .int⟩ := by decide +kernel
theorem wd246 {a0 : Array Value} {Z : State} (hw : ∀ d ∈ tables_1, d.before a0 Z = true) : (Jvm.Cond.methodLink "java/lang/StringUTF16" (419 : Nat) ({ cls := "java/lang/String", name := "checkBoundsOffCount", desc := "(III)I" } : Jvm.MethodName)).before a0 Z = true := hw _ (List.mem_of_getElem? (i := 246) rfl)
theorem wd247 {a0 : Array Value} {Z : State} (hw : ∀ d ∈ tables_1, d.before a0 Z = true) : (Jvm.Cond.static ({ cls := "java/lang/String", name := "checkBoundsOffCount", desc := "(III)I" } : Jvm.MethodName)).before a0 Z = true := hw _ (List.mem_of_getElem? (i := 247) rfl)
theorem d_jdk_52_m94_9 : decode jdk_52_method_94_code 9 = .ok (.pop, 1) := by decide +kernel
theorem d_jdk_52_m94_10 : decode jdk_52_method_94_code 10 = .ok (.return_, 1) := by decide +kernel
set_option maxRecDepth 65536 in
set_option maxHeartbeats 40000000 in
theorem rm_checkBOCU {l : Launch} {Z : State} {a0 : Array Value} (hw : ∀ d ∈ tables_1, d.before a0 Z = true) (hs : ∀ d ∈ jdkStatics_1, d.before a0 Z = true) {i : Nat} {k : Nat} {b : Addr} {kb : ClassId} {vs : List Value} {nn : Nat} {h0 : Heap} (O0 : Ext Z.heap h0) (V : Arv Z h0 b kb .byte (Int32.ofNat (2 * nn)) vs (.int 0)) (hi : i + k ≤ nn) (hn : nn ≤ 8000) :
    own_Ct l Z (⟨"java/lang/StringUTF16", "checkBoundsOffCount", "(II[B)V"⟩ : MethodName) jdk_52_method_94_code 3 none [] ({ frames := 2, locals := 29, cells := 0, slots := 0 } : Room) #[(.int (Int32.ofNat i)), (.int (Int32.ofNat k)), (.ref b)] h0 (fun v h => v = none ∧ h = h0) := by
  refine own_body (Ls := #[.val (.int (Int32.ofNat i)), .val (.int (Int32.ofNat k)), .val (.ref b)]) (plainFor_of_name pn_java_lang_StringUTF16) (fun m => by first | (simp [entryFrame, mkF, argsToLocals, Value.category]; done) | rfl) O0 ?_
  intro p e s m below meth c T0 G K0
  refine own_iloadN K0 d_jdk_52_m94_0 rfl rfl ?_
  refine own_iloadN K0 d_jdk_52_m94_1 rfl rfl ?_
  refine own_aloadN K0 d_jdk_52_m94_2 rfl rfl rfl ?_
  refine own_callS K0 (wd227 hw) (wd228 hw) (rm_lengthU hw hs K0.O V hn) (wd229 hw) (wd116 hw) (by decide) (argsL := [(.ref b)]) (rest := [(.int (Int32.ofNat k)), (.int (Int32.ofNat i))]) rfl pd_285bB29I rfl rfl (W := 2) rfl (by decide) (by decide) (by decide) (by decide) d_jdk_52_m94_3 rfl ?_
  intro T43 h43 L43 v43 K43 q43
  obtain ⟨rfl, e43⟩ := q43
  have f43 := e43.symm
  subst f43
  show G (T43.setTop (mkF m 6 #[.val (.int (Int32.ofNat i)), .val (.int (Int32.ofNat k)), .val (.ref b)] [(.int (Int32.ofNat nn)), (.int (Int32.ofNat k)), (.int (Int32.ofNat i))]))
  refine own_callS K43 (wd246 hw) (wd247 hw) (rm_checkBOC hw hs K43.O hi hn) (wd248 hw) (wd10 hw) (by decide) (argsL := [(.int (Int32.ofNat i)), (.int (Int32.ofNat k)), (.int (Int32.ofNat nn))]) (rest := []) rfl pd_28III29I rfl rfl (W := 0) rfl (by decide) (by decide) (by decide) (by decide) d_jdk_52_m94_6 rfl ?_
  intro T44 h44 L44 v44 K44 q44
  obtain ⟨rfl, e44⟩ := q44
  have f44 := e44.symm
  subst f44
  show G (T44.setTop (mkF m 9 #[.val (.int (Int32.ofNat i)), .val (.int (Int32.ofNat k)), .val (.ref b)] [(.int (Int32.ofNat i))]))
  refine own_pop K44 d_jdk_52_m94_9 rfl rfl ?_
  exact own_ret0 K44 d_jdk_52_m94_10 rfl (by decide) (by decide) ⟨rfl, rfl⟩
theorem d_jdk_52_m86_10 : decode jdk_52_method_86_code 10 = .ok (.iload 5, 2) := by decide +kernel
theorem d_jdk_52_m86_12 : decode jdk_52_method_86_code 12 = .ok (.iload 4, 2) := by decide +kernel
theorem d_jdk_52_m86_14 : decode jdk_52_method_86_code 14 = .ok (.if_icmp .ge 27, 3) := by decide +kernel
theorem d_jdk_52_m86_17 : decode jdk_52_method_86_code 17 = .ok (.aload_n 2, 1) := by decide +kernel
theorem d_jdk_52_m86_18 : decode jdk_52_method_86_code 18 = .ok (.iload_n 3, 1) := by decide +kernel
theorem d_jdk_52_m86_19 : decode jdk_52_method_86_code 19 = .ok (.iinc 3 1, 3) := by decide +kernel
theorem d_jdk_52_m86_22 : decode jdk_52_method_86_code 22 = .ok (.aload_n 0, 1) := by decide +kernel
theorem d_jdk_52_m86_23 : decode jdk_52_method_86_code 23 = .ok (.iload_n 1, 1) := by decide +kernel
theorem d_jdk_52_m86_24 : decode jdk_52_method_86_code 24 = .ok (.iinc 1 1, 3) := by decide +kernel
theorem d_jdk_52_m86_27 : decode jdk_52_method_86_code 27 = .ok (.baload, 1) := by decide +kernel
theorem d_jdk_52_m86_28 : decode jdk_52_method_86_code 28 = .ok (.sipush 255, 3) := by decide +kernel
theorem d_jdk_52_m86_31 : decode jdk_52_method_86_code 31 = .ok (.iand, 1) := by decide +kernel
theorem d_jdk_52_m86_32 : decode jdk_52_method_86_code 32 = .ok (.invokestatic 111, 3) := by decide +kernel
theorem wd214 {a0 : Array Value} {Z : State} (hw : ∀ d ∈ tables_1, d.before a0 Z = true) : (Jvm.Cond.code ({ cls := "java/lang/StringUTF16", name := "putChar", desc := "([BII)V" } : Jvm.MethodName) jdk_52_method_4_code (3 : Nat) (Option.none : Option Jvm.ClassFile.FieldType)).before a0 Z = true := hw _ (List.mem_of_getElem? (i := 214) rfl)
theorem pd_285bBII29V : parseMethodDescriptor "([BII)V" = some ⟨[(.array .byte), .int, .int], none⟩ := by decide +kernel
theorem wd212 {a0 : Array Value} {Z : State} (hw : ∀ d ∈ tables_1, d.before a0 Z = true) : (Jvm.Cond.methodLink "java/lang/StringUTF16" (111 : Nat) ({ cls := "java/lang/StringUTF16", name := "putChar", desc := "([BII)V" } : Jvm.MethodName)).before a0 Z = true := hw _ (List.mem_of_getElem? (i := 212) rfl)
theorem wd213 {a0 : Array Value} {Z : State} (hw : ∀ d ∈ tables_1, d.before a0 Z = true) : (Jvm.Cond.static ({ cls := "java/lang/StringUTF16", name := "putChar", desc := "([BII)V" } : Jvm.MethodName)).before a0 Z = true := hw _ (List.mem_of_getElem? (i := 213) rfl)
theorem d_jdk_52_m86_35 : decode jdk_52_method_86_code 35 = .ok (.iinc 5 1, 3) := by decide +kernel
theorem d_jdk_52_m86_38 : decode jdk_52_method_86_code 38 = .ok (.goto (-28), 3) := by decide +kernel
section Lp
variable {p : Program} {l : Launch} {e : Env} {R : Room} {s : State} {m : MethodId} {args : Array Value} {below : List Frame} {meth : Method} {c : Code} {nm : String} {ret : Option FieldType} {Q : Option Value → Heap → Prop} {G : State → Prop} {Z T : State} {L : List Loc} {k n : Nat} {h h0 : Heap} {a0 : Array Value}
set_option maxRecDepth 65536 in
set_option maxHeartbeats 40000000 in
theorem lp_inflate (hw : ∀ d ∈ tables_1, d.before a0 Z = true) (hs : ∀ d ∈ jdkStatics_1, d.before a0 Z = true) (hRf : 1 ≤ R.frames) (hRl : 40 ≤ R.locals) (hRc : k ≤ R.cells) (hRs : n ≤ R.slots) {a : Addr} {ka : ClassId} {ds : List Int32} {M : Nat} {b : Addr} {kb : ClassId} {cs : List Int32} {nn : Nat} (A : Arv Z h0 a ka .byte (Int32.ofNat M) (own_by ds) (.int 0)) (hM : ds.length ≤ M ∧ M ≤ 8000) (hab : a ∉ [b]) (gb : Z.heap.size ≤ b) (hok : own_ok false ds) (hnn : cs.length + ds.length ≤ nn ∧ nn ≤ 8000)
    (ex : ∀ (T' : State) (L' : List Loc) (h' : Heap), own_K p l e R s m args below meth c jdk_52_method_86_code "java/lang/StringUTF16" nm 6 ret Q G Z T' L' k n h' → Keep h0 h' [b] ∧ Arv Z h' b kb .byte (Int32.ofNat (2 * nn)) (own_by2 (cs ++ ds)) (.int 0) → ∀ (x1 x3 x5 : Int32), G (T'.setTop (mkF m 41 #[.val (.ref a), .val (.int x1), .val (.ref b), .val (.int x3), .val (.int (Int32.ofNat ds.length)), .val (.int x5)] [])))
    (j : Nat) : ∀ (i : Nat), i + j = ds.length → ∀ {T : State} {L : List Loc} {h : Heap} , own_K p l e R s m args below meth c jdk_52_method_86_code "java/lang/StringUTF16" nm 6 ret Q G Z T L k n h → Keep h0 h [b] → Arv Z h b kb .byte (Int32.ofNat (2 * nn)) (own_by2 (cs ++ ds.take i)) (.int 0) → G (T.setTop (mkF m 10 #[.val (.ref a), .val (.int (Int32.ofNat i)), .val (.ref b), .val (.int (Int32.ofNat (cs.length + i))), .val (.int (Int32.ofNat ds.length)), .val (.int (Int32.ofNat i))] [])) := by
  induction j with
  | zero =>
    intro i hij T L h  K Kp V 
    refine own_iload K d_jdk_52_m86_10 rfl rfl ?_
    refine own_iload K d_jdk_52_m86_12 rfl rfl ?_
    refine own_icmpYes K d_jdk_52_m86_14 (pc' := 41) (by decide) (by decide) (flt (own_nlt (by omega) (by omega))).2.1 ?_
    exact ex _ _ _ K ⟨Kp, by rw [List.take_of_length_le (by omega)] at V; exact V⟩ _ _ _
  | succ j ih =>
    intro i hij T L h  K Kp V 
    have hin : i < ds.length := by omega
    refine own_iload K d_jdk_52_m86_10 rfl rfl ?_
    refine own_iload K d_jdk_52_m86_12 rfl rfl ?_
    refine own_icmpNo K d_jdk_52_m86_14 rfl (tlt (own_lt hin (by omega))).2.1 ?_
    refine own_aloadN K d_jdk_52_m86_17 rfl rfl rfl ?_
    refine own_iloadN K d_jdk_52_m86_18 rfl rfl ?_
    refine own_iinc K (Ls' := #[.val (.ref a), .val (.int (Int32.ofNat i)), .val (.ref b), .val (.int ((Int32.ofNat (cs.length + i)) + (1 : Int32))), .val (.int (Int32.ofNat ds.length)), .val (.int (Int32.ofNat i))]) (x := (Int32.ofNat (cs.length + i))) (v := (Int32.ofNat (cs.length + i))) d_jdk_52_m86_19 rfl rfl rfl ?_
    refine own_aloadN K d_jdk_52_m86_22 rfl rfl rfl ?_
    refine own_iloadN K d_jdk_52_m86_23 rfl rfl ?_
    refine own_iinc K (Ls' := #[.val (.ref a), .val (.int ((Int32.ofNat i) + (1 : Int32))), .val (.ref b), .val (.int ((Int32.ofNat (cs.length + i)) + (1 : Int32))), .val (.int (Int32.ofNat ds.length)), .val (.int (Int32.ofNat i))]) (x := (Int32.ofNat i)) (v := (Int32.ofNat i)) d_jdk_52_m86_24 rfl rfl rfl ?_
    simp only [own_one]
    refine own_baload K (x := (ds[i]).toInt8.toInt32) (A.keep Kp hab) ⟨own_nn (by omega), own_lt (by omega) (by omega)⟩ (by rw [own_clamp (by omega)]; exact own_by_get ds i hin) d_jdk_52_m86_27 rfl ?_
    refine own_sipush K (v := (255 : Int32)) d_jdk_52_m86_28 rfl rfl ?_
    refine own_iand K d_jdk_52_m86_31 rfl ?_
    have ht : cs.length + i = (cs ++ ds.take i).length := by rw [List.length_append, List.length_take]; omega
    rw [own_rd1 (hok _ (List.getElem_mem hin))]
    refine Eq.mp (congrArg (fun z => G (T.setTop (mkF m 32 #[.val (.ref a), .val (.int (Int32.ofNat (i + 1))), .val (.ref b), .val (.int (Int32.ofNat (cs.length + i + 1))), .val (.int (Int32.ofNat ds.length)), .val (.int (Int32.ofNat i))] [.int ds[i], .int (Int32.ofNat z), .ref b]))) ht.symm) ?_
    refine own_callS K (wd212 hw) (wd213 hw) (rm_putChar hw hs (y := ds[i]) K.O V ⟨by omega, by omega⟩ gb) (wd214 hw) (wd116 hw) (by decide) (argsL := [(.ref b), (.int (Int32.ofNat (cs ++ ds.take i).length)), (.int ds[i])]) (rest := []) rfl pd_285bBII29V rfl rfl (W := 0) rfl (by first | decide | (dsimp only; omega)) (by first | decide | (dsimp only; omega)) (by first | decide | (dsimp only; omega)) (by first | decide | (dsimp only; omega)) d_jdk_52_m86_32 rfl ?_
    intro T45 h45 L45 v45 K45 q45
    obtain ⟨rfl, Kq45, Vq45⟩ := q45
    show G (T45.setTop (mkF m 35 #[.val (.ref a), .val (.int (Int32.ofNat (i + 1))), .val (.ref b), .val (.int (Int32.ofNat (cs.length + i + 1))), .val (.int (Int32.ofNat ds.length)), .val (.int (Int32.ofNat i))] []))
    refine own_iinc K45 (Ls' := #[.val (.ref a), .val (.int (Int32.ofNat (i + 1))), .val (.ref b), .val (.int (Int32.ofNat (cs.length + i + 1))), .val (.int (Int32.ofNat ds.length)), .val (.int ((Int32.ofNat i) + (1 : Int32)))]) (x := (Int32.ofNat i)) (v := (Int32.ofNat i)) d_jdk_52_m86_35 rfl rfl rfl ?_
    refine own_goto K45 d_jdk_52_m86_38 (pc' := 10) (by decide) (by decide) ?_
    simp only [own_one]
    exact ih (i + 1) (by omega) K45 (Kp.trans Kq45 (fun x hx => Or.inl hx)) (by rw [List.take_add_one, List.getElem?_eq_getElem hin, ← List.append_assoc]; exact Vq45)
end Lp
theorem d_jdk_52_m86_0 : decode jdk_52_method_86_code 0 = .ok (.iload_n 3, 1) := by decide +kernel
theorem d_jdk_52_m86_1 : decode jdk_52_method_86_code 1 = .ok (.iload 4, 2) := by decide +kernel
theorem d_jdk_52_m86_3 : decode jdk_52_method_86_code 3 = .ok (.aload_n 2, 1) := by decide +kernel
theorem d_jdk_52_m86_4 : decode jdk_52_method_86_code 4 = .ok (.invokestatic 173, 3) := by decide +kernel
theorem wd245 {a0 : Array Value} {Z : State} (hw : ∀ d ∈ tables_1, d.before a0 Z = true) : (Jvm.Cond.code ({ cls := "java/lang/StringUTF16", name := "checkBoundsOffCount", desc := "(II[B)V" } : Jvm.MethodName) jdk_52_method_94_code (3 : Nat) (Option.none : Option Jvm.ClassFile.FieldType)).before a0 Z = true := hw _ (List.mem_of_getElem? (i := 245) rfl)
theorem pd_28II5bB29V : parseMethodDescriptor "(II[B)V" = some ⟨[.int, .int, (.array .byte)], none⟩ := by decide +kernel
theorem wd243 {a0 : Array Value} {Z : State} (hw : ∀ d ∈ tables_1, d.before a0 Z = true) : (Jvm.Cond.methodLink "java/lang/StringUTF16" (173 : Nat) ({ cls := "java/lang/StringUTF16", name := "checkBoundsOffCount", desc := "(II[B)V" } : Jvm.MethodName)).before a0 Z = true := hw _ (List.mem_of_getElem? (i := 243) rfl)
theorem wd244 {a0 : Array Value} {Z : State} (hw : ∀ d ∈ tables_1, d.before a0 Z = true) : (Jvm.Cond.static ({ cls := "java/lang/StringUTF16", name := "checkBoundsOffCount", desc := "(II[B)V" } : Jvm.MethodName)).before a0 Z = true := hw _ (List.mem_of_getElem? (i := 244) rfl)
theorem d_jdk_52_m86_7 : decode jdk_52_method_86_code 7 = .ok (.iconst 0, 1) := by decide +kernel
theorem d_jdk_52_m86_8 : decode jdk_52_method_86_code 8 = .ok (.istore 5, 2) := by decide +kernel
theorem d_jdk_52_m86_41 : decode jdk_52_method_86_code 41 = .ok (.return_, 1) := by decide +kernel
set_option maxRecDepth 65536 in
set_option maxHeartbeats 40000000 in
theorem rm_inflateU {l : Launch} {Z : State} {a0 : Array Value} (hw : ∀ d ∈ tables_1, d.before a0 Z = true) (hs : ∀ d ∈ jdkStatics_1, d.before a0 Z = true) {a : Addr} {ka : ClassId} {ds : List Int32} {M : Nat} {b : Addr} {kb : ClassId} {cs : List Int32} {nn : Nat} {h0 : Heap} (O0 : Ext Z.heap h0) (A : Arv Z h0 a ka .byte (Int32.ofNat M) (own_by ds) (.int 0)) (V : Arv Z h0 b kb .byte (Int32.ofNat (2 * nn)) (own_by2 cs) (.int 0)) (hM : ds.length ≤ M ∧ M ≤ 8000) (hab : a ∉ [b]) (gb : Z.heap.size ≤ b) (hok : own_ok false ds) (hnn : cs.length + ds.length ≤ nn ∧ nn ≤ 8000) :
    own_Ct l Z (⟨"java/lang/StringUTF16", "inflate", "([BI[BII)V"⟩ : MethodName) jdk_52_method_86_code 6 none [] ({ frames := 3, locals := 43, cells := 0, slots := 0 } : Room) #[(.ref a), (.int 0), (.ref b), (.int (Int32.ofNat cs.length)), (.int (Int32.ofNat ds.length))] h0 (fun v h => v = none ∧ Keep h0 h [b] ∧ Arv Z h b kb .byte (Int32.ofNat (2 * nn)) (own_by2 (cs ++ ds)) (.int 0)) := by
  refine own_body (Ls := #[.val (.ref a), .val (.int 0), .val (.ref b), .val (.int (Int32.ofNat cs.length)), .val (.int (Int32.ofNat ds.length)), .unset]) (plainFor_of_name pn_java_lang_StringUTF16) (fun m => by first | (simp [entryFrame, mkF, argsToLocals, Value.category]; done) | rfl) O0 ?_
  intro p e s m below meth c T0 G K0
  refine own_iloadN K0 d_jdk_52_m86_0 rfl rfl ?_
  refine own_iload K0 d_jdk_52_m86_1 rfl rfl ?_
  refine own_aloadN K0 d_jdk_52_m86_3 rfl rfl rfl ?_
  refine own_callS K0 (wd243 hw) (wd244 hw) (rm_checkBOCU hw hs K0.O V (by omega) (by omega)) (wd245 hw) (wd116 hw) (by decide) (argsL := [(.int (Int32.ofNat cs.length)), (.int (Int32.ofNat ds.length)), (.ref b)]) (rest := []) rfl pd_28II5bB29V rfl rfl (W := 0) rfl (by decide) (by decide) (by decide) (by decide) d_jdk_52_m86_4 rfl ?_
  intro T46 h46 L46 v46 K46 q46
  obtain ⟨rfl, e46⟩ := q46
  have f46 := e46.symm
  subst f46
  show G (T46.setTop (mkF m 7 #[.val (.ref a), .val (.int 0), .val (.ref b), .val (.int (Int32.ofNat cs.length)), .val (.int (Int32.ofNat ds.length)), .unset] []))
  refine own_iconst K46 (v := (0 : Int32)) d_jdk_52_m86_7 rfl rfl ?_
  refine own_istore K46 (Ls' := #[.val (.ref a), .val (.int 0), .val (.ref b), .val (.int (Int32.ofNat cs.length)), .val (.int (Int32.ofNat ds.length)), .val (.int (0 : Int32))]) d_jdk_52_m86_8 rfl rfl ?_
  refine lp_inflate hw hs (by first | decide | (dsimp only; omega)) (by first | decide | (dsimp only; omega)) (by first | decide | (dsimp only; omega)) (by first | decide | (dsimp only; omega)) A hM hab gb hok hnn (fun T1 L1 h1 K1 q1 x1 x3 x5 => ?_) ds.length 0 (Nat.zero_add _) K46 (Keep.refl _ _) (by rw [List.take_zero, List.append_nil]; exact V)
  exact own_ret0 K1 d_jdk_52_m86_41 rfl (by decide) (by decide) ⟨rfl, q1.1, q1.2⟩
theorem d_jdk_43_m50_0 : decode jdk_43_method_50_code 0 = .ok (.aload_n 0, 1) := by decide +kernel
theorem d_jdk_43_m50_1 : decode jdk_43_method_50_code 1 = .ok (.iload_n 1, 1) := by decide +kernel
theorem d_jdk_43_m50_2 : decode jdk_43_method_50_code 2 = .ok (.aload_n 2, 1) := by decide +kernel
theorem d_jdk_43_m50_3 : decode jdk_43_method_50_code 3 = .ok (.iload_n 3, 1) := by decide +kernel
theorem d_jdk_43_m50_4 : decode jdk_43_method_50_code 4 = .ok (.iload 4, 2) := by decide +kernel
theorem d_jdk_43_m50_6 : decode jdk_43_method_50_code 6 = .ok (.invokestatic 240, 3) := by decide +kernel
theorem wd242 {a0 : Array Value} {Z : State} (hw : ∀ d ∈ tables_1, d.before a0 Z = true) : (Jvm.Cond.code ({ cls := "java/lang/StringUTF16", name := "inflate", desc := "([BI[BII)V" } : Jvm.MethodName) jdk_52_method_86_code (6 : Nat) (Option.none : Option Jvm.ClassFile.FieldType)).before a0 Z = true := hw _ (List.mem_of_getElem? (i := 242) rfl)
theorem pd_285bBI5bBII29V : parseMethodDescriptor "([BI[BII)V" = some ⟨[(.array .byte), .int, (.array .byte), .int, .int], none⟩ := by decide +kernel
theorem wd240 {a0 : Array Value} {Z : State} (hw : ∀ d ∈ tables_1, d.before a0 Z = true) : (Jvm.Cond.methodLink "java/lang/StringLatin1" (240 : Nat) ({ cls := "java/lang/StringUTF16", name := "inflate", desc := "([BI[BII)V" } : Jvm.MethodName)).before a0 Z = true := hw _ (List.mem_of_getElem? (i := 240) rfl)
theorem wd241 {a0 : Array Value} {Z : State} (hw : ∀ d ∈ tables_1, d.before a0 Z = true) : (Jvm.Cond.static ({ cls := "java/lang/StringUTF16", name := "inflate", desc := "([BI[BII)V" } : Jvm.MethodName)).before a0 Z = true := hw _ (List.mem_of_getElem? (i := 241) rfl)
theorem d_jdk_43_m50_9 : decode jdk_43_method_50_code 9 = .ok (.return_, 1) := by decide +kernel
set_option maxRecDepth 65536 in
set_option maxHeartbeats 40000000 in
theorem rm_inflateL {l : Launch} {Z : State} {a0 : Array Value} (hw : ∀ d ∈ tables_1, d.before a0 Z = true) (hs : ∀ d ∈ jdkStatics_1, d.before a0 Z = true) {a : Addr} {ka : ClassId} {ds : List Int32} {M : Nat} {b : Addr} {kb : ClassId} {cs : List Int32} {nn : Nat} {h0 : Heap} (O0 : Ext Z.heap h0) (A : Arv Z h0 a ka .byte (Int32.ofNat M) (own_by ds) (.int 0)) (V : Arv Z h0 b kb .byte (Int32.ofNat (2 * nn)) (own_by2 cs) (.int 0)) (hM : ds.length ≤ M ∧ M ≤ 8000) (hab : a ∉ [b]) (gb : Z.heap.size ≤ b) (hok : own_ok false ds) (hnn : cs.length + ds.length ≤ nn ∧ nn ≤ 8000) :
    own_Ct l Z (⟨"java/lang/StringLatin1", "inflate", "([BI[BII)V"⟩ : MethodName) jdk_43_method_50_code 5 none [] ({ frames := 4, locals := 60, cells := 0, slots := 0 } : Room) #[(.ref a), (.int 0), (.ref b), (.int (Int32.ofNat cs.length)), (.int (Int32.ofNat ds.length))] h0 (fun v h => v = none ∧ Keep h0 h [b] ∧ Arv Z h b kb .byte (Int32.ofNat (2 * nn)) (own_by2 (cs ++ ds)) (.int 0)) := by
  refine own_body (Ls := #[.val (.ref a), .val (.int 0), .val (.ref b), .val (.int (Int32.ofNat cs.length)), .val (.int (Int32.ofNat ds.length))]) (plainFor_of_name pn_java_lang_StringLatin1) (fun m => by first | (simp [entryFrame, mkF, argsToLocals, Value.category]; done) | rfl) O0 ?_
  intro p e s m below meth c T0 G K0
  refine own_aloadN K0 d_jdk_43_m50_0 rfl rfl rfl ?_
  refine own_iloadN K0 d_jdk_43_m50_1 rfl rfl ?_
  refine own_aloadN K0 d_jdk_43_m50_2 rfl rfl rfl ?_
  refine own_iloadN K0 d_jdk_43_m50_3 rfl rfl ?_
  refine own_iload K0 d_jdk_43_m50_4 rfl rfl ?_
  refine own_callS K0 (wd240 hw) (wd241 hw) (rm_inflateU hw hs K0.O A V hM hab gb hok hnn) (wd242 hw) (wd116 hw) (by decide) (argsL := [(.ref a), (.int 0), (.ref b), (.int (Int32.ofNat cs.length)), (.int (Int32.ofNat ds.length))]) (rest := []) rfl pd_285bBI5bBII29V rfl rfl (W := 0) rfl (by decide) (by decide) (by decide) (by decide) d_jdk_43_m50_6 rfl ?_
  intro T47 h47 L47 v47 K47 q47
  obtain ⟨rfl, Kp47, V47⟩ := q47
  show G (T47.setTop (mkF m 9 #[.val (.ref a), .val (.int 0), .val (.ref b), .val (.int (Int32.ofNat cs.length)), .val (.int (Int32.ofNat ds.length))] []))
  exact own_ret0 K47 d_jdk_43_m50_9 rfl (by decide) (by decide) ⟨rfl, Kp47, V47⟩
theorem d_jdk_68_m11_0 : decode jdk_68_method_11_code 0 = .ok (.aload_n 0, 1) := by decide +kernel
theorem d_jdk_68_m11_1 : decode jdk_68_method_11_code 1 = .ok (.invokevirtual 83, 3) := by decide +kernel
theorem wd94 {a0 : Array Value} {Z : State} (hw : ∀ d ∈ tables_1, d.before a0 Z = true) : (Jvm.Cond.code ({ cls := "java/lang/AbstractStringBuilder", name := "isLatin1", desc := "()Z" } : Jvm.MethodName) jdk_68_method_68_code (1 : Nat) (Option.some Jvm.ClassFile.FieldType.boolean)).before a0 Z = true := hw _ (List.mem_of_getElem? (i := 94) rfl)
theorem wd77 {a0 : Array Value} {Z : State} (hw : ∀ d ∈ tables_1, d.before a0 Z = true) : (Jvm.Cond.selects "java/lang/StringBuilder" ({ cls := "java/lang/AbstractStringBuilder", name := "getValue", desc := "()[B" } : Jvm.MethodName) ({ cls := "java/lang/AbstractStringBuilder", name := "getValue", desc := "()[B" } : Jvm.MethodName)).before a0 Z = true := hw _ (List.mem_of_getElem? (i := 77) rfl)
theorem wd160 {a0 : Array Value} {Z : State} (hw : ∀ d ∈ tables_1, d.before a0 Z = true) : (Jvm.Cond.methodLink "java/lang/AbstractStringBuilder" (83 : Nat) ({ cls := "java/lang/AbstractStringBuilder", name := "isLatin1", desc := "()Z" } : Jvm.MethodName)).before a0 Z = true := hw _ (List.mem_of_getElem? (i := 160) rfl)
theorem wd91 {a0 : Array Value} {Z : State} (hw : ∀ d ∈ tables_1, d.before a0 Z = true) : (Jvm.Cond.declares ({ cls := "java/lang/AbstractStringBuilder", name := "isLatin1", desc := "()Z" } : Jvm.MethodName)).before a0 Z = true := hw _ (List.mem_of_getElem? (i := 91) rfl)
theorem wd93 {a0 : Array Value} {Z : State} (hw : ∀ d ∈ tables_1, d.before a0 Z = true) : (Jvm.Cond.selects "java/lang/StringBuilder" ({ cls := "java/lang/AbstractStringBuilder", name := "isLatin1", desc := "()Z" } : Jvm.MethodName) ({ cls := "java/lang/AbstractStringBuilder", name := "isLatin1", desc := "()Z" } : Jvm.MethodName)).before a0 Z = true := hw _ (List.mem_of_getElem? (i := 93) rfl)
theorem wd92 {a0 : Array Value} {Z : State} (hw : ∀ d ∈ tables_1, d.before a0 Z = true) : (Jvm.Cond.instanceMethod ({ cls := "java/lang/AbstractStringBuilder", name := "isLatin1", desc := "()Z" } : Jvm.MethodName)).before a0 Z = true := hw _ (List.mem_of_getElem? (i := 92) rfl)
theorem d_jdk_68_m11_4 : decode jdk_68_method_11_code 4 = .ok (.ifCond .ne 4, 3) := by decide +kernel
theorem d_jdk_68_m11_7 : decode jdk_68_method_11_code 7 = .ok (.return_, 1) := by decide +kernel
theorem d_jdk_68_m11_8 : decode jdk_68_method_11_code 8 = .ok (.aload_n 0, 1) := by decide +kernel
theorem d_jdk_68_m11_9 : decode jdk_68_method_11_code 9 = .ok (.getfield 15, 3) := by decide +kernel
theorem d_jdk_68_m11_12 : decode jdk_68_method_11_code 12 = .ok (.arraylength, 1) := by decide +kernel
theorem d_jdk_68_m11_13 : decode jdk_68_method_11_code 13 = .ok (.invokestatic 26, 3) := by decide +kernel
theorem wd207 {a0 : Array Value} {Z : State} (hw : ∀ d ∈ tables_1, d.before a0 Z = true) : (Jvm.Cond.code ({ cls := "java/lang/StringUTF16", name := "newBytesFor", desc := "(I)[B" } : Jvm.MethodName) jdk_52_method_2_code (1 : Nat) (Option.some (Jvm.ClassFile.FieldType.array Jvm.ClassFile.FieldType.byte))).before a0 Z = true := hw _ (List.mem_of_getElem? (i := 207) rfl)
theorem pd_28I295bB : parseMethodDescriptor "(I)[B" = some ⟨[.int], some (.array .byte)⟩ := by decide +kernel
theorem wd236 {a0 : Array Value} {Z : State} (hw : ∀ d ∈ tables_1, d.before a0 Z = true) : (Jvm.Cond.methodLink "java/lang/AbstractStringBuilder" (26 : Nat) ({ cls := "java/lang/StringUTF16", name := "newBytesFor", desc := "(I)[B" } : Jvm.MethodName)).before a0 Z = true := hw _ (List.mem_of_getElem? (i := 236) rfl)
theorem wd206 {a0 : Array Value} {Z : State} (hw : ∀ d ∈ tables_1, d.before a0 Z = true) : (Jvm.Cond.static ({ cls := "java/lang/StringUTF16", name := "newBytesFor", desc := "(I)[B" } : Jvm.MethodName)).before a0 Z = true := hw _ (List.mem_of_getElem? (i := 206) rfl)
theorem d_jdk_68_m11_16 : decode jdk_68_method_11_code 16 = .ok (.astore_n 1, 1) := by decide +kernel
theorem d_jdk_68_m11_17 : decode jdk_68_method_11_code 17 = .ok (.aload_n 0, 1) := by decide +kernel
theorem d_jdk_68_m11_18 : decode jdk_68_method_11_code 18 = .ok (.getfield 15, 3) := by decide +kernel
theorem d_jdk_68_m11_21 : decode jdk_68_method_11_code 21 = .ok (.iconst 0, 1) := by decide +kernel
theorem d_jdk_68_m11_22 : decode jdk_68_method_11_code 22 = .ok (.aload_n 1, 1) := by decide +kernel
theorem d_jdk_68_m11_23 : decode jdk_68_method_11_code 23 = .ok (.iconst 0, 1) := by decide +kernel
theorem d_jdk_68_m11_24 : decode jdk_68_method_11_code 24 = .ok (.aload_n 0, 1) := by decide +kernel
theorem wd88 {a0 : Array Value} {Z : State} (hw : ∀ d ∈ tables_1, d.before a0 Z = true) : (Jvm.Cond.fieldLink "java/lang/AbstractStringBuilder" (79 : Nat) "java/lang/AbstractStringBuilder" "count" "I").before a0 Z = true := hw _ (List.mem_of_getElem? (i := 88) rfl)
theorem d_jdk_68_m11_25 : decode jdk_68_method_11_code 25 = .ok (.getfield 79, 3) := by decide +kernel
theorem d_jdk_68_m11_28 : decode jdk_68_method_11_code 28 = .ok (.invokestatic 125, 3) := by decide +kernel
theorem wd239 {a0 : Array Value} {Z : State} (hw : ∀ d ∈ tables_1, d.before a0 Z = true) : (Jvm.Cond.code ({ cls := "java/lang/StringLatin1", name := "inflate", desc := "([BI[BII)V" } : Jvm.MethodName) jdk_43_method_50_code (5 : Nat) (Option.none : Option Jvm.ClassFile.FieldType)).before a0 Z = true := hw _ (List.mem_of_getElem? (i := 239) rfl)
theorem wd237 {a0 : Array Value} {Z : State} (hw : ∀ d ∈ tables_1, d.before a0 Z = true) : (Jvm.Cond.methodLink "java/lang/AbstractStringBuilder" (125 : Nat) ({ cls := "java/lang/StringLatin1", name := "inflate", desc := "([BI[BII)V" } : Jvm.MethodName)).before a0 Z = true := hw _ (List.mem_of_getElem? (i := 237) rfl)
theorem wd238 {a0 : Array Value} {Z : State} (hw : ∀ d ∈ tables_1, d.before a0 Z = true) : (Jvm.Cond.static ({ cls := "java/lang/StringLatin1", name := "inflate", desc := "([BI[BII)V" } : Jvm.MethodName)).before a0 Z = true := hw _ (List.mem_of_getElem? (i := 238) rfl)
theorem d_jdk_68_m11_31 : decode jdk_68_method_11_code 31 = .ok (.aload_n 0, 1) := by decide +kernel
theorem d_jdk_68_m11_32 : decode jdk_68_method_11_code 32 = .ok (.aload_n 1, 1) := by decide +kernel
theorem d_jdk_68_m11_33 : decode jdk_68_method_11_code 33 = .ok (.putfield 15, 3) := by decide +kernel
theorem d_jdk_68_m11_36 : decode jdk_68_method_11_code 36 = .ok (.aload_n 0, 1) := by decide +kernel
theorem d_jdk_68_m11_37 : decode jdk_68_method_11_code 37 = .ok (.iconst 1, 1) := by decide +kernel
theorem d_jdk_68_m11_38 : decode jdk_68_method_11_code 38 = .ok (.putfield 22, 3) := by decide +kernel
theorem d_jdk_68_m11_41 : decode jdk_68_method_11_code 41 = .ok (.return_, 1) := by decide +kernel
set_option maxRecDepth 65536 in
set_option maxHeartbeats 40000000 in
theorem rm_inflateB {l : Launch} {Z : State} {a0 : Array Value} (hw : ∀ d ∈ tables_1, d.before a0 Z = true) (hs : ∀ d ∈ jdkStatics_1, d.before a0 Z = true) {x : Addr} {u : Bool} {cs : List Int32} {b : Addr} {kb : ClassId} {N : Nat} {cap : Nat} {h0 : Heap} (O0 : Ext Z.heap h0) (B : own_SB Z h0 x u cs.length cs b kb N) (hok : own_ok u cs) (hcap : 2 * N ≤ cap) (hcap2 : cap ≤ 4000) :
    own_Ct l Z (⟨"java/lang/AbstractStringBuilder", "inflate", "()V"⟩ : MethodName) jdk_68_method_11_code 2 none [] ({ frames := 5, locals := 76, cells := 1, slots := cap } : Room) #[(.ref x)] h0 (fun v h => v = none ∧ Keep h0 h [x] ∧ ∃ (b' : Addr) (kb' : ClassId), (b' = b ∨ h0.size ≤ b') ∧ own_SB Z h x true cs.length cs b' kb' N) := by
  have B' := B
  obtain ⟨BE, Bvalue, Bcoder, Bcount, BmaybeLatin1, BV, BX, hab, ga, gb, hcN, hN, hnc⟩ := B'
  refine own_body (Ls := #[.val (.ref x), .unset]) (plainFor_of_name pn_java_lang_AbstractStringBuilder) (fun m => by first | (simp [entryFrame, mkF, argsToLocals, Value.category]; done) | rfl) O0 ?_
  intro p e s m below meth c T0 G K0
  refine own_aloadN K0 d_jdk_68_m11_0 rfl rfl rfl ?_
  refine own_callV K0 (a := x) (x0 := (⟨"java/lang/AbstractStringBuilder", "isLatin1", "()Z"⟩ : MethodName)) (wd160 hw) (wd91 hw) (fun q => own_nfS (args := #[]) (mvT q (wd77 hw)) rfl) (wd93 hw) (wd92 hw) (rm_isLatin1B hw hs (u := u) K0.O Bcoder) (wd94 hw) (wd54 hw) (by decide) BE (argsL := []) (rest := []) rfl pd_2829Z rfl rfl (W := 0) rfl (by first | decide | (dsimp only; omega)) (by first | decide | (dsimp only; omega)) (by first | decide | (dsimp only; omega)) (by first | decide | (dsimp only; omega)) d_jdk_68_m11_1 rfl ?_
  intro T48 h48 L48 v48 K48 q48
  obtain ⟨rfl, e48⟩ := q48
  have f48 := e48.symm
  subst f48
  show G (T48.setTop (mkF m 4 #[.val (.ref x), .unset] [(.int (cond u 0 1))]))
  cases u with
  | false =>
    refine own_ifYes K48 d_jdk_68_m11_4 (pc' := 8) (by decide) (by decide) ((if0 _ _).trans (feq (by decide)).2) ?_
    refine own_aloadN K48 d_jdk_68_m11_8 rfl rfl rfl ?_
    refine own_getF K48 (host := "") (Or.inl (wd58 hw)) Via.refl Bvalue d_jdk_68_m11_9 rfl ?_
    intro T49 K49
    refine own_arraylength K49 BV d_jdk_68_m11_12 rfl ?_
    refine own_callS K49 (wd236 hw) (wd206 hw) (rm_newBytesFor hw hs (nn := N) (cap := cap) K49.O (by omega) hcap (by omega)) (wd207 hw) (wd116 hw) (by decide) (argsL := [(.int (Int32.ofNat N))]) (rest := []) rfl pd_28I295bB rfl rfl (W := 0) rfl (by first | decide | (dsimp only; omega)) (by first | decide | (dsimp only; omega)) (by first | decide | (dsimp only; omega)) (by first | decide | (dsimp only; omega)) d_jdk_68_m11_13 rfl ?_
    intro T50 h50 L50 v50 K50 q50
    obtain ⟨c50, kc50, rfl, gc50, X50, V50, XB50⟩ := q50
    show G (T50.setTop (mkF m 16 #[.val (.ref x), .unset] [(.ref c50)]))
    refine own_astoreN K50 (Ls' := #[.val (.ref x), .val (.ref c50)]) d_jdk_68_m11_16 rfl rfl rfl ?_
    refine own_aloadN K50 d_jdk_68_m11_17 rfl rfl rfl ?_
    have value_51 := Bvalue.ext X50
    have coder_51 := Bcoder.ext X50
    have count_51 := Bcount.ext X50
    have maybeLatin1_51 := BmaybeLatin1.ext X50
    have E_51 := BE.ext X50
    have V_51 := BV.ext X50
    have X_51 := BX.ext X50
    refine own_getF K50 (host := "") (Or.inl (wd58 hw)) Via.refl value_51 d_jdk_68_m11_18 rfl ?_
    intro T52 K52
    refine own_iconst K52 (v := (0 : Int32)) d_jdk_68_m11_21 rfl rfl ?_
    refine own_aloadN K52 d_jdk_68_m11_22 rfl rfl rfl ?_
    refine own_iconst K52 (v := (0 : Int32)) d_jdk_68_m11_23 rfl rfl ?_
    refine own_aloadN K52 d_jdk_68_m11_24 rfl rfl rfl ?_
    refine own_getF K52 (host := "") (Or.inl (wd88 hw)) Via.refl count_51 d_jdk_68_m11_25 rfl ?_
    intro T53 K53
    have gc : Z.heap.size ≤ c50 := by rw [gc50]; exact K0.O.1
    have hbc : b ∉ [c50] := fun q => Nat.ne_of_lt (Nat.lt_of_lt_of_le BV.lt (Nat.le_of_eq gc50.symm)) (List.mem_singleton.mp q)
    have hxc : x ∉ [c50] := fun q => Nat.ne_of_lt (Nat.lt_of_lt_of_le BE.lt (Nat.le_of_eq gc50.symm)) (List.mem_singleton.mp q)
    refine own_callS K53 (wd237 hw) (wd238 hw) (rm_inflateL hw hs (M := N) (nn := N) (cs := []) K53.O V_51 V50 ⟨hcN, by omega⟩ hbc gc hok ⟨by simpa using hcN, by omega⟩) (wd239 hw) (wd136 hw) (by decide) (argsL := [(.ref b), (.int (0 : Int32)), (.ref c50), (.int (0 : Int32)), (.int (Int32.ofNat cs.length))]) (rest := []) rfl pd_285bBI5bBII29V rfl rfl (W := 0) rfl (by first | decide | (dsimp only; omega)) (by first | decide | (dsimp only; omega)) (by first | decide | (dsimp only; omega)) (by first | decide | (dsimp only; omega)) d_jdk_68_m11_28 rfl ?_
    intro T54 h54 L54 v54 K54 q54
    obtain ⟨rfl, Kp54, V54⟩ := q54
    show G (T54.setTop (mkF m 31 #[.val (.ref x), .val (.ref c50)] []))
    refine own_aloadN K54 d_jdk_68_m11_31 rfl rfl rfl ?_
    refine own_aloadN K54 d_jdk_68_m11_32 rfl rfl rfl ?_
    have value_55 := value_51.keep Kp54 hxc
    have coder_55 := coder_51.keep Kp54 hxc
    have count_55 := count_51.keep Kp54 hxc
    have maybeLatin1_55 := maybeLatin1_51.keep Kp54 hxc
    have E_55 := E_51.keep Kp54
    have X_55 := XB50.keep Kp54
    have hxc' : x ≠ c50 := fun q => hxc (List.mem_singleton.mpr q)
    refine own_putF K54 (host := "") (Or.inl (wd58 hw)) Via.refl value_55 E_55 (Or.inl (wd59 hw)) (wd34 hw) (ty := (.array .byte)) (by decide) rfl rfl ga d_jdk_68_m11_33 rfl ?_
    intro T56 h56 K56 W56
    have value_57 := value_55.same W56
    have coder_57 := coder_55.other W56 (Or.inr (slot_ne (Or.inl (wd61 hw)) (Or.inl (wd59 hw)) (by decide) (t := .byte) (t' := (.array .byte)) (by decide) (by decide)))
    have count_57 := count_55.other W56 (Or.inr (slot_ne (Or.inl (wd89 hw)) (Or.inl (wd59 hw)) (by decide) (t := .int) (t' := (.array .byte)) (by decide) (by decide)))
    have maybeLatin1_57 := maybeLatin1_55.other W56 (Or.inr (slot_ne (Or.inl (wd256 hw)) (Or.inl (wd59 hw)) (by decide) (t := .boolean) (t' := (.array .byte)) (by decide) (by decide)))
    have E_57 := E_55.wr W56
    have X_57 := X_55.wr W56
    have V_57 := V54.other W56 (Ne.symm hxc')
    refine own_aloadN K56 d_jdk_68_m11_36 rfl rfl rfl ?_
    refine own_iconst K56 (v := (1 : Int32)) d_jdk_68_m11_37 rfl rfl ?_
    refine own_putFN K56 (wd60 hw) Via.refl coder_57 E_57 (Or.inl (wd61 hw)) (wd34 hw) (ty := .byte) (v' := .int 1) (by decide) rfl rfl ga d_jdk_68_m11_38 rfl ?_
    intro T58 h58 K58 W58
    have value_59 := value_57.other W58 (Or.inr (slot_ne (Or.inl (wd59 hw)) (Or.inl (wd61 hw)) (by decide) (t := (.array .byte)) (t' := .byte) (by decide) (by decide)))
    have coder_59 := coder_57.same W58
    have count_59 := count_57.other W58 (Or.inr (slot_ne (Or.inl (wd89 hw)) (Or.inl (wd61 hw)) (by decide) (t := .int) (t' := .byte) (by decide) (by decide)))
    have maybeLatin1_59 := maybeLatin1_57.other W58 (Or.inr (slot_ne (Or.inl (wd256 hw)) (Or.inl (wd61 hw)) (by decide) (t := .boolean) (t' := .byte) (by decide) (by decide)))
    have E_59 := E_57.wr W58
    have X_59 := X_57.wr W58
    have V_59 := V_57.other W58 (Ne.symm hxc')
    exact own_ret0 K58 d_jdk_68_m11_41 rfl (by first | decide | (dsimp only; omega)) (by first | decide | (dsimp only; omega)) ⟨rfl, (((own_ext_of_keep' (own_ext_keep X50 Kp54 (fun y q => by cases List.mem_singleton.mp q; exact Nat.le_of_eq gc50.symm)) [x]).wr W56 (Or.inl (List.mem_singleton.mpr rfl))).wr W58 (Or.inl (List.mem_singleton.mpr rfl))), c50, kc50, Or.inr (Nat.le_of_eq gc50.symm), ⟨E_59, value_59, coder_59, count_59, maybeLatin1_59, V_59, X_59, hxc', ga, gc, hcN, hN, hnc⟩⟩
  | true =>
    refine own_ifNo K48 d_jdk_68_m11_4 rfl ((if0 _ _).trans (teq rfl).2) ?_
    exact own_ret0 K48 d_jdk_68_m11_7 rfl (by first | decide | (dsimp only; omega)) (by first | decide | (dsimp only; omega)) ⟨rfl, Keep.refl _ _, b, kb, Or.inl rfl, B⟩
theorem d_jdk_68_m71_0 : decode jdk_68_method_71_code 0 = .ok (.getstatic 18, 3) := by decide +kernel
theorem d_jdk_68_m71_3 : decode jdk_68_method_71_code 3 = .ok (.ifCond .eq 18, 3) := by decide +kernel
theorem d_jdk_68_m71_6 : decode jdk_68_method_71_code 6 = .ok (.aload_n 0, 1) := by decide +kernel
theorem d_jdk_68_m71_7 : decode jdk_68_method_71_code 7 = .ok (.getfield 22, 3) := by decide +kernel
theorem d_jdk_68_m71_10 : decode jdk_68_method_71_code 10 = .ok (.aload_n 1, 1) := by decide +kernel
theorem d_jdk_68_m71_11 : decode jdk_68_method_71_code 11 = .ok (.invokevirtual 40, 3) := by decide +kernel
theorem wd185 {a0 : Array Value} {Z : State} (hw : ∀ d ∈ tables_1, d.before a0 Z = true) : (Jvm.Cond.methodLink "java/lang/AbstractStringBuilder" (40 : Nat) ({ cls := "java/lang/String", name := "coder", desc := "()B" } : Jvm.MethodName)).before a0 Z = true := hw _ (List.mem_of_getElem? (i := 185) rfl)
theorem d_jdk_68_m71_14 : decode jdk_68_method_71_code 14 = .ok (.if_icmp .eq 7, 3) := by decide +kernel
theorem d_jdk_68_m71_21 : decode jdk_68_method_71_code 21 = .ok (.return_, 1) := by decide +kernel
theorem d_jdk_68_m71_17 : decode jdk_68_method_71_code 17 = .ok (.aload_n 0, 1) := by decide +kernel
theorem d_jdk_68_m71_18 : decode jdk_68_method_71_code 18 = .ok (.invokevirtual 195, 3) := by decide +kernel
theorem wd235 {a0 : Array Value} {Z : State} (hw : ∀ d ∈ tables_1, d.before a0 Z = true) : (Jvm.Cond.code ({ cls := "java/lang/AbstractStringBuilder", name := "inflate", desc := "()V" } : Jvm.MethodName) jdk_68_method_11_code (2 : Nat) (Option.none : Option Jvm.ClassFile.FieldType)).before a0 Z = true := hw _ (List.mem_of_getElem? (i := 235) rfl)
theorem pd_2829V : parseMethodDescriptor "()V" = some ⟨[], none⟩ := by decide +kernel
theorem wd231 {a0 : Array Value} {Z : State} (hw : ∀ d ∈ tables_1, d.before a0 Z = true) : (Jvm.Cond.methodLink "java/lang/AbstractStringBuilder" (195 : Nat) ({ cls := "java/lang/AbstractStringBuilder", name := "inflate", desc := "()V" } : Jvm.MethodName)).before a0 Z = true := hw _ (List.mem_of_getElem? (i := 231) rfl)
theorem wd232 {a0 : Array Value} {Z : State} (hw : ∀ d ∈ tables_1, d.before a0 Z = true) : (Jvm.Cond.instanceMethod ({ cls := "java/lang/AbstractStringBuilder", name := "inflate", desc := "()V" } : Jvm.MethodName)).before a0 Z = true := hw _ (List.mem_of_getElem? (i := 232) rfl)
theorem wd233 {a0 : Array Value} {Z : State} (hw : ∀ d ∈ tables_1, d.before a0 Z = true) : (Jvm.Cond.privateMethod ({ cls := "java/lang/AbstractStringBuilder", name := "inflate", desc := "()V" } : Jvm.MethodName)).before a0 Z = true := hw _ (List.mem_of_getElem? (i := 233) rfl)
set_option maxRecDepth 65536 in
set_option maxHeartbeats 40000000 in
theorem rm_inflateIf {l : Launch} {Z : State} {a0 : Array Value} (hw : ∀ d ∈ tables_1, d.before a0 Z = true) (hs : ∀ d ∈ jdkStatics_1, d.before a0 Z = true) {x : Addr} {u : Bool} {cs : List Int32} {b : Addr} {kb : ClassId} {N : Nat} {cap : Nat} {st : Addr} {us : Bool} {ds : List Int32} {h0 : Heap} (O0 : Ext Z.heap h0) (B : own_SB Z h0 x u cs.length cs b kb N) (hok : own_ok u cs) (hcap : 2 * N ≤ cap) (hcap2 : cap ≤ 4000) (S : own_StrG Z h0 st us ds) (hlen : ds.length ≤ 4000) :
    own_Ct l Z (⟨"java/lang/AbstractStringBuilder", "inflateIfNeededFor", "(Ljava/lang/String;)V"⟩ : MethodName) jdk_68_method_71_code 2 none [] ({ frames := 6, locals := 89, cells := 1, slots := cap } : Room) #[(.ref x), (.ref st)] h0 (fun v h => v = none ∧ Keep h0 h [x] ∧ ∃ (b' : Addr) (kb' : ClassId), (b' = b ∨ h0.size ≤ b') ∧ own_SB Z h x (u || us) cs.length cs b' kb' N) := by
  obtain ⟨zc, SC, hzc⟩ := own_compact hs
  have B' := B
  obtain ⟨BE, Bvalue, Bcoder, Bcount, BmaybeLatin1, BV, BX, hab, ga, gb, hcN, hN, hnc⟩ := B'
  refine own_body (Ls := #[.val (.ref x), .val (.ref st)]) (plainFor_of_name pn_java_lang_AbstractStringBuilder) (fun m => by first | (simp [entryFrame, mkF, argsToLocals, Value.category]; done) | rfl) O0 ?_
  intro p e s m below meth c T0 G K0
  refine own_getS K0 (wd57 hw) Via.refl (SC.ext K0.O) d_jdk_68_m71_0 rfl ?_
  intro T60 K60
  refine own_ifNo K60 d_jdk_68_m71_3 rfl ((if0 _ _).trans (feq hzc).1) ?_
  refine own_aloadN K60 d_jdk_68_m71_6 rfl rfl rfl ?_
  refine own_getF K60 (host := "") (Or.inl (wd60 hw)) Via.refl Bcoder d_jdk_68_m71_7 rfl ?_
  intro T61 K61
  refine own_aloadN K61 d_jdk_68_m71_10 rfl rfl rfl ?_
  refine own_callV K61 (a := st) (x0 := (⟨"java/lang/String", "coder", "()B"⟩ : MethodName)) (wd185 hw) (wd42 hw) (fun q => own_nfS (args := #[]) (mvT q (wd39 hw)) rfl) (wd44 hw) (wd43 hw) (rm_coder hw hs K61.O S hlen) (wd45 hw) (wd10 hw) (by decide) S.exa (argsL := []) (rest := [(.int (own_cd u))]) rfl pd_2829B rfl rfl (W := 1) rfl (by first | decide | (dsimp only; omega)) (by first | decide | (dsimp only; omega)) (by first | decide | (dsimp only; omega)) (by first | decide | (dsimp only; omega)) d_jdk_68_m71_11 rfl ?_
  intro T62 h62 L62 v62 K62 q62
  obtain ⟨rfl, e62⟩ := q62
  have f62 := e62.symm
  subst f62
  show G (T62.setTop (mkF m 14 #[.val (.ref x), .val (.ref st)] [(.int (own_cd us)), (.int (own_cd u))]))
  cases u with
  | false =>
    cases us with
    | false =>
      refine own_icmpYes K62 d_jdk_68_m71_14 (pc' := 21) (by decide) (by decide) (teq rfl).1 ?_
      exact own_ret0 K62 d_jdk_68_m71_21 rfl (by first | decide | (dsimp only; omega)) (by first | decide | (dsimp only; omega)) ⟨rfl, Keep.refl _ _, b, kb, Or.inl rfl, B⟩
    | true =>
      refine own_icmpNo K62 d_jdk_68_m71_14 rfl (feq (by decide)).1 ?_
      refine own_aloadN K62 d_jdk_68_m71_17 rfl rfl rfl ?_
      refine own_callP K62 (a := x) (wd231 hw) (wd232 hw) (own_selfSel (wd232 hw) (wd233 hw) (own_nfS (wd77 hw) rfl) (by decide)) (wd233 hw) (rm_inflateB hw hs (cap := cap) K62.O B hok hcap hcap2) (wd235 hw) (wd54 hw) (by decide) BE (argsL := []) (rest := []) rfl pd_2829V rfl rfl (W := 0) rfl (by first | decide | (dsimp only; omega)) (by first | decide | (dsimp only; omega)) (by first | decide | (dsimp only; omega)) (by first | decide | (dsimp only; omega)) d_jdk_68_m71_18 rfl ?_
      intro T63 h63 L63 v63 K63 q63
      obtain ⟨rfl, Kp63, q63⟩ := q63
      show G (T63.setTop (mkF m 21 #[.val (.ref x), .val (.ref st)] []))
      exact own_ret0 K63 d_jdk_68_m71_21 rfl (by first | decide | (dsimp only; omega)) (by first | decide | (dsimp only; omega)) ⟨rfl, Kp63, q63⟩
  | true =>
    cases us with
    | false =>
      refine own_icmpNo K62 d_jdk_68_m71_14 rfl (feq (by decide)).1 ?_
      refine own_aloadN K62 d_jdk_68_m71_17 rfl rfl rfl ?_
      refine own_callP K62 (a := x) (wd231 hw) (wd232 hw) (own_selfSel (wd232 hw) (wd233 hw) (own_nfS (wd77 hw) rfl) (by decide)) (wd233 hw) (rm_inflateB hw hs (cap := cap) K62.O B hok hcap hcap2) (wd235 hw) (wd54 hw) (by decide) BE (argsL := []) (rest := []) rfl pd_2829V rfl rfl (W := 0) rfl (by first | decide | (dsimp only; omega)) (by first | decide | (dsimp only; omega)) (by first | decide | (dsimp only; omega)) (by first | decide | (dsimp only; omega)) d_jdk_68_m71_18 rfl ?_
      intro T64 h64 L64 v64 K64 q64
      obtain ⟨rfl, Kp64, q64⟩ := q64
      show G (T64.setTop (mkF m 21 #[.val (.ref x), .val (.ref st)] []))
      exact own_ret0 K64 d_jdk_68_m71_21 rfl (by first | decide | (dsimp only; omega)) (by first | decide | (dsimp only; omega)) ⟨rfl, Kp64, q64⟩
    | true =>
      refine own_icmpYes K62 d_jdk_68_m71_14 (pc' := 21) (by decide) (by decide) (teq rfl).1 ?_
      exact own_ret0 K62 d_jdk_68_m71_21 rfl (by first | decide | (dsimp only; omega)) (by first | decide | (dsimp only; omega)) ⟨rfl, Keep.refl _ _, b, kb, Or.inl rfl, B⟩
theorem d_jdk_42_m147_0 : decode jdk_42_method_147_code 0 = .ok (.aload_n 0, 1) := by decide +kernel
theorem d_jdk_42_m147_1 : decode jdk_42_method_147_code 1 = .ok (.invokevirtual 335, 3) := by decide +kernel
theorem d_jdk_42_m147_4 : decode jdk_42_method_147_code 4 = .ok (.iload_n 3, 1) := by decide +kernel
theorem d_jdk_42_m147_5 : decode jdk_42_method_147_code 5 = .ok (.if_icmp .ne 23, 3) := by decide +kernel
theorem d_jdk_42_m147_8 : decode jdk_42_method_147_code 8 = .ok (.aload_n 0, 1) := by decide +kernel
theorem d_jdk_42_m147_9 : decode jdk_42_method_147_code 9 = .ok (.getfield 9, 3) := by decide +kernel
theorem d_jdk_42_m147_12 : decode jdk_42_method_147_code 12 = .ok (.iconst 0, 1) := by decide +kernel
theorem d_jdk_42_m147_13 : decode jdk_42_method_147_code 13 = .ok (.aload_n 1, 1) := by decide +kernel
theorem d_jdk_42_m147_14 : decode jdk_42_method_147_code 14 = .ok (.iload_n 2, 1) := by decide +kernel
theorem d_jdk_42_m147_15 : decode jdk_42_method_147_code 15 = .ok (.iload_n 3, 1) := by decide +kernel
theorem d_jdk_42_m147_16 : decode jdk_42_method_147_code 16 = .ok (.ishl, 1) := by decide +kernel
theorem d_jdk_42_m147_17 : decode jdk_42_method_147_code 17 = .ok (.aload_n 0, 1) := by decide +kernel
theorem d_jdk_42_m147_18 : decode jdk_42_method_147_code 18 = .ok (.getfield 9, 3) := by decide +kernel
theorem d_jdk_42_m147_21 : decode jdk_42_method_147_code 21 = .ok (.arraylength, 1) := by decide +kernel
theorem d_jdk_42_m147_22 : decode jdk_42_method_147_code 22 = .ok (.invokestatic 212, 3) := by decide +kernel
theorem wd191 {a0 : Array Value} {Z : State} (hw : ∀ d ∈ tables_1, d.before a0 Z = true) : (Jvm.Cond.methodLink "java/lang/String" (212 : Nat) ({ cls := "java/lang/System", name := "arraycopy", desc := "(Ljava/lang/Object;ILjava/lang/Object;II)V" } : Jvm.MethodName)).before a0 Z = true := hw _ (List.mem_of_getElem? (i := 191) rfl)
theorem wd112 {a0 : Array Value} {Z : State} (hw : ∀ d ∈ tables_1, d.before a0 Z = true) : (Jvm.Cond.native ({ cls := "java/lang/System", name := "arraycopy", desc := "(Ljava/lang/Object;ILjava/lang/Object;II)V" } : Jvm.MethodName)).before a0 Z = true := hw _ (List.mem_of_getElem? (i := 112) rfl)
theorem wd110 {a0 : Array Value} {Z : State} (hw : ∀ d ∈ tables_1, d.before a0 Z = true) : (Jvm.Cond.static ({ cls := "java/lang/System", name := "arraycopy", desc := "(Ljava/lang/Object;ILjava/lang/Object;II)V" } : Jvm.MethodName)).before a0 Z = true := hw _ (List.mem_of_getElem? (i := 110) rfl)
theorem wd111 {a0 : Array Value} {Z : State} (hw : ∀ d ∈ tables_1, d.before a0 Z = true) : (Jvm.Cond.initialized "java/lang/System").before a0 Z = true := hw _ (List.mem_of_getElem? (i := 111) rfl)
theorem d_jdk_42_m147_25 : decode jdk_42_method_147_code 25 = .ok (.goto 18, 3) := by decide +kernel
theorem d_jdk_42_m147_43 : decode jdk_42_method_147_code 43 = .ok (.return_, 1) := by decide +kernel
theorem d_jdk_42_m147_28 : decode jdk_42_method_147_code 28 = .ok (.aload_n 0, 1) := by decide +kernel
theorem d_jdk_42_m147_29 : decode jdk_42_method_147_code 29 = .ok (.getfield 9, 3) := by decide +kernel
theorem d_jdk_42_m147_32 : decode jdk_42_method_147_code 32 = .ok (.iconst 0, 1) := by decide +kernel
theorem d_jdk_42_m147_33 : decode jdk_42_method_147_code 33 = .ok (.aload_n 1, 1) := by decide +kernel
theorem d_jdk_42_m147_34 : decode jdk_42_method_147_code 34 = .ok (.iload_n 2, 1) := by decide +kernel
theorem d_jdk_42_m147_35 : decode jdk_42_method_147_code 35 = .ok (.aload_n 0, 1) := by decide +kernel
theorem d_jdk_42_m147_36 : decode jdk_42_method_147_code 36 = .ok (.getfield 9, 3) := by decide +kernel
theorem d_jdk_42_m147_39 : decode jdk_42_method_147_code 39 = .ok (.arraylength, 1) := by decide +kernel
theorem d_jdk_42_m147_40 : decode jdk_42_method_147_code 40 = .ok (.invokestatic 106, 3) := by decide +kernel
theorem wd257 {a0 : Array Value} {Z : State} (hw : ∀ d ∈ tables_1, d.before a0 Z = true) : (Jvm.Cond.methodLink "java/lang/String" (106 : Nat) ({ cls := "java/lang/StringLatin1", name := "inflate", desc := "([BI[BII)V" } : Jvm.MethodName)).before a0 Z = true := hw _ (List.mem_of_getElem? (i := 257) rfl)
theorem own_bn_add (u : Bool) (i j : Nat) : own_bn u (i + j) = own_bn u i + own_bn u j := by cases u <;> simp only [own_bn, cond] <;> omega
set_option maxRecDepth 65536 in
set_option maxHeartbeats 40000000 in
theorem rm_getBytes {l : Launch} {Z : State} {a0 : Array Value} (hw : ∀ d ∈ tables_1, d.before a0 Z = true) (hs : ∀ d ∈ jdkStatics_1, d.before a0 Z = true) {st : Addr} {us : Bool} {ds : List Int32} {sb : Addr} {ks : ClassId} {b : Addr} {kb : ClassId} {u : Bool} {cs : List Int32} {N : Nat} {h0 : Heap} (O0 : Ext Z.heap h0) (Es : Exa Z h0 st "java/lang/String") (Fs : Fld Z h0 st "java/lang/String" "coder" "B" (.int (own_cd us))) (Fb : Fld Z h0 st "java/lang/String" "value" "[B" (.ref sb)) (Vs : Arv Z h0 sb ks .byte (Int32.ofNat (own_bn us ds.length)) (own_bs us ds) (.int 0)) (hds : ds.length ≤ 2000) (hods : own_ok us ds) (V : Arv Z h0 b kb .byte (Int32.ofNat (own_bn u N)) (own_bs u cs) (.int 0)) (hN : cs.length + ds.length ≤ N ∧ N ≤ 2000) (hu : us = true → u = true) (hsb : sb ≠ b) (gb : Z.heap.size ≤ b) :
    own_Ct l Z (⟨"java/lang/String", "getBytes", "([BIB)V"⟩ : MethodName) jdk_42_method_147_code 4 none [] ({ frames := 5, locals := 76, cells := 0, slots := 0 } : Room) #[(.ref st), (.ref b), (.int (Int32.ofNat cs.length)), (.int (own_cd u))] h0 (fun v h => v = none ∧ Keep h0 h [b] ∧ Arv Z h b kb .byte (Int32.ofNat (own_bn u N)) (own_bs u (cs ++ ds)) (.int 0)) := by
  refine own_body (Ls := #[.val (.ref st), .val (.ref b), .val (.int (Int32.ofNat cs.length)), .val (.int (own_cd u))]) (plainFor_of_name pn_java_lang_String) (fun m => by first | (simp [entryFrame, mkF, argsToLocals, Value.category]; done) | rfl) O0 ?_
  intro p e s m below meth c T0 G K0
  refine own_aloadN K0 d_jdk_42_m147_0 rfl rfl rfl ?_
  refine own_callV K0 (a := st) (x0 := (⟨"java/lang/String", "coder", "()B"⟩ : MethodName)) (wd41 hw) (wd42 hw) (fun q => own_nfS (args := #[]) (mvT q (wd39 hw)) rfl) (wd44 hw) (wd43 hw) (rm_coder hw hs K0.O ⟨Es, Fs, sb, ks, Fb, Vs⟩ (by omega)) (wd45 hw) (wd10 hw) (by decide) Es (argsL := []) (rest := []) rfl pd_2829B rfl rfl (W := 0) rfl (by decide) (by decide) (by decide) (by decide) d_jdk_42_m147_1 rfl ?_
  intro T65 h65 L65 v65 K65 q65
  obtain ⟨rfl, e65⟩ := q65
  have f65 := e65.symm
  subst f65
  show G (T65.setTop (mkF m 4 #[.val (.ref st), .val (.ref b), .val (.int (Int32.ofNat cs.length)), .val (.int (own_cd u))] [(.int (own_cd us))]))
  refine own_iloadN K65 d_jdk_42_m147_4 rfl rfl ?_
  by_cases hq : u = us
  · skip
    subst hq
    refine own_icmpNo K65 d_jdk_42_m147_5 rfl (teq rfl).2 ?_
    refine own_aloadN K65 d_jdk_42_m147_8 rfl rfl rfl ?_
    refine own_getF K65 (host := "") (Or.inl (wd27 hw)) Via.refl Fb d_jdk_42_m147_9 rfl ?_
    intro T66 K66
    refine own_iconst K66 (v := (0 : Int32)) d_jdk_42_m147_12 rfl rfl ?_
    refine own_aloadN K66 d_jdk_42_m147_13 rfl rfl rfl ?_
    refine own_iloadN K66 d_jdk_42_m147_14 rfl rfl ?_
    refine own_iloadN K66 d_jdk_42_m147_15 rfl rfl ?_
    refine own_ishl K66 d_jdk_42_m147_16 rfl ?_
    refine own_aloadN K66 d_jdk_42_m147_17 rfl rfl rfl ?_
    refine own_getF K66 (host := "") (Or.inl (wd27 hw)) Via.refl Fb d_jdk_42_m147_18 rfl ?_
    intro T67 K67
    refine own_arraylength K67 Vs d_jdk_42_m147_21 rfl ?_
    rw [own_shlU u (by omega)]
    have hb1 := own_bn_2 u cs.length
    have hb2 := own_bn_2 u ds.length
    refine own_arraycopy K67 (W := 0) (sp := 0) (dp := (own_bn u cs.length)) (nn := (own_bn u ds.length)) (us := (own_bs u ds)) (wd191 hw) (wd112 hw) (wd110 hw) (wd111 hw) Vs (V.pad (pad_rep (own_bs u cs) _ (own_bn u ds.length))) (by omega) (by omega) (by omega) (by rw [own_clamp (by have := own_bn_2 u ds.length; omega)]; omega) (by rw [own_clamp (by have := own_bn_2 u N; omega), ← own_bn_add]; exact own_bn_le u hN.1) (own_rng _ _ _ (own_bs_len u ds).symm) (by rw [List.length_append, own_bs_len, List.length_replicate]; exact Nat.le_refl _) gb rfl rfl (by decide) (by first | decide | (have := own_acw; dsimp only; omega)) d_jdk_42_m147_22 rfl ?_
    intro T68 h68 L68 K68 Kp68 V68
    refine own_goto K68 d_jdk_42_m147_25 (pc' := 43) (by decide) (by decide) ?_
    exact own_ret0 K68 d_jdk_42_m147_43 rfl (by decide) (by decide) ⟨rfl, Kp68, by have q := V68; rw [← own_bs_len, own_acp] at q; rw [own_bs_app]; exact q⟩
  · skip
    obtain ⟨rfl, rfl⟩ : us = false ∧ u = true := by cases us <;> cases u <;> simp_all
    refine own_icmpYes K65 d_jdk_42_m147_5 (pc' := 28) (by decide) (by decide) (feq (by decide)).2 ?_
    refine own_aloadN K65 d_jdk_42_m147_28 rfl rfl rfl ?_
    refine own_getF K65 (host := "") (Or.inl (wd27 hw)) Via.refl Fb d_jdk_42_m147_29 rfl ?_
    intro T69 K69
    refine own_iconst K69 (v := (0 : Int32)) d_jdk_42_m147_32 rfl rfl ?_
    refine own_aloadN K69 d_jdk_42_m147_33 rfl rfl rfl ?_
    refine own_iloadN K69 d_jdk_42_m147_34 rfl rfl ?_
    refine own_aloadN K69 d_jdk_42_m147_35 rfl rfl rfl ?_
    refine own_getF K69 (host := "") (Or.inl (wd27 hw)) Via.refl Fb d_jdk_42_m147_36 rfl ?_
    intro T70 K70
    refine own_arraylength K70 Vs d_jdk_42_m147_39 rfl ?_
    refine own_callS K70 (wd257 hw) (wd238 hw) (rm_inflateL hw hs (M := ds.length) (nn := N) K70.O Vs V ⟨Nat.le_refl _, by omega⟩ (fun q => hsb (List.mem_singleton.mp q)) gb hods ⟨hN.1, by omega⟩) (wd239 hw) (wd136 hw) (by decide) (argsL := [(.ref sb), (.int (0 : Int32)), (.ref b), (.int (Int32.ofNat cs.length)), (.int (Int32.ofNat ds.length))]) (rest := []) rfl pd_285bBI5bBII29V rfl rfl (W := 0) rfl (by decide) (by decide) (by decide) (by decide) d_jdk_42_m147_40 rfl ?_
    intro T71 h71 L71 v71 K71 q71
    obtain ⟨rfl, Kp71, V71⟩ := q71
    show G (T71.setTop (mkF m 43 #[.val (.ref st), .val (.ref b), .val (.int (Int32.ofNat cs.length)), .val (.int (own_cd true))] []))
    exact own_ret0 K71 d_jdk_42_m147_43 rfl (by decide) (by decide) ⟨rfl, Kp71, V71⟩
theorem d_jdk_68_m73_0 : decode jdk_68_method_73_code 0 = .ok (.aload_n 0, 1) := by decide +kernel
theorem d_jdk_68_m73_1 : decode jdk_68_method_73_code 1 = .ok (.aload_n 2, 1) := by decide +kernel
theorem d_jdk_68_m73_2 : decode jdk_68_method_73_code 2 = .ok (.invokevirtual 397, 3) := by decide +kernel
theorem wd184 {a0 : Array Value} {Z : State} (hw : ∀ d ∈ tables_1, d.before a0 Z = true) : (Jvm.Cond.code ({ cls := "java/lang/AbstractStringBuilder", name := "inflateIfNeededFor", desc := "(Ljava/lang/String;)V" } : Jvm.MethodName) jdk_68_method_71_code (2 : Nat) (Option.none : Option Jvm.ClassFile.FieldType)).before a0 Z = true := hw _ (List.mem_of_getElem? (i := 184) rfl)
theorem pd_28Ljava2flang2fString3b29V : parseMethodDescriptor "(Ljava/lang/String;)V" = some ⟨[(.object "java/lang/String")], none⟩ := by decide +kernel
theorem wd180 {a0 : Array Value} {Z : State} (hw : ∀ d ∈ tables_1, d.before a0 Z = true) : (Jvm.Cond.methodLink "java/lang/AbstractStringBuilder" (397 : Nat) ({ cls := "java/lang/AbstractStringBuilder", name := "inflateIfNeededFor", desc := "(Ljava/lang/String;)V" } : Jvm.MethodName)).before a0 Z = true := hw _ (List.mem_of_getElem? (i := 180) rfl)
theorem wd181 {a0 : Array Value} {Z : State} (hw : ∀ d ∈ tables_1, d.before a0 Z = true) : (Jvm.Cond.instanceMethod ({ cls := "java/lang/AbstractStringBuilder", name := "inflateIfNeededFor", desc := "(Ljava/lang/String;)V" } : Jvm.MethodName)).before a0 Z = true := hw _ (List.mem_of_getElem? (i := 181) rfl)
theorem wd182 {a0 : Array Value} {Z : State} (hw : ∀ d ∈ tables_1, d.before a0 Z = true) : (Jvm.Cond.privateMethod ({ cls := "java/lang/AbstractStringBuilder", name := "inflateIfNeededFor", desc := "(Ljava/lang/String;)V" } : Jvm.MethodName)).before a0 Z = true := hw _ (List.mem_of_getElem? (i := 182) rfl)
theorem d_jdk_68_m73_5 : decode jdk_68_method_73_code 5 = .ok (.aload_n 2, 1) := by decide +kernel
theorem d_jdk_68_m73_6 : decode jdk_68_method_73_code 6 = .ok (.aload_n 0, 1) := by decide +kernel
theorem d_jdk_68_m73_7 : decode jdk_68_method_73_code 7 = .ok (.getfield 15, 3) := by decide +kernel
theorem d_jdk_68_m73_10 : decode jdk_68_method_73_code 10 = .ok (.iload_n 1, 1) := by decide +kernel
theorem d_jdk_68_m73_11 : decode jdk_68_method_73_code 11 = .ok (.aload_n 0, 1) := by decide +kernel
theorem d_jdk_68_m73_12 : decode jdk_68_method_73_code 12 = .ok (.getfield 22, 3) := by decide +kernel
theorem d_jdk_68_m73_15 : decode jdk_68_method_73_code 15 = .ok (.invokevirtual 399, 3) := by decide +kernel
theorem wd190 {a0 : Array Value} {Z : State} (hw : ∀ d ∈ tables_1, d.before a0 Z = true) : (Jvm.Cond.code ({ cls := "java/lang/String", name := "getBytes", desc := "([BIB)V" } : Jvm.MethodName) jdk_42_method_147_code (4 : Nat) (Option.none : Option Jvm.ClassFile.FieldType)).before a0 Z = true := hw _ (List.mem_of_getElem? (i := 190) rfl)
theorem pd_285bBIB29V : parseMethodDescriptor "([BIB)V" = some ⟨[(.array .byte), .int, .byte], none⟩ := by decide +kernel
theorem wd186 {a0 : Array Value} {Z : State} (hw : ∀ d ∈ tables_1, d.before a0 Z = true) : (Jvm.Cond.methodLink "java/lang/AbstractStringBuilder" (399 : Nat) ({ cls := "java/lang/String", name := "getBytes", desc := "([BIB)V" } : Jvm.MethodName)).before a0 Z = true := hw _ (List.mem_of_getElem? (i := 186) rfl)
theorem wd187 {a0 : Array Value} {Z : State} (hw : ∀ d ∈ tables_1, d.before a0 Z = true) : (Jvm.Cond.declares ({ cls := "java/lang/String", name := "getBytes", desc := "([BIB)V" } : Jvm.MethodName)).before a0 Z = true := hw _ (List.mem_of_getElem? (i := 187) rfl)
theorem wd189 {a0 : Array Value} {Z : State} (hw : ∀ d ∈ tables_1, d.before a0 Z = true) : (Jvm.Cond.selects "java/lang/String" ({ cls := "java/lang/String", name := "getBytes", desc := "([BIB)V" } : Jvm.MethodName) ({ cls := "java/lang/String", name := "getBytes", desc := "([BIB)V" } : Jvm.MethodName)).before a0 Z = true := hw _ (List.mem_of_getElem? (i := 189) rfl)
theorem wd188 {a0 : Array Value} {Z : State} (hw : ∀ d ∈ tables_1, d.before a0 Z = true) : (Jvm.Cond.instanceMethod ({ cls := "java/lang/String", name := "getBytes", desc := "([BIB)V" } : Jvm.MethodName)).before a0 Z = true := hw _ (List.mem_of_getElem? (i := 188) rfl)
theorem d_jdk_68_m73_18 : decode jdk_68_method_73_code 18 = .ok (.return_, 1) := by decide +kernel
theorem own_keep2 {h0 h1 h2 : Heap} {x b b' : Addr} (K : Keep h0 h1 [x]) (K' : Keep h1 h2 [b']) (hb : b' = b ∨ h0.size ≤ b') : Keep h0 h2 [x, b] := by
  have K1 : Keep h0 h1 [x, b] := ⟨K.1, fun y c q r => K.2.1 y c q (fun z => r (by rw [List.mem_singleton.mp z]; exact List.mem_cons_self ..)), K.2.2⟩
  exact K1.trans K' fun y q => by
    rw [List.mem_singleton.mp q]
    exact hb.imp (fun z => by rw [z]; exact List.mem_cons_of_mem _ (List.mem_singleton.mpr rfl)) id
set_option maxRecDepth 65536 in
set_option maxHeartbeats 40000000 in
theorem rm_putStr {l : Launch} {Z : State} {a0 : Array Value} (hw : ∀ d ∈ tables_1, d.before a0 Z = true) (hs : ∀ d ∈ jdkStatics_1, d.before a0 Z = true) {x : Addr} {u : Bool} {cs : List Int32} {b : Addr} {kb : ClassId} {N : Nat} {st : Addr} {us : Bool} {ds : List Int32} {sb : Addr} {ks : ClassId} {cap : Nat} {h0 : Heap} (O0 : Ext Z.heap h0) (B : own_SB Z h0 x u cs.length cs b kb N) (Es : Exa Z h0 st "java/lang/String") (Fs : Fld Z h0 st "java/lang/String" "coder" "B" (.int (own_cd us))) (Fb : Fld Z h0 st "java/lang/String" "value" "[B" (.ref sb)) (Vs : Arv Z h0 sb ks .byte (Int32.ofNat (own_bn us ds.length)) (own_bs us ds) (.int 0)) (hds : ds.length ≤ 2000) (hods : own_ok us ds) (hst : st ≠ x ∧ st ≠ b ∧ sb ≠ x ∧ sb ≠ b) (hok : own_ok u cs) (hcap : 2 * N ≤ cap) (hcap2 : cap ≤ 4000) (hfit : cs.length + ds.length ≤ N) :
    own_Ct l Z (⟨"java/lang/AbstractStringBuilder", "putStringAt", "(ILjava/lang/String;)V"⟩ : MethodName) jdk_68_method_73_code 3 none [] ({ frames := 7, locals := 102, cells := 1, slots := cap } : Room) #[(.ref x), (.int (Int32.ofNat cs.length)), (.ref st)] h0 (fun v h => v = none ∧ Keep h0 h [x, b] ∧ ∃ (b' : Addr) (kb' : ClassId), (b' = b ∨ h0.size ≤ b') ∧ own_SB Z h x (u || us) cs.length (cs ++ ds) b' kb' N) := by
  refine own_body (Ls := #[.val (.ref x), .val (.int (Int32.ofNat cs.length)), .val (.ref st)]) (plainFor_of_name pn_java_lang_AbstractStringBuilder) (fun m => by first | (simp [entryFrame, mkF, argsToLocals, Value.category]; done) | rfl) O0 ?_
  intro p e s m below meth c T0 G K0
  refine own_aloadN K0 d_jdk_68_m73_0 rfl rfl rfl ?_
  refine own_aloadN K0 d_jdk_68_m73_1 rfl rfl rfl ?_
  refine own_callP K0 (a := x) (wd180 hw) (wd181 hw) (own_selfSel (wd181 hw) (wd182 hw) (own_nfS (wd77 hw) rfl) (by decide)) (wd182 hw) (rm_inflateIf hw hs (cap := cap) K0.O B hok hcap hcap2 ⟨Es, Fs, sb, ks, Fb, Vs⟩ (by omega)) (wd184 hw) (wd54 hw) (by decide) B.exa (argsL := [(.ref st)]) (rest := []) rfl pd_28Ljava2flang2fString3b29V rfl rfl (W := 0) rfl (by first | decide | (dsimp only; omega)) (by first | decide | (dsimp only; omega)) (by first | decide | (dsimp only; omega)) (by first | decide | (dsimp only; omega)) d_jdk_68_m73_2 rfl ?_
  intro T72 h72 L72 v72 K72 q72
  obtain ⟨rfl, Kp72, b72, kb72, nb72, B72⟩ := q72
  show G (T72.setTop (mkF m 5 #[.val (.ref x), .val (.int (Int32.ofNat cs.length)), .val (.ref st)] []))
  obtain ⟨BE, Bvalue, Bcoder, Bcount, BmaybeLatin1, BV, BX, hab, ga, gb, hcN, hN, hnc⟩ := B72
  refine own_aloadN K72 d_jdk_68_m73_5 rfl rfl rfl ?_
  refine own_aloadN K72 d_jdk_68_m73_6 rfl rfl rfl ?_
  refine own_getF K72 (host := "") (Or.inl (wd58 hw)) Via.refl Bvalue d_jdk_68_m73_7 rfl ?_
  intro T73 K73
  refine own_iloadN K73 d_jdk_68_m73_10 rfl rfl ?_
  refine own_aloadN K73 d_jdk_68_m73_11 rfl rfl rfl ?_
  refine own_getF K73 (host := "") (Or.inl (wd60 hw)) Via.refl Bcoder d_jdk_68_m73_12 rfl ?_
  intro T74 K74
  have hx1 : st ∉ [x] := fun q => hst.1 (List.mem_singleton.mp q)
  have hx2 : sb ∉ [x] := fun q => hst.2.2.1 (List.mem_singleton.mp q)
  have hsb1 : sb ≠ b72 := nb72.elim (fun q => q ▸ hst.2.2.2) (fun q => Nat.ne_of_lt (Nat.lt_of_lt_of_le Vs.lt q))
  refine own_callV K74 (a := st) (x0 := (⟨"java/lang/String", "getBytes", "([BIB)V"⟩ : MethodName)) (wd186 hw) (wd187 hw) (fun q => own_nfS (args := #[]) (mvT q (wd39 hw)) rfl) (wd189 hw) (wd188 hw) (rm_getBytes hw hs (u := (u || us)) K74.O (Es.keep Kp72) (Fs.keep Kp72 hx1) (Fb.keep Kp72 hx1) (Vs.keep Kp72 hx2) hds hods BV ⟨hfit, hN⟩ (fun q => by rw [q, Bool.or_true]) hsb1 gb) (wd190 hw) (wd10 hw) (by decide) (Es.keep Kp72) (argsL := [(.ref b72), (.int (Int32.ofNat cs.length)), (.int (own_cd (u || us)))]) (rest := []) rfl pd_285bBIB29V rfl rfl (W := 0) rfl (by first | decide | (dsimp only; omega)) (by first | decide | (dsimp only; omega)) (by first | decide | (dsimp only; omega)) (by first | decide | (dsimp only; omega)) d_jdk_68_m73_15 rfl ?_
  intro T75 h75 L75 v75 K75 q75
  obtain ⟨rfl, Kp75, V75⟩ := q75
  show G (T75.setTop (mkF m 18 #[.val (.ref x), .val (.int (Int32.ofNat cs.length)), .val (.ref st)] []))
  have hx3 : x ∉ [b72] := fun q => hab (List.mem_singleton.mp q)
  have value_76 := Bvalue.keep Kp75 hx3
  have coder_76 := Bcoder.keep Kp75 hx3
  have count_76 := Bcount.keep Kp75 hx3
  have maybeLatin1_76 := BmaybeLatin1.keep Kp75 hx3
  have E_76 := BE.keep Kp75
  have X_76 := BX.keep Kp75
  exact own_ret0 K75 d_jdk_68_m73_18 rfl (by first | decide | (dsimp only; omega)) (by first | decide | (dsimp only; omega)) ⟨rfl, own_keep2 Kp72 Kp75 nb72, b72, kb72, nb72, ⟨E_76, value_76, coder_76, count_76, maybeLatin1_76, V75, X_76, hab, ga, gb, by rw [List.length_append]; exact hfit, hN, by rw [List.length_append]; omega⟩⟩
theorem d_jdk_68_m22_0 : decode jdk_68_method_22_code 0 = .ok (.aload_n 1, 1) := by decide +kernel
theorem d_jdk_68_m22_1 : decode jdk_68_method_22_code 1 = .ok (.ifnonnull 8, 3) := by decide +kernel
theorem d_jdk_68_m22_9 : decode jdk_68_method_22_code 9 = .ok (.aload_n 1, 1) := by decide +kernel
theorem d_jdk_68_m22_10 : decode jdk_68_method_22_code 10 = .ok (.invokevirtual 32, 3) := by decide +kernel
theorem wd40 {a0 : Array Value} {Z : State} (hw : ∀ d ∈ tables_1, d.before a0 Z = true) : (Jvm.Cond.code ({ cls := "java/lang/String", name := "length", desc := "()I" } : Jvm.MethodName) jdk_42_method_54_code (1 : Nat) (Option.some Jvm.ClassFile.FieldType.int)).before a0 Z = true := hw _ (List.mem_of_getElem? (i := 40) rfl)
theorem pd_2829I : parseMethodDescriptor "()I" = some ⟨[], some .int⟩ := by decide +kernel
theorem wd174 {a0 : Array Value} {Z : State} (hw : ∀ d ∈ tables_1, d.before a0 Z = true) : (Jvm.Cond.methodLink "java/lang/AbstractStringBuilder" (32 : Nat) ({ cls := "java/lang/String", name := "length", desc := "()I" } : Jvm.MethodName)).before a0 Z = true := hw _ (List.mem_of_getElem? (i := 174) rfl)
theorem wd37 {a0 : Array Value} {Z : State} (hw : ∀ d ∈ tables_1, d.before a0 Z = true) : (Jvm.Cond.declares ({ cls := "java/lang/String", name := "length", desc := "()I" } : Jvm.MethodName)).before a0 Z = true := hw _ (List.mem_of_getElem? (i := 37) rfl)
theorem wd38 {a0 : Array Value} {Z : State} (hw : ∀ d ∈ tables_1, d.before a0 Z = true) : (Jvm.Cond.instanceMethod ({ cls := "java/lang/String", name := "length", desc := "()I" } : Jvm.MethodName)).before a0 Z = true := hw _ (List.mem_of_getElem? (i := 38) rfl)
theorem d_jdk_68_m22_13 : decode jdk_68_method_22_code 13 = .ok (.istore_n 2, 1) := by decide +kernel
theorem d_jdk_68_m22_14 : decode jdk_68_method_22_code 14 = .ok (.aload_n 0, 1) := by decide +kernel
theorem d_jdk_68_m22_15 : decode jdk_68_method_22_code 15 = .ok (.aload_n 0, 1) := by decide +kernel
theorem d_jdk_68_m22_16 : decode jdk_68_method_22_code 16 = .ok (.getfield 79, 3) := by decide +kernel
theorem d_jdk_68_m22_19 : decode jdk_68_method_22_code 19 = .ok (.iload_n 2, 1) := by decide +kernel
theorem d_jdk_68_m22_20 : decode jdk_68_method_22_code 20 = .ok (.iadd, 1) := by decide +kernel
theorem d_jdk_68_m22_21 : decode jdk_68_method_22_code 21 = .ok (.invokevirtual 100, 3) := by decide +kernel
theorem wd159 {a0 : Array Value} {Z : State} (hw : ∀ d ∈ tables_1, d.before a0 Z = true) : (Jvm.Cond.code ({ cls := "java/lang/AbstractStringBuilder", name := "ensureCapacityInternal", desc := "(I)V" } : Jvm.MethodName) jdk_68_method_9_code (3 : Nat) (Option.none : Option Jvm.ClassFile.FieldType)).before a0 Z = true := hw _ (List.mem_of_getElem? (i := 159) rfl)
theorem wd155 {a0 : Array Value} {Z : State} (hw : ∀ d ∈ tables_1, d.before a0 Z = true) : (Jvm.Cond.methodLink "java/lang/AbstractStringBuilder" (100 : Nat) ({ cls := "java/lang/AbstractStringBuilder", name := "ensureCapacityInternal", desc := "(I)V" } : Jvm.MethodName)).before a0 Z = true := hw _ (List.mem_of_getElem? (i := 155) rfl)
theorem wd156 {a0 : Array Value} {Z : State} (hw : ∀ d ∈ tables_1, d.before a0 Z = true) : (Jvm.Cond.instanceMethod ({ cls := "java/lang/AbstractStringBuilder", name := "ensureCapacityInternal", desc := "(I)V" } : Jvm.MethodName)).before a0 Z = true := hw _ (List.mem_of_getElem? (i := 156) rfl)
theorem wd157 {a0 : Array Value} {Z : State} (hw : ∀ d ∈ tables_1, d.before a0 Z = true) : (Jvm.Cond.privateMethod ({ cls := "java/lang/AbstractStringBuilder", name := "ensureCapacityInternal", desc := "(I)V" } : Jvm.MethodName)).before a0 Z = true := hw _ (List.mem_of_getElem? (i := 157) rfl)
theorem d_jdk_68_m22_24 : decode jdk_68_method_22_code 24 = .ok (.aload_n 0, 1) := by decide +kernel
theorem d_jdk_68_m22_25 : decode jdk_68_method_22_code 25 = .ok (.aload_n 0, 1) := by decide +kernel
theorem d_jdk_68_m22_26 : decode jdk_68_method_22_code 26 = .ok (.getfield 79, 3) := by decide +kernel
theorem d_jdk_68_m22_29 : decode jdk_68_method_22_code 29 = .ok (.aload_n 1, 1) := by decide +kernel
theorem d_jdk_68_m22_30 : decode jdk_68_method_22_code 30 = .ok (.invokevirtual 208, 3) := by decide +kernel
theorem wd179 {a0 : Array Value} {Z : State} (hw : ∀ d ∈ tables_1, d.before a0 Z = true) : (Jvm.Cond.code ({ cls := "java/lang/AbstractStringBuilder", name := "putStringAt", desc := "(ILjava/lang/String;)V" } : Jvm.MethodName) jdk_68_method_73_code (3 : Nat) (Option.none : Option Jvm.ClassFile.FieldType)).before a0 Z = true := hw _ (List.mem_of_getElem? (i := 179) rfl)
theorem pd_28ILjava2flang2fString3b29V : parseMethodDescriptor "(ILjava/lang/String;)V" = some ⟨[.int, (.object "java/lang/String")], none⟩ := by decide +kernel
theorem wd175 {a0 : Array Value} {Z : State} (hw : ∀ d ∈ tables_1, d.before a0 Z = true) : (Jvm.Cond.methodLink "java/lang/AbstractStringBuilder" (208 : Nat) ({ cls := "java/lang/AbstractStringBuilder", name := "putStringAt", desc := "(ILjava/lang/String;)V" } : Jvm.MethodName)).before a0 Z = true := hw _ (List.mem_of_getElem? (i := 175) rfl)
theorem wd176 {a0 : Array Value} {Z : State} (hw : ∀ d ∈ tables_1, d.before a0 Z = true) : (Jvm.Cond.instanceMethod ({ cls := "java/lang/AbstractStringBuilder", name := "putStringAt", desc := "(ILjava/lang/String;)V" } : Jvm.MethodName)).before a0 Z = true := hw _ (List.mem_of_getElem? (i := 176) rfl)
theorem wd177 {a0 : Array Value} {Z : State} (hw : ∀ d ∈ tables_1, d.before a0 Z = true) : (Jvm.Cond.privateMethod ({ cls := "java/lang/AbstractStringBuilder", name := "putStringAt", desc := "(ILjava/lang/String;)V" } : Jvm.MethodName)).before a0 Z = true := hw _ (List.mem_of_getElem? (i := 177) rfl)
theorem d_jdk_68_m22_33 : decode jdk_68_method_22_code 33 = .ok (.aload_n 0, 1) := by decide +kernel
theorem d_jdk_68_m22_34 : decode jdk_68_method_22_code 34 = .ok (.dup, 1) := by decide +kernel
theorem d_jdk_68_m22_35 : decode jdk_68_method_22_code 35 = .ok (.getfield 79, 3) := by decide +kernel
theorem d_jdk_68_m22_38 : decode jdk_68_method_22_code 38 = .ok (.iload_n 2, 1) := by decide +kernel
theorem d_jdk_68_m22_39 : decode jdk_68_method_22_code 39 = .ok (.iadd, 1) := by decide +kernel
theorem d_jdk_68_m22_40 : decode jdk_68_method_22_code 40 = .ok (.putfield 79, 3) := by decide +kernel
theorem d_jdk_68_m22_43 : decode jdk_68_method_22_code 43 = .ok (.aload_n 0, 1) := by decide +kernel
theorem d_jdk_68_m22_44 : decode jdk_68_method_22_code 44 = .ok (.areturn, 1) := by decide +kernel
set_option maxRecDepth 65536 in
set_option maxHeartbeats 40000000 in
theorem rm_asbAppendS {l : Launch} {Z : State} {a0 : Array Value} (hw : ∀ d ∈ tables_1, d.before a0 Z = true) (hs : ∀ d ∈ jdkStatics_1, d.before a0 Z = true) {x : Addr} {u : Bool} {cs : List Int32} {b : Addr} {kb : ClassId} {N : Nat} {st : Addr} {us : Bool} {ds : List Int32} {sb : Addr} {ks : ClassId} {cap : Nat} {h0 : Heap} (O0 : Ext Z.heap h0) (B : own_SB Z h0 x u cs.length cs b kb N) (Es : Exa Z h0 st "java/lang/String") (Fs : Fld Z h0 st "java/lang/String" "coder" "B" (.int (own_cd us))) (Fb : Fld Z h0 st "java/lang/String" "value" "[B" (.ref sb)) (Vs : Arv Z h0 sb ks .byte (Int32.ofNat (own_bn us ds.length)) (own_bs us ds) (.int 0)) (hds : ds.length ≤ 2000) (hods : own_ok us ds) (hst : st ≠ x ∧ st ≠ b ∧ sb ≠ x ∧ sb ≠ b) (hok : own_ok u cs) (hcap : 2 * N ≤ cap) (hcap2 : cap ≤ 4000) (hfit : cs.length + ds.length ≤ N) :
    own_Ct l Z (⟨"java/lang/AbstractStringBuilder", "append", "(Ljava/lang/String;)Ljava/lang/AbstractStringBuilder;"⟩ : MethodName) jdk_68_method_22_code 3 (some (.object "java/lang/AbstractStringBuilder")) [] ({ frames := 8, locals := 116, cells := 1, slots := cap } : Room) #[(.ref x), (.ref st)] h0 (fun v h => v = some (.ref x) ∧ Keep h0 h [x, b] ∧ ∃ (b' : Addr) (kb' : ClassId), (b' = b ∨ h0.size ≤ b') ∧ own_SB Z h x (u || us) (cs ++ ds).length (cs ++ ds) b' kb' N) := by
  have B' := B
  obtain ⟨BE, Bvalue, Bcoder, Bcount, BmaybeLatin1, BV, BX, hab, ga, gb, hcN, hN, hnc⟩ := B'
  refine own_body (Ls := #[.val (.ref x), .val (.ref st), .unset]) (plainFor_of_name pn_java_lang_AbstractStringBuilder) (fun m => by first | (simp [entryFrame, mkF, argsToLocals, Value.category]; done) | rfl) O0 ?_
  intro p e s m below meth c T0 G K0
  refine own_aloadN K0 d_jdk_68_m22_0 rfl rfl rfl ?_
  refine own_ifnonnullYes K0 d_jdk_68_m22_1 (pc' := 9) (by decide) (by decide) ?_
  refine own_aloadN K0 d_jdk_68_m22_9 rfl rfl rfl ?_
  refine own_callV K0 (a := st) (x0 := (⟨"java/lang/String", "length", "()I"⟩ : MethodName)) (wd174 hw) (wd37 hw) (fun q => own_nfS (args := #[]) (mvT q (wd39 hw)) rfl) (wd39 hw) (wd38 hw) (rm_lengthS hw hs K0.O ⟨Es, Fs, sb, ks, Fb, Vs⟩ (by omega)) (wd40 hw) (wd10 hw) (by decide) Es (argsL := []) (rest := []) rfl pd_2829I rfl rfl (W := 0) rfl (by first | decide | (dsimp only; omega)) (by first | decide | (dsimp only; omega)) (by first | decide | (dsimp only; omega)) (by first | decide | (dsimp only; omega)) d_jdk_68_m22_10 rfl ?_
  intro T77 h77 L77 v77 K77 q77
  obtain ⟨rfl, e77⟩ := q77
  have f77 := e77.symm
  subst f77
  show G (T77.setTop (mkF m 13 #[.val (.ref x), .val (.ref st), .unset] [(.int (Int32.ofNat ds.length))]))
  refine own_istoreN K77 (Ls' := #[.val (.ref x), .val (.ref st), .val (.int (Int32.ofNat ds.length))]) d_jdk_68_m22_13 rfl rfl ?_
  refine own_aloadN K77 d_jdk_68_m22_14 rfl rfl rfl ?_
  refine own_aloadN K77 d_jdk_68_m22_15 rfl rfl rfl ?_
  refine own_getF K77 (host := "") (Or.inl (wd88 hw)) Via.refl Bcount d_jdk_68_m22_16 rfl ?_
  intro T78 K78
  refine own_iloadN K78 d_jdk_68_m22_19 rfl rfl ?_
  refine own_iadd K78 d_jdk_68_m22_20 rfl ?_
  rw [own_addN]
  refine own_callP K78 (a := x) (wd155 hw) (wd156 hw) (own_selfSel (wd156 hw) (wd157 hw) (own_nfS (wd77 hw) rfl) (by decide)) (wd157 hw) (rm_ensure hw hs K78.O B hfit) (wd159 hw) (wd54 hw) (by decide) BE (argsL := [(.int (Int32.ofNat (cs.length + ds.length)))]) (rest := []) rfl pd_28I29V rfl rfl (W := 0) rfl (by first | decide | (dsimp only; omega)) (by first | decide | (dsimp only; omega)) (by first | decide | (dsimp only; omega)) (by first | decide | (dsimp only; omega)) d_jdk_68_m22_21 rfl ?_
  intro T79 h79 L79 v79 K79 q79
  obtain ⟨rfl, e79⟩ := q79
  have f79 := e79.symm
  subst f79
  show G (T79.setTop (mkF m 24 #[.val (.ref x), .val (.ref st), .val (.int (Int32.ofNat ds.length))] []))
  refine own_aloadN K79 d_jdk_68_m22_24 rfl rfl rfl ?_
  refine own_aloadN K79 d_jdk_68_m22_25 rfl rfl rfl ?_
  refine own_getF K79 (host := "") (Or.inl (wd88 hw)) Via.refl Bcount d_jdk_68_m22_26 rfl ?_
  intro T80 K80
  refine own_aloadN K80 d_jdk_68_m22_29 rfl rfl rfl ?_
  refine own_callP K80 (a := x) (wd175 hw) (wd176 hw) (own_selfSel (wd176 hw) (wd177 hw) (own_nfS (wd77 hw) rfl) (by decide)) (wd177 hw) (rm_putStr hw hs (cap := cap) K80.O B Es Fs Fb Vs hds hods hst hok hcap hcap2 hfit) (wd179 hw) (wd54 hw) (by decide) BE (argsL := [(.int (Int32.ofNat cs.length)), (.ref st)]) (rest := []) rfl pd_28ILjava2flang2fString3b29V rfl rfl (W := 0) rfl (by first | decide | (dsimp only; omega)) (by first | decide | (dsimp only; omega)) (by first | decide | (dsimp only; omega)) (by first | decide | (dsimp only; omega)) d_jdk_68_m22_30 rfl ?_
  intro T81 h81 L81 v81 K81 q81
  obtain ⟨rfl, Kp81, b81, kb81, nb81, B81⟩ := q81
  show G (T81.setTop (mkF m 33 #[.val (.ref x), .val (.ref st), .val (.int (Int32.ofNat ds.length))] []))
  obtain ⟨DE, Dvalue, Dcoder, Dcount, DmaybeLatin1, DV, DX, hab1, ga1, gb1, hcN1, hN1, hnc1⟩ := B81
  refine own_aloadN K81 d_jdk_68_m22_33 rfl rfl rfl ?_
  refine own_dup K81 d_jdk_68_m22_34 rfl rfl ?_
  refine own_getF K81 (host := "") (Or.inl (wd88 hw)) Via.refl Dcount d_jdk_68_m22_35 rfl ?_
  intro T82 K82
  refine own_iloadN K82 d_jdk_68_m22_38 rfl rfl ?_
  refine own_iadd K82 d_jdk_68_m22_39 rfl ?_
  rw [own_addN, ← List.length_append]
  refine own_putF K82 (host := "") (Or.inl (wd88 hw)) Via.refl Dcount DE (Or.inl (wd89 hw)) (wd34 hw) (ty := .int) (by decide) rfl rfl ga1 d_jdk_68_m22_40 rfl ?_
  intro T83 h83 K83 W83
  have value_84 := Dvalue.other W83 (Or.inr (slot_ne (Or.inl (wd59 hw)) (Or.inl (wd89 hw)) (by decide) (t := (.array .byte)) (t' := .int) (by decide) (by decide)))
  have coder_84 := Dcoder.other W83 (Or.inr (slot_ne (Or.inl (wd61 hw)) (Or.inl (wd89 hw)) (by decide) (t := .byte) (t' := .int) (by decide) (by decide)))
  have count_84 := Dcount.same W83
  have maybeLatin1_84 := DmaybeLatin1.other W83 (Or.inr (slot_ne (Or.inl (wd256 hw)) (Or.inl (wd89 hw)) (by decide) (t := .boolean) (t' := .int) (by decide) (by decide)))
  have E_84 := DE.wr W83
  have X_84 := DX.wr W83
  have V_84 := DV.other W83 (Ne.symm hab1)
  refine own_aloadN K83 d_jdk_68_m22_43 rfl rfl rfl ?_
  exact own_retA K83 d_jdk_68_m22_44 rfl rfl rfl rfl (by first | decide | (dsimp only; omega)) (by first | decide | (dsimp only; omega)) ⟨rfl, Kp81.wr W83 (Or.inl (List.mem_cons_self ..)), b81, kb81, nb81, ⟨E_84, value_84, coder_84, count_84, maybeLatin1_84, V_84, X_84, hab1, ga1, gb1, hcN1, hN1, Nat.le_refl _⟩⟩
theorem d_jdk_67_m7_0 : decode jdk_67_method_7_code 0 = .ok (.aload_n 0, 1) := by decide +kernel
theorem d_jdk_67_m7_1 : decode jdk_67_method_7_code 1 = .ok (.aload_n 1, 1) := by decide +kernel
theorem d_jdk_67_m7_2 : decode jdk_67_method_7_code 2 = .ok (.invokespecial 29, 3) := by decide +kernel
theorem wd173 {a0 : Array Value} {Z : State} (hw : ∀ d ∈ tables_1, d.before a0 Z = true) : (Jvm.Cond.code ({ cls := "java/lang/AbstractStringBuilder", name := "append", desc := "(Ljava/lang/String;)Ljava/lang/AbstractStringBuilder;" } : Jvm.MethodName) jdk_68_method_22_code (3 : Nat) (Option.some (Jvm.ClassFile.FieldType.object "java/lang/AbstractStringBuilder"))).before a0 Z = true := hw _ (List.mem_of_getElem? (i := 173) rfl)
theorem pd_28Ljava2flang2fString3b29Ljava2flang2fAbstractStringBuilder3b : parseMethodDescriptor "(Ljava/lang/String;)Ljava/lang/AbstractStringBuilder;" = some ⟨[(.object "java/lang/String")], some (.object "java/lang/AbstractStringBuilder")⟩ := by decide +kernel
theorem wd170 {a0 : Array Value} {Z : State} (hw : ∀ d ∈ tables_1, d.before a0 Z = true) : (Jvm.Cond.methodLink "java/lang/StringBuilder" (29 : Nat) ({ cls := "java/lang/AbstractStringBuilder", name := "append", desc := "(Ljava/lang/String;)Ljava/lang/AbstractStringBuilder;" } : Jvm.MethodName)).before a0 Z = true := hw _ (List.mem_of_getElem? (i := 170) rfl)
theorem wd171 {a0 : Array Value} {Z : State} (hw : ∀ d ∈ tables_1, d.before a0 Z = true) : (Jvm.Cond.instanceMethod ({ cls := "java/lang/AbstractStringBuilder", name := "append", desc := "(Ljava/lang/String;)Ljava/lang/AbstractStringBuilder;" } : Jvm.MethodName)).before a0 Z = true := hw _ (List.mem_of_getElem? (i := 171) rfl)
theorem wd86 {a0 : Array Value} {Z : State} (hw : ∀ d ∈ tables_1, d.before a0 Z = true) : (Jvm.Cond.superclass "java/lang/StringBuilder" "java/lang/AbstractStringBuilder").before a0 Z = true := hw _ (List.mem_of_getElem? (i := 86) rfl)
theorem d_jdk_67_m7_5 : decode jdk_67_method_7_code 5 = .ok (.pop, 1) := by decide +kernel
theorem d_jdk_67_m7_6 : decode jdk_67_method_7_code 6 = .ok (.aload_n 0, 1) := by decide +kernel
theorem d_jdk_67_m7_7 : decode jdk_67_method_7_code 7 = .ok (.areturn, 1) := by decide +kernel
set_option maxRecDepth 65536 in
set_option maxHeartbeats 40000000 in
theorem rm_appendS {l : Launch} {Z : State} {a0 : Array Value} (hw : ∀ d ∈ tables_1, d.before a0 Z = true) (hs : ∀ d ∈ jdkStatics_1, d.before a0 Z = true) {x : Addr} {u : Bool} {cs : List Int32} {b : Addr} {kb : ClassId} {N : Nat} {st : Addr} {us : Bool} {ds : List Int32} {sb : Addr} {ks : ClassId} {cap : Nat} {h0 : Heap} (O0 : Ext Z.heap h0) (B : own_SB Z h0 x u cs.length cs b kb N) (Es : Exa Z h0 st "java/lang/String") (Fs : Fld Z h0 st "java/lang/String" "coder" "B" (.int (own_cd us))) (Fb : Fld Z h0 st "java/lang/String" "value" "[B" (.ref sb)) (Vs : Arv Z h0 sb ks .byte (Int32.ofNat (own_bn us ds.length)) (own_bs us ds) (.int 0)) (hds : ds.length ≤ 2000) (hods : own_ok us ds) (hst : st ≠ x ∧ st ≠ b ∧ sb ≠ x ∧ sb ≠ b) (hok : own_ok u cs) (hcap : 2 * N ≤ cap) (hcap2 : cap ≤ 4000) (hfit : cs.length + ds.length ≤ N) :
    own_Ct l Z (⟨"java/lang/StringBuilder", "append", "(Ljava/lang/String;)Ljava/lang/StringBuilder;"⟩ : MethodName) jdk_67_method_7_code 2 (some (.object "java/lang/StringBuilder")) [] ({ frames := 9, locals := 130, cells := 1, slots := cap } : Room) #[(.ref x), (.ref st)] h0 (fun v h => v = some (.ref x) ∧ Keep h0 h [x, b] ∧ ∃ (b' : Addr) (kb' : ClassId), (b' = b ∨ h0.size ≤ b') ∧ own_SB Z h x (u || us) (cs ++ ds).length (cs ++ ds) b' kb' N) := by
  refine own_body (Ls := #[.val (.ref x), .val (.ref st)]) (plainFor_of_name pn_java_lang_StringBuilder) (fun m => by first | (simp [entryFrame, mkF, argsToLocals, Value.category]; done) | rfl) O0 ?_
  intro p e s m below meth c T0 G K0
  refine own_aloadN K0 d_jdk_67_m7_0 rfl rfl rfl ?_
  refine own_aloadN K0 d_jdk_67_m7_1 rfl rfl rfl ?_
  refine own_callSup K0 (a := x) (wd170 hw) (own_sameSelf (wd171 hw) (own_nfS (wd77 hw) rfl) (by decide)) (wd171 hw) (wd86 hw) (rm_asbAppendS hw hs (cap := cap) K0.O B Es Fs Fb Vs hds hods hst hok hcap hcap2 hfit) (wd173 hw) (wd54 hw) (by decide) B.exa (argsL := [(.ref st)]) (rest := []) rfl pd_28Ljava2flang2fString3b29Ljava2flang2fAbstractStringBuilder3b rfl rfl (W := 0) rfl (by first | decide | (dsimp only; omega)) (by first | decide | (dsimp only; omega)) (by first | decide | (dsimp only; omega)) (by first | decide | (dsimp only; omega)) d_jdk_67_m7_2 rfl ?_
  intro T85 h85 L85 v85 K85 q85
  obtain ⟨rfl, q85⟩ := q85
  show G (T85.setTop (mkF m 5 #[.val (.ref x), .val (.ref st)] [(.ref x)]))
  refine own_pop K85 d_jdk_67_m7_5 rfl rfl ?_
  refine own_aloadN K85 d_jdk_67_m7_6 rfl rfl rfl ?_
  exact own_retA K85 d_jdk_67_m7_7 rfl rfl rfl rfl (by first | decide | (dsimp only; omega)) (by first | decide | (dsimp only; omega)) ⟨rfl, q85⟩
theorem d_jdk_43_m3_0 : decode jdk_43_method_3_code 0 = .ok (.iload_n 0, 1) := by decide +kernel
theorem d_jdk_43_m3_1 : decode jdk_43_method_3_code 1 = .ok (.sipush 255, 3) := by decide +kernel
theorem d_jdk_43_m3_4 : decode jdk_43_method_3_code 4 = .ok (.if_icmp .gt 7, 3) := by decide +kernel
theorem d_jdk_43_m3_7 : decode jdk_43_method_3_code 7 = .ok (.iconst 1, 1) := by decide +kernel
theorem d_jdk_43_m3_8 : decode jdk_43_method_3_code 8 = .ok (.goto 4, 3) := by decide +kernel
theorem d_jdk_43_m3_12 : decode jdk_43_method_3_code 12 = .ok (.ireturn, 1) := by decide +kernel
theorem d_jdk_43_m3_11 : decode jdk_43_method_3_code 11 = .ok (.iconst 0, 1) := by decide +kernel
set_option maxRecDepth 65536 in
set_option maxHeartbeats 40000000 in
theorem rm_canEncodeG {l : Launch} {Z : State} {a0 : Array Value} (hw : ∀ d ∈ tables_1, d.before a0 Z = true) (hs : ∀ d ∈ jdkStatics_1, d.before a0 Z = true) {y : Int32} {h0 : Heap} (O0 : Ext Z.heap h0) (hy : ¬ y < 0 ∧ y < 65536) :
    own_Ct l Z (⟨"java/lang/StringLatin1", "canEncode", "(C)Z"⟩ : MethodName) jdk_43_method_3_code 1 (some .boolean) [] ({ frames := 0, locals := 0, cells := 0, slots := 0 } : Room) #[(.int y)] h0 (fun v h => v = some (.int (cond (decide (y < 256)) 1 0)) ∧ h = h0) := by
  refine own_body (Ls := #[.val (.int y)]) (plainFor_of_name pn_java_lang_StringLatin1) (fun m => by first | (simp [entryFrame, mkF, argsToLocals, Value.category]; done) | rfl) O0 ?_
  intro p e s m below meth c T0 G K0
  refine own_iloadN K0 d_jdk_43_m3_0 rfl rfl ?_
  refine own_sipush K0 (v := (255 : Int32)) d_jdk_43_m3_1 rfl rfl ?_
  by_cases hq : y < 256
  · skip
    refine own_icmpNo K0 d_jdk_43_m3_4 rfl (flt (own_n255 ⟨hy.1, hq⟩)).2.2.1 ?_
    refine own_iconst K0 (v := (1 : Int32)) d_jdk_43_m3_7 rfl rfl ?_
    refine own_goto K0 d_jdk_43_m3_8 (pc' := 12) (by decide) (by decide) ?_
    exact own_retN K0 (z' := (1 : Int32)) d_jdk_43_m3_12 rfl (by simp) (by decide) (by decide) (by decide) ⟨by rw [decide_eq_true hq]; rfl, rfl⟩
  · skip
    refine own_icmpYes K0 d_jdk_43_m3_4 (pc' := 11) (by decide) (by decide) (tlt (own_g255 hq)).2.2.1 ?_
    refine own_iconst K0 (v := (0 : Int32)) d_jdk_43_m3_11 rfl rfl ?_
    exact own_retN K0 (z' := (0 : Int32)) d_jdk_43_m3_12 rfl (by simp) (by decide) (by decide) (by decide) ⟨by rw [decide_eq_false hq]; rfl, rfl⟩
theorem d_jdk_52_m71_0 : decode jdk_52_method_71_code 0 = .ok (.iload_n 1, 1) := by decide +kernel
theorem d_jdk_52_m71_1 : decode jdk_52_method_71_code 1 = .ok (.aload_n 0, 1) := by decide +kernel
theorem d_jdk_52_m71_2 : decode jdk_52_method_71_code 2 = .ok (.invokestatic 67, 3) := by decide +kernel
theorem d_jdk_52_m71_5 : decode jdk_52_method_71_code 5 = .ok (.aload_n 0, 1) := by decide +kernel
theorem d_jdk_52_m71_6 : decode jdk_52_method_71_code 6 = .ok (.iload_n 1, 1) := by decide +kernel
theorem d_jdk_52_m71_7 : decode jdk_52_method_71_code 7 = .ok (.iload_n 2, 1) := by decide +kernel
theorem d_jdk_52_m71_8 : decode jdk_52_method_71_code 8 = .ok (.invokestatic 111, 3) := by decide +kernel
theorem d_jdk_52_m71_11 : decode jdk_52_method_71_code 11 = .ok (.return_, 1) := by decide +kernel
set_option maxRecDepth 65536 in
set_option maxHeartbeats 40000000 in
theorem rm_putCharSB {l : Launch} {Z : State} {a0 : Array Value} (hw : ∀ d ∈ tables_1, d.before a0 Z = true) (hs : ∀ d ∈ jdkStatics_1, d.before a0 Z = true) {b : Addr} {kb : ClassId} {cs : List Int32} {nn : Nat} {y : Int32} {h0 : Heap} (O0 : Ext Z.heap h0) (V : Arv Z h0 b kb .byte (Int32.ofNat (2 * nn)) (own_by2 cs) (.int 0)) (hn : cs.length < nn ∧ nn ≤ 8000) (gb : Z.heap.size ≤ b) :
    own_Ct l Z (⟨"java/lang/StringUTF16", "putCharSB", "([BII)V"⟩ : MethodName) jdk_52_method_71_code 3 none [] ({ frames := 3, locals := 40, cells := 0, slots := 0 } : Room) #[(.ref b), (.int (Int32.ofNat cs.length)), (.int y)] h0 (fun v h => v = none ∧ Keep h0 h [b] ∧ Arv Z h b kb .byte (Int32.ofNat (2 * nn)) (own_by2 (cs ++ [y])) (.int 0)) := by
  refine own_body (Ls := #[.val (.ref b), .val (.int (Int32.ofNat cs.length)), .val (.int y)]) (plainFor_of_name pn_java_lang_StringUTF16) (fun m => by first | (simp [entryFrame, mkF, argsToLocals, Value.category]; done) | rfl) O0 ?_
  intro p e s m below meth c T0 G K0
  refine own_iloadN K0 d_jdk_52_m71_0 rfl rfl ?_
  refine own_aloadN K0 d_jdk_52_m71_1 rfl rfl rfl ?_
  refine own_callS K0 (wd224 hw) (wd225 hw) (rm_checkIndexU hw hs K0.O V (by omega) hn.1) (wd226 hw) (wd116 hw) (by decide) (argsL := [(.int (Int32.ofNat cs.length)), (.ref b)]) (rest := []) rfl pd_28I5bB29V rfl rfl (W := 0) rfl (by decide) (by decide) (by decide) (by decide) d_jdk_52_m71_2 rfl ?_
  intro T86 h86 L86 v86 K86 q86
  obtain ⟨rfl, e86⟩ := q86
  have f86 := e86.symm
  subst f86
  show G (T86.setTop (mkF m 5 #[.val (.ref b), .val (.int (Int32.ofNat cs.length)), .val (.int y)] []))
  refine own_aloadN K86 d_jdk_52_m71_5 rfl rfl rfl ?_
  refine own_iloadN K86 d_jdk_52_m71_6 rfl rfl ?_
  refine own_iloadN K86 d_jdk_52_m71_7 rfl rfl ?_
  refine own_callS K86 (wd212 hw) (wd213 hw) (rm_putChar hw hs K86.O V hn gb) (wd214 hw) (wd116 hw) (by decide) (argsL := [(.ref b), (.int (Int32.ofNat cs.length)), (.int y)]) (rest := []) rfl pd_285bBII29V rfl rfl (W := 0) rfl (by decide) (by decide) (by decide) (by decide) d_jdk_52_m71_8 rfl ?_
  intro T87 h87 L87 v87 K87 q87
  obtain ⟨rfl, q87⟩ := q87
  show G (T87.setTop (mkF m 11 #[.val (.ref b), .val (.int (Int32.ofNat cs.length)), .val (.int y)] []))
  exact own_ret0 K87 d_jdk_52_m71_11 rfl (by decide) (by decide) ⟨rfl, q87⟩
theorem d_jdk_68_m31_0 : decode jdk_68_method_31_code 0 = .ok (.aload_n 0, 1) := by decide +kernel
theorem d_jdk_68_m31_1 : decode jdk_68_method_31_code 1 = .ok (.aload_n 0, 1) := by decide +kernel
theorem d_jdk_68_m31_2 : decode jdk_68_method_31_code 2 = .ok (.getfield 79, 3) := by decide +kernel
theorem d_jdk_68_m31_5 : decode jdk_68_method_31_code 5 = .ok (.iconst 1, 1) := by decide +kernel
theorem d_jdk_68_m31_6 : decode jdk_68_method_31_code 6 = .ok (.iadd, 1) := by decide +kernel
theorem d_jdk_68_m31_7 : decode jdk_68_method_31_code 7 = .ok (.invokevirtual 100, 3) := by decide +kernel
theorem d_jdk_68_m31_10 : decode jdk_68_method_31_code 10 = .ok (.aload_n 0, 1) := by decide +kernel
theorem d_jdk_68_m31_11 : decode jdk_68_method_31_code 11 = .ok (.invokevirtual 83, 3) := by decide +kernel
theorem d_jdk_68_m31_14 : decode jdk_68_method_31_code 14 = .ok (.ifCond .eq 31, 3) := by decide +kernel
theorem d_jdk_68_m31_45 : decode jdk_68_method_31_code 45 = .ok (.aload_n 0, 1) := by decide +kernel
theorem d_jdk_68_m31_46 : decode jdk_68_method_31_code 46 = .ok (.invokevirtual 83, 3) := by decide +kernel
theorem d_jdk_68_m31_49 : decode jdk_68_method_31_code 49 = .ok (.ifCond .eq 7, 3) := by decide +kernel
theorem d_jdk_68_m31_56 : decode jdk_68_method_31_code 56 = .ok (.aload_n 0, 1) := by decide +kernel
theorem d_jdk_68_m31_57 : decode jdk_68_method_31_code 57 = .ok (.getfield 15, 3) := by decide +kernel
theorem d_jdk_68_m31_60 : decode jdk_68_method_31_code 60 = .ok (.aload_n 0, 1) := by decide +kernel
theorem d_jdk_68_m31_61 : decode jdk_68_method_31_code 61 = .ok (.dup, 1) := by decide +kernel
theorem d_jdk_68_m31_62 : decode jdk_68_method_31_code 62 = .ok (.getfield 79, 3) := by decide +kernel
theorem d_jdk_68_m31_65 : decode jdk_68_method_31_code 65 = .ok (.dup_x1, 1) := by decide +kernel
theorem d_jdk_68_m31_66 : decode jdk_68_method_31_code 66 = .ok (.iconst 1, 1) := by decide +kernel
theorem d_jdk_68_m31_67 : decode jdk_68_method_31_code 67 = .ok (.iadd, 1) := by decide +kernel
theorem d_jdk_68_m31_68 : decode jdk_68_method_31_code 68 = .ok (.putfield 79, 3) := by decide +kernel
theorem d_jdk_68_m31_71 : decode jdk_68_method_31_code 71 = .ok (.iload_n 1, 1) := by decide +kernel
theorem d_jdk_68_m31_72 : decode jdk_68_method_31_code 72 = .ok (.invokestatic 197, 3) := by decide +kernel
theorem wd254 {a0 : Array Value} {Z : State} (hw : ∀ d ∈ tables_1, d.before a0 Z = true) : (Jvm.Cond.code ({ cls := "java/lang/StringUTF16", name := "putCharSB", desc := "([BII)V" } : Jvm.MethodName) jdk_52_method_71_code (3 : Nat) (Option.none : Option Jvm.ClassFile.FieldType)).before a0 Z = true := hw _ (List.mem_of_getElem? (i := 254) rfl)
theorem wd252 {a0 : Array Value} {Z : State} (hw : ∀ d ∈ tables_1, d.before a0 Z = true) : (Jvm.Cond.methodLink "java/lang/AbstractStringBuilder" (197 : Nat) ({ cls := "java/lang/StringUTF16", name := "putCharSB", desc := "([BII)V" } : Jvm.MethodName)).before a0 Z = true := hw _ (List.mem_of_getElem? (i := 252) rfl)
theorem wd253 {a0 : Array Value} {Z : State} (hw : ∀ d ∈ tables_1, d.before a0 Z = true) : (Jvm.Cond.static ({ cls := "java/lang/StringUTF16", name := "putCharSB", desc := "([BII)V" } : Jvm.MethodName)).before a0 Z = true := hw _ (List.mem_of_getElem? (i := 253) rfl)
theorem d_jdk_68_m31_75 : decode jdk_68_method_31_code 75 = .ok (.aload_n 0, 1) := by decide +kernel
theorem d_jdk_68_m31_76 : decode jdk_68_method_31_code 76 = .ok (.areturn, 1) := by decide +kernel
theorem d_jdk_68_m31_17 : decode jdk_68_method_31_code 17 = .ok (.iload_n 1, 1) := by decide +kernel
theorem d_jdk_68_m31_18 : decode jdk_68_method_31_code 18 = .ok (.invokestatic 191, 3) := by decide +kernel
theorem wd163 {a0 : Array Value} {Z : State} (hw : ∀ d ∈ tables_1, d.before a0 Z = true) : (Jvm.Cond.code ({ cls := "java/lang/StringLatin1", name := "canEncode", desc := "(C)Z" } : Jvm.MethodName) jdk_43_method_3_code (1 : Nat) (Option.some Jvm.ClassFile.FieldType.boolean)).before a0 Z = true := hw _ (List.mem_of_getElem? (i := 163) rfl)
theorem pd_28C29Z : parseMethodDescriptor "(C)Z" = some ⟨[.char], some .boolean⟩ := by decide +kernel
theorem wd161 {a0 : Array Value} {Z : State} (hw : ∀ d ∈ tables_1, d.before a0 Z = true) : (Jvm.Cond.methodLink "java/lang/AbstractStringBuilder" (191 : Nat) ({ cls := "java/lang/StringLatin1", name := "canEncode", desc := "(C)Z" } : Jvm.MethodName)).before a0 Z = true := hw _ (List.mem_of_getElem? (i := 161) rfl)
theorem wd162 {a0 : Array Value} {Z : State} (hw : ∀ d ∈ tables_1, d.before a0 Z = true) : (Jvm.Cond.static ({ cls := "java/lang/StringLatin1", name := "canEncode", desc := "(C)Z" } : Jvm.MethodName)).before a0 Z = true := hw _ (List.mem_of_getElem? (i := 162) rfl)
theorem d_jdk_68_m31_21 : decode jdk_68_method_31_code 21 = .ok (.ifCond .eq 24, 3) := by decide +kernel
theorem d_jdk_68_m31_24 : decode jdk_68_method_31_code 24 = .ok (.aload_n 0, 1) := by decide +kernel
theorem d_jdk_68_m31_25 : decode jdk_68_method_31_code 25 = .ok (.getfield 15, 3) := by decide +kernel
theorem d_jdk_68_m31_28 : decode jdk_68_method_31_code 28 = .ok (.aload_n 0, 1) := by decide +kernel
theorem d_jdk_68_m31_29 : decode jdk_68_method_31_code 29 = .ok (.dup, 1) := by decide +kernel
theorem d_jdk_68_m31_30 : decode jdk_68_method_31_code 30 = .ok (.getfield 79, 3) := by decide +kernel
theorem d_jdk_68_m31_33 : decode jdk_68_method_31_code 33 = .ok (.dup_x1, 1) := by decide +kernel
theorem d_jdk_68_m31_34 : decode jdk_68_method_31_code 34 = .ok (.iconst 1, 1) := by decide +kernel
theorem d_jdk_68_m31_35 : decode jdk_68_method_31_code 35 = .ok (.iadd, 1) := by decide +kernel
theorem d_jdk_68_m31_36 : decode jdk_68_method_31_code 36 = .ok (.putfield 79, 3) := by decide +kernel
theorem d_jdk_68_m31_39 : decode jdk_68_method_31_code 39 = .ok (.iload_n 1, 1) := by decide +kernel
theorem d_jdk_68_m31_40 : decode jdk_68_method_31_code 40 = .ok (.i2b, 1) := by decide +kernel
theorem d_jdk_68_m31_41 : decode jdk_68_method_31_code 41 = .ok (.bastore, 1) := by decide +kernel
theorem d_jdk_68_m31_42 : decode jdk_68_method_31_code 42 = .ok (.goto 33, 3) := by decide +kernel
theorem d_jdk_68_m31_52 : decode jdk_68_method_31_code 52 = .ok (.aload_n 0, 1) := by decide +kernel
theorem d_jdk_68_m31_53 : decode jdk_68_method_31_code 53 = .ok (.invokevirtual 195, 3) := by decide +kernel
set_option maxRecDepth 65536 in
set_option maxHeartbeats 40000000 in
theorem rm_asbAppendC {l : Launch} {Z : State} {a0 : Array Value} (hw : ∀ d ∈ tables_1, d.before a0 Z = true) (hs : ∀ d ∈ jdkStatics_1, d.before a0 Z = true) {x : Addr} {u : Bool} {cs : List Int32} {b : Addr} {kb : ClassId} {N : Nat} {cap : Nat} {y : Int32} {h0 : Heap} (O0 : Ext Z.heap h0) (B : own_SB Z h0 x u cs.length cs b kb N) (hy : ¬ y < 0 ∧ y < 65536) (hok : own_ok u cs) (hcap : 2 * N ≤ cap) (hcap2 : cap ≤ 4000) (hfit : cs.length + 1 ≤ N) :
    own_Ct l Z (⟨"java/lang/AbstractStringBuilder", "append", "(C)Ljava/lang/AbstractStringBuilder;"⟩ : MethodName) jdk_68_method_31_code 2 (some (.object "java/lang/AbstractStringBuilder")) [] ({ frames := 6, locals := 89, cells := 1, slots := cap } : Room) #[(.ref x), (.int y)] h0 (fun v h => v = some (.ref x) ∧ Keep h0 h [x, b] ∧ ∃ (b' : Addr) (kb' : ClassId), (b' = b ∨ h0.size ≤ b') ∧ own_SB Z h x (u || !decide (y < 256)) (cs ++ [y]).length (cs ++ [y]) b' kb' N) := by
  have B' := B
  obtain ⟨BE, Bvalue, Bcoder, Bcount, BmaybeLatin1, BV, BX, hab, ga, gb, hcN, hN, hnc⟩ := B'
  refine own_body (Ls := #[.val (.ref x), .val (.int y)]) (plainFor_of_name pn_java_lang_AbstractStringBuilder) (fun m => by first | (simp [entryFrame, mkF, argsToLocals, Value.category]; done) | rfl) O0 ?_
  intro p e s m below meth c T0 G K0
  refine own_aloadN K0 d_jdk_68_m31_0 rfl rfl rfl ?_
  refine own_aloadN K0 d_jdk_68_m31_1 rfl rfl rfl ?_
  refine own_getF K0 (host := "") (Or.inl (wd88 hw)) Via.refl Bcount d_jdk_68_m31_2 rfl ?_
  intro T88 K88
  refine own_iconst K88 (v := (1 : Int32)) d_jdk_68_m31_5 rfl rfl ?_
  refine own_iadd K88 d_jdk_68_m31_6 rfl ?_
  rw [own_one]
  refine own_callP K88 (a := x) (wd155 hw) (wd156 hw) (own_selfSel (wd156 hw) (wd157 hw) (own_nfS (wd77 hw) rfl) (by decide)) (wd157 hw) (rm_ensure hw hs K88.O B hfit) (wd159 hw) (wd54 hw) (by decide) BE (argsL := [(.int (Int32.ofNat (cs.length + 1)))]) (rest := []) rfl pd_28I29V rfl rfl (W := 0) rfl (by first | decide | (dsimp only; omega)) (by first | decide | (dsimp only; omega)) (by first | decide | (dsimp only; omega)) (by first | decide | (dsimp only; omega)) d_jdk_68_m31_7 rfl ?_
  intro T89 h89 L89 v89 K89 q89
  obtain ⟨rfl, e89⟩ := q89
  have f89 := e89.symm
  subst f89
  show G (T89.setTop (mkF m 10 #[.val (.ref x), .val (.int y)] []))
  refine own_aloadN K89 d_jdk_68_m31_10 rfl rfl rfl ?_
  refine own_callV K89 (a := x) (x0 := (⟨"java/lang/AbstractStringBuilder", "isLatin1", "()Z"⟩ : MethodName)) (wd160 hw) (wd91 hw) (fun q => own_nfS (args := #[]) (mvT q (wd77 hw)) rfl) (wd93 hw) (wd92 hw) (rm_isLatin1B hw hs (u := u) K89.O Bcoder) (wd94 hw) (wd54 hw) (by decide) BE (argsL := []) (rest := []) rfl pd_2829Z rfl rfl (W := 0) rfl (by first | decide | (dsimp only; omega)) (by first | decide | (dsimp only; omega)) (by first | decide | (dsimp only; omega)) (by first | decide | (dsimp only; omega)) d_jdk_68_m31_11 rfl ?_
  intro T90 h90 L90 v90 K90 q90
  obtain ⟨rfl, e90⟩ := q90
  have f90 := e90.symm
  subst f90
  show G (T90.setTop (mkF m 14 #[.val (.ref x), .val (.int y)] [(.int (cond u 0 1))]))
  cases u with
  | false =>
    refine own_ifNo K90 d_jdk_68_m31_14 rfl ((if0 _ _).trans (feq (by decide)).1) ?_
    refine own_iloadN K90 d_jdk_68_m31_17 rfl rfl ?_
    refine own_callS K90 (wd161 hw) (wd162 hw) (rm_canEncodeG hw hs K90.O hy) (wd163 hw) (wd136 hw) (by decide) (argsL := [(.int y)]) (rest := []) rfl pd_28C29Z rfl rfl (W := 0) rfl (by first | decide | (dsimp only; omega)) (by first | decide | (dsimp only; omega)) (by first | decide | (dsimp only; omega)) (by first | decide | (dsimp only; omega)) d_jdk_68_m31_18 rfl ?_
    intro T98 h98 L98 v98 K98 q98
    obtain ⟨rfl, e98⟩ := q98
    have f98 := e98.symm
    subst f98
    show G (T98.setTop (mkF m 21 #[.val (.ref x), .val (.int y)] [(.int (cond (decide (y < 256)) 1 0))]))
    by_cases hq : y < 256
    · skip
      refine own_ifNo K98 d_jdk_68_m31_21 rfl ((if0 _ _).trans (feq (by rw [decide_eq_true hq]; decide)).1) ?_
      refine own_aloadN K98 d_jdk_68_m31_24 rfl rfl rfl ?_
      refine own_getF K98 (host := "") (Or.inl (wd58 hw)) Via.refl Bvalue d_jdk_68_m31_25 rfl ?_
      intro T99 K99
      refine own_aloadN K99 d_jdk_68_m31_28 rfl rfl rfl ?_
      refine own_dup K99 d_jdk_68_m31_29 rfl rfl ?_
      refine own_getF K99 (host := "") (Or.inl (wd88 hw)) Via.refl Bcount d_jdk_68_m31_30 rfl ?_
      intro T100 K100
      refine own_dupX1 K100 d_jdk_68_m31_33 rfl rfl rfl ?_
      refine own_iconst K100 (v := (1 : Int32)) d_jdk_68_m31_34 rfl rfl ?_
      refine own_iadd K100 d_jdk_68_m31_35 rfl ?_
      rw [own_one]
      rw [show Int32.ofNat (cs.length + 1) = Int32.ofNat (cs ++ [y]).length by simp]
      refine own_putF K100 (host := "") (Or.inl (wd88 hw)) Via.refl Bcount BE (Or.inl (wd89 hw)) (wd34 hw) (ty := .int) (by decide) rfl rfl ga d_jdk_68_m31_36 rfl ?_
      intro T101 h101 K101 W101
      have value_102 := Bvalue.other W101 (Or.inr (slot_ne (Or.inl (wd59 hw)) (Or.inl (wd89 hw)) (by decide) (t := (.array .byte)) (t' := .int) (by decide) (by decide)))
      have coder_102 := Bcoder.other W101 (Or.inr (slot_ne (Or.inl (wd61 hw)) (Or.inl (wd89 hw)) (by decide) (t := .byte) (t' := .int) (by decide) (by decide)))
      have count_102 := Bcount.same W101
      have maybeLatin1_102 := BmaybeLatin1.other W101 (Or.inr (slot_ne (Or.inl (wd256 hw)) (Or.inl (wd89 hw)) (by decide) (t := .boolean) (t' := .int) (by decide) (by decide)))
      have E_102 := BE.wr W101
      have X_102 := BX.wr W101
      have V_102 := BV.other W101 (Ne.symm hab)
      refine own_iloadN K101 d_jdk_68_m31_39 rfl rfl ?_
      refine own_i2b K101 d_jdk_68_m31_40 rfl ?_
      refine own_bastore K101 (V_102.pad (pad_rep (own_by cs) _ 1)) ⟨own_nn (by omega), own_lt hfit (by show N < _; omega)⟩ cs.length (own_clamp (by omega)) (by rw [List.length_append, own_by_len, List.length_replicate]; omega) (x' := (y.toInt8.toInt32)) (own_nar_byte _) gb d_jdk_68_m31_41 rfl ?_
      intro T103 h103 K103 W103 V103
      have hx3 : x ∉ [b] := fun q => hab (List.mem_singleton.mp q)
      have value_104 := value_102.keep (Keep.of_wr W103) hx3
      have coder_104 := coder_102.keep (Keep.of_wr W103) hx3
      have count_104 := count_102.keep (Keep.of_wr W103) hx3
      have maybeLatin1_104 := maybeLatin1_102.keep (Keep.of_wr W103) hx3
      have E_104 := E_102.keep (Keep.of_wr W103)
      have X_104 := X_102.keep (Keep.of_wr W103)
      refine own_goto K103 d_jdk_68_m31_42 (pc' := 75) (by decide) (by decide) ?_
      refine own_aloadN K103 d_jdk_68_m31_75 rfl rfl rfl ?_
      have VV : Arv Z h103 b kb .byte (Int32.ofNat (own_bn false N)) (own_bs false (cs ++ [y])) (.int 0) := by have q := V103; rw [← own_by_len, own_set_end] at q; rw [own_bs_app]; exact q
      exact own_retA K103 d_jdk_68_m31_76 rfl rfl rfl rfl (by first | decide | (dsimp only; omega)) (by first | decide | (dsimp only; omega)) ⟨rfl, own_keep2 ((Keep.refl h0 [x]).wr W101 (Or.inl (List.mem_singleton.mpr rfl))) (Keep.of_wr W103) (Or.inl rfl), b, kb, Or.inl rfl, by rw [decide_eq_true hq]; exact ⟨E_104, value_104, coder_104, count_104, maybeLatin1_104, VV, X_104, hab, ga, gb, by rw [List.length_append]; exact hfit, hN, Nat.le_refl _⟩⟩
    · skip
      refine own_ifYes K98 d_jdk_68_m31_21 (pc' := 45) (by decide) (by decide) ((if0 _ _).trans (teq (by rw [decide_eq_false hq]; rfl)).1) ?_
      refine own_aloadN K98 d_jdk_68_m31_45 rfl rfl rfl ?_
      refine own_callV K98 (a := x) (x0 := (⟨"java/lang/AbstractStringBuilder", "isLatin1", "()Z"⟩ : MethodName)) (wd160 hw) (wd91 hw) (fun q => own_nfS (args := #[]) (mvT q (wd77 hw)) rfl) (wd93 hw) (wd92 hw) (rm_isLatin1B hw hs (u := false) K98.O Bcoder) (wd94 hw) (wd54 hw) (by decide) BE (argsL := []) (rest := []) rfl pd_2829Z rfl rfl (W := 0) rfl (by first | decide | (dsimp only; omega)) (by first | decide | (dsimp only; omega)) (by first | decide | (dsimp only; omega)) (by first | decide | (dsimp only; omega)) d_jdk_68_m31_46 rfl ?_
      intro T105 h105 L105 v105 K105 q105
      obtain ⟨rfl, e105⟩ := q105
      have f105 := e105.symm
      subst f105
      show G (T105.setTop (mkF m 49 #[.val (.ref x), .val (.int y)] [(.int (1 : Int32))]))
      refine own_ifNo K105 d_jdk_68_m31_49 rfl ((if0 _ _).trans (feq (by decide)).1) ?_
      refine own_aloadN K105 d_jdk_68_m31_52 rfl rfl rfl ?_
      refine own_callP K105 (a := x) (wd231 hw) (wd232 hw) (own_selfSel (wd232 hw) (wd233 hw) (own_nfS (wd77 hw) rfl) (by decide)) (wd233 hw) (rm_inflateB hw hs (cap := cap) K105.O B hok hcap hcap2) (wd235 hw) (wd54 hw) (by decide) BE (argsL := []) (rest := []) rfl pd_2829V rfl rfl (W := 0) rfl (by first | decide | (dsimp only; omega)) (by first | decide | (dsimp only; omega)) (by first | decide | (dsimp only; omega)) (by first | decide | (dsimp only; omega)) d_jdk_68_m31_53 rfl ?_
      intro T106 h106 L106 v106 K106 q106
      obtain ⟨rfl, Kp106, b106, kb106, nb106, B106⟩ := q106
      show G (T106.setTop (mkF m 56 #[.val (.ref x), .val (.int y)] []))
      obtain ⟨DE, Dvalue, Dcoder, Dcount, DmaybeLatin1, DV, DX, hab1, ga1, gb1, hcN1, hN1, hnc1⟩ := B106
      refine own_aloadN K106 d_jdk_68_m31_56 rfl rfl rfl ?_
      refine own_getF K106 (host := "") (Or.inl (wd58 hw)) Via.refl Dvalue d_jdk_68_m31_57 rfl ?_
      intro T107 K107
      refine own_aloadN K107 d_jdk_68_m31_60 rfl rfl rfl ?_
      refine own_dup K107 d_jdk_68_m31_61 rfl rfl ?_
      refine own_getF K107 (host := "") (Or.inl (wd88 hw)) Via.refl Dcount d_jdk_68_m31_62 rfl ?_
      intro T108 K108
      refine own_dupX1 K108 d_jdk_68_m31_65 rfl rfl rfl ?_
      refine own_iconst K108 (v := (1 : Int32)) d_jdk_68_m31_66 rfl rfl ?_
      refine own_iadd K108 d_jdk_68_m31_67 rfl ?_
      rw [own_one]
      rw [show Int32.ofNat (cs.length + 1) = Int32.ofNat (cs ++ [y]).length by simp]
      refine own_putF K108 (host := "") (Or.inl (wd88 hw)) Via.refl Dcount DE (Or.inl (wd89 hw)) (wd34 hw) (ty := .int) (by decide) rfl rfl ga1 d_jdk_68_m31_68 rfl ?_
      intro T109 h109 K109 W109
      have value_110 := Dvalue.other W109 (Or.inr (slot_ne (Or.inl (wd59 hw)) (Or.inl (wd89 hw)) (by decide) (t := (.array .byte)) (t' := .int) (by decide) (by decide)))
      have coder_110 := Dcoder.other W109 (Or.inr (slot_ne (Or.inl (wd61 hw)) (Or.inl (wd89 hw)) (by decide) (t := .byte) (t' := .int) (by decide) (by decide)))
      have count_110 := Dcount.same W109
      have maybeLatin1_110 := DmaybeLatin1.other W109 (Or.inr (slot_ne (Or.inl (wd256 hw)) (Or.inl (wd89 hw)) (by decide) (t := .boolean) (t' := .int) (by decide) (by decide)))
      have E_110 := DE.wr W109
      have X_110 := DX.wr W109
      have V_110 := DV.other W109 (Ne.symm hab1)
      refine own_iloadN K109 d_jdk_68_m31_71 rfl rfl ?_
      refine own_callS K109 (wd252 hw) (wd253 hw) (rm_putCharSB hw hs (nn := N) (y := y) K109.O V_110 ⟨hfit, by omega⟩ gb1) (wd254 hw) (wd116 hw) (by decide) (argsL := [(.ref b106), (.int (Int32.ofNat cs.length)), (.int y)]) (rest := []) rfl pd_285bBII29V rfl rfl (W := 0) rfl (by first | decide | (dsimp only; omega)) (by first | decide | (dsimp only; omega)) (by first | decide | (dsimp only; omega)) (by first | decide | (dsimp only; omega)) d_jdk_68_m31_72 rfl ?_
      intro T111 h111 L111 v111 K111 q111
      obtain ⟨rfl, Kp111, V111⟩ := q111
      show G (T111.setTop (mkF m 75 #[.val (.ref x), .val (.int y)] []))
      have hx3 : x ∉ [b106] := fun q => hab1 (List.mem_singleton.mp q)
      have value_112 := value_110.keep Kp111 hx3
      have coder_112 := coder_110.keep Kp111 hx3
      have count_112 := count_110.keep Kp111 hx3
      have maybeLatin1_112 := maybeLatin1_110.keep Kp111 hx3
      have E_112 := E_110.keep Kp111
      have X_112 := X_110.keep Kp111
      refine own_aloadN K111 d_jdk_68_m31_75 rfl rfl rfl ?_
      exact own_retA K111 d_jdk_68_m31_76 rfl rfl rfl rfl (by first | decide | (dsimp only; omega)) (by first | decide | (dsimp only; omega)) ⟨rfl, own_keep2 (Kp106.wr W109 (Or.inl (List.mem_singleton.mpr rfl))) Kp111 nb106, b106, kb106, nb106, by rw [decide_eq_false hq]; exact ⟨E_112, value_112, coder_112, count_112, maybeLatin1_112, V111, X_112, hab1, ga1, gb1, by rw [List.length_append]; exact hfit, hN1, Nat.le_refl _⟩⟩
  | true =>
    refine own_ifYes K90 d_jdk_68_m31_14 (pc' := 45) (by decide) (by decide) ((if0 _ _).trans (teq rfl).1) ?_
    refine own_aloadN K90 d_jdk_68_m31_45 rfl rfl rfl ?_
    refine own_callV K90 (a := x) (x0 := (⟨"java/lang/AbstractStringBuilder", "isLatin1", "()Z"⟩ : MethodName)) (wd160 hw) (wd91 hw) (fun q => own_nfS (args := #[]) (mvT q (wd77 hw)) rfl) (wd93 hw) (wd92 hw) (rm_isLatin1B hw hs (u := true) K90.O Bcoder) (wd94 hw) (wd54 hw) (by decide) BE (argsL := []) (rest := []) rfl pd_2829Z rfl rfl (W := 0) rfl (by first | decide | (dsimp only; omega)) (by first | decide | (dsimp only; omega)) (by first | decide | (dsimp only; omega)) (by first | decide | (dsimp only; omega)) d_jdk_68_m31_46 rfl ?_
    intro T91 h91 L91 v91 K91 q91
    obtain ⟨rfl, e91⟩ := q91
    have f91 := e91.symm
    subst f91
    show G (T91.setTop (mkF m 49 #[.val (.ref x), .val (.int y)] [(.int (0 : Int32))]))
    refine own_ifYes K91 d_jdk_68_m31_49 (pc' := 56) (by decide) (by decide) ((if0 _ _).trans (teq rfl).1) ?_
    obtain ⟨DE, Dvalue, Dcoder, Dcount, DmaybeLatin1, DV, DX, hab1, ga1, gb1, hcN1, hN1, hnc1⟩ := B
    refine own_aloadN K91 d_jdk_68_m31_56 rfl rfl rfl ?_
    refine own_getF K91 (host := "") (Or.inl (wd58 hw)) Via.refl Dvalue d_jdk_68_m31_57 rfl ?_
    intro T92 K92
    refine own_aloadN K92 d_jdk_68_m31_60 rfl rfl rfl ?_
    refine own_dup K92 d_jdk_68_m31_61 rfl rfl ?_
    refine own_getF K92 (host := "") (Or.inl (wd88 hw)) Via.refl Dcount d_jdk_68_m31_62 rfl ?_
    intro T93 K93
    refine own_dupX1 K93 d_jdk_68_m31_65 rfl rfl rfl ?_
    refine own_iconst K93 (v := (1 : Int32)) d_jdk_68_m31_66 rfl rfl ?_
    refine own_iadd K93 d_jdk_68_m31_67 rfl ?_
    rw [own_one]
    rw [show Int32.ofNat (cs.length + 1) = Int32.ofNat (cs ++ [y]).length by simp]
    refine own_putF K93 (host := "") (Or.inl (wd88 hw)) Via.refl Dcount DE (Or.inl (wd89 hw)) (wd34 hw) (ty := .int) (by decide) rfl rfl ga1 d_jdk_68_m31_68 rfl ?_
    intro T94 h94 K94 W94
    have value_95 := Dvalue.other W94 (Or.inr (slot_ne (Or.inl (wd59 hw)) (Or.inl (wd89 hw)) (by decide) (t := (.array .byte)) (t' := .int) (by decide) (by decide)))
    have coder_95 := Dcoder.other W94 (Or.inr (slot_ne (Or.inl (wd61 hw)) (Or.inl (wd89 hw)) (by decide) (t := .byte) (t' := .int) (by decide) (by decide)))
    have count_95 := Dcount.same W94
    have maybeLatin1_95 := DmaybeLatin1.other W94 (Or.inr (slot_ne (Or.inl (wd256 hw)) (Or.inl (wd89 hw)) (by decide) (t := .boolean) (t' := .int) (by decide) (by decide)))
    have E_95 := DE.wr W94
    have X_95 := DX.wr W94
    have V_95 := DV.other W94 (Ne.symm hab1)
    refine own_iloadN K94 d_jdk_68_m31_71 rfl rfl ?_
    refine own_callS K94 (wd252 hw) (wd253 hw) (rm_putCharSB hw hs (nn := N) (y := y) K94.O V_95 ⟨hfit, by omega⟩ gb1) (wd254 hw) (wd116 hw) (by decide) (argsL := [(.ref b), (.int (Int32.ofNat cs.length)), (.int y)]) (rest := []) rfl pd_285bBII29V rfl rfl (W := 0) rfl (by first | decide | (dsimp only; omega)) (by first | decide | (dsimp only; omega)) (by first | decide | (dsimp only; omega)) (by first | decide | (dsimp only; omega)) d_jdk_68_m31_72 rfl ?_
    intro T96 h96 L96 v96 K96 q96
    obtain ⟨rfl, Kp96, V96⟩ := q96
    show G (T96.setTop (mkF m 75 #[.val (.ref x), .val (.int y)] []))
    have hx3 : x ∉ [b] := fun q => hab1 (List.mem_singleton.mp q)
    have value_97 := value_95.keep Kp96 hx3
    have coder_97 := coder_95.keep Kp96 hx3
    have count_97 := count_95.keep Kp96 hx3
    have maybeLatin1_97 := maybeLatin1_95.keep Kp96 hx3
    have E_97 := E_95.keep Kp96
    have X_97 := X_95.keep Kp96
    refine own_aloadN K96 d_jdk_68_m31_75 rfl rfl rfl ?_
    exact own_retA K96 d_jdk_68_m31_76 rfl rfl rfl rfl (by first | decide | (dsimp only; omega)) (by first | decide | (dsimp only; omega)) ⟨rfl, own_keep2 ((Keep.refl h0 [x]).wr W94 (Or.inl (List.mem_singleton.mpr rfl))) Kp96 (Or.inl rfl), b, kb, (Or.inl rfl), ⟨E_97, value_97, coder_97, count_97, maybeLatin1_97, V96, X_97, hab1, ga1, gb1, by rw [List.length_append]; exact hfit, hN1, Nat.le_refl _⟩⟩
theorem d_jdk_67_m14_0 : decode jdk_67_method_14_code 0 = .ok (.aload_n 0, 1) := by decide +kernel
theorem d_jdk_67_m14_1 : decode jdk_67_method_14_code 1 = .ok (.iload_n 1, 1) := by decide +kernel
theorem d_jdk_67_m14_2 : decode jdk_67_method_14_code 2 = .ok (.invokespecial 50, 3) := by decide +kernel
theorem wd154 {a0 : Array Value} {Z : State} (hw : ∀ d ∈ tables_1, d.before a0 Z = true) : (Jvm.Cond.code ({ cls := "java/lang/AbstractStringBuilder", name := "append", desc := "(C)Ljava/lang/AbstractStringBuilder;" } : Jvm.MethodName) jdk_68_method_31_code (2 : Nat) (Option.some (Jvm.ClassFile.FieldType.object "java/lang/AbstractStringBuilder"))).before a0 Z = true := hw _ (List.mem_of_getElem? (i := 154) rfl)
theorem pd_28C29Ljava2flang2fAbstractStringBuilder3b : parseMethodDescriptor "(C)Ljava/lang/AbstractStringBuilder;" = some ⟨[.char], some (.object "java/lang/AbstractStringBuilder")⟩ := by decide +kernel
theorem wd151 {a0 : Array Value} {Z : State} (hw : ∀ d ∈ tables_1, d.before a0 Z = true) : (Jvm.Cond.methodLink "java/lang/StringBuilder" (50 : Nat) ({ cls := "java/lang/AbstractStringBuilder", name := "append", desc := "(C)Ljava/lang/AbstractStringBuilder;" } : Jvm.MethodName)).before a0 Z = true := hw _ (List.mem_of_getElem? (i := 151) rfl)
theorem wd152 {a0 : Array Value} {Z : State} (hw : ∀ d ∈ tables_1, d.before a0 Z = true) : (Jvm.Cond.instanceMethod ({ cls := "java/lang/AbstractStringBuilder", name := "append", desc := "(C)Ljava/lang/AbstractStringBuilder;" } : Jvm.MethodName)).before a0 Z = true := hw _ (List.mem_of_getElem? (i := 152) rfl)
theorem d_jdk_67_m14_5 : decode jdk_67_method_14_code 5 = .ok (.pop, 1) := by decide +kernel
theorem d_jdk_67_m14_6 : decode jdk_67_method_14_code 6 = .ok (.aload_n 0, 1) := by decide +kernel
theorem d_jdk_67_m14_7 : decode jdk_67_method_14_code 7 = .ok (.areturn, 1) := by decide +kernel
set_option maxRecDepth 65536 in
set_option maxHeartbeats 40000000 in
theorem rm_appendC {l : Launch} {Z : State} {a0 : Array Value} (hw : ∀ d ∈ tables_1, d.before a0 Z = true) (hs : ∀ d ∈ jdkStatics_1, d.before a0 Z = true) {x : Addr} {u : Bool} {cs : List Int32} {b : Addr} {kb : ClassId} {N : Nat} {cap : Nat} {y : Int32} {h0 : Heap} (O0 : Ext Z.heap h0) (B : own_SB Z h0 x u cs.length cs b kb N) (hy : ¬ y < 0 ∧ y < 65536) (hok : own_ok u cs) (hcap : 2 * N ≤ cap) (hcap2 : cap ≤ 4000) (hfit : cs.length + 1 ≤ N) :
    own_Ct l Z (⟨"java/lang/StringBuilder", "append", "(C)Ljava/lang/StringBuilder;"⟩ : MethodName) jdk_67_method_14_code 2 (some (.object "java/lang/StringBuilder")) [] ({ frames := 7, locals := 102, cells := 1, slots := cap } : Room) #[(.ref x), (.int y)] h0 (fun v h => v = some (.ref x) ∧ Keep h0 h [x, b] ∧ ∃ (b' : Addr) (kb' : ClassId), (b' = b ∨ h0.size ≤ b') ∧ own_SB Z h x (u || !decide (y < 256)) (cs ++ [y]).length (cs ++ [y]) b' kb' N) := by
  refine own_body (Ls := #[.val (.ref x), .val (.int y)]) (plainFor_of_name pn_java_lang_StringBuilder) (fun m => by first | (simp [entryFrame, mkF, argsToLocals, Value.category]; done) | rfl) O0 ?_
  intro p e s m below meth c T0 G K0
  refine own_aloadN K0 d_jdk_67_m14_0 rfl rfl rfl ?_
  refine own_iloadN K0 d_jdk_67_m14_1 rfl rfl ?_
  refine own_callSup K0 (a := x) (wd151 hw) (own_sameSelf (wd152 hw) (own_nfS (wd77 hw) rfl) (by decide)) (wd152 hw) (wd86 hw) (rm_asbAppendC hw hs (cap := cap) K0.O B hy hok hcap hcap2 hfit) (wd154 hw) (wd54 hw) (by decide) B.exa (argsL := [(.int y)]) (rest := []) rfl pd_28C29Ljava2flang2fAbstractStringBuilder3b rfl rfl (W := 0) rfl (by first | decide | (dsimp only; omega)) (by first | decide | (dsimp only; omega)) (by first | decide | (dsimp only; omega)) (by first | decide | (dsimp only; omega)) d_jdk_67_m14_2 rfl ?_
  intro T113 h113 L113 v113 K113 q113
  obtain ⟨rfl, q113⟩ := q113
  show G (T113.setTop (mkF m 5 #[.val (.ref x), .val (.int y)] [(.ref x)]))
  refine own_pop K113 d_jdk_67_m14_5 rfl rfl ?_
  refine own_aloadN K113 d_jdk_67_m14_6 rfl rfl rfl ?_
  exact own_retA K113 d_jdk_67_m14_7 rfl rfl rfl rfl (by first | decide | (dsimp only; omega)) (by first | decide | (dsimp only; omega)) ⟨rfl, q113⟩
theorem d_jdk_68_m6_0 : decode jdk_68_method_6_code 0 = .ok (.aload_n 0, 1) := by decide +kernel
theorem d_jdk_68_m6_1 : decode jdk_68_method_6_code 1 = .ok (.getfield 79, 3) := by decide +kernel
theorem d_jdk_68_m6_4 : decode jdk_68_method_6_code 4 = .ok (.ireturn, 1) := by decide +kernel
set_option maxRecDepth 65536 in
set_option maxHeartbeats 40000000 in
theorem rm_asbLen {l : Launch} {Z : State} {a0 : Array Value} (hw : ∀ d ∈ tables_1, d.before a0 Z = true) (hs : ∀ d ∈ jdkStatics_1, d.before a0 Z = true) {x : Addr} {z : Int32} {h0 : Heap} (O0 : Ext Z.heap h0) (F : Fld Z h0 x "java/lang/AbstractStringBuilder" "count" "I" (.int z)) (E : Exa Z h0 x "java/lang/StringBuilder") :
    own_Ct l Z (⟨"java/lang/AbstractStringBuilder", "length", "()I"⟩ : MethodName) jdk_68_method_6_code 1 (some .int) [] ({ frames := 0, locals := 0, cells := 0, slots := 0 } : Room) #[(.ref x)] h0 (fun v h => v = some (.int z) ∧ h = h0) := by
  refine own_body (Ls := #[.val (.ref x)]) (plainFor_of_name pn_java_lang_AbstractStringBuilder) (fun m => by first | (simp [entryFrame, mkF, argsToLocals, Value.category]; done) | rfl) O0 ?_
  intro p e s m below meth c T0 G K0
  refine own_aloadN K0 d_jdk_68_m6_0 rfl rfl rfl ?_
  refine own_getF K0 (host := "") (Or.inl (wd88 hw)) Via.refl F d_jdk_68_m6_1 rfl ?_
  intro T114 K114
  exact own_retI K114 d_jdk_68_m6_4 rfl (by decide) (by decide) ⟨rfl, rfl⟩
theorem d_jdk_67_m93_0 : decode jdk_67_method_93_code 0 = .ok (.aload_n 0, 1) := by decide +kernel
theorem d_jdk_67_m93_1 : decode jdk_67_method_93_code 1 = .ok (.invokespecial 343, 3) := by decide +kernel
theorem wd87 {a0 : Array Value} {Z : State} (hw : ∀ d ∈ tables_1, d.before a0 Z = true) : (Jvm.Cond.code ({ cls := "java/lang/AbstractStringBuilder", name := "length", desc := "()I" } : Jvm.MethodName) jdk_68_method_6_code (1 : Nat) (Option.some Jvm.ClassFile.FieldType.int)).before a0 Z = true := hw _ (List.mem_of_getElem? (i := 87) rfl)
theorem wd85 {a0 : Array Value} {Z : State} (hw : ∀ d ∈ tables_1, d.before a0 Z = true) : (Jvm.Cond.methodLink "java/lang/StringBuilder" (343 : Nat) ({ cls := "java/lang/AbstractStringBuilder", name := "length", desc := "()I" } : Jvm.MethodName)).before a0 Z = true := hw _ (List.mem_of_getElem? (i := 85) rfl)
theorem wd81 {a0 : Array Value} {Z : State} (hw : ∀ d ∈ tables_1, d.before a0 Z = true) : (Jvm.Cond.instanceMethod ({ cls := "java/lang/AbstractStringBuilder", name := "length", desc := "()I" } : Jvm.MethodName)).before a0 Z = true := hw _ (List.mem_of_getElem? (i := 81) rfl)
theorem d_jdk_67_m93_4 : decode jdk_67_method_93_code 4 = .ok (.ireturn, 1) := by decide +kernel
set_option maxRecDepth 65536 in
set_option maxHeartbeats 40000000 in
theorem rm_sbLen {l : Launch} {Z : State} {a0 : Array Value} (hw : ∀ d ∈ tables_1, d.before a0 Z = true) (hs : ∀ d ∈ jdkStatics_1, d.before a0 Z = true) {x : Addr} {z : Int32} {h0 : Heap} (O0 : Ext Z.heap h0) (F : Fld Z h0 x "java/lang/AbstractStringBuilder" "count" "I" (.int z)) (E : Exa Z h0 x "java/lang/StringBuilder") :
    own_Ct l Z (⟨"java/lang/StringBuilder", "length", "()I"⟩ : MethodName) jdk_67_method_93_code 1 (some .int) [] ({ frames := 1, locals := 12, cells := 0, slots := 0 } : Room) #[(.ref x)] h0 (fun v h => v = some (.int z) ∧ h = h0) := by
  refine own_body (Ls := #[.val (.ref x)]) (plainFor_of_name pn_java_lang_StringBuilder) (fun m => by first | (simp [entryFrame, mkF, argsToLocals, Value.category]; done) | rfl) O0 ?_
  intro p e s m below meth c T0 G K0
  refine own_aloadN K0 d_jdk_67_m93_0 rfl rfl rfl ?_
  refine own_callSup K0 (a := x) (wd85 hw) (own_sameSelf (wd81 hw) (own_nfS (wd77 hw) rfl) (by decide)) (wd81 hw) (wd86 hw) (rm_asbLen hw hs K0.O F E) (wd87 hw) (wd54 hw) (by decide) E (argsL := []) (rest := []) rfl pd_2829I rfl rfl (W := 0) rfl (by decide) (by decide) (by decide) (by decide) d_jdk_67_m93_1 rfl ?_
  intro T115 h115 L115 v115 K115 q115
  obtain ⟨rfl, e115⟩ := q115
  have f115 := e115.symm
  subst f115
  show G (T115.setTop (mkF m 4 #[.val (.ref x)] [(.int z)]))
  exact own_retI K115 d_jdk_67_m93_4 rfl (by decide) (by decide) ⟨rfl, rfl⟩
theorem d_jdk_65_m131_0 : decode jdk_65_method_131_code 0 = .ok (.iload_n 1, 1) := by decide +kernel
theorem d_jdk_65_m131_1 : decode jdk_65_method_131_code 1 = .ok (.iload_n 0, 1) := by decide +kernel
theorem d_jdk_65_m131_2 : decode jdk_65_method_131_code 2 = .ok (.if_icmp .ge 35, 3) := by decide +kernel
theorem d_jdk_65_m131_37 : decode jdk_65_method_131_code 37 = .ok (.return_, 1) := by decide +kernel
theorem pn_java_util_Arrays : plainName "java/util/Arrays" = true := by first | (simp [plainName, overriddenIn]; done) | decide +kernel
set_option maxRecDepth 65536 in
set_option maxHeartbeats 40000000 in
theorem rm_checkLength {l : Launch} {Z : State} {a0 : Array Value} (hw : ∀ d ∈ tables_1, d.before a0 Z = true) (hs : ∀ d ∈ jdkStatics_1, d.before a0 Z = true) {nn : Nat} {h0 : Heap} (O0 : Ext Z.heap h0) (hn : nn ≤ 8000) :
    own_Ct l Z (⟨"java/util/Arrays", "checkLength", "(II)V"⟩ : MethodName) jdk_65_method_131_code 2 none [] ({ frames := 0, locals := 0, cells := 0, slots := 0 } : Room) #[(.int 0), (.int (Int32.ofNat nn))] h0 (fun v h => v = none ∧ h = h0) := by
  refine own_body (Ls := #[.val (.int 0), .val (.int (Int32.ofNat nn))]) (plainFor_of_name pn_java_util_Arrays) (fun m => by first | (simp [entryFrame, mkF, argsToLocals, Value.category]; done) | rfl) O0 ?_
  intro p e s m below meth c T0 G K0
  refine own_iloadN K0 d_jdk_65_m131_0 rfl rfl ?_
  refine own_iloadN K0 d_jdk_65_m131_1 rfl rfl ?_
  refine own_icmpYes K0 d_jdk_65_m131_2 (pc' := 37) (by decide) (by decide) (flt (own_nn (by omega))).2.1 ?_
  exact own_ret0 K0 d_jdk_65_m131_37 rfl (by decide) (by decide) ⟨rfl, rfl⟩
theorem d_jdk_29_m69_0 : decode jdk_29_method_69_code 0 = .ok (.iload_n 0, 1) := by decide +kernel
theorem d_jdk_29_m69_1 : decode jdk_29_method_69_code 1 = .ok (.iload_n 1, 1) := by decide +kernel
theorem d_jdk_29_m69_2 : decode jdk_29_method_69_code 2 = .ok (.if_icmp .gt 7, 3) := by decide +kernel
theorem d_jdk_29_m69_9 : decode jdk_29_method_69_code 9 = .ok (.iload_n 1, 1) := by decide +kernel
theorem d_jdk_29_m69_10 : decode jdk_29_method_69_code 10 = .ok (.ireturn, 1) := by decide +kernel
set_option maxRecDepth 65536 in
set_option maxHeartbeats 40000000 in
theorem rm_min {l : Launch} {Z : State} {a0 : Array Value} (hw : ∀ d ∈ tables_1, d.before a0 Z = true) (hs : ∀ d ∈ jdkStatics_1, d.before a0 Z = true) {i : Nat} {nn : Nat} {h0 : Heap} (O0 : Ext Z.heap h0) (hn : nn < i ∧ i ≤ 8000) :
    own_Ct l Z (⟨"java/lang/Math", "min", "(II)I"⟩ : MethodName) jdk_29_method_69_code 2 (some .int) [] ({ frames := 0, locals := 0, cells := 0, slots := 0 } : Room) #[(.int (Int32.ofNat i)), (.int (Int32.ofNat nn))] h0 (fun v h => v = some (.int (Int32.ofNat nn)) ∧ h = h0) := by
  refine own_body (Ls := #[.val (.int (Int32.ofNat i)), .val (.int (Int32.ofNat nn))]) (Jvm.Free.JP.mathPlain rfl (by decide +kernel)) (fun m => by first | (simp [entryFrame, mkF, argsToLocals, Value.category]; done) | rfl) O0 ?_
  intro p e s m below meth c T0 G K0
  refine own_iloadN K0 d_jdk_29_m69_0 rfl rfl ?_
  refine own_iloadN K0 d_jdk_29_m69_1 rfl rfl ?_
  refine own_icmpYes K0 d_jdk_29_m69_2 (pc' := 9) (by decide) (by decide) (tlt (own_lt hn.1 (by omega))).2.2.1 ?_
  refine own_iloadN K0 d_jdk_29_m69_9 rfl rfl ?_
  exact own_retI K0 d_jdk_29_m69_10 rfl (by decide) (by decide) ⟨rfl, rfl⟩
theorem d_jdk_65_m133_0 : decode jdk_65_method_133_code 0 = .ok (.iload_n 1, 1) := by decide +kernel
theorem d_jdk_65_m133_1 : decode jdk_65_method_133_code 1 = .ok (.iload_n 2, 1) := by decide +kernel
theorem d_jdk_65_m133_2 : decode jdk_65_method_133_code 2 = .ok (.invokestatic 343, 3) := by decide +kernel
theorem wd104 {a0 : Array Value} {Z : State} (hw : ∀ d ∈ tables_1, d.before a0 Z = true) : (Jvm.Cond.code ({ cls := "java/util/Arrays", name := "checkLength", desc := "(II)V" } : Jvm.MethodName) jdk_65_method_131_code (2 : Nat) (Option.none : Option Jvm.ClassFile.FieldType)).before a0 Z = true := hw _ (List.mem_of_getElem? (i := 104) rfl)
theorem wd97 {a0 : Array Value} {Z : State} (hw : ∀ d ∈ tables_1, d.before a0 Z = true) : (Jvm.Cond.initialized "java/util/Arrays").before a0 Z = true := hw _ (List.mem_of_getElem? (i := 97) rfl)
theorem wd102 {a0 : Array Value} {Z : State} (hw : ∀ d ∈ tables_1, d.before a0 Z = true) : (Jvm.Cond.methodLink "java/util/Arrays" (343 : Nat) ({ cls := "java/util/Arrays", name := "checkLength", desc := "(II)V" } : Jvm.MethodName)).before a0 Z = true := hw _ (List.mem_of_getElem? (i := 102) rfl)
theorem wd103 {a0 : Array Value} {Z : State} (hw : ∀ d ∈ tables_1, d.before a0 Z = true) : (Jvm.Cond.static ({ cls := "java/util/Arrays", name := "checkLength", desc := "(II)V" } : Jvm.MethodName)).before a0 Z = true := hw _ (List.mem_of_getElem? (i := 103) rfl)
theorem d_jdk_65_m133_5 : decode jdk_65_method_133_code 5 = .ok (.iload_n 2, 1) := by decide +kernel
theorem d_jdk_65_m133_6 : decode jdk_65_method_133_code 6 = .ok (.iload_n 1, 1) := by decide +kernel
theorem d_jdk_65_m133_7 : decode jdk_65_method_133_code 7 = .ok (.isub, 1) := by decide +kernel
theorem d_jdk_65_m133_8 : decode jdk_65_method_133_code 8 = .ok (.istore_n 3, 1) := by decide +kernel
theorem d_jdk_65_m133_9 : decode jdk_65_method_133_code 9 = .ok (.iload_n 3, 1) := by decide +kernel
theorem d_jdk_65_m133_10 : decode jdk_65_method_133_code 10 = .ok (.newarray .byte, 2) := by decide +kernel
theorem d_jdk_65_m133_12 : decode jdk_65_method_133_code 12 = .ok (.astore 4, 2) := by decide +kernel
theorem d_jdk_65_m133_14 : decode jdk_65_method_133_code 14 = .ok (.aload_n 0, 1) := by decide +kernel
theorem d_jdk_65_m133_15 : decode jdk_65_method_133_code 15 = .ok (.iload_n 1, 1) := by decide +kernel
theorem d_jdk_65_m133_16 : decode jdk_65_method_133_code 16 = .ok (.aload 4, 2) := by decide +kernel
theorem d_jdk_65_m133_18 : decode jdk_65_method_133_code 18 = .ok (.iconst 0, 1) := by decide +kernel
theorem d_jdk_65_m133_19 : decode jdk_65_method_133_code 19 = .ok (.aload_n 0, 1) := by decide +kernel
theorem d_jdk_65_m133_20 : decode jdk_65_method_133_code 20 = .ok (.arraylength, 1) := by decide +kernel
theorem d_jdk_65_m133_21 : decode jdk_65_method_133_code 21 = .ok (.iload_n 1, 1) := by decide +kernel
theorem d_jdk_65_m133_22 : decode jdk_65_method_133_code 22 = .ok (.isub, 1) := by decide +kernel
theorem d_jdk_65_m133_23 : decode jdk_65_method_133_code 23 = .ok (.iload_n 3, 1) := by decide +kernel
theorem d_jdk_65_m133_24 : decode jdk_65_method_133_code 24 = .ok (.invokestatic 304, 3) := by decide +kernel
theorem wd108 {a0 : Array Value} {Z : State} (hw : ∀ d ∈ tables_1, d.before a0 Z = true) : (Jvm.Cond.code ({ cls := "java/lang/Math", name := "min", desc := "(II)I" } : Jvm.MethodName) jdk_29_method_69_code (2 : Nat) (Option.some Jvm.ClassFile.FieldType.int)).before a0 Z = true := hw _ (List.mem_of_getElem? (i := 108) rfl)
theorem wd107 {a0 : Array Value} {Z : State} (hw : ∀ d ∈ tables_1, d.before a0 Z = true) : (Jvm.Cond.initialized "java/lang/Math").before a0 Z = true := hw _ (List.mem_of_getElem? (i := 107) rfl)
theorem pd_28II29I : parseMethodDescriptor "(II)I" = some ⟨[.int, .int], some .int⟩ := by decide +kernel
theorem wd105 {a0 : Array Value} {Z : State} (hw : ∀ d ∈ tables_1, d.before a0 Z = true) : (Jvm.Cond.methodLink "java/util/Arrays" (304 : Nat) ({ cls := "java/lang/Math", name := "min", desc := "(II)I" } : Jvm.MethodName)).before a0 Z = true := hw _ (List.mem_of_getElem? (i := 105) rfl)
theorem wd106 {a0 : Array Value} {Z : State} (hw : ∀ d ∈ tables_1, d.before a0 Z = true) : (Jvm.Cond.static ({ cls := "java/lang/Math", name := "min", desc := "(II)I" } : Jvm.MethodName)).before a0 Z = true := hw _ (List.mem_of_getElem? (i := 106) rfl)
theorem d_jdk_65_m133_27 : decode jdk_65_method_133_code 27 = .ok (.invokestatic 150, 3) := by decide +kernel
theorem wd109 {a0 : Array Value} {Z : State} (hw : ∀ d ∈ tables_1, d.before a0 Z = true) : (Jvm.Cond.methodLink "java/util/Arrays" (150 : Nat) ({ cls := "java/lang/System", name := "arraycopy", desc := "(Ljava/lang/Object;ILjava/lang/Object;II)V" } : Jvm.MethodName)).before a0 Z = true := hw _ (List.mem_of_getElem? (i := 109) rfl)
theorem d_jdk_65_m133_30 : decode jdk_65_method_133_code 30 = .ok (.aload 4, 2) := by decide +kernel
theorem d_jdk_65_m133_32 : decode jdk_65_method_133_code 32 = .ok (.areturn, 1) := by decide +kernel
set_option maxRecDepth 65536 in
set_option maxHeartbeats 40000000 in
theorem rm_copyOfB {l : Launch} {Z : State} {a0 : Array Value} (hw : ∀ d ∈ tables_1, d.before a0 Z = true) (hs : ∀ d ∈ jdkStatics_1, d.before a0 Z = true) {b : Addr} {kb : ClassId} {M : Nat} {vs : List Value} {nn : Nat} {cap : Nat} {h0 : Heap} (O0 : Ext Z.heap h0) (V : Arv Z h0 b kb .byte (Int32.ofNat M) vs (.int 0)) (hv : vs.length = nn) (hM : nn < M ∧ M ≤ 8000) (hcap : nn ≤ cap) (hcap2 : cap ≤ 8000) :
    own_Ct l Z (⟨"java/util/Arrays", "copyOfRangeByte", "([BII)[B"⟩ : MethodName) jdk_65_method_133_code 5 (some (.array .byte)) [] ({ frames := 1, locals := 40, cells := 1, slots := 0 + cap } : Room) #[(.ref b), (.int 0), (.int (Int32.ofNat nn))] h0 (fun v h => ∃ (b' : Addr) (kb' : ClassId), v = some (.ref b') ∧ b' = h0.size ∧ Ext h0 h ∧ Arv Z h b' kb' .byte (Int32.ofNat nn) vs (.int 0)) := by
  refine own_body (Ls := #[.val (.ref b), .val (.int 0), .val (.int (Int32.ofNat nn)), .unset, .unset]) (plainFor_of_name pn_java_util_Arrays) (fun m => by first | (simp [entryFrame, mkF, argsToLocals, Value.category]; done) | rfl) O0 ?_
  intro p e s m below meth c T0 G K0
  refine own_iloadN K0 d_jdk_65_m133_0 rfl rfl ?_
  refine own_iloadN K0 d_jdk_65_m133_1 rfl rfl ?_
  refine own_callS K0 (wd102 hw) (wd103 hw) (rm_checkLength hw hs K0.O (by omega)) (wd104 hw) (wd97 hw) (by decide) (argsL := [(.int 0), (.int (Int32.ofNat nn))]) (rest := []) rfl pd_28II29V rfl rfl (W := 0) rfl (by first | decide | (dsimp only; omega)) (by first | decide | (dsimp only; omega)) (by first | decide | (dsimp only; omega)) (by first | decide | (dsimp only; omega)) d_jdk_65_m133_2 rfl ?_
  intro T116 h116 L116 v116 K116 q116
  obtain ⟨rfl, e116⟩ := q116
  have f116 := e116.symm
  subst f116
  show G (T116.setTop (mkF m 5 #[.val (.ref b), .val (.int 0), .val (.int (Int32.ofNat nn)), .unset, .unset] []))
  refine own_iloadN K116 d_jdk_65_m133_5 rfl rfl ?_
  refine own_iloadN K116 d_jdk_65_m133_6 rfl rfl ?_
  refine own_isub K116 d_jdk_65_m133_7 rfl ?_
  refine own_istoreN K116 (Ls' := #[.val (.ref b), .val (.int 0), .val (.int (Int32.ofNat nn)), .val (.int ((Int32.ofNat nn) - 0)), .unset]) d_jdk_65_m133_8 rfl rfl ?_
  refine own_iloadN K116 d_jdk_65_m133_9 rfl rfl ?_
  rw [Int32.sub_zero]
  refine own_newP K116 (aty := .byte) (wd22 hw) d_jdk_65_m133_10 (own_nn (by omega)) (cap := cap) (by rw [own_clamp (by omega)]; exact hcap) (by omega) (by first | decide | (dsimp only; omega)) (by first | decide | (dsimp only; omega)) rfl ?_
  intro T117 h117 a117 c117 K117 g117 E117 V117
  refine own_astore K117 (Ls' := #[.val (.ref b), .val (.int 0), .val (.int (Int32.ofNat nn)), .val (.int (Int32.ofNat nn)), .val (.ref a117)]) d_jdk_65_m133_12 rfl rfl rfl ?_
  refine own_aloadN K117 d_jdk_65_m133_14 rfl rfl rfl ?_
  refine own_iloadN K117 d_jdk_65_m133_15 rfl rfl ?_
  refine own_aload K117 d_jdk_65_m133_16 rfl rfl rfl ?_
  refine own_iconst K117 (v := (0 : Int32)) d_jdk_65_m133_18 rfl rfl ?_
  refine own_aloadN K117 d_jdk_65_m133_19 rfl rfl rfl ?_
  refine own_arraylength K117 (V.ext E117) d_jdk_65_m133_20 rfl ?_
  refine own_iloadN K117 d_jdk_65_m133_21 rfl rfl ?_
  refine own_isub K117 d_jdk_65_m133_22 rfl ?_
  refine own_iloadN K117 d_jdk_65_m133_23 rfl rfl ?_
  rw [Int32.sub_zero]
  refine own_callS K117 (wd105 hw) (wd106 hw) (rm_min hw hs K117.O hM) (wd108 hw) (wd107 hw) (by decide) (argsL := [(.int (Int32.ofNat M)), (.int (Int32.ofNat nn))]) (rest := [(.int (0 : Int32)), (.ref a117), (.int 0), (.ref b)]) rfl pd_28II29I rfl rfl (W := 4) rfl (by first | decide | (dsimp only; omega)) (by first | decide | (dsimp only; omega)) (by first | decide | (dsimp only; omega)) (by first | decide | (dsimp only; omega)) d_jdk_65_m133_24 rfl ?_
  intro T118 h118 L118 v118 K118 q118
  obtain ⟨rfl, e118⟩ := q118
  have f118 := e118.symm
  subst f118
  show G (T118.setTop (mkF m 27 #[.val (.ref b), .val (.int 0), .val (.int (Int32.ofNat nn)), .val (.int (Int32.ofNat nn)), .val (.ref a117)] [(.int (Int32.ofNat nn)), (.int (0 : Int32)), (.ref a117), (.int 0), (.ref b)]))
  have gz : Z.heap.size ≤ a117 := by rw [g117]; exact K0.O.1
  refine own_arraycopy K118 (W := 0) (sp := 0) (dp := 0) (nn := nn) (us := vs) (wd109 hw) (wd112 hw) (wd110 hw) (wd111 hw) (V.ext E117) (V117.pad (pad_rep [] _ nn)) (by omega) (by omega) (by omega) (by rw [own_clamp (by omega)]; omega) (by rw [own_clamp (by omega)]; omega) (own_rng _ _ _ hv.symm) (by simp) gz rfl rfl (by first | decide | (dsimp only; omega)) (by first | decide | (have := own_acw; dsimp only; omega)) d_jdk_65_m133_27 rfl ?_
  intro T119 h119 L119 K119 Kp119 V119
  refine own_aload K119 d_jdk_65_m133_30 rfl rfl rfl ?_
  exact own_retA K119 d_jdk_65_m133_32 rfl rfl rfl rfl (by first | decide | (dsimp only; omega)) (by first | decide | (dsimp only; omega)) ⟨a117, c117, rfl, g117, own_ext_keep E117 Kp119 (fun y q => by cases List.mem_singleton.mp q; exact Nat.le_of_eq g117.symm), (congrArg (fun z => Arv Z h119 a117 c117 .byte (Int32.ofNat nn) z (.int 0)) (own_acp [] vs (.int 0) nn)).mp V119⟩
theorem d_jdk_65_m132_0 : decode jdk_65_method_132_code 0 = .ok (.iload_n 1, 1) := by decide +kernel
theorem d_jdk_65_m132_1 : decode jdk_65_method_132_code 1 = .ok (.ifCond .ne 9, 3) := by decide +kernel
theorem d_jdk_65_m132_4 : decode jdk_65_method_132_code 4 = .ok (.iload_n 2, 1) := by decide +kernel
theorem d_jdk_65_m132_5 : decode jdk_65_method_132_code 5 = .ok (.aload_n 0, 1) := by decide +kernel
theorem d_jdk_65_m132_6 : decode jdk_65_method_132_code 6 = .ok (.arraylength, 1) := by decide +kernel
theorem d_jdk_65_m132_7 : decode jdk_65_method_132_code 7 = .ok (.if_icmp .eq 10, 3) := by decide +kernel
theorem d_jdk_65_m132_10 : decode jdk_65_method_132_code 10 = .ok (.aload_n 0, 1) := by decide +kernel
theorem d_jdk_65_m132_11 : decode jdk_65_method_132_code 11 = .ok (.iload_n 1, 1) := by decide +kernel
theorem d_jdk_65_m132_12 : decode jdk_65_method_132_code 12 = .ok (.iload_n 2, 1) := by decide +kernel
theorem d_jdk_65_m132_13 : decode jdk_65_method_132_code 13 = .ok (.invokestatic 339, 3) := by decide +kernel
theorem wd101 {a0 : Array Value} {Z : State} (hw : ∀ d ∈ tables_1, d.before a0 Z = true) : (Jvm.Cond.code ({ cls := "java/util/Arrays", name := "copyOfRangeByte", desc := "([BII)[B" } : Jvm.MethodName) jdk_65_method_133_code (5 : Nat) (Option.some (Jvm.ClassFile.FieldType.array Jvm.ClassFile.FieldType.byte))).before a0 Z = true := hw _ (List.mem_of_getElem? (i := 101) rfl)
theorem pd_285bBII295bB : parseMethodDescriptor "([BII)[B" = some ⟨[(.array .byte), .int, .int], some (.array .byte)⟩ := by decide +kernel
theorem wd99 {a0 : Array Value} {Z : State} (hw : ∀ d ∈ tables_1, d.before a0 Z = true) : (Jvm.Cond.methodLink "java/util/Arrays" (339 : Nat) ({ cls := "java/util/Arrays", name := "copyOfRangeByte", desc := "([BII)[B" } : Jvm.MethodName)).before a0 Z = true := hw _ (List.mem_of_getElem? (i := 99) rfl)
theorem wd100 {a0 : Array Value} {Z : State} (hw : ∀ d ∈ tables_1, d.before a0 Z = true) : (Jvm.Cond.static ({ cls := "java/util/Arrays", name := "copyOfRangeByte", desc := "([BII)[B" } : Jvm.MethodName)).before a0 Z = true := hw _ (List.mem_of_getElem? (i := 100) rfl)
theorem d_jdk_65_m132_16 : decode jdk_65_method_132_code 16 = .ok (.areturn, 1) := by decide +kernel
theorem d_jdk_65_m132_17 : decode jdk_65_method_132_code 17 = .ok (.aload_n 0, 1) := by decide +kernel
theorem d_jdk_65_m132_18 : decode jdk_65_method_132_code 18 = .ok (.invokevirtual 310, 3) := by decide +kernel
theorem wd258 {a0 : Array Value} {Z : State} (hw : ∀ d ∈ tables_1, d.before a0 Z = true) : (Jvm.Cond.methodLink "java/util/Arrays" (310 : Nat) ({ cls := "[B", name := "clone", desc := "()Ljava/lang/Object;" } : Jvm.MethodName)).before a0 Z = true := hw _ (List.mem_of_getElem? (i := 258) rfl)
theorem wd259 {a0 : Array Value} {Z : State} (hw : ∀ d ∈ tables_1, d.before a0 Z = true) : (Jvm.Cond.sameMethod "[B" "java/lang/Object" "clone" "()Ljava/lang/Object;").before a0 Z = true := hw _ (List.mem_of_getElem? (i := 259) rfl)
theorem wd263 {a0 : Array Value} {Z : State} (hw : ∀ d ∈ tables_1, d.before a0 Z = true) : (Jvm.Cond.native ({ cls := "java/lang/Object", name := "clone", desc := "()Ljava/lang/Object;" } : Jvm.MethodName)).before a0 Z = true := hw _ (List.mem_of_getElem? (i := 263) rfl)
theorem wd261 {a0 : Array Value} {Z : State} (hw : ∀ d ∈ tables_1, d.before a0 Z = true) : (Jvm.Cond.instanceMethod ({ cls := "java/lang/Object", name := "clone", desc := "()Ljava/lang/Object;" } : Jvm.MethodName)).before a0 Z = true := hw _ (List.mem_of_getElem? (i := 261) rfl)
theorem wd262 {a0 : Array Value} {Z : State} (hw : ∀ d ∈ tables_1, d.before a0 Z = true) : (Jvm.Cond.selects "[B" ({ cls := "[B", name := "clone", desc := "()Ljava/lang/Object;" } : Jvm.MethodName) ({ cls := "java/lang/Object", name := "clone", desc := "()Ljava/lang/Object;" } : Jvm.MethodName)).before a0 Z = true := hw _ (List.mem_of_getElem? (i := 262) rfl)
theorem wd264 {a0 : Array Value} {Z : State} (hw : ∀ d ∈ tables_1, d.before a0 Z = true) : (Jvm.Cond.castable "[B" "java/lang/Cloneable").before a0 Z = true := hw _ (List.mem_of_getElem? (i := 264) rfl)
theorem d_jdk_65_m132_21 : decode jdk_65_method_132_code 21 = .ok (.checkcast 311, 3) := by decide +kernel
theorem wd265 {a0 : Array Value} {Z : State} (hw : ∀ d ∈ tables_1, d.before a0 Z = true) : (Jvm.Cond.classLink "java/util/Arrays" (311 : Nat) "[B").before a0 Z = true := hw _ (List.mem_of_getElem? (i := 265) rfl)
theorem d_jdk_65_m132_24 : decode jdk_65_method_132_code 24 = .ok (.areturn, 1) := by decide +kernel
set_option maxRecDepth 65536 in
set_option maxHeartbeats 40000000 in
theorem rm_copyOf {l : Launch} {Z : State} {a0 : Array Value} (hw : ∀ d ∈ tables_1, d.before a0 Z = true) (hs : ∀ d ∈ jdkStatics_1, d.before a0 Z = true) {b : Addr} {kb : ClassId} {M : Nat} {vs : List Value} {nn : Nat} {cap : Nat} {h0 : Heap} (O0 : Ext Z.heap h0) (V : Arv Z h0 b kb .byte (Int32.ofNat M) vs (.int 0)) (XB : Exa Z h0 b "[B") (hv : vs.length = nn) (hM : nn ≤ M ∧ M ≤ 8000) (hcap : nn ≤ cap) (hcap2 : cap ≤ 8000) :
    own_Ct l Z (⟨"java/util/Arrays", "copyOfRange", "([BII)[B"⟩ : MethodName) jdk_65_method_132_code 3 (some (.array .byte)) [] ({ frames := 2, locals := 56, cells := 1, slots := cap } : Room) #[(.ref b), (.int 0), (.int (Int32.ofNat nn))] h0 (fun v h => ∃ (b' : Addr) (kb' : ClassId), v = some (.ref b') ∧ b' = h0.size ∧ Ext h0 h ∧ Arv Z h b' kb' .byte (Int32.ofNat nn) vs (.int 0)) := by
  refine own_body (Ls := #[.val (.ref b), .val (.int 0), .val (.int (Int32.ofNat nn))]) (plainFor_of_name pn_java_util_Arrays) (fun m => by first | (simp [entryFrame, mkF, argsToLocals, Value.category]; done) | rfl) O0 ?_
  intro p e s m below meth c T0 G K0
  refine own_iloadN K0 d_jdk_65_m132_0 rfl rfl ?_
  refine own_ifNo K0 d_jdk_65_m132_1 rfl ((if0 _ _).trans (teq rfl).2) ?_
  refine own_iloadN K0 d_jdk_65_m132_4 rfl rfl ?_
  refine own_aloadN K0 d_jdk_65_m132_5 rfl rfl rfl ?_
  refine own_arraylength K0 V d_jdk_65_m132_6 rfl ?_
  by_cases hq : M = nn
  · skip
    subst hq
    refine own_icmpYes K0 d_jdk_65_m132_7 (pc' := 17) (by decide) (by decide) (teq rfl).1 ?_
    refine own_aloadN K0 d_jdk_65_m132_17 rfl rfl rfl ?_
    refine own_clone K0 (W := 0) (cap := cap) (wd258 hw) (wd259 hw) (wd263 hw) (wd261 hw) (wd262 hw) (wd264 hw) V XB rfl rfl (by first | decide | (dsimp only; omega)) (by first | decide | (dsimp only; omega)) (by rw [own_clamp (by omega)]; exact hcap) (by first | decide | (dsimp only; omega)) (by first | decide | (dsimp only; omega)) d_jdk_65_m132_18 rfl ?_
    intro T121 h121 a121 K121 g121 E121 V121 X121
    refine own_castY K121 (wd265 hw) (Ins.self X121) d_jdk_65_m132_21 rfl ?_
    intro T122 K122
    exact own_retA K122 d_jdk_65_m132_24 rfl rfl rfl rfl (by first | decide | (dsimp only; omega)) (by first | decide | (dsimp only; omega)) ⟨a121, kb, rfl, g121, E121, V121⟩
  · skip
    refine own_icmpNo K0 d_jdk_65_m132_7 rfl (feq (fun q => by have := own_ofNat_inj (by omega) (by omega) q; omega)).1 ?_
    refine own_aloadN K0 d_jdk_65_m132_10 rfl rfl rfl ?_
    refine own_iloadN K0 d_jdk_65_m132_11 rfl rfl ?_
    refine own_iloadN K0 d_jdk_65_m132_12 rfl rfl ?_
    refine own_callS K0 (wd99 hw) (wd100 hw) (rm_copyOfB hw hs (cap := cap) K0.O V hv ⟨by omega, hM.2⟩ hcap hcap2) (wd101 hw) (wd97 hw) (by decide) (argsL := [(.ref b), (.int 0), (.int (Int32.ofNat nn))]) (rest := []) rfl pd_285bBII295bB rfl rfl (W := 0) rfl (by first | decide | (dsimp only; omega)) (by first | decide | (dsimp only; omega)) (by first | decide | (dsimp only; omega)) (by first | decide | (dsimp only; omega)) d_jdk_65_m132_13 rfl ?_
    intro T120 h120 L120 v120 K120 q120
    obtain ⟨b120, kb120, rfl, q120⟩ := q120
    show G (T120.setTop (mkF m 16 #[.val (.ref b), .val (.int 0), .val (.int (Int32.ofNat nn))] [(.ref b120)]))
    exact own_retA K120 d_jdk_65_m132_16 rfl rfl rfl rfl (by first | decide | (dsimp only; omega)) (by first | decide | (dsimp only; omega)) ⟨b120, kb120, rfl, q120⟩
theorem d_jdk_68_m64_0 : decode jdk_68_method_64_code 0 = .ok (.aload_n 0, 1) := by decide +kernel
theorem d_jdk_68_m64_1 : decode jdk_68_method_64_code 1 = .ok (.getfield 15, 3) := by decide +kernel
theorem d_jdk_68_m64_4 : decode jdk_68_method_64_code 4 = .ok (.areturn, 1) := by decide +kernel
set_option maxRecDepth 65536 in
set_option maxHeartbeats 40000000 in
theorem rm_getValue {l : Launch} {Z : State} {a0 : Array Value} (hw : ∀ d ∈ tables_1, d.before a0 Z = true) (hs : ∀ d ∈ jdkStatics_1, d.before a0 Z = true) {x : Addr} {b : Addr} {h0 : Heap} (O0 : Ext Z.heap h0) (F : Fld Z h0 x "java/lang/AbstractStringBuilder" "value" "[B" (.ref b)) :
    own_Ct l Z (⟨"java/lang/AbstractStringBuilder", "getValue", "()[B"⟩ : MethodName) jdk_68_method_64_code 1 (some (.array .byte)) [] ({ frames := 0, locals := 0, cells := 0, slots := 0 } : Room) #[(.ref x)] h0 (fun v h => v = some (.ref b) ∧ h = h0) := by
  refine own_body (Ls := #[.val (.ref x)]) (plainFor_of_name pn_java_lang_AbstractStringBuilder) (fun m => by first | (simp [entryFrame, mkF, argsToLocals, Value.category]; done) | rfl) O0 ?_
  intro p e s m below meth c T0 G K0
  refine own_aloadN K0 d_jdk_68_m64_0 rfl rfl rfl ?_
  refine own_getF K0 (host := "") (Or.inl (wd58 hw)) Via.refl F d_jdk_68_m64_1 rfl ?_
  intro T123 K123
  exact own_retA K123 d_jdk_68_m64_4 rfl rfl rfl rfl (by decide) (by decide) ⟨rfl, rfl⟩
theorem d_jdk_42_m150_0 : decode jdk_42_method_150_code 0 = .ok (.aload_n 0, 1) := by decide +kernel
theorem d_jdk_42_m150_1 : decode jdk_42_method_150_code 1 = .ok (.invokespecial 1, 3) := by decide +kernel
theorem wd18 {a0 : Array Value} {Z : State} (hw : ∀ d ∈ tables_1, d.before a0 Z = true) : (Jvm.Cond.methodLink "java/lang/String" (1 : Nat) ({ cls := "java/lang/Object", name := "<init>", desc := "()V" } : Jvm.MethodName)).before a0 Z = true := hw _ (List.mem_of_getElem? (i := 18) rfl)
theorem d_jdk_42_m150_4 : decode jdk_42_method_150_code 4 = .ok (.aload_n 1, 1) := by decide +kernel
theorem d_jdk_42_m150_5 : decode jdk_42_method_150_code 5 = .ok (.invokevirtual 552, 3) := by decide +kernel
theorem wd78 {a0 : Array Value} {Z : State} (hw : ∀ d ∈ tables_1, d.before a0 Z = true) : (Jvm.Cond.code ({ cls := "java/lang/AbstractStringBuilder", name := "getValue", desc := "()[B" } : Jvm.MethodName) jdk_68_method_64_code (1 : Nat) (Option.some (Jvm.ClassFile.FieldType.array Jvm.ClassFile.FieldType.byte))).before a0 Z = true := hw _ (List.mem_of_getElem? (i := 78) rfl)
theorem pd_28295bB : parseMethodDescriptor "()[B" = some ⟨[], some (.array .byte)⟩ := by decide +kernel
theorem wd74 {a0 : Array Value} {Z : State} (hw : ∀ d ∈ tables_1, d.before a0 Z = true) : (Jvm.Cond.methodLink "java/lang/String" (552 : Nat) ({ cls := "java/lang/AbstractStringBuilder", name := "getValue", desc := "()[B" } : Jvm.MethodName)).before a0 Z = true := hw _ (List.mem_of_getElem? (i := 74) rfl)
theorem wd75 {a0 : Array Value} {Z : State} (hw : ∀ d ∈ tables_1, d.before a0 Z = true) : (Jvm.Cond.declares ({ cls := "java/lang/AbstractStringBuilder", name := "getValue", desc := "()[B" } : Jvm.MethodName)).before a0 Z = true := hw _ (List.mem_of_getElem? (i := 75) rfl)
theorem wd76 {a0 : Array Value} {Z : State} (hw : ∀ d ∈ tables_1, d.before a0 Z = true) : (Jvm.Cond.instanceMethod ({ cls := "java/lang/AbstractStringBuilder", name := "getValue", desc := "()[B" } : Jvm.MethodName)).before a0 Z = true := hw _ (List.mem_of_getElem? (i := 76) rfl)
theorem d_jdk_42_m150_8 : decode jdk_42_method_150_code 8 = .ok (.astore_n 3, 1) := by decide +kernel
theorem d_jdk_42_m150_9 : decode jdk_42_method_150_code 9 = .ok (.aload_n 1, 1) := by decide +kernel
theorem d_jdk_42_m150_10 : decode jdk_42_method_150_code 10 = .ok (.invokevirtual 549, 3) := by decide +kernel
theorem wd84 {a0 : Array Value} {Z : State} (hw : ∀ d ∈ tables_1, d.before a0 Z = true) : (Jvm.Cond.code ({ cls := "java/lang/StringBuilder", name := "length", desc := "()I" } : Jvm.MethodName) jdk_67_method_93_code (1 : Nat) (Option.some Jvm.ClassFile.FieldType.int)).before a0 Z = true := hw _ (List.mem_of_getElem? (i := 84) rfl)
theorem wd35 {a0 : Array Value} {Z : State} (hw : ∀ d ∈ tables_1, d.before a0 Z = true) : (Jvm.Cond.initialized "java/lang/StringBuilder").before a0 Z = true := hw _ (List.mem_of_getElem? (i := 35) rfl)
theorem wd79 {a0 : Array Value} {Z : State} (hw : ∀ d ∈ tables_1, d.before a0 Z = true) : (Jvm.Cond.methodLink "java/lang/String" (549 : Nat) ({ cls := "java/lang/AbstractStringBuilder", name := "length", desc := "()I" } : Jvm.MethodName)).before a0 Z = true := hw _ (List.mem_of_getElem? (i := 79) rfl)
theorem wd80 {a0 : Array Value} {Z : State} (hw : ∀ d ∈ tables_1, d.before a0 Z = true) : (Jvm.Cond.declares ({ cls := "java/lang/AbstractStringBuilder", name := "length", desc := "()I" } : Jvm.MethodName)).before a0 Z = true := hw _ (List.mem_of_getElem? (i := 80) rfl)
theorem wd82 {a0 : Array Value} {Z : State} (hw : ∀ d ∈ tables_1, d.before a0 Z = true) : (Jvm.Cond.selects "java/lang/StringBuilder" ({ cls := "java/lang/AbstractStringBuilder", name := "length", desc := "()I" } : Jvm.MethodName) ({ cls := "java/lang/StringBuilder", name := "length", desc := "()I" } : Jvm.MethodName)).before a0 Z = true := hw _ (List.mem_of_getElem? (i := 82) rfl)
theorem wd83 {a0 : Array Value} {Z : State} (hw : ∀ d ∈ tables_1, d.before a0 Z = true) : (Jvm.Cond.instanceMethod ({ cls := "java/lang/StringBuilder", name := "length", desc := "()I" } : Jvm.MethodName)).before a0 Z = true := hw _ (List.mem_of_getElem? (i := 83) rfl)
theorem d_jdk_42_m150_13 : decode jdk_42_method_150_code 13 = .ok (.istore 4, 2) := by decide +kernel
theorem d_jdk_42_m150_15 : decode jdk_42_method_150_code 15 = .ok (.aload_n 1, 1) := by decide +kernel
theorem d_jdk_42_m150_16 : decode jdk_42_method_150_code 16 = .ok (.invokevirtual 1047, 3) := by decide +kernel
theorem wd90 {a0 : Array Value} {Z : State} (hw : ∀ d ∈ tables_1, d.before a0 Z = true) : (Jvm.Cond.methodLink "java/lang/String" (1047 : Nat) ({ cls := "java/lang/AbstractStringBuilder", name := "isLatin1", desc := "()Z" } : Jvm.MethodName)).before a0 Z = true := hw _ (List.mem_of_getElem? (i := 90) rfl)
theorem d_jdk_42_m150_19 : decode jdk_42_method_150_code 19 = .ok (.ifCond .eq 22, 3) := by decide +kernel
theorem d_jdk_42_m150_22 : decode jdk_42_method_150_code 22 = .ok (.aload_n 0, 1) := by decide +kernel
theorem d_jdk_42_m150_23 : decode jdk_42_method_150_code 23 = .ok (.iconst 0, 1) := by decide +kernel
theorem wd24 {a0 : Array Value} {Z : State} (hw : ∀ d ∈ tables_1, d.before a0 Z = true) : (Jvm.Cond.laysFinal "java/lang/String" "java/lang/String" "coder" "B").before a0 Z = true := hw _ (List.mem_of_getElem? (i := 24) rfl)
theorem d_jdk_42_m150_24 : decode jdk_42_method_150_code 24 = .ok (.putfield 15, 3) := by decide +kernel
theorem wd9 {a0 : Array Value} {Z : State} (hw : ∀ d ∈ tables_1, d.before a0 Z = true) : (Jvm.Cond.instantiable "java/lang/String" (4 : Nat)).before a0 Z = true := hw _ (List.mem_of_getElem? (i := 9) rfl)
theorem d_jdk_42_m150_27 : decode jdk_42_method_150_code 27 = .ok (.aload_n 0, 1) := by decide +kernel
theorem d_jdk_42_m150_28 : decode jdk_42_method_150_code 28 = .ok (.aload_n 3, 1) := by decide +kernel
theorem d_jdk_42_m150_29 : decode jdk_42_method_150_code 29 = .ok (.iconst 0, 1) := by decide +kernel
theorem d_jdk_42_m150_30 : decode jdk_42_method_150_code 30 = .ok (.iload 4, 2) := by decide +kernel
theorem d_jdk_42_m150_32 : decode jdk_42_method_150_code 32 = .ok (.invokestatic 54, 3) := by decide +kernel
theorem wd98 {a0 : Array Value} {Z : State} (hw : ∀ d ∈ tables_1, d.before a0 Z = true) : (Jvm.Cond.code ({ cls := "java/util/Arrays", name := "copyOfRange", desc := "([BII)[B" } : Jvm.MethodName) jdk_65_method_132_code (3 : Nat) (Option.some (Jvm.ClassFile.FieldType.array Jvm.ClassFile.FieldType.byte))).before a0 Z = true := hw _ (List.mem_of_getElem? (i := 98) rfl)
theorem wd95 {a0 : Array Value} {Z : State} (hw : ∀ d ∈ tables_1, d.before a0 Z = true) : (Jvm.Cond.methodLink "java/lang/String" (54 : Nat) ({ cls := "java/util/Arrays", name := "copyOfRange", desc := "([BII)[B" } : Jvm.MethodName)).before a0 Z = true := hw _ (List.mem_of_getElem? (i := 95) rfl)
theorem wd96 {a0 : Array Value} {Z : State} (hw : ∀ d ∈ tables_1, d.before a0 Z = true) : (Jvm.Cond.static ({ cls := "java/util/Arrays", name := "copyOfRange", desc := "([BII)[B" } : Jvm.MethodName)).before a0 Z = true := hw _ (List.mem_of_getElem? (i := 96) rfl)
theorem wd23 {a0 : Array Value} {Z : State} (hw : ∀ d ∈ tables_1, d.before a0 Z = true) : (Jvm.Cond.laysFinal "java/lang/String" "java/lang/String" "value" "[B").before a0 Z = true := hw _ (List.mem_of_getElem? (i := 23) rfl)
theorem d_jdk_42_m150_35 : decode jdk_42_method_150_code 35 = .ok (.putfield 9, 3) := by decide +kernel
theorem d_jdk_42_m150_38 : decode jdk_42_method_150_code 38 = .ok (.goto 59, 3) := by decide +kernel
theorem d_jdk_42_m150_97 : decode jdk_42_method_150_code 97 = .ok (.return_, 1) := by decide +kernel
theorem d_jdk_42_m150_41 : decode jdk_42_method_150_code 41 = .ok (.getstatic 38, 3) := by decide +kernel
theorem d_jdk_42_m150_44 : decode jdk_42_method_150_code 44 = .ok (.ifCond .eq 35, 3) := by decide +kernel
theorem d_jdk_42_m150_47 : decode jdk_42_method_150_code 47 = .ok (.aload_n 1, 1) := by decide +kernel
theorem wd255 {a0 : Array Value} {Z : State} (hw : ∀ d ∈ tables_1, d.before a0 Z = true) : (Jvm.Cond.fieldLink "java/lang/String" (1048 : Nat) "java/lang/AbstractStringBuilder" "maybeLatin1" "Z").before a0 Z = true := hw _ (List.mem_of_getElem? (i := 255) rfl)
theorem d_jdk_42_m150_48 : decode jdk_42_method_150_code 48 = .ok (.getfield 1048, 3) := by decide +kernel
theorem d_jdk_42_m150_51 : decode jdk_42_method_150_code 51 = .ok (.ifCond .eq 28, 3) := by decide +kernel
theorem d_jdk_42_m150_79 : decode jdk_42_method_150_code 79 = .ok (.aload_n 0, 1) := by decide +kernel
theorem d_jdk_42_m150_80 : decode jdk_42_method_150_code 80 = .ok (.iconst 1, 1) := by decide +kernel
theorem d_jdk_42_m150_81 : decode jdk_42_method_150_code 81 = .ok (.putfield 15, 3) := by decide +kernel
theorem d_jdk_42_m150_84 : decode jdk_42_method_150_code 84 = .ok (.aload_n 0, 1) := by decide +kernel
theorem d_jdk_42_m150_85 : decode jdk_42_method_150_code 85 = .ok (.aload_n 3, 1) := by decide +kernel
theorem d_jdk_42_m150_86 : decode jdk_42_method_150_code 86 = .ok (.iconst 0, 1) := by decide +kernel
theorem d_jdk_42_m150_87 : decode jdk_42_method_150_code 87 = .ok (.iload 4, 2) := by decide +kernel
theorem d_jdk_42_m150_89 : decode jdk_42_method_150_code 89 = .ok (.iconst 1, 1) := by decide +kernel
theorem d_jdk_42_m150_90 : decode jdk_42_method_150_code 90 = .ok (.ishl, 1) := by decide +kernel
theorem d_jdk_42_m150_91 : decode jdk_42_method_150_code 91 = .ok (.invokestatic 54, 3) := by decide +kernel
theorem d_jdk_42_m150_94 : decode jdk_42_method_150_code 94 = .ok (.putfield 9, 3) := by decide +kernel
set_option maxRecDepth 65536 in
set_option maxHeartbeats 40000000 in
theorem rm_strASB {l : Launch} {Z : State} {a0 : Array Value} (hw : ∀ d ∈ tables_1, d.before a0 Z = true) (hs : ∀ d ∈ jdkStatics_1, d.before a0 Z = true) {a : Addr} {u1 : Value} {u2 : Value} {x : Addr} {u : Bool} {cs : List Int32} {b : Addr} {kb : ClassId} {N : Nat} {cap : Nat} {h0 : Heap} (O0 : Ext Z.heap h0) (E : Exa Z h0 a "java/lang/String") (F1 : Fld Z h0 a "java/lang/String" "value" "[B" u1) (F2 : Fld Z h0 a "java/lang/String" "coder" "B" u2) (gx : Z.heap.size ≤ a) (B : own_SB Z h0 x u cs.length cs b kb N) (hne : a ≠ b) (hlt : cs.length ≤ N) (hcap : 2 * cs.length ≤ cap) (hcap2 : cap ≤ 4000) :
    own_Ct l Z (⟨"java/lang/String", "<init>", "(Ljava/lang/AbstractStringBuilder;Ljava/lang/Void;)V"⟩ : MethodName) jdk_42_method_150_code 5 none [] ({ frames := 3, locals := 71, cells := 1, slots := cap } : Room) #[(.ref a), (.ref x), .null] h0 (fun v h => v = none ∧ Keep h0 h [a] ∧ own_StrG Z h a u cs) := by
  obtain ⟨zc, SC, hzc⟩ := own_compact hs
  have B' := B
  obtain ⟨BE, Bvalue, Bcoder, Bcount, BmaybeLatin1, BV, BX, hab, ga, gb, hcN, hN, hnc⟩ := B'
  refine own_body (Ls := #[.val (.ref a), .val (.ref x), .val .null, .unset, .unset]) (plainFor_of_name pn_java_lang_String) (fun m => by first | (simp [entryFrame, mkF, argsToLocals, Value.category]; done) | rfl) O0 ?_
  intro p e s m below meth c T0 G K0
  refine own_aloadN K0 d_jdk_42_m150_0 rfl rfl rfl ?_
  refine own_initO K0 (W := 0) (wd18 hw) (wd19 hw) (wd20 hw) rfl rfl (by first | decide | (dsimp only; omega)) (by first | decide | (dsimp only; omega)) d_jdk_42_m150_1 rfl ?_
  intro T124 K124
  refine own_aloadN K124 d_jdk_42_m150_4 rfl rfl rfl ?_
  refine own_callV K124 (a := x) (x0 := (⟨"java/lang/AbstractStringBuilder", "getValue", "()[B"⟩ : MethodName)) (wd74 hw) (wd75 hw) (fun q => own_nfS (args := #[]) (mvT q (wd77 hw)) rfl) (wd77 hw) (wd76 hw) (rm_getValue hw hs K124.O Bvalue) (wd78 hw) (wd54 hw) (by decide) BE (argsL := []) (rest := []) rfl pd_28295bB rfl rfl (W := 0) rfl (by first | decide | (dsimp only; omega)) (by first | decide | (dsimp only; omega)) (by first | decide | (dsimp only; omega)) (by first | decide | (dsimp only; omega)) d_jdk_42_m150_5 rfl ?_
  intro T125 h125 L125 v125 K125 q125
  obtain ⟨rfl, e125⟩ := q125
  have f125 := e125.symm
  subst f125
  show G (T125.setTop (mkF m 8 #[.val (.ref a), .val (.ref x), .val .null, .unset, .unset] [(.ref b)]))
  refine own_astoreN K125 (Ls' := #[.val (.ref a), .val (.ref x), .val .null, .val (.ref b), .unset]) d_jdk_42_m150_8 rfl rfl rfl ?_
  refine own_aloadN K125 d_jdk_42_m150_9 rfl rfl rfl ?_
  refine own_callV K125 (a := x) (x0 := (⟨"java/lang/AbstractStringBuilder", "length", "()I"⟩ : MethodName)) (wd79 hw) (wd80 hw) (fun q => own_nfS (args := #[]) (mvT q (wd77 hw)) rfl) (wd82 hw) (wd83 hw) (rm_sbLen hw hs K125.O Bcount BE) (wd84 hw) (wd35 hw) (by decide) BE (argsL := []) (rest := []) rfl pd_2829I rfl rfl (W := 0) rfl (by first | decide | (dsimp only; omega)) (by first | decide | (dsimp only; omega)) (by first | decide | (dsimp only; omega)) (by first | decide | (dsimp only; omega)) d_jdk_42_m150_10 rfl ?_
  intro T126 h126 L126 v126 K126 q126
  obtain ⟨rfl, e126⟩ := q126
  have f126 := e126.symm
  subst f126
  show G (T126.setTop (mkF m 13 #[.val (.ref a), .val (.ref x), .val .null, .val (.ref b), .unset] [(.int (Int32.ofNat cs.length))]))
  refine own_istore K126 (Ls' := #[.val (.ref a), .val (.ref x), .val .null, .val (.ref b), .val (.int (Int32.ofNat cs.length))]) d_jdk_42_m150_13 rfl rfl ?_
  refine own_aloadN K126 d_jdk_42_m150_15 rfl rfl rfl ?_
  refine own_callV K126 (a := x) (x0 := (⟨"java/lang/AbstractStringBuilder", "isLatin1", "()Z"⟩ : MethodName)) (wd90 hw) (wd91 hw) (fun q => own_nfS (args := #[]) (mvT q (wd77 hw)) rfl) (wd93 hw) (wd92 hw) (rm_isLatin1B hw hs (u := u) K126.O Bcoder) (wd94 hw) (wd54 hw) (by decide) BE (argsL := []) (rest := []) rfl pd_2829Z rfl rfl (W := 0) rfl (by first | decide | (dsimp only; omega)) (by first | decide | (dsimp only; omega)) (by first | decide | (dsimp only; omega)) (by first | decide | (dsimp only; omega)) d_jdk_42_m150_16 rfl ?_
  intro T127 h127 L127 v127 K127 q127
  obtain ⟨rfl, e127⟩ := q127
  have f127 := e127.symm
  subst f127
  show G (T127.setTop (mkF m 19 #[.val (.ref a), .val (.ref x), .val .null, .val (.ref b), .val (.int (Int32.ofNat cs.length))] [(.int (cond u 0 1))]))
  cases u with
  | false =>
    refine own_ifNo K127 d_jdk_42_m150_19 rfl ((if0 _ _).trans (feq (by decide)).1) ?_
    refine own_aloadN K127 d_jdk_42_m150_22 rfl rfl rfl ?_
    refine own_iconst K127 (v := (0 : Int32)) d_jdk_42_m150_23 rfl rfl ?_
    refine own_putFN K127 (wd28 hw) Via.refl F2 E (Or.inr ⟨(wd24 hw), rfl, rfl⟩) (wd9 hw) (ty := .byte) (v' := .int 0) (by decide) rfl rfl gx d_jdk_42_m150_24 rfl ?_
    intro T128 h128 K128 W128
    refine own_aloadN K128 d_jdk_42_m150_27 rfl rfl rfl ?_
    refine own_aloadN K128 d_jdk_42_m150_28 rfl rfl rfl ?_
    refine own_iconst K128 (v := (0 : Int32)) d_jdk_42_m150_29 rfl rfl ?_
    refine own_iload K128 d_jdk_42_m150_30 rfl rfl ?_
    have hba : b ≠ a := hne.symm
    refine own_callS K128 (wd95 hw) (wd96 hw) (rm_copyOf hw hs (M := N) (nn := cs.length) (cap := cap) K128.O (BV.other W128 hba) (BX.wr W128) (own_by_len cs) ⟨by omega, by omega⟩ (by omega) (by omega)) (wd98 hw) (wd97 hw) (by decide) (argsL := [(.ref b), (.int (0 : Int32)), (.int (Int32.ofNat cs.length))]) (rest := [(.ref a)]) rfl pd_285bBII295bB rfl rfl (W := 1) rfl (by first | decide | (dsimp only; omega)) (by first | decide | (dsimp only; omega)) (by first | decide | (dsimp only; omega)) (by first | decide | (dsimp only; omega)) d_jdk_42_m150_32 rfl ?_
    intro T129 h129 L129 v129 K129 q129
    obtain ⟨c129, kc129, rfl, gc129, X129, V129⟩ := q129
    show G (T129.setTop (mkF m 35 #[.val (.ref a), .val (.ref x), .val .null, .val (.ref b), .val (.int (Int32.ofNat cs.length))] [(.ref c129), (.ref a)]))
    refine own_putF K129 (host := "") (Or.inl (wd27 hw)) Via.refl ((F1.other W128 (Or.inr (slot_ne (Or.inr (wd23 hw)) (Or.inr (wd24 hw)) (by decide) (t := (.array .byte)) (t' := .byte) (by decide) (by decide)))).ext X129) ((E.wr W128).ext X129) (Or.inr ⟨(wd23 hw), rfl, rfl⟩) (wd9 hw) (ty := (.array .byte)) (by decide) rfl rfl gx d_jdk_42_m150_35 rfl ?_
    intro T130 h130 K130 W130
    refine own_goto K130 d_jdk_42_m150_38 (pc' := 97) (by decide) (by decide) ?_
    have hca : c129 ≠ a := Nat.ne_of_gt (Nat.lt_of_lt_of_le (E.wr W128).lt (Nat.le_of_eq gc129.symm))
    exact own_ret0 K130 d_jdk_42_m150_97 rfl (by first | decide | (dsimp only; omega)) (by first | decide | (dsimp only; omega)) ⟨rfl, (((Keep.refl h0 [a]).wr W128 (Or.inl (List.mem_singleton.mpr rfl))).ext X129).wr W130 (Or.inl (List.mem_singleton.mpr rfl)), ((E.wr W128).ext X129).wr W130, ((F2.same W128).ext X129).other W130 (Or.inr (slot_ne (Or.inr (wd24 hw)) (Or.inr (wd23 hw)) (by decide) (t := .byte) (t' := (.array .byte)) (by decide) (by decide))), c129, kc129, ((F1.other W128 (Or.inr (slot_ne (Or.inr (wd23 hw)) (Or.inr (wd24 hw)) (by decide) (t := (.array .byte)) (t' := .byte) (by decide) (by decide)))).ext X129).same W130, V129.other W130 hca⟩
  | true =>
    refine own_ifYes K127 d_jdk_42_m150_19 (pc' := 41) (by decide) (by decide) ((if0 _ _).trans (teq rfl).1) ?_
    refine own_getS K127 (wd46 hw) Via.refl (SC.ext K127.O) d_jdk_42_m150_41 rfl ?_
    intro T131 K131
    refine own_ifNo K131 d_jdk_42_m150_44 rfl ((if0 _ _).trans (feq hzc).1) ?_
    refine own_aloadN K131 d_jdk_42_m150_47 rfl rfl rfl ?_
    refine own_getF K131 (host := "") (Or.inl (wd255 hw)) Via.refl BmaybeLatin1 d_jdk_42_m150_48 rfl ?_
    intro T132 K132
    refine own_ifYes K132 d_jdk_42_m150_51 (pc' := 79) (by decide) (by decide) ((if0 _ _).trans (teq rfl).1) ?_
    refine own_aloadN K132 d_jdk_42_m150_79 rfl rfl rfl ?_
    refine own_iconst K132 (v := (1 : Int32)) d_jdk_42_m150_80 rfl rfl ?_
    refine own_putFN K132 (wd28 hw) Via.refl F2 E (Or.inr ⟨(wd24 hw), rfl, rfl⟩) (wd9 hw) (ty := .byte) (v' := .int 1) (by decide) rfl rfl gx d_jdk_42_m150_81 rfl ?_
    intro T133 h133 K133 W133
    refine own_aloadN K133 d_jdk_42_m150_84 rfl rfl rfl ?_
    refine own_aloadN K133 d_jdk_42_m150_85 rfl rfl rfl ?_
    refine own_iconst K133 (v := (0 : Int32)) d_jdk_42_m150_86 rfl rfl ?_
    refine own_iload K133 d_jdk_42_m150_87 rfl rfl ?_
    refine own_iconst K133 (v := (1 : Int32)) d_jdk_42_m150_89 rfl rfl ?_
    refine own_ishl K133 d_jdk_42_m150_90 rfl ?_
    rw [own_shl1 (by omega)]
    have hba : b ≠ a := hne.symm
    refine own_callS K133 (wd95 hw) (wd96 hw) (rm_copyOf hw hs (M := (2 * N)) (nn := (2 * cs.length)) (cap := cap) K133.O (BV.other W133 hba) (BX.wr W133) (own_by2_len cs) ⟨by omega, by omega⟩ (by omega) (by omega)) (wd98 hw) (wd97 hw) (by decide) (argsL := [(.ref b), (.int (0 : Int32)), (.int (Int32.ofNat (2 * cs.length)))]) (rest := [(.ref a)]) rfl pd_285bBII295bB rfl rfl (W := 1) rfl (by first | decide | (dsimp only; omega)) (by first | decide | (dsimp only; omega)) (by first | decide | (dsimp only; omega)) (by first | decide | (dsimp only; omega)) d_jdk_42_m150_91 rfl ?_
    intro T134 h134 L134 v134 K134 q134
    obtain ⟨c134, kc134, rfl, gc134, X134, V134⟩ := q134
    show G (T134.setTop (mkF m 94 #[.val (.ref a), .val (.ref x), .val .null, .val (.ref b), .val (.int (Int32.ofNat cs.length))] [(.ref c134), (.ref a)]))
    refine own_putF K134 (host := "") (Or.inl (wd27 hw)) Via.refl ((F1.other W133 (Or.inr (slot_ne (Or.inr (wd23 hw)) (Or.inr (wd24 hw)) (by decide) (t := (.array .byte)) (t' := .byte) (by decide) (by decide)))).ext X134) ((E.wr W133).ext X134) (Or.inr ⟨(wd23 hw), rfl, rfl⟩) (wd9 hw) (ty := (.array .byte)) (by decide) rfl rfl gx d_jdk_42_m150_94 rfl ?_
    intro T135 h135 K135 W135
    have hca : c134 ≠ a := Nat.ne_of_gt (Nat.lt_of_lt_of_le (E.wr W133).lt (Nat.le_of_eq gc134.symm))
    exact own_ret0 K135 d_jdk_42_m150_97 rfl (by first | decide | (dsimp only; omega)) (by first | decide | (dsimp only; omega)) ⟨rfl, (((Keep.refl h0 [a]).wr W133 (Or.inl (List.mem_singleton.mpr rfl))).ext X134).wr W135 (Or.inl (List.mem_singleton.mpr rfl)), ((E.wr W133).ext X134).wr W135, ((F2.same W133).ext X134).other W135 (Or.inr (slot_ne (Or.inr (wd24 hw)) (Or.inr (wd23 hw)) (by decide) (t := .byte) (t' := (.array .byte)) (by decide) (by decide))), c134, kc134, ((F1.other W133 (Or.inr (slot_ne (Or.inr (wd23 hw)) (Or.inr (wd24 hw)) (by decide) (t := (.array .byte)) (t' := .byte) (by decide) (by decide)))).ext X134).same W135, V134.other W135 hca⟩
theorem d_jdk_42_m53_0 : decode jdk_42_method_53_code 0 = .ok (.aload_n 0, 1) := by decide +kernel
theorem d_jdk_42_m53_1 : decode jdk_42_method_53_code 1 = .ok (.aload_n 1, 1) := by decide +kernel
theorem d_jdk_42_m53_2 : decode jdk_42_method_53_code 2 = .ok (.aconst_null, 1) := by decide +kernel
theorem d_jdk_42_m53_3 : decode jdk_42_method_53_code 3 = .ok (.invokespecial 489, 3) := by decide +kernel
theorem wd73 {a0 : Array Value} {Z : State} (hw : ∀ d ∈ tables_1, d.before a0 Z = true) : (Jvm.Cond.code ({ cls := "java/lang/String", name := "<init>", desc := "(Ljava/lang/AbstractStringBuilder;Ljava/lang/Void;)V" } : Jvm.MethodName) jdk_42_method_150_code (5 : Nat) (Option.none : Option Jvm.ClassFile.FieldType)).before a0 Z = true := hw _ (List.mem_of_getElem? (i := 73) rfl)
theorem pd_28Ljava2flang2fAbstractStringBuilder3bLjava2flang2fVoid3b29V : parseMethodDescriptor "(Ljava/lang/AbstractStringBuilder;Ljava/lang/Void;)V" = some ⟨[(.object "java/lang/AbstractStringBuilder"), (.object "java/lang/Void")], none⟩ := by decide +kernel
theorem wd71 {a0 : Array Value} {Z : State} (hw : ∀ d ∈ tables_1, d.before a0 Z = true) : (Jvm.Cond.methodLink "java/lang/String" (489 : Nat) ({ cls := "java/lang/String", name := "<init>", desc := "(Ljava/lang/AbstractStringBuilder;Ljava/lang/Void;)V" } : Jvm.MethodName)).before a0 Z = true := hw _ (List.mem_of_getElem? (i := 71) rfl)
theorem wd72 {a0 : Array Value} {Z : State} (hw : ∀ d ∈ tables_1, d.before a0 Z = true) : (Jvm.Cond.instanceMethod ({ cls := "java/lang/String", name := "<init>", desc := "(Ljava/lang/AbstractStringBuilder;Ljava/lang/Void;)V" } : Jvm.MethodName)).before a0 Z = true := hw _ (List.mem_of_getElem? (i := 72) rfl)
theorem d_jdk_42_m53_6 : decode jdk_42_method_53_code 6 = .ok (.return_, 1) := by decide +kernel
set_option maxRecDepth 65536 in
set_option maxHeartbeats 40000000 in
theorem rm_strSB {l : Launch} {Z : State} {a0 : Array Value} (hw : ∀ d ∈ tables_1, d.before a0 Z = true) (hs : ∀ d ∈ jdkStatics_1, d.before a0 Z = true) {a : Addr} {u1 : Value} {u2 : Value} {x : Addr} {u : Bool} {cs : List Int32} {b : Addr} {kb : ClassId} {N : Nat} {cap : Nat} {h0 : Heap} (O0 : Ext Z.heap h0) (E : Exa Z h0 a "java/lang/String") (F1 : Fld Z h0 a "java/lang/String" "value" "[B" u1) (F2 : Fld Z h0 a "java/lang/String" "coder" "B" u2) (gx : Z.heap.size ≤ a) (B : own_SB Z h0 x u cs.length cs b kb N) (hne : a ≠ b) (hlt : cs.length ≤ N) (hcap : 2 * cs.length ≤ cap) (hcap2 : cap ≤ 4000) :
    own_Ct l Z (⟨"java/lang/String", "<init>", "(Ljava/lang/StringBuilder;)V"⟩ : MethodName) jdk_42_method_53_code 2 none [] ({ frames := 4, locals := 87, cells := 1, slots := cap } : Room) #[(.ref a), (.ref x)] h0 (fun v h => v = none ∧ Keep h0 h [a] ∧ own_StrG Z h a u cs) := by
  refine own_body (Ls := #[.val (.ref a), .val (.ref x)]) (plainFor_of_name pn_java_lang_String) (fun m => by first | (simp [entryFrame, mkF, argsToLocals, Value.category]; done) | rfl) O0 ?_
  intro p e s m below meth c T0 G K0
  refine own_aloadN K0 d_jdk_42_m53_0 rfl rfl rfl ?_
  refine own_aloadN K0 d_jdk_42_m53_1 rfl rfl rfl ?_
  refine own_aconstNull K0 d_jdk_42_m53_2 rfl ?_
  refine own_callI K0 (a := a) (wd71 hw) (wd72 hw) (rm_strASB hw hs (cap := cap) K0.O E F1 F2 gx B hne hlt hcap hcap2) (wd73 hw) (wd10 hw) (by decide) rfl (argsL := [(.ref x), .null]) (rest := []) rfl pd_28Ljava2flang2fAbstractStringBuilder3bLjava2flang2fVoid3b29V rfl rfl (W := 0) rfl (by first | decide | (dsimp only; omega)) (by first | decide | (dsimp only; omega)) (by first | decide | (dsimp only; omega)) (by first | decide | (dsimp only; omega)) d_jdk_42_m53_3 rfl ?_
  intro T136 h136 L136 v136 K136 q136
  obtain ⟨rfl, q136⟩ := q136
  show G (T136.setTop (mkF m 6 #[.val (.ref a), .val (.ref x)] []))
  exact own_ret0 K136 d_jdk_42_m53_6 rfl (by first | decide | (dsimp only; omega)) (by first | decide | (dsimp only; omega)) ⟨rfl, q136⟩
theorem d_jdk_67_m42_0 : decode jdk_67_method_42_code 0 = .ok (.new 18, 3) := by decide +kernel
theorem wd67 {a0 : Array Value} {Z : State} (hw : ∀ d ∈ tables_1, d.before a0 Z = true) : (Jvm.Cond.classLink "java/lang/StringBuilder" (18 : Nat) "java/lang/String").before a0 Z = true := hw _ (List.mem_of_getElem? (i := 67) rfl)
theorem d_jdk_67_m42_3 : decode jdk_67_method_42_code 3 = .ok (.dup, 1) := by decide +kernel
theorem d_jdk_67_m42_4 : decode jdk_67_method_42_code 4 = .ok (.aload_n 0, 1) := by decide +kernel
theorem d_jdk_67_m42_5 : decode jdk_67_method_42_code 5 = .ok (.invokespecial 137, 3) := by decide +kernel
theorem wd70 {a0 : Array Value} {Z : State} (hw : ∀ d ∈ tables_1, d.before a0 Z = true) : (Jvm.Cond.code ({ cls := "java/lang/String", name := "<init>", desc := "(Ljava/lang/StringBuilder;)V" } : Jvm.MethodName) jdk_42_method_53_code (2 : Nat) (Option.none : Option Jvm.ClassFile.FieldType)).before a0 Z = true := hw _ (List.mem_of_getElem? (i := 70) rfl)
theorem pd_28Ljava2flang2fStringBuilder3b29V : parseMethodDescriptor "(Ljava/lang/StringBuilder;)V" = some ⟨[(.object "java/lang/StringBuilder")], none⟩ := by decide +kernel
theorem wd68 {a0 : Array Value} {Z : State} (hw : ∀ d ∈ tables_1, d.before a0 Z = true) : (Jvm.Cond.methodLink "java/lang/StringBuilder" (137 : Nat) ({ cls := "java/lang/String", name := "<init>", desc := "(Ljava/lang/StringBuilder;)V" } : Jvm.MethodName)).before a0 Z = true := hw _ (List.mem_of_getElem? (i := 68) rfl)
theorem wd69 {a0 : Array Value} {Z : State} (hw : ∀ d ∈ tables_1, d.before a0 Z = true) : (Jvm.Cond.instanceMethod ({ cls := "java/lang/String", name := "<init>", desc := "(Ljava/lang/StringBuilder;)V" } : Jvm.MethodName)).before a0 Z = true := hw _ (List.mem_of_getElem? (i := 69) rfl)
theorem d_jdk_67_m42_8 : decode jdk_67_method_42_code 8 = .ok (.areturn, 1) := by decide +kernel
set_option maxRecDepth 65536 in
set_option maxHeartbeats 40000000 in
theorem rm_toString {l : Launch} {Z : State} {a0 : Array Value} (hw : ∀ d ∈ tables_1, d.before a0 Z = true) (hs : ∀ d ∈ jdkStatics_1, d.before a0 Z = true) {x : Addr} {u : Bool} {cs : List Int32} {b : Addr} {kb : ClassId} {N : Nat} {cap : Nat} {h0 : Heap} (O0 : Ext Z.heap h0) (B : own_SB Z h0 x u cs.length cs b kb N) (hlt : cs.length ≤ N) (hcap : 2 * cs.length ≤ cap) (hcap2 : cap ≤ 4000) :
    own_Ct l Z (⟨"java/lang/StringBuilder", "toString", "()Ljava/lang/String;"⟩ : MethodName) jdk_67_method_42_code 1 (some (.object "java/lang/String")) [] ({ frames := 5, locals := 101, cells := 2, slots := 4 + cap } : Room) #[(.ref x)] h0 (fun v h => ∃ a : Addr, v = some (.ref a) ∧ a = h0.size ∧ Ext h0 h ∧ own_StrG Z h a u cs) := by
  refine own_body (Ls := #[.val (.ref x)]) (plainFor_of_name pn_java_lang_StringBuilder) (fun m => by first | (simp [entryFrame, mkF, argsToLocals, Value.category]; done) | rfl) O0 ?_
  intro p e s m below meth c T0 G K0
  refine own_newO K0 (wd67 hw) (wd9 hw) (wd10 hw) d_jdk_67_m42_0 (by first | decide | (dsimp only; omega)) (by first | decide | (dsimp only; omega)) rfl ?_
  intro T137 h137 a137 K137 g137 E137 A137 D137 U137
  have F_value_137 : Fld Z h137 a137 "java/lang/String" "value" "[B" .null := D137 (Or.inr (wd23 hw)) (ty := (.array .byte)) (by decide)
  have F_coder_137 : Fld Z h137 a137 "java/lang/String" "coder" "B" (.int (0 : Int32)) := D137 (Or.inr (wd24 hw)) (ty := .byte) (by decide)
  refine own_dup K137 d_jdk_67_m42_3 rfl rfl ?_
  refine own_aloadN K137 d_jdk_67_m42_4 rfl rfl rfl ?_
  have gy : Z.heap.size ≤ a137 := by rw [g137]; exact K0.O.1
  have hne : a137 ≠ b := Nat.ne_of_gt (Nat.lt_of_lt_of_le B.lt.2 (Nat.le_of_eq g137.symm))
  refine own_callI K137 (a := a137) (wd68 hw) (wd69 hw) (rm_strSB hw hs (cap := cap) K137.O A137 F_value_137 F_coder_137 gy (B.ext E137) hne hlt hcap hcap2) (wd70 hw) (wd10 hw) (by decide) rfl (argsL := [(.ref x)]) (rest := [(.ref a137)]) rfl pd_28Ljava2flang2fStringBuilder3b29V rfl rfl (W := 1) rfl (by first | decide | (dsimp only; omega)) (by first | decide | (dsimp only; omega)) (by first | decide | (dsimp only; omega)) (by first | decide | (dsimp only; omega)) d_jdk_67_m42_5 rfl ?_
  intro T138 h138 L138 v138 K138 q138
  obtain ⟨rfl, Kp138, S138⟩ := q138
  show G (T138.setTop (mkF m 8 #[.val (.ref x)] [(.ref a137)]))
  exact own_retA K138 d_jdk_67_m42_8 rfl rfl rfl rfl (by first | decide | (dsimp only; omega)) (by first | decide | (dsimp only; omega)) ⟨a137, rfl, g137, own_ext_keep E137 Kp138 (fun y q => by cases List.mem_singleton.mp q; exact Nat.le_of_eq g137.symm), S138⟩
theorem wd21 {a0 : Array Value} {Z : State} (hw : ∀ d ∈ tables_1, d.before a0 Z = true) : (Jvm.Cond.stringLink "java/lang/String" (7 : Nat) "").before a0 Z = true := hw _ (List.mem_of_getElem? (i := 21) rfl)
theorem wd164 {a0 : Array Value} {Z : State} (hw : ∀ d ∈ tables_1, d.before a0 Z = true) : (Jvm.Cond.stringLink "com/example/reevemark/reevemark/connectors/ldap/LdapEscape" (26 : Nat) "\\00").before a0 Z = true := hw _ (List.mem_of_getElem? (i := 164) rfl)
theorem own_EL {a0 : Array Value} {Z : State} (hw : ∀ d ∈ tables_1, d.before a0 Z = true) : EW Z a0 consts_1 := (EW.cons (wd164 hw) (by decide +kernel) (EW.cons (wd21 hw) (by decide +kernel) EW.nil))
theorem own_strA {a0 : Array Value} {Z : State} (hw : ∀ d ∈ tables_1, d.before a0 Z = true) : ∀ a ∈ Bundle.stringAtoms, a.before a0 Z = true := by
  have q : ∀ a ∈ Bundle.stringAtoms, a ∈ tables_1 := by decide +kernel
  exact fun a ha => hw a (q a ha)
theorem d_jdk_42_m149_0 : decode jdk_42_method_149_code 0 = .ok (.aload_n 0, 1) := by decide +kernel
theorem d_jdk_42_m149_1 : decode jdk_42_method_149_code 1 = .ok (.invokespecial 1, 3) := by decide +kernel
theorem d_jdk_42_m149_4 : decode jdk_42_method_149_code 4 = .ok (.iload_n 3, 1) := by decide +kernel
theorem d_jdk_42_m149_5 : decode jdk_42_method_149_code 5 = .ok (.ifCond .ne 22, 3) := by decide +kernel
theorem d_jdk_42_m149_8 : decode jdk_42_method_149_code 8 = .ok (.aload_n 0, 1) := by decide +kernel
theorem own_mem_java_lang_String_7 : (("java/lang/String", 7) : String × Nat) ∈ consts_1 := by decide +kernel
theorem d_jdk_42_m149_9 : decode jdk_42_method_149_code 9 = .ok (.ldc 7, 2) := by decide +kernel
theorem d_jdk_42_m149_11 : decode jdk_42_method_149_code 11 = .ok (.getfield 9, 3) := by decide +kernel
theorem d_jdk_42_m149_14 : decode jdk_42_method_149_code 14 = .ok (.putfield 9, 3) := by decide +kernel
theorem d_jdk_42_m149_17 : decode jdk_42_method_149_code 17 = .ok (.aload_n 0, 1) := by decide +kernel
theorem d_jdk_42_m149_18 : decode jdk_42_method_149_code 18 = .ok (.ldc 7, 2) := by decide +kernel
theorem d_jdk_42_m149_20 : decode jdk_42_method_149_code 20 = .ok (.getfield 15, 3) := by decide +kernel
theorem d_jdk_42_m149_23 : decode jdk_42_method_149_code 23 = .ok (.putfield 15, 3) := by decide +kernel
theorem d_jdk_42_m149_26 : decode jdk_42_method_149_code 26 = .ok (.return_, 1) := by decide +kernel
set_option maxRecDepth 65536 in
set_option maxHeartbeats 40000000 in
theorem rm_initC4E {l : Launch} {Z : State} {a0 : Array Value} (hw : ∀ d ∈ tables_1, d.before a0 Z = true) (hs : ∀ d ∈ jdkStatics_1, d.before a0 Z = true) {x : Addr} {a : Addr} {h0 : Heap} (O0 : Ext Z.heap h0) (E : Exa Z h0 x "java/lang/String") (F1 : Fld Z h0 x "java/lang/String" "value" "[B" .null) (F2 : Fld Z h0 x "java/lang/String" "coder" "B" (.int 0)) (gx : Z.heap.size ≤ x) :
    own_CtW l Z consts_1 true false (⟨"java/lang/String", "<init>", "([CIILjava/lang/Void;)V"⟩ : MethodName) jdk_42_method_149_code 6 none [] ({ frames := 1, locals := 12, cells := 4, slots := 8 } : Room) #[(.ref x), (.ref a), (.int 0), (.int 0), .null] h0 (fun v h => v = none ∧ Keep h0 h [x] ∧ own_StrG Z h x false []) := by
  refine own_bodyW (Ls := #[.val (.ref x), .val (.ref a), .val (.int 0), .val (.int 0), .val .null, .unset]) (own_EL hw) (plainFor_of_name pn_java_lang_String) (fun m => by first | (simp [entryFrame, mkF, argsToLocals, Value.category]; done) | rfl) O0 ?_
  intro p e s m below meth c T0 G hkn hs0 W0
  refine own_aloadN W0.K d_jdk_42_m149_0 rfl rfl rfl ?_
  refine own_initO W0.K (W := 0) (wd18 hw) (wd19 hw) (wd20 hw) rfl rfl (by decide) (by decide) d_jdk_42_m149_1 rfl ?_
  intro T139 K139
  refine own_iloadN K139 d_jdk_42_m149_4 rfl rfl ?_
  refine own_ifNo K139 d_jdk_42_m149_5 rfl ((if0 _ _).trans (teq rfl).2) ?_
  refine own_aloadN K139 d_jdk_42_m149_8 rfl rfl rfl ?_
  have W140 := W0.same K139
  have s0 : Safe Z consts_1 _ h0 x := own_safe_null W140.hZ.alike E F1
  refine own_ldcC W140 (own_EL hw) (vs := own_by ([] : List Int32)) (z := Int32.ofNat ([] : List Int32).length) (nn := 0) own_mem_java_lang_String_7 (wd21 hw) (own_strA hw) ⟨by decide +kernel, by decide +kernel⟩ (by decide) (by decide) (by decide) (by decide) (by decide) (by decide) d_jdk_42_m149_9 rfl ?_
  intro T141 h141 k1_141 a141 b141 kb141 W141 E141 C141 ES141 FC141 FV141 VS141 sf141
  refine own_getF W141.K (host := "") (Or.inl (wd27 hw)) Via.refl FV141 d_jdk_42_m149_11 rfl ?_
  intro T142 K142
  have W143 := W141.same K142
  have s1 := C141.safe E.lt s0
  refine own_putF W143.K (host := "") (Or.inl (wd27 hw)) Via.refl (F1.ext E141) (E.ext E141) (Or.inr ⟨(wd23 hw), rfl, rfl⟩) (wd9 hw) (ty := (.array .byte)) (by decide) rfl rfl gx d_jdk_42_m149_14 rfl ?_
  intro T144 h144 K144 W144
  have W145 := W143.wr K144 W144 s1
  have s2 := Safe.wr W144 s1 W143.C.1 s1
  refine own_aloadN W145.K d_jdk_42_m149_17 rfl rfl rfl ?_
  refine own_ldcC W145 (own_EL hw) (vs := own_by ([] : List Int32)) (z := Int32.ofNat ([] : List Int32).length) (nn := 0) own_mem_java_lang_String_7 (wd21 hw) (own_strA hw) ⟨by decide +kernel, by decide +kernel⟩ (by decide) (by decide) (by decide) (by decide) (by decide) (by decide) d_jdk_42_m149_18 rfl ?_
  intro T146 h146 k1_146 a146 b146 kb146 W146 E146 C146 ES146 FC146 FV146 VS146 sf146
  refine own_getF W146.K (host := "") (Or.inl (wd28 hw)) Via.refl FC146 d_jdk_42_m149_20 rfl ?_
  intro T147 K147
  have W148 := W146.same K147
  have s3 := C146.safe ((E.ext E141).wr W144).lt s2
  have F3 := ((F2.ext E141).other W144 (Or.inr (slot_ne (Or.inr (wd24 hw)) (Or.inr (wd23 hw)) (by decide) (t := .byte) (t' := (.array .byte)) (by decide) (by decide)))).ext E146
  have E3 := ((E.ext E141).wr W144).ext E146
  refine own_putFN W148.K (wd28 hw) Via.refl F3 E3 (Or.inr ⟨(wd24 hw), rfl, rfl⟩) (wd9 hw) (ty := .byte) (v' := .int 0) (by decide) rfl rfl gx d_jdk_42_m149_23 rfl ?_
  intro T149 h149 K149 W149
  have W150 := W148.wr K149 W149 s3
  have hbx : x ≠ b141 := (sf141 x s1).2
  exact own_ret0 W150.K d_jdk_42_m149_26 rfl (by decide) (by decide) ⟨⟨⟨rfl, ((((Keep.refl h0 [x]).ext E141).wr W144 (Or.inl (List.mem_singleton.mpr rfl))).ext E146).wr W149 (Or.inl (List.mem_singleton.mpr rfl)), E3.wr W149, F3.same W149, b141, kb141, ((((F1.ext E141).same W144).ext E146)).other W149 (Or.inr (slot_ne (Or.inr (wd23 hw)) (Or.inr (wd24 hw)) (by decide) (t := (.array .byte)) (t' := .byte) (by decide) (by decide))), ((VS141.other W144 hbx.symm).ext E146).other W149 hbx.symm⟩, W150.le⟩, fun _ => W150.C⟩
theorem d_jdk_42_m3_0 : decode jdk_42_method_3_code 0 = .ok (.aload_n 0, 1) := by decide +kernel
theorem d_jdk_42_m3_1 : decode jdk_42_method_3_code 1 = .ok (.aload_n 1, 1) := by decide +kernel
theorem d_jdk_42_m3_2 : decode jdk_42_method_3_code 2 = .ok (.iconst 0, 1) := by decide +kernel
theorem d_jdk_42_m3_3 : decode jdk_42_method_3_code 3 = .ok (.aload_n 1, 1) := by decide +kernel
theorem d_jdk_42_m3_4 : decode jdk_42_method_3_code 4 = .ok (.arraylength, 1) := by decide +kernel
theorem d_jdk_42_m3_5 : decode jdk_42_method_3_code 5 = .ok (.aconst_null, 1) := by decide +kernel
theorem d_jdk_42_m3_6 : decode jdk_42_method_3_code 6 = .ok (.invokespecial 27, 3) := by decide +kernel
theorem wd17 {a0 : Array Value} {Z : State} (hw : ∀ d ∈ tables_1, d.before a0 Z = true) : (Jvm.Cond.code ({ cls := "java/lang/String", name := "<init>", desc := "([CIILjava/lang/Void;)V" } : Jvm.MethodName) jdk_42_method_149_code (6 : Nat) (Option.none : Option Jvm.ClassFile.FieldType)).before a0 Z = true := hw _ (List.mem_of_getElem? (i := 17) rfl)
theorem pd_285bCIILjava2flang2fVoid3b29V : parseMethodDescriptor "([CIILjava/lang/Void;)V" = some ⟨[(.array .char), .int, .int, (.object "java/lang/Void")], none⟩ := by decide +kernel
theorem wd14 {a0 : Array Value} {Z : State} (hw : ∀ d ∈ tables_1, d.before a0 Z = true) : (Jvm.Cond.methodLink "java/lang/String" (27 : Nat) ({ cls := "java/lang/String", name := "<init>", desc := "([CIILjava/lang/Void;)V" } : Jvm.MethodName)).before a0 Z = true := hw _ (List.mem_of_getElem? (i := 14) rfl)
theorem wd15 {a0 : Array Value} {Z : State} (hw : ∀ d ∈ tables_1, d.before a0 Z = true) : (Jvm.Cond.instanceMethod ({ cls := "java/lang/String", name := "<init>", desc := "([CIILjava/lang/Void;)V" } : Jvm.MethodName)).before a0 Z = true := hw _ (List.mem_of_getElem? (i := 15) rfl)
theorem d_jdk_42_m3_9 : decode jdk_42_method_3_code 9 = .ok (.return_, 1) := by decide +kernel
set_option maxRecDepth 65536 in
set_option maxHeartbeats 40000000 in
theorem rm_initCE {l : Launch} {Z : State} {a0 : Array Value} (hw : ∀ d ∈ tables_1, d.before a0 Z = true) (hs : ∀ d ∈ jdkStatics_1, d.before a0 Z = true) {x : Addr} {a : Addr} {ka : ClassId} {vs : List Value} {dv : Value} {h0 : Heap} (O0 : Ext Z.heap h0) (E : Exa Z h0 x "java/lang/String") (F1 : Fld Z h0 x "java/lang/String" "value" "[B" .null) (F2 : Fld Z h0 x "java/lang/String" "coder" "B" (.int 0)) (gx : Z.heap.size ≤ x) (A : Arv Z h0 a ka .char 0 vs dv) :
    own_CtW l Z consts_1 true false (⟨"java/lang/String", "<init>", "([C)V"⟩ : MethodName) jdk_42_method_3_code 2 none [] ({ frames := 2, locals := 29, cells := 4, slots := 8 } : Room) #[(.ref x), (.ref a)] h0 (fun v h => v = none ∧ Keep h0 h [x] ∧ own_StrG Z h x false []) := by
  refine own_bodyW (Ls := #[.val (.ref x), .val (.ref a)]) (own_EL hw) (plainFor_of_name pn_java_lang_String) (fun m => by first | (simp [entryFrame, mkF, argsToLocals, Value.category]; done) | rfl) O0 ?_
  intro p e s m below meth c T0 G hkn hs0 W0
  refine own_aloadN W0.K d_jdk_42_m3_0 rfl rfl rfl ?_
  refine own_aloadN W0.K d_jdk_42_m3_1 rfl rfl rfl ?_
  refine own_iconst W0.K (v := (0 : Int32)) d_jdk_42_m3_2 rfl rfl ?_
  refine own_aloadN W0.K d_jdk_42_m3_3 rfl rfl rfl ?_
  refine own_arraylength W0.K A d_jdk_42_m3_4 rfl ?_
  refine own_aconstNull W0.K d_jdk_42_m3_5 rfl ?_
  refine own_callIW W0 (own_EL hw) (kn := false) (fun q => nomatch q) (a := x) (wd14 hw) (wd15 hw) (rm_initC4E hw hs W0.K.O E F1 F2 gx) (wd17 hw) (wd10 hw) (by decide) rfl (argsL := [(.ref a), (.int (0 : Int32)), (.int (0 : Int32)), .null]) (rest := []) rfl pd_285bCIILjava2flang2fVoid3b29V rfl rfl (Wd := 0) rfl (by decide) (by decide) (by decide) (by decide) d_jdk_42_m3_6 rfl ?_
  intro T151 h151 L151 v151 k1_151 W151 C151 q151
  obtain ⟨rfl, q151⟩ := q151
  show G (T151.setTop (mkF m 9 #[.val (.ref x), .val (.ref a)] []))
  exact own_ret0 W151.K d_jdk_42_m3_9 rfl (by decide) (by decide) ⟨⟨⟨rfl, q151⟩, W151.le⟩, fun _ => W151.C⟩
theorem rm_charAtE {l : Launch} {Z : State} {a0 : Array Value} (hw : ∀ d ∈ tables_1, d.before a0 Z = true) (hs : ∀ d ∈ jdkStatics_1, d.before a0 Z = true) {x : Addr} {u : Bool} {cs : List Int32} {i : Nat} {y : Int32} {h0 : Heap} (O0 : Ext Z.heap h0) (S : own_StrG Z h0 x u cs) (hlen : cs.length ≤ 4000) (hok : own_ok u cs) (hy : cs[i]? = some y) : own_Ct l Z (⟨"java/lang/String", "charAt", "(I)C"⟩ : MethodName) jdk_42_method_56_code 2 (some .char) [] ({ frames := 4, locals := 53, cells := 0, slots := 0 } : Room) #[.ref x, .int (Int32.ofNat i)] h0 (fun v h => v = some (.int y) ∧ h = h0) := by
  obtain ⟨hi, rfl⟩ := List.getElem?_eq_some_iff.mp hy
  exact rm_charAt hw hs O0 S hlen hok hi
theorem d_prog_3_m2_24 : decode prog_3_method_2_code 24 = .ok (.iload_n 3, 1) := by decide +kernel
theorem d_prog_3_m2_25 : decode prog_3_method_2_code 25 = .ok (.iload_n 2, 1) := by decide +kernel
theorem d_prog_3_m2_26 : decode prog_3_method_2_code 26 = .ok (.if_icmp .gt 187, 3) := by decide +kernel
theorem d_prog_3_m2_213 : decode prog_3_method_2_code 213 = .ok (.aload_n 1, 1) := by decide +kernel
theorem d_prog_3_m2_214 : decode prog_3_method_2_code 214 = .ok (.invokevirtual 31, 3) := by decide +kernel
theorem wd66 {a0 : Array Value} {Z : State} (hw : ∀ d ∈ tables_1, d.before a0 Z = true) : (Jvm.Cond.code ({ cls := "java/lang/StringBuilder", name := "toString", desc := "()Ljava/lang/String;" } : Jvm.MethodName) jdk_67_method_42_code (1 : Nat) (Option.some (Jvm.ClassFile.FieldType.object "java/lang/String"))).before a0 Z = true := hw _ (List.mem_of_getElem? (i := 66) rfl)
theorem pd_2829Ljava2flang2fString3b : parseMethodDescriptor "()Ljava/lang/String;" = some ⟨[], some (.object "java/lang/String")⟩ := by decide +kernel
theorem wd65 {a0 : Array Value} {Z : State} (hw : ∀ d ∈ tables_1, d.before a0 Z = true) : (Jvm.Cond.selects "java/lang/StringBuilder" ({ cls := "java/lang/StringBuilder", name := "toString", desc := "()Ljava/lang/String;" } : Jvm.MethodName) ({ cls := "java/lang/StringBuilder", name := "toString", desc := "()Ljava/lang/String;" } : Jvm.MethodName)).before a0 Z = true := hw _ (List.mem_of_getElem? (i := 65) rfl)
theorem wd62 {a0 : Array Value} {Z : State} (hw : ∀ d ∈ tables_1, d.before a0 Z = true) : (Jvm.Cond.methodLink "com/example/reevemark/reevemark/connectors/ldap/LdapEscape" (31 : Nat) ({ cls := "java/lang/StringBuilder", name := "toString", desc := "()Ljava/lang/String;" } : Jvm.MethodName)).before a0 Z = true := hw _ (List.mem_of_getElem? (i := 62) rfl)
theorem wd63 {a0 : Array Value} {Z : State} (hw : ∀ d ∈ tables_1, d.before a0 Z = true) : (Jvm.Cond.declares ({ cls := "java/lang/StringBuilder", name := "toString", desc := "()Ljava/lang/String;" } : Jvm.MethodName)).before a0 Z = true := hw _ (List.mem_of_getElem? (i := 63) rfl)
theorem wd64 {a0 : Array Value} {Z : State} (hw : ∀ d ∈ tables_1, d.before a0 Z = true) : (Jvm.Cond.instanceMethod ({ cls := "java/lang/StringBuilder", name := "toString", desc := "()Ljava/lang/String;" } : Jvm.MethodName)).before a0 Z = true := hw _ (List.mem_of_getElem? (i := 64) rfl)
theorem d_prog_3_m2_217 : decode prog_3_method_2_code 217 = .ok (.areturn, 1) := by decide +kernel
theorem d_prog_3_m2_29 : decode prog_3_method_2_code 29 = .ok (.aload_n 0, 1) := by decide +kernel
theorem d_prog_3_m2_30 : decode prog_3_method_2_code 30 = .ok (.iload_n 3, 1) := by decide +kernel
theorem d_prog_3_m2_31 : decode prog_3_method_2_code 31 = .ok (.invokevirtual 18, 3) := by decide +kernel
theorem wd128 {a0 : Array Value} {Z : State} (hw : ∀ d ∈ tables_1, d.before a0 Z = true) : (Jvm.Cond.code ({ cls := "java/lang/String", name := "charAt", desc := "(I)C" } : Jvm.MethodName) jdk_42_method_56_code (2 : Nat) (Option.some Jvm.ClassFile.FieldType.char)).before a0 Z = true := hw _ (List.mem_of_getElem? (i := 128) rfl)
theorem pd_28I29C : parseMethodDescriptor "(I)C" = some ⟨[.int], some .char⟩ := by decide +kernel
theorem wd124 {a0 : Array Value} {Z : State} (hw : ∀ d ∈ tables_1, d.before a0 Z = true) : (Jvm.Cond.methodLink "com/example/reevemark/reevemark/connectors/ldap/LdapEscape" (18 : Nat) ({ cls := "java/lang/String", name := "charAt", desc := "(I)C" } : Jvm.MethodName)).before a0 Z = true := hw _ (List.mem_of_getElem? (i := 124) rfl)
theorem wd125 {a0 : Array Value} {Z : State} (hw : ∀ d ∈ tables_1, d.before a0 Z = true) : (Jvm.Cond.declares ({ cls := "java/lang/String", name := "charAt", desc := "(I)C" } : Jvm.MethodName)).before a0 Z = true := hw _ (List.mem_of_getElem? (i := 125) rfl)
theorem wd127 {a0 : Array Value} {Z : State} (hw : ∀ d ∈ tables_1, d.before a0 Z = true) : (Jvm.Cond.selects "java/lang/String" ({ cls := "java/lang/String", name := "charAt", desc := "(I)C" } : Jvm.MethodName) ({ cls := "java/lang/String", name := "charAt", desc := "(I)C" } : Jvm.MethodName)).before a0 Z = true := hw _ (List.mem_of_getElem? (i := 127) rfl)
theorem wd126 {a0 : Array Value} {Z : State} (hw : ∀ d ∈ tables_1, d.before a0 Z = true) : (Jvm.Cond.instanceMethod ({ cls := "java/lang/String", name := "charAt", desc := "(I)C" } : Jvm.MethodName)).before a0 Z = true := hw _ (List.mem_of_getElem? (i := 126) rfl)
theorem d_prog_3_m2_34 : decode prog_3_method_2_code 34 = .ok (.istore 4, 2) := by decide +kernel
theorem d_prog_3_m2_36 : decode prog_3_method_2_code 36 = .ok (.iload 4, 2) := by decide +kernel
theorem d_prog_3_m2_38 : decode prog_3_method_2_code 38 = .ok (.lookupswitch 162 #[(0, 105), (32, 115), (34, 90), (35, 141), (43, 90), (44, 90), (59, 90), (60, 90), (62, 90), (92, 90)], 90) := by decide +kernel
theorem d_prog_3_m2_128 : decode prog_3_method_2_code 128 = .ok (.aload_n 1, 1) := by decide +kernel
theorem d_prog_3_m2_129 : decode prog_3_method_2_code 129 = .ok (.bipush 92, 2) := by decide +kernel
theorem d_prog_3_m2_131 : decode prog_3_method_2_code 131 = .ok (.invokevirtual 22, 3) := by decide +kernel
theorem wd150 {a0 : Array Value} {Z : State} (hw : ∀ d ∈ tables_1, d.before a0 Z = true) : (Jvm.Cond.code ({ cls := "java/lang/StringBuilder", name := "append", desc := "(C)Ljava/lang/StringBuilder;" } : Jvm.MethodName) jdk_67_method_14_code (2 : Nat) (Option.some (Jvm.ClassFile.FieldType.object "java/lang/StringBuilder"))).before a0 Z = true := hw _ (List.mem_of_getElem? (i := 150) rfl)
theorem pd_28C29Ljava2flang2fStringBuilder3b : parseMethodDescriptor "(C)Ljava/lang/StringBuilder;" = some ⟨[.char], some (.object "java/lang/StringBuilder")⟩ := by decide +kernel
theorem wd146 {a0 : Array Value} {Z : State} (hw : ∀ d ∈ tables_1, d.before a0 Z = true) : (Jvm.Cond.methodLink "com/example/reevemark/reevemark/connectors/ldap/LdapEscape" (22 : Nat) ({ cls := "java/lang/StringBuilder", name := "append", desc := "(C)Ljava/lang/StringBuilder;" } : Jvm.MethodName)).before a0 Z = true := hw _ (List.mem_of_getElem? (i := 146) rfl)
theorem wd147 {a0 : Array Value} {Z : State} (hw : ∀ d ∈ tables_1, d.before a0 Z = true) : (Jvm.Cond.declares ({ cls := "java/lang/StringBuilder", name := "append", desc := "(C)Ljava/lang/StringBuilder;" } : Jvm.MethodName)).before a0 Z = true := hw _ (List.mem_of_getElem? (i := 147) rfl)
theorem wd149 {a0 : Array Value} {Z : State} (hw : ∀ d ∈ tables_1, d.before a0 Z = true) : (Jvm.Cond.selects "java/lang/StringBuilder" ({ cls := "java/lang/StringBuilder", name := "append", desc := "(C)Ljava/lang/StringBuilder;" } : Jvm.MethodName) ({ cls := "java/lang/StringBuilder", name := "append", desc := "(C)Ljava/lang/StringBuilder;" } : Jvm.MethodName)).before a0 Z = true := hw _ (List.mem_of_getElem? (i := 149) rfl)
theorem wd148 {a0 : Array Value} {Z : State} (hw : ∀ d ∈ tables_1, d.before a0 Z = true) : (Jvm.Cond.instanceMethod ({ cls := "java/lang/StringBuilder", name := "append", desc := "(C)Ljava/lang/StringBuilder;" } : Jvm.MethodName)).before a0 Z = true := hw _ (List.mem_of_getElem? (i := 148) rfl)
theorem d_prog_3_m2_134 : decode prog_3_method_2_code 134 = .ok (.iload 4, 2) := by decide +kernel
theorem d_prog_3_m2_136 : decode prog_3_method_2_code 136 = .ok (.invokevirtual 22, 3) := by decide +kernel
theorem d_prog_3_m2_139 : decode prog_3_method_2_code 139 = .ok (.pop, 1) := by decide +kernel
theorem d_prog_3_m2_140 : decode prog_3_method_2_code 140 = .ok (.goto 67, 3) := by decide +kernel
theorem d_prog_3_m2_207 : decode prog_3_method_2_code 207 = .ok (.iinc 3 1, 3) := by decide +kernel
theorem d_prog_3_m2_210 : decode prog_3_method_2_code 210 = .ok (.goto (-186), 3) := by decide +kernel
theorem d_prog_3_m2_143 : decode prog_3_method_2_code 143 = .ok (.aload_n 1, 1) := by decide +kernel
theorem own_mem_com_example_reevemark_reevemark_connectors_ldap_LdapEscape_26 : (("com/example/reevemark/reevemark/connectors/ldap/LdapEscape", 26) : String × Nat) ∈ consts_1 := by decide +kernel
theorem d_prog_3_m2_144 : decode prog_3_method_2_code 144 = .ok (.ldc 26, 2) := by decide +kernel
theorem d_prog_3_m2_146 : decode prog_3_method_2_code 146 = .ok (.invokevirtual 28, 3) := by decide +kernel
theorem wd169 {a0 : Array Value} {Z : State} (hw : ∀ d ∈ tables_1, d.before a0 Z = true) : (Jvm.Cond.code ({ cls := "java/lang/StringBuilder", name := "append", desc := "(Ljava/lang/String;)Ljava/lang/StringBuilder;" } : Jvm.MethodName) jdk_67_method_7_code (2 : Nat) (Option.some (Jvm.ClassFile.FieldType.object "java/lang/StringBuilder"))).before a0 Z = true := hw _ (List.mem_of_getElem? (i := 169) rfl)
theorem pd_28Ljava2flang2fString3b29Ljava2flang2fStringBuilder3b : parseMethodDescriptor "(Ljava/lang/String;)Ljava/lang/StringBuilder;" = some ⟨[(.object "java/lang/String")], some (.object "java/lang/StringBuilder")⟩ := by decide +kernel
theorem wd165 {a0 : Array Value} {Z : State} (hw : ∀ d ∈ tables_1, d.before a0 Z = true) : (Jvm.Cond.methodLink "com/example/reevemark/reevemark/connectors/ldap/LdapEscape" (28 : Nat) ({ cls := "java/lang/StringBuilder", name := "append", desc := "(Ljava/lang/String;)Ljava/lang/StringBuilder;" } : Jvm.MethodName)).before a0 Z = true := hw _ (List.mem_of_getElem? (i := 165) rfl)
theorem wd166 {a0 : Array Value} {Z : State} (hw : ∀ d ∈ tables_1, d.before a0 Z = true) : (Jvm.Cond.declares ({ cls := "java/lang/StringBuilder", name := "append", desc := "(Ljava/lang/String;)Ljava/lang/StringBuilder;" } : Jvm.MethodName)).before a0 Z = true := hw _ (List.mem_of_getElem? (i := 166) rfl)
theorem wd168 {a0 : Array Value} {Z : State} (hw : ∀ d ∈ tables_1, d.before a0 Z = true) : (Jvm.Cond.selects "java/lang/StringBuilder" ({ cls := "java/lang/StringBuilder", name := "append", desc := "(Ljava/lang/String;)Ljava/lang/StringBuilder;" } : Jvm.MethodName) ({ cls := "java/lang/StringBuilder", name := "append", desc := "(Ljava/lang/String;)Ljava/lang/StringBuilder;" } : Jvm.MethodName)).before a0 Z = true := hw _ (List.mem_of_getElem? (i := 168) rfl)
theorem wd167 {a0 : Array Value} {Z : State} (hw : ∀ d ∈ tables_1, d.before a0 Z = true) : (Jvm.Cond.instanceMethod ({ cls := "java/lang/StringBuilder", name := "append", desc := "(Ljava/lang/String;)Ljava/lang/StringBuilder;" } : Jvm.MethodName)).before a0 Z = true := hw _ (List.mem_of_getElem? (i := 167) rfl)
theorem d_prog_3_m2_149 : decode prog_3_method_2_code 149 = .ok (.pop, 1) := by decide +kernel
theorem d_prog_3_m2_150 : decode prog_3_method_2_code 150 = .ok (.goto 57, 3) := by decide +kernel
theorem d_prog_3_m2_153 : decode prog_3_method_2_code 153 = .ok (.iload_n 3, 1) := by decide +kernel
theorem d_prog_3_m2_154 : decode prog_3_method_2_code 154 = .ok (.ifCond .eq 8, 3) := by decide +kernel
theorem d_prog_3_m2_162 : decode prog_3_method_2_code 162 = .ok (.aload_n 1, 1) := by decide +kernel
theorem d_prog_3_m2_163 : decode prog_3_method_2_code 163 = .ok (.bipush 92, 2) := by decide +kernel
theorem d_prog_3_m2_165 : decode prog_3_method_2_code 165 = .ok (.invokevirtual 22, 3) := by decide +kernel
theorem d_prog_3_m2_168 : decode prog_3_method_2_code 168 = .ok (.pop, 1) := by decide +kernel
theorem d_prog_3_m2_169 : decode prog_3_method_2_code 169 = .ok (.aload_n 1, 1) := by decide +kernel
theorem d_prog_3_m2_170 : decode prog_3_method_2_code 170 = .ok (.iload 4, 2) := by decide +kernel
theorem d_prog_3_m2_172 : decode prog_3_method_2_code 172 = .ok (.invokevirtual 22, 3) := by decide +kernel
theorem d_prog_3_m2_175 : decode prog_3_method_2_code 175 = .ok (.pop, 1) := by decide +kernel
theorem d_prog_3_m2_176 : decode prog_3_method_2_code 176 = .ok (.goto 31, 3) := by decide +kernel
theorem d_prog_3_m2_157 : decode prog_3_method_2_code 157 = .ok (.iload_n 3, 1) := by decide +kernel
theorem d_prog_3_m2_158 : decode prog_3_method_2_code 158 = .ok (.iload_n 2, 1) := by decide +kernel
theorem d_prog_3_m2_159 : decode prog_3_method_2_code 159 = .ok (.if_icmp .ne 10, 3) := by decide +kernel
theorem d_prog_3_m2_179 : decode prog_3_method_2_code 179 = .ok (.iload_n 3, 1) := by decide +kernel
theorem d_prog_3_m2_180 : decode prog_3_method_2_code 180 = .ok (.ifCond .ne 10, 3) := by decide +kernel
theorem d_prog_3_m2_183 : decode prog_3_method_2_code 183 = .ok (.aload_n 1, 1) := by decide +kernel
theorem d_prog_3_m2_184 : decode prog_3_method_2_code 184 = .ok (.bipush 92, 2) := by decide +kernel
theorem d_prog_3_m2_186 : decode prog_3_method_2_code 186 = .ok (.invokevirtual 22, 3) := by decide +kernel
theorem d_prog_3_m2_189 : decode prog_3_method_2_code 189 = .ok (.pop, 1) := by decide +kernel
theorem d_prog_3_m2_190 : decode prog_3_method_2_code 190 = .ok (.aload_n 1, 1) := by decide +kernel
theorem d_prog_3_m2_191 : decode prog_3_method_2_code 191 = .ok (.iload 4, 2) := by decide +kernel
theorem d_prog_3_m2_193 : decode prog_3_method_2_code 193 = .ok (.invokevirtual 22, 3) := by decide +kernel
theorem d_prog_3_m2_196 : decode prog_3_method_2_code 196 = .ok (.pop, 1) := by decide +kernel
theorem d_prog_3_m2_197 : decode prog_3_method_2_code 197 = .ok (.goto 10, 3) := by decide +kernel
theorem d_prog_3_m2_200 : decode prog_3_method_2_code 200 = .ok (.aload_n 1, 1) := by decide +kernel
theorem d_prog_3_m2_201 : decode prog_3_method_2_code 201 = .ok (.iload 4, 2) := by decide +kernel
theorem d_prog_3_m2_203 : decode prog_3_method_2_code 203 = .ok (.invokevirtual 22, 3) := by decide +kernel
theorem d_prog_3_m2_206 : decode prog_3_method_2_code 206 = .ok (.pop, 1) := by decide +kernel
section Lp
variable {p : Program} {l : Launch} {e : Env} {R : Room} {s : State} {m : MethodId} {args : Array Value} {below : List Frame} {meth : Method} {c : Code} {nm : String} {Q : Option Value → Heap → Prop} {G : State → Prop} {Z : State} {h0 : Heap} {vm0 : Vm} {a0 : Array Value}
set_option maxRecDepth 65536 in
set_option maxHeartbeats 40000000 in
theorem lp_dn (hw : ∀ d ∈ tables_1, d.before a0 Z = true) (hs : ∀ d ∈ jdkStatics_1, d.before a0 Z = true) (hRf : 10 ≤ R.frames) (hRl : 143 ≤ R.locals) {st x : Addr} {us : Bool} {cs : List Int32} (S : own_StrG Z h0 st us cs) (hok : own_ok us cs) (hch : own_chs cs) (hlen : cs.length ≤ 4) (gx : h0.size ≤ x) (hq : ∀ v h, (∃ a : Addr, v = some (.ref a) ∧ Ext h0 h ∧ own_StrG Z h a (own_ub (own_dnT cs cs.length)) (own_dnT cs cs.length)) → Q v h)
    (j : Nat) : ∀ (i : Nat), i + j = cs.length → ∀ {vm : Vm} {k1 : Nat} {T : State} {L : List Loc} {k n : Nat} {h : Heap} {b : Addr} {kb : ClassId} {s4 : Slot}, own_KW p l e R s m args below meth c prog_3_method_2_code "com/example/reevemark/reevemark/connectors/ldap/LdapEscape" nm 5 (some (.object "java/lang/String")) Q G Z consts_1 true vm0 h0 vm k1 T L k n h → k + 3 * j + 2 ≤ R.cells → n + 60 * j + 40 ≤ R.slots → Ext h0 h → own_SB Z h x (own_ub (own_dnT cs i)) ((own_dnT cs i)).length (own_dnT cs i) b kb (cs.length + 8) → h0.size ≤ b → Safe Z consts_1 vm h b → One s4 → G (T.setTop (mkF m 24 #[.val (.ref st), .val (.ref x), .val (.int (Int32.ofNat cs.length - (1 : Int32))), .val (.int (Int32.ofNat i)), s4] [])) := by
  induction j with
  | zero =>
    intro i hij vm k1 T L k n h b kb s4 W0 hk hn X B gb sb hs4
    refine own_iloadN W0.K d_prog_3_m2_24 rfl rfl ?_
    refine own_iloadN W0.K d_prog_3_m2_25 rfl rfl ?_
    refine own_icmpYes W0.K d_prog_3_m2_26 (pc' := 213) (by decide) (by decide) (tlt (by rw [show i = cs.length by omega]; exact own_lastY (by omega))).2.2.1 ?_
    refine own_aloadN W0.K d_prog_3_m2_213 rfl rfl rfl ?_
    have et : i = cs.length := by omega
    rw [et] at B
    have hle := own_dnT_len cs cs.length
    refine own_callV W0.K (a := x) (x0 := (⟨"java/lang/StringBuilder", "toString", "()Ljava/lang/String;"⟩ : MethodName)) (wd62 hw) (wd63 hw) (fun q => own_nfS (args := #[]) (mvT q (wd65 hw)) rfl) (wd65 hw) (wd64 hw) (rm_toString hw hs (cap := 24) W0.K.O B (by omega) (by omega) (by omega)) (wd66 hw) (wd35 hw) (by decide) B.exa (argsL := []) (rest := []) rfl pd_2829Ljava2flang2fString3b rfl rfl (W := 0) rfl (by first | decide | (dsimp only; omega)) (by first | decide | (dsimp only; omega)) (by first | decide | (dsimp only; omega)) (by first | decide | (dsimp only; omega)) d_prog_3_m2_214 rfl ?_
    intro T152 h152 L152 v152 K152 q152
    obtain ⟨r152, rfl, gr152, E152, S152⟩ := q152
    show G (T152.setTop (mkF m 217 #[.val (.ref st), .val (.ref x), .val (.int (Int32.ofNat cs.length - (1 : Int32))), .val (.int (Int32.ofNat i)), s4] [(.ref r152)]))
    have W153 := W0.ext K152 E152
    exact own_retA W153.K d_prog_3_m2_217 rfl rfl rfl rfl (by first | decide | (dsimp only; omega)) (by first | decide | (dsimp only; omega)) ⟨⟨hq _ _ ⟨r152, rfl, own_ext_trans X E152, S152⟩, W153.le⟩, fun _ => W153.C⟩
  | succ j ih =>
    intro i hij vm k1 T L k n h b kb s4 W0 hk hn X B gb sb hs4
    have hin : i < cs.length := by omega
    refine own_iloadN W0.K d_prog_3_m2_24 rfl rfl ?_
    refine own_iloadN W0.K d_prog_3_m2_25 rfl rfl ?_
    refine own_icmpNo W0.K d_prog_3_m2_26 rfl (flt (own_lastN hin (by omega))).2.2.1 ?_
    refine own_aloadN W0.K d_prog_3_m2_29 rfl rfl rfl ?_
    refine own_iloadN W0.K d_prog_3_m2_30 rfl rfl ?_
    refine own_callV W0.K (a := st) (x0 := (⟨"java/lang/String", "charAt", "(I)C"⟩ : MethodName)) (wd124 hw) (wd125 hw) (fun q => own_nfS (args := #[]) (mvT q (wd39 hw)) rfl) (wd127 hw) (wd126 hw) (rm_charAt hw hs W0.K.O (S.ext X) (by omega) hok hin) (wd128 hw) (wd10 hw) (by decide) (S.exa.ext X) (argsL := [(.int (Int32.ofNat i))]) (rest := []) rfl pd_28I29C rfl rfl (W := 0) rfl (by first | decide | (dsimp only; omega)) (by first | decide | (dsimp only; omega)) (by first | decide | (dsimp only; omega)) (by first | decide | (dsimp only; omega)) d_prog_3_m2_31 rfl ?_
    intro T154 h154 L154 v154 K154 q154
    obtain ⟨rfl, e154⟩ := q154
    have f154 := e154.symm
    subst f154
    show G (T154.setTop (mkF m 34 #[.val (.ref st), .val (.ref x), .val (.int (Int32.ofNat cs.length - (1 : Int32))), .val (.int (Int32.ofNat i)), s4] [(.int cs[i])]))
    refine own_istore K154 (Ls' := #[.val (.ref st), .val (.ref x), .val (.int (Int32.ofNat cs.length - (1 : Int32))), .val (.int (Int32.ofNat i)), .val (.int cs[i])]) d_prog_3_m2_34 rfl (XS.store1 rfl hs4 rfl) ?_
    refine own_iload K154 d_prog_3_m2_36 rfl rfl ?_
    have W155 := W0.same K154
    have hle := own_dnT_len cs i
    have hcc := hch _ (List.getElem_mem hin)
    have hch0 := own_dnT_chs hch i (by omega)
    by_cases hsp : own_sp cs[i]
    · skip
      refine own_lookup W155.K d_prog_3_m2_38 (by decide) (off := 90) (by rcases hsp with hc | hc | hc | hc | hc | hc | hc <;> rw [hc] <;> decide) (by decide) (pc' := 128) (by decide) ?_
      refine own_aloadN W155.K d_prog_3_m2_128 rfl rfl rfl ?_
      refine own_bipush W155.K (v := (92 : Int32)) d_prog_3_m2_129 rfl rfl ?_
      have sx156 : Safe Z consts_1 _ h x := Safe.exa W155.hZ.alike B.exa (by decide) (by decide)
      refine own_callV W155.K (a := x) (x0 := (⟨"java/lang/StringBuilder", "append", "(C)Ljava/lang/StringBuilder;"⟩ : MethodName)) (wd146 hw) (wd147 hw) (fun q => own_nfS (args := #[]) (mvT q (wd65 hw)) rfl) (wd149 hw) (wd148 hw) (rm_appendC hw hs (y := (92 : Int32)) (cap := 24) W155.K.O B (by decide) (own_ub_ok hch0) (by omega) (by omega) (by first | omega | (simp only [List.length_append, List.length_cons, List.length_nil]; omega))) (wd150 hw) (wd35 hw) (by decide) B.exa (argsL := [(.int (92 : Int32))]) (rest := []) rfl pd_28C29Ljava2flang2fStringBuilder3b rfl rfl (W := 0) rfl (by first | decide | (dsimp only; omega)) (by first | decide | (dsimp only; omega)) (by first | decide | (dsimp only; omega)) (by first | decide | (dsimp only; omega)) d_prog_3_m2_131 rfl ?_
      intro T157 h157 L157 v157 K157 q157
      obtain ⟨rfl, Kp157, b157, kb157, nb157, B157⟩ := q157
      show G (T157.setTop (mkF m 134 #[.val (.ref st), .val (.ref x), .val (.int (Int32.ofNat cs.length - (1 : Int32))), .val (.int (Int32.ofNat i)), .val (.int cs[i])] [(.ref x)]))
      have W158 := W155.keep K157 Kp157 (allS sx156 (allS sb all0))
      have sb157 : Safe Z consts_1 _ h157 b157 := Safe.keep Kp157 (allS sx156 (allS sb all0)) W155.C.1 (nb157.elim (fun q => q ▸ sb) Safe.new)
      have gb157 : h0.size ≤ b157 := nb157.elim (fun q => q ▸ gb) (fun q => Nat.le_trans X.1 q)
      have X157 : Ext h0 h157 := own_ext_keep X Kp157 (allS gx (allS gb all0))
      have D157 : own_SB Z h157 x (own_ub ((own_dnT cs i) ++ [(92 : Int32)])) ((own_dnT cs i) ++ [(92 : Int32)]).length ((own_dnT cs i) ++ [(92 : Int32)]) b157 kb157 (cs.length + 8) := by rw [own_ub_app, own_ub_one]; exact B157
      have ch157 : own_chs ((own_dnT cs i) ++ [(92 : Int32)]) := own_chs_app hch0 (own_chs_cons (by decide) own_chs_nil)
      refine own_iload W158.K d_prog_3_m2_134 rfl rfl ?_
      have sx159 : Safe Z consts_1 _ h157 x := Safe.exa W158.hZ.alike D157.exa (by decide) (by decide)
      refine own_callV W158.K (a := x) (x0 := (⟨"java/lang/StringBuilder", "append", "(C)Ljava/lang/StringBuilder;"⟩ : MethodName)) (wd146 hw) (wd147 hw) (fun q => own_nfS (args := #[]) (mvT q (wd65 hw)) rfl) (wd149 hw) (wd148 hw) (rm_appendC hw hs (y := cs[i]) (cap := 24) W158.K.O D157 hcc (own_ub_ok ch157) (by omega) (by omega) (by first | omega | (simp only [List.length_append, List.length_cons, List.length_nil]; omega))) (wd150 hw) (wd35 hw) (by decide) D157.exa (argsL := [(.int cs[i])]) (rest := []) rfl pd_28C29Ljava2flang2fStringBuilder3b rfl rfl (W := 0) rfl (by first | decide | (dsimp only; omega)) (by first | decide | (dsimp only; omega)) (by first | decide | (dsimp only; omega)) (by first | decide | (dsimp only; omega)) d_prog_3_m2_136 rfl ?_
      intro T160 h160 L160 v160 K160 q160
      obtain ⟨rfl, Kp160, b160, kb160, nb160, B160⟩ := q160
      show G (T160.setTop (mkF m 139 #[.val (.ref st), .val (.ref x), .val (.int (Int32.ofNat cs.length - (1 : Int32))), .val (.int (Int32.ofNat i)), .val (.int cs[i])] [(.ref x)]))
      have W161 := W158.keep K160 Kp160 (allS sx159 (allS sb157 all0))
      have sb160 : Safe Z consts_1 _ h160 b160 := Safe.keep Kp160 (allS sx159 (allS sb157 all0)) W158.C.1 (nb160.elim (fun q => q ▸ sb157) Safe.new)
      have gb160 : h0.size ≤ b160 := nb160.elim (fun q => q ▸ gb157) (fun q => Nat.le_trans X157.1 q)
      have X160 : Ext h0 h160 := own_ext_keep X157 Kp160 (allS gx (allS gb157 all0))
      have D160 : own_SB Z h160 x (own_ub (((own_dnT cs i) ++ [(92 : Int32)]) ++ [cs[i]])) (((own_dnT cs i) ++ [(92 : Int32)]) ++ [cs[i]]).length (((own_dnT cs i) ++ [(92 : Int32)]) ++ [cs[i]]) b160 kb160 (cs.length + 8) := by rw [own_ub_app, own_ub_one]; exact B160
      have ch160 : own_chs (((own_dnT cs i) ++ [(92 : Int32)]) ++ [cs[i]]) := own_chs_app ch157 (own_chs_cons hcc own_chs_nil)
      refine own_pop W161.K d_prog_3_m2_139 rfl rfl ?_
      refine own_goto W161.K d_prog_3_m2_140 (pc' := 207) (by decide) (by decide) ?_
      refine own_iinc W161.K (Ls' := #[.val (.ref st), .val (.ref x), .val (.int (Int32.ofNat cs.length - (1 : Int32))), .val (.int ((Int32.ofNat i) + (1 : Int32))), .val (.int cs[i])]) (x := (Int32.ofNat i)) (v := (Int32.ofNat i)) d_prog_3_m2_207 rfl rfl rfl ?_
      refine own_goto W161.K d_prog_3_m2_210 (pc' := 24) (by decide) (by decide) ?_
      rw [own_one]
      have hesc : own_dn cs[i] (i == 0) (i + 1 == cs.length) = [92, cs[i]] := by unfold own_dn; rw [if_pos ((own_sp_b _).mpr hsp)]
      exact ih (i + 1) (by omega) W161 (by dsimp only; omega) (by dsimp only; omega) X160 (by rw [own_dnT_succ hin, hesc]; simpa only [List.append_assoc, List.cons_append, List.nil_append] using D160) gb160 sb160 (One.val rfl)
    · skip
      have hspb : ¬ own_spb cs[i] = true := fun q => hsp ((own_sp_b _).mp q)
      by_cases hc0 : cs[i] = 0
      · skip
        refine own_lookup W155.K d_prog_3_m2_38 (by decide) (off := 105) (by rw [hc0]; decide) (by decide) (pc' := 143) (by decide) ?_
        refine own_aloadN W155.K d_prog_3_m2_143 rfl rfl rfl ?_
        have sx162 : Safe Z consts_1 _ h x := Safe.exa W155.hZ.alike B.exa (by decide) (by decide)
        refine own_ldcC W155 (own_EL hw) (vs := own_by ([(92 : Int32), (48 : Int32), (48 : Int32)] : List Int32)) (z := Int32.ofNat ([(92 : Int32), (48 : Int32), (48 : Int32)] : List Int32).length) (nn := 12) own_mem_com_example_reevemark_reevemark_connectors_ldap_LdapEscape_26 (wd164 hw) (own_strA hw) ⟨by decide +kernel, by decide +kernel⟩ (by decide) (by decide) (by decide) (by decide) (by first | decide | (dsimp only; omega)) (by first | decide | (dsimp only; omega)) d_prog_3_m2_144 rfl ?_
        intro T163 h163 k1_163 a163 b163 kb163 W163 E163 C163 ES163 FC163 FV163 VS163 sf163
        have sx1 := C163.safe B.lt.1 sx162
        have sb1 := C163.safe B.lt.2 sb
        have d1 := sf163 x sx1
        have d2 := sf163 b sb1
        have X1 := own_ext_trans X E163
        refine own_callV W163.K (a := x) (x0 := (⟨"java/lang/StringBuilder", "append", "(Ljava/lang/String;)Ljava/lang/StringBuilder;"⟩ : MethodName)) (wd165 hw) (wd166 hw) (fun q => own_nfS (args := #[]) (mvT q (wd65 hw)) rfl) (wd168 hw) (wd167 hw) (rm_appendS hw hs (us := false) (ds := [(92 : Int32), 48, 48]) (cap := 24) W163.K.O (B.ext E163) ES163 FC163 FV163 VS163 (by decide) (by intro d hd; revert d; decide) ⟨d1.1.symm, d2.1.symm, d1.2.symm, d2.2.symm⟩ (own_ub_ok hch0) (by omega) (by omega) (by rw [show ([(92 : Int32), 48, 48] : List Int32).length = 3 from rfl]; omega)) (wd169 hw) (wd35 hw) (by decide) (B.exa.ext E163) (argsL := [(.ref a163)]) (rest := []) rfl pd_28Ljava2flang2fString3b29Ljava2flang2fStringBuilder3b rfl rfl (W := 0) rfl (by first | decide | (dsimp only; omega)) (by first | decide | (dsimp only; omega)) (by first | decide | (dsimp only; omega)) (by first | decide | (dsimp only; omega)) d_prog_3_m2_146 rfl ?_
        intro T164 h164 L164 v164 K164 q164
        obtain ⟨rfl, Kp164, b164, kb164, nb164, B164⟩ := q164
        show G (T164.setTop (mkF m 149 #[.val (.ref st), .val (.ref x), .val (.int (Int32.ofNat cs.length - (1 : Int32))), .val (.int (Int32.ofNat i)), .val (.int cs[i])] [(.ref x)]))
        have W165 := W163.keep K164 Kp164 (allS sx1 (allS sb1 all0))
        have sb164 : Safe Z consts_1 _ h164 b164 := Safe.keep Kp164 (allS sx1 (allS sb1 all0)) W163.C.1 (nb164.elim (fun q => q ▸ sb1) Safe.new)
        have gb164 : h0.size ≤ b164 := nb164.elim (fun q => q ▸ gb) (fun q => Nat.le_trans X1.1 q)
        have X164 : Ext h0 h164 := own_ext_keep X1 Kp164 (allS gx (allS gb all0))
        have D164 : own_SB Z h164 x (own_ub ((own_dnT cs i) ++ [(92 : Int32), 48, 48])) ((own_dnT cs i) ++ [(92 : Int32), 48, 48]).length ((own_dnT cs i) ++ [(92 : Int32), 48, 48]) b164 kb164 (cs.length + 8) := by rw [own_ub_app, show own_ub [(92 : Int32), 48, 48] = false from by decide]; exact B164
        have ch164 : own_chs ((own_dnT cs i) ++ [(92 : Int32), 48, 48]) := own_chs_app hch0 (by intro d hd; revert d; decide)
        refine own_pop W165.K d_prog_3_m2_149 rfl rfl ?_
        refine own_goto W165.K d_prog_3_m2_150 (pc' := 207) (by decide) (by decide) ?_
        refine own_iinc W165.K (Ls' := #[.val (.ref st), .val (.ref x), .val (.int (Int32.ofNat cs.length - (1 : Int32))), .val (.int ((Int32.ofNat i) + (1 : Int32))), .val (.int cs[i])]) (x := (Int32.ofNat i)) (v := (Int32.ofNat i)) d_prog_3_m2_207 rfl rfl rfl ?_
        refine own_goto W165.K d_prog_3_m2_210 (pc' := 24) (by decide) (by decide) ?_
        rw [own_one]
        have hesc : own_dn cs[i] (i == 0) (i + 1 == cs.length) = [92, 48, 48] := by unfold own_dn; rw [if_neg hspb, if_pos hc0]
        exact ih (i + 1) (by omega) W165 (by dsimp only; omega) (by dsimp only; omega) X164 (by rw [own_dnT_succ hin, hesc]; simpa only [List.append_assoc, List.cons_append, List.nil_append] using D164) gb164 sb164 (One.val rfl)
      · skip
        by_cases hc32 : cs[i] = 32
        · skip
          refine own_lookup W155.K d_prog_3_m2_38 (by decide) (off := 115) (by rw [hc32]; decide) (by decide) (pc' := 153) (by decide) ?_
          refine own_iloadN W155.K d_prog_3_m2_153 rfl rfl ?_
          by_cases hi0 : i = 0
          · skip
            refine own_ifYes W155.K d_prog_3_m2_154 (pc' := 162) (by decide) (by decide) ((if0 _ _).trans (teq ((own_zero (by omega)).mpr hi0)).1) ?_
            refine own_aloadN W155.K d_prog_3_m2_162 rfl rfl rfl ?_
            refine own_bipush W155.K (v := (92 : Int32)) d_prog_3_m2_163 rfl rfl ?_
            have sx166 : Safe Z consts_1 _ h x := Safe.exa W155.hZ.alike B.exa (by decide) (by decide)
            refine own_callV W155.K (a := x) (x0 := (⟨"java/lang/StringBuilder", "append", "(C)Ljava/lang/StringBuilder;"⟩ : MethodName)) (wd146 hw) (wd147 hw) (fun q => own_nfS (args := #[]) (mvT q (wd65 hw)) rfl) (wd149 hw) (wd148 hw) (rm_appendC hw hs (y := (92 : Int32)) (cap := 24) W155.K.O B (by decide) (own_ub_ok hch0) (by omega) (by omega) (by first | omega | (simp only [List.length_append, List.length_cons, List.length_nil]; omega))) (wd150 hw) (wd35 hw) (by decide) B.exa (argsL := [(.int (92 : Int32))]) (rest := []) rfl pd_28C29Ljava2flang2fStringBuilder3b rfl rfl (W := 0) rfl (by first | decide | (dsimp only; omega)) (by first | decide | (dsimp only; omega)) (by first | decide | (dsimp only; omega)) (by first | decide | (dsimp only; omega)) d_prog_3_m2_165 rfl ?_
            intro T167 h167 L167 v167 K167 q167
            obtain ⟨rfl, Kp167, b167, kb167, nb167, B167⟩ := q167
            show G (T167.setTop (mkF m 168 #[.val (.ref st), .val (.ref x), .val (.int (Int32.ofNat cs.length - (1 : Int32))), .val (.int (Int32.ofNat i)), .val (.int cs[i])] [(.ref x)]))
            have W168 := W155.keep K167 Kp167 (allS sx166 (allS sb all0))
            have sb167 : Safe Z consts_1 _ h167 b167 := Safe.keep Kp167 (allS sx166 (allS sb all0)) W155.C.1 (nb167.elim (fun q => q ▸ sb) Safe.new)
            have gb167 : h0.size ≤ b167 := nb167.elim (fun q => q ▸ gb) (fun q => Nat.le_trans X.1 q)
            have X167 : Ext h0 h167 := own_ext_keep X Kp167 (allS gx (allS gb all0))
            have D167 : own_SB Z h167 x (own_ub ((own_dnT cs i) ++ [(92 : Int32)])) ((own_dnT cs i) ++ [(92 : Int32)]).length ((own_dnT cs i) ++ [(92 : Int32)]) b167 kb167 (cs.length + 8) := by rw [own_ub_app, own_ub_one]; exact B167
            have ch167 : own_chs ((own_dnT cs i) ++ [(92 : Int32)]) := own_chs_app hch0 (own_chs_cons (by decide) own_chs_nil)
            refine own_pop W168.K d_prog_3_m2_168 rfl rfl ?_
            refine own_aloadN W168.K d_prog_3_m2_169 rfl rfl rfl ?_
            refine own_iload W168.K d_prog_3_m2_170 rfl rfl ?_
            have sx169 : Safe Z consts_1 _ h167 x := Safe.exa W168.hZ.alike D167.exa (by decide) (by decide)
            refine own_callV W168.K (a := x) (x0 := (⟨"java/lang/StringBuilder", "append", "(C)Ljava/lang/StringBuilder;"⟩ : MethodName)) (wd146 hw) (wd147 hw) (fun q => own_nfS (args := #[]) (mvT q (wd65 hw)) rfl) (wd149 hw) (wd148 hw) (rm_appendC hw hs (y := cs[i]) (cap := 24) W168.K.O D167 hcc (own_ub_ok ch167) (by omega) (by omega) (by first | omega | (simp only [List.length_append, List.length_cons, List.length_nil]; omega))) (wd150 hw) (wd35 hw) (by decide) D167.exa (argsL := [(.int cs[i])]) (rest := []) rfl pd_28C29Ljava2flang2fStringBuilder3b rfl rfl (W := 0) rfl (by first | decide | (dsimp only; omega)) (by first | decide | (dsimp only; omega)) (by first | decide | (dsimp only; omega)) (by first | decide | (dsimp only; omega)) d_prog_3_m2_172 rfl ?_
            intro T170 h170 L170 v170 K170 q170
            obtain ⟨rfl, Kp170, b170, kb170, nb170, B170⟩ := q170
            show G (T170.setTop (mkF m 175 #[.val (.ref st), .val (.ref x), .val (.int (Int32.ofNat cs.length - (1 : Int32))), .val (.int (Int32.ofNat i)), .val (.int cs[i])] [(.ref x)]))
            have W171 := W168.keep K170 Kp170 (allS sx169 (allS sb167 all0))
            have sb170 : Safe Z consts_1 _ h170 b170 := Safe.keep Kp170 (allS sx169 (allS sb167 all0)) W168.C.1 (nb170.elim (fun q => q ▸ sb167) Safe.new)
            have gb170 : h0.size ≤ b170 := nb170.elim (fun q => q ▸ gb167) (fun q => Nat.le_trans X167.1 q)
            have X170 : Ext h0 h170 := own_ext_keep X167 Kp170 (allS gx (allS gb167 all0))
            have D170 : own_SB Z h170 x (own_ub (((own_dnT cs i) ++ [(92 : Int32)]) ++ [cs[i]])) (((own_dnT cs i) ++ [(92 : Int32)]) ++ [cs[i]]).length (((own_dnT cs i) ++ [(92 : Int32)]) ++ [cs[i]]) b170 kb170 (cs.length + 8) := by rw [own_ub_app, own_ub_one]; exact B170
            have ch170 : own_chs (((own_dnT cs i) ++ [(92 : Int32)]) ++ [cs[i]]) := own_chs_app ch167 (own_chs_cons hcc own_chs_nil)
            refine own_pop W171.K d_prog_3_m2_175 rfl rfl ?_
            refine own_goto W171.K d_prog_3_m2_176 (pc' := 207) (by decide) (by decide) ?_
            refine own_iinc W171.K (Ls' := #[.val (.ref st), .val (.ref x), .val (.int (Int32.ofNat cs.length - (1 : Int32))), .val (.int ((Int32.ofNat i) + (1 : Int32))), .val (.int cs[i])]) (x := (Int32.ofNat i)) (v := (Int32.ofNat i)) d_prog_3_m2_207 rfl rfl rfl ?_
            refine own_goto W171.K d_prog_3_m2_210 (pc' := 24) (by decide) (by decide) ?_
            rw [own_one]
            have hesc : own_dn cs[i] (i == 0) (i + 1 == cs.length) = [92, cs[i]] := by unfold own_dn; rw [if_neg hspb, if_neg hc0, if_pos ⟨hc32, by simp [hi0]⟩]
            exact ih (i + 1) (by omega) W171 (by dsimp only; omega) (by dsimp only; omega) X170 (by rw [own_dnT_succ hin, hesc]; simpa only [List.append_assoc, List.cons_append, List.nil_append] using D170) gb170 sb170 (One.val rfl)
          · skip
            refine own_ifNo W155.K d_prog_3_m2_154 rfl ((if0 _ _).trans (feq (fun q => hi0 ((own_zero (by omega)).mp q))).1) ?_
            refine own_iloadN W155.K d_prog_3_m2_157 rfl rfl ?_
            refine own_iloadN W155.K d_prog_3_m2_158 rfl rfl ?_
            by_cases hil : i + 1 = cs.length
            · skip
              refine own_icmpNo W155.K d_prog_3_m2_159 rfl (teq ((own_lastE hin (by omega)).mpr hil)).2 ?_
              refine own_aloadN W155.K d_prog_3_m2_162 rfl rfl rfl ?_
              refine own_bipush W155.K (v := (92 : Int32)) d_prog_3_m2_163 rfl rfl ?_
              have sx172 : Safe Z consts_1 _ h x := Safe.exa W155.hZ.alike B.exa (by decide) (by decide)
              refine own_callV W155.K (a := x) (x0 := (⟨"java/lang/StringBuilder", "append", "(C)Ljava/lang/StringBuilder;"⟩ : MethodName)) (wd146 hw) (wd147 hw) (fun q => own_nfS (args := #[]) (mvT q (wd65 hw)) rfl) (wd149 hw) (wd148 hw) (rm_appendC hw hs (y := (92 : Int32)) (cap := 24) W155.K.O B (by decide) (own_ub_ok hch0) (by omega) (by omega) (by first | omega | (simp only [List.length_append, List.length_cons, List.length_nil]; omega))) (wd150 hw) (wd35 hw) (by decide) B.exa (argsL := [(.int (92 : Int32))]) (rest := []) rfl pd_28C29Ljava2flang2fStringBuilder3b rfl rfl (W := 0) rfl (by first | decide | (dsimp only; omega)) (by first | decide | (dsimp only; omega)) (by first | decide | (dsimp only; omega)) (by first | decide | (dsimp only; omega)) d_prog_3_m2_165 rfl ?_
              intro T173 h173 L173 v173 K173 q173
              obtain ⟨rfl, Kp173, b173, kb173, nb173, B173⟩ := q173
              show G (T173.setTop (mkF m 168 #[.val (.ref st), .val (.ref x), .val (.int (Int32.ofNat cs.length - (1 : Int32))), .val (.int (Int32.ofNat i)), .val (.int cs[i])] [(.ref x)]))
              have W174 := W155.keep K173 Kp173 (allS sx172 (allS sb all0))
              have sb173 : Safe Z consts_1 _ h173 b173 := Safe.keep Kp173 (allS sx172 (allS sb all0)) W155.C.1 (nb173.elim (fun q => q ▸ sb) Safe.new)
              have gb173 : h0.size ≤ b173 := nb173.elim (fun q => q ▸ gb) (fun q => Nat.le_trans X.1 q)
              have X173 : Ext h0 h173 := own_ext_keep X Kp173 (allS gx (allS gb all0))
              have D173 : own_SB Z h173 x (own_ub ((own_dnT cs i) ++ [(92 : Int32)])) ((own_dnT cs i) ++ [(92 : Int32)]).length ((own_dnT cs i) ++ [(92 : Int32)]) b173 kb173 (cs.length + 8) := by rw [own_ub_app, own_ub_one]; exact B173
              have ch173 : own_chs ((own_dnT cs i) ++ [(92 : Int32)]) := own_chs_app hch0 (own_chs_cons (by decide) own_chs_nil)
              refine own_pop W174.K d_prog_3_m2_168 rfl rfl ?_
              refine own_aloadN W174.K d_prog_3_m2_169 rfl rfl rfl ?_
              refine own_iload W174.K d_prog_3_m2_170 rfl rfl ?_
              have sx175 : Safe Z consts_1 _ h173 x := Safe.exa W174.hZ.alike D173.exa (by decide) (by decide)
              refine own_callV W174.K (a := x) (x0 := (⟨"java/lang/StringBuilder", "append", "(C)Ljava/lang/StringBuilder;"⟩ : MethodName)) (wd146 hw) (wd147 hw) (fun q => own_nfS (args := #[]) (mvT q (wd65 hw)) rfl) (wd149 hw) (wd148 hw) (rm_appendC hw hs (y := cs[i]) (cap := 24) W174.K.O D173 hcc (own_ub_ok ch173) (by omega) (by omega) (by first | omega | (simp only [List.length_append, List.length_cons, List.length_nil]; omega))) (wd150 hw) (wd35 hw) (by decide) D173.exa (argsL := [(.int cs[i])]) (rest := []) rfl pd_28C29Ljava2flang2fStringBuilder3b rfl rfl (W := 0) rfl (by first | decide | (dsimp only; omega)) (by first | decide | (dsimp only; omega)) (by first | decide | (dsimp only; omega)) (by first | decide | (dsimp only; omega)) d_prog_3_m2_172 rfl ?_
              intro T176 h176 L176 v176 K176 q176
              obtain ⟨rfl, Kp176, b176, kb176, nb176, B176⟩ := q176
              show G (T176.setTop (mkF m 175 #[.val (.ref st), .val (.ref x), .val (.int (Int32.ofNat cs.length - (1 : Int32))), .val (.int (Int32.ofNat i)), .val (.int cs[i])] [(.ref x)]))
              have W177 := W174.keep K176 Kp176 (allS sx175 (allS sb173 all0))
              have sb176 : Safe Z consts_1 _ h176 b176 := Safe.keep Kp176 (allS sx175 (allS sb173 all0)) W174.C.1 (nb176.elim (fun q => q ▸ sb173) Safe.new)
              have gb176 : h0.size ≤ b176 := nb176.elim (fun q => q ▸ gb173) (fun q => Nat.le_trans X173.1 q)
              have X176 : Ext h0 h176 := own_ext_keep X173 Kp176 (allS gx (allS gb173 all0))
              have D176 : own_SB Z h176 x (own_ub (((own_dnT cs i) ++ [(92 : Int32)]) ++ [cs[i]])) (((own_dnT cs i) ++ [(92 : Int32)]) ++ [cs[i]]).length (((own_dnT cs i) ++ [(92 : Int32)]) ++ [cs[i]]) b176 kb176 (cs.length + 8) := by rw [own_ub_app, own_ub_one]; exact B176
              have ch176 : own_chs (((own_dnT cs i) ++ [(92 : Int32)]) ++ [cs[i]]) := own_chs_app ch173 (own_chs_cons hcc own_chs_nil)
              refine own_pop W177.K d_prog_3_m2_175 rfl rfl ?_
              refine own_goto W177.K d_prog_3_m2_176 (pc' := 207) (by decide) (by decide) ?_
              refine own_iinc W177.K (Ls' := #[.val (.ref st), .val (.ref x), .val (.int (Int32.ofNat cs.length - (1 : Int32))), .val (.int ((Int32.ofNat i) + (1 : Int32))), .val (.int cs[i])]) (x := (Int32.ofNat i)) (v := (Int32.ofNat i)) d_prog_3_m2_207 rfl rfl rfl ?_
              refine own_goto W177.K d_prog_3_m2_210 (pc' := 24) (by decide) (by decide) ?_
              rw [own_one]
              have hesc : own_dn cs[i] (i == 0) (i + 1 == cs.length) = [92, cs[i]] := by unfold own_dn; rw [if_neg hspb, if_neg hc0, if_pos ⟨hc32, by simp [hil]⟩]
              exact ih (i + 1) (by omega) W177 (by dsimp only; omega) (by dsimp only; omega) X176 (by rw [own_dnT_succ hin, hesc]; simpa only [List.append_assoc, List.cons_append, List.nil_append] using D176) gb176 sb176 (One.val rfl)
            · skip
              refine own_icmpYes W155.K d_prog_3_m2_159 (pc' := 169) (by decide) (by decide) (feq (fun q => hil ((own_lastE hin (by omega)).mp q))).2 ?_
              refine own_aloadN W155.K d_prog_3_m2_169 rfl rfl rfl ?_
              refine own_iload W155.K d_prog_3_m2_170 rfl rfl ?_
              have sx178 : Safe Z consts_1 _ h x := Safe.exa W155.hZ.alike B.exa (by decide) (by decide)
              refine own_callV W155.K (a := x) (x0 := (⟨"java/lang/StringBuilder", "append", "(C)Ljava/lang/StringBuilder;"⟩ : MethodName)) (wd146 hw) (wd147 hw) (fun q => own_nfS (args := #[]) (mvT q (wd65 hw)) rfl) (wd149 hw) (wd148 hw) (rm_appendC hw hs (y := cs[i]) (cap := 24) W155.K.O B hcc (own_ub_ok hch0) (by omega) (by omega) (by first | omega | (simp only [List.length_append, List.length_cons, List.length_nil]; omega))) (wd150 hw) (wd35 hw) (by decide) B.exa (argsL := [(.int cs[i])]) (rest := []) rfl pd_28C29Ljava2flang2fStringBuilder3b rfl rfl (W := 0) rfl (by first | decide | (dsimp only; omega)) (by first | decide | (dsimp only; omega)) (by first | decide | (dsimp only; omega)) (by first | decide | (dsimp only; omega)) d_prog_3_m2_172 rfl ?_
              intro T179 h179 L179 v179 K179 q179
              obtain ⟨rfl, Kp179, b179, kb179, nb179, B179⟩ := q179
              show G (T179.setTop (mkF m 175 #[.val (.ref st), .val (.ref x), .val (.int (Int32.ofNat cs.length - (1 : Int32))), .val (.int (Int32.ofNat i)), .val (.int cs[i])] [(.ref x)]))
              have W180 := W155.keep K179 Kp179 (allS sx178 (allS sb all0))
              have sb179 : Safe Z consts_1 _ h179 b179 := Safe.keep Kp179 (allS sx178 (allS sb all0)) W155.C.1 (nb179.elim (fun q => q ▸ sb) Safe.new)
              have gb179 : h0.size ≤ b179 := nb179.elim (fun q => q ▸ gb) (fun q => Nat.le_trans X.1 q)
              have X179 : Ext h0 h179 := own_ext_keep X Kp179 (allS gx (allS gb all0))
              have D179 : own_SB Z h179 x (own_ub ((own_dnT cs i) ++ [cs[i]])) ((own_dnT cs i) ++ [cs[i]]).length ((own_dnT cs i) ++ [cs[i]]) b179 kb179 (cs.length + 8) := by rw [own_ub_app, own_ub_one]; exact B179
              have ch179 : own_chs ((own_dnT cs i) ++ [cs[i]]) := own_chs_app hch0 (own_chs_cons hcc own_chs_nil)
              refine own_pop W180.K d_prog_3_m2_175 rfl rfl ?_
              refine own_goto W180.K d_prog_3_m2_176 (pc' := 207) (by decide) (by decide) ?_
              refine own_iinc W180.K (Ls' := #[.val (.ref st), .val (.ref x), .val (.int (Int32.ofNat cs.length - (1 : Int32))), .val (.int ((Int32.ofNat i) + (1 : Int32))), .val (.int cs[i])]) (x := (Int32.ofNat i)) (v := (Int32.ofNat i)) d_prog_3_m2_207 rfl rfl rfl ?_
              refine own_goto W180.K d_prog_3_m2_210 (pc' := 24) (by decide) (by decide) ?_
              rw [own_one]
              have hesc : own_dn cs[i] (i == 0) (i + 1 == cs.length) = [cs[i]] := by unfold own_dn; rw [if_neg hspb, if_neg hc0, if_neg (by simp [hi0, hil]), if_neg (by simp [hi0])]
              exact ih (i + 1) (by omega) W180 (by dsimp only; omega) (by dsimp only; omega) X179 (by rw [own_dnT_succ hin, hesc]; simpa only [List.append_assoc, List.cons_append, List.nil_append] using D179) gb179 sb179 (One.val rfl)
        · skip
          by_cases hc35 : cs[i] = 35
          · skip
            refine own_lookup W155.K d_prog_3_m2_38 (by decide) (off := 141) (by rw [hc35]; decide) (by decide) (pc' := 179) (by decide) ?_
            refine own_iloadN W155.K d_prog_3_m2_179 rfl rfl ?_
            by_cases hi0 : i = 0
            · skip
              refine own_ifNo W155.K d_prog_3_m2_180 rfl ((if0 _ _).trans (teq ((own_zero (by omega)).mpr hi0)).2) ?_
              refine own_aloadN W155.K d_prog_3_m2_183 rfl rfl rfl ?_
              refine own_bipush W155.K (v := (92 : Int32)) d_prog_3_m2_184 rfl rfl ?_
              have sx181 : Safe Z consts_1 _ h x := Safe.exa W155.hZ.alike B.exa (by decide) (by decide)
              refine own_callV W155.K (a := x) (x0 := (⟨"java/lang/StringBuilder", "append", "(C)Ljava/lang/StringBuilder;"⟩ : MethodName)) (wd146 hw) (wd147 hw) (fun q => own_nfS (args := #[]) (mvT q (wd65 hw)) rfl) (wd149 hw) (wd148 hw) (rm_appendC hw hs (y := (92 : Int32)) (cap := 24) W155.K.O B (by decide) (own_ub_ok hch0) (by omega) (by omega) (by first | omega | (simp only [List.length_append, List.length_cons, List.length_nil]; omega))) (wd150 hw) (wd35 hw) (by decide) B.exa (argsL := [(.int (92 : Int32))]) (rest := []) rfl pd_28C29Ljava2flang2fStringBuilder3b rfl rfl (W := 0) rfl (by first | decide | (dsimp only; omega)) (by first | decide | (dsimp only; omega)) (by first | decide | (dsimp only; omega)) (by first | decide | (dsimp only; omega)) d_prog_3_m2_186 rfl ?_
              intro T182 h182 L182 v182 K182 q182
              obtain ⟨rfl, Kp182, b182, kb182, nb182, B182⟩ := q182
              show G (T182.setTop (mkF m 189 #[.val (.ref st), .val (.ref x), .val (.int (Int32.ofNat cs.length - (1 : Int32))), .val (.int (Int32.ofNat i)), .val (.int cs[i])] [(.ref x)]))
              have W183 := W155.keep K182 Kp182 (allS sx181 (allS sb all0))
              have sb182 : Safe Z consts_1 _ h182 b182 := Safe.keep Kp182 (allS sx181 (allS sb all0)) W155.C.1 (nb182.elim (fun q => q ▸ sb) Safe.new)
              have gb182 : h0.size ≤ b182 := nb182.elim (fun q => q ▸ gb) (fun q => Nat.le_trans X.1 q)
              have X182 : Ext h0 h182 := own_ext_keep X Kp182 (allS gx (allS gb all0))
              have D182 : own_SB Z h182 x (own_ub ((own_dnT cs i) ++ [(92 : Int32)])) ((own_dnT cs i) ++ [(92 : Int32)]).length ((own_dnT cs i) ++ [(92 : Int32)]) b182 kb182 (cs.length + 8) := by rw [own_ub_app, own_ub_one]; exact B182
              have ch182 : own_chs ((own_dnT cs i) ++ [(92 : Int32)]) := own_chs_app hch0 (own_chs_cons (by decide) own_chs_nil)
              refine own_pop W183.K d_prog_3_m2_189 rfl rfl ?_
              refine own_aloadN W183.K d_prog_3_m2_190 rfl rfl rfl ?_
              refine own_iload W183.K d_prog_3_m2_191 rfl rfl ?_
              have sx184 : Safe Z consts_1 _ h182 x := Safe.exa W183.hZ.alike D182.exa (by decide) (by decide)
              refine own_callV W183.K (a := x) (x0 := (⟨"java/lang/StringBuilder", "append", "(C)Ljava/lang/StringBuilder;"⟩ : MethodName)) (wd146 hw) (wd147 hw) (fun q => own_nfS (args := #[]) (mvT q (wd65 hw)) rfl) (wd149 hw) (wd148 hw) (rm_appendC hw hs (y := cs[i]) (cap := 24) W183.K.O D182 hcc (own_ub_ok ch182) (by omega) (by omega) (by first | omega | (simp only [List.length_append, List.length_cons, List.length_nil]; omega))) (wd150 hw) (wd35 hw) (by decide) D182.exa (argsL := [(.int cs[i])]) (rest := []) rfl pd_28C29Ljava2flang2fStringBuilder3b rfl rfl (W := 0) rfl (by first | decide | (dsimp only; omega)) (by first | decide | (dsimp only; omega)) (by first | decide | (dsimp only; omega)) (by first | decide | (dsimp only; omega)) d_prog_3_m2_193 rfl ?_
              intro T185 h185 L185 v185 K185 q185
              obtain ⟨rfl, Kp185, b185, kb185, nb185, B185⟩ := q185
              show G (T185.setTop (mkF m 196 #[.val (.ref st), .val (.ref x), .val (.int (Int32.ofNat cs.length - (1 : Int32))), .val (.int (Int32.ofNat i)), .val (.int cs[i])] [(.ref x)]))
              have W186 := W183.keep K185 Kp185 (allS sx184 (allS sb182 all0))
              have sb185 : Safe Z consts_1 _ h185 b185 := Safe.keep Kp185 (allS sx184 (allS sb182 all0)) W183.C.1 (nb185.elim (fun q => q ▸ sb182) Safe.new)
              have gb185 : h0.size ≤ b185 := nb185.elim (fun q => q ▸ gb182) (fun q => Nat.le_trans X182.1 q)
              have X185 : Ext h0 h185 := own_ext_keep X182 Kp185 (allS gx (allS gb182 all0))
              have D185 : own_SB Z h185 x (own_ub (((own_dnT cs i) ++ [(92 : Int32)]) ++ [cs[i]])) (((own_dnT cs i) ++ [(92 : Int32)]) ++ [cs[i]]).length (((own_dnT cs i) ++ [(92 : Int32)]) ++ [cs[i]]) b185 kb185 (cs.length + 8) := by rw [own_ub_app, own_ub_one]; exact B185
              have ch185 : own_chs (((own_dnT cs i) ++ [(92 : Int32)]) ++ [cs[i]]) := own_chs_app ch182 (own_chs_cons hcc own_chs_nil)
              refine own_pop W186.K d_prog_3_m2_196 rfl rfl ?_
              refine own_goto W186.K d_prog_3_m2_197 (pc' := 207) (by decide) (by decide) ?_
              refine own_iinc W186.K (Ls' := #[.val (.ref st), .val (.ref x), .val (.int (Int32.ofNat cs.length - (1 : Int32))), .val (.int ((Int32.ofNat i) + (1 : Int32))), .val (.int cs[i])]) (x := (Int32.ofNat i)) (v := (Int32.ofNat i)) d_prog_3_m2_207 rfl rfl rfl ?_
              refine own_goto W186.K d_prog_3_m2_210 (pc' := 24) (by decide) (by decide) ?_
              rw [own_one]
              have hesc : own_dn cs[i] (i == 0) (i + 1 == cs.length) = [92, cs[i]] := by unfold own_dn; rw [if_neg hspb, if_neg hc0, if_neg (fun q => hc32 q.1), if_pos ⟨hc35, by simp [hi0]⟩]
              exact ih (i + 1) (by omega) W186 (by dsimp only; omega) (by dsimp only; omega) X185 (by rw [own_dnT_succ hin, hesc]; simpa only [List.append_assoc, List.cons_append, List.nil_append] using D185) gb185 sb185 (One.val rfl)
            · skip
              refine own_ifYes W155.K d_prog_3_m2_180 (pc' := 190) (by decide) (by decide) ((if0 _ _).trans (feq (fun q => hi0 ((own_zero (by omega)).mp q))).2) ?_
              refine own_aloadN W155.K d_prog_3_m2_190 rfl rfl rfl ?_
              refine own_iload W155.K d_prog_3_m2_191 rfl rfl ?_
              have sx187 : Safe Z consts_1 _ h x := Safe.exa W155.hZ.alike B.exa (by decide) (by decide)
              refine own_callV W155.K (a := x) (x0 := (⟨"java/lang/StringBuilder", "append", "(C)Ljava/lang/StringBuilder;"⟩ : MethodName)) (wd146 hw) (wd147 hw) (fun q => own_nfS (args := #[]) (mvT q (wd65 hw)) rfl) (wd149 hw) (wd148 hw) (rm_appendC hw hs (y := cs[i]) (cap := 24) W155.K.O B hcc (own_ub_ok hch0) (by omega) (by omega) (by first | omega | (simp only [List.length_append, List.length_cons, List.length_nil]; omega))) (wd150 hw) (wd35 hw) (by decide) B.exa (argsL := [(.int cs[i])]) (rest := []) rfl pd_28C29Ljava2flang2fStringBuilder3b rfl rfl (W := 0) rfl (by first | decide | (dsimp only; omega)) (by first | decide | (dsimp only; omega)) (by first | decide | (dsimp only; omega)) (by first | decide | (dsimp only; omega)) d_prog_3_m2_193 rfl ?_
              intro T188 h188 L188 v188 K188 q188
              obtain ⟨rfl, Kp188, b188, kb188, nb188, B188⟩ := q188
              show G (T188.setTop (mkF m 196 #[.val (.ref st), .val (.ref x), .val (.int (Int32.ofNat cs.length - (1 : Int32))), .val (.int (Int32.ofNat i)), .val (.int cs[i])] [(.ref x)]))
              have W189 := W155.keep K188 Kp188 (allS sx187 (allS sb all0))
              have sb188 : Safe Z consts_1 _ h188 b188 := Safe.keep Kp188 (allS sx187 (allS sb all0)) W155.C.1 (nb188.elim (fun q => q ▸ sb) Safe.new)
              have gb188 : h0.size ≤ b188 := nb188.elim (fun q => q ▸ gb) (fun q => Nat.le_trans X.1 q)
              have X188 : Ext h0 h188 := own_ext_keep X Kp188 (allS gx (allS gb all0))
              have D188 : own_SB Z h188 x (own_ub ((own_dnT cs i) ++ [cs[i]])) ((own_dnT cs i) ++ [cs[i]]).length ((own_dnT cs i) ++ [cs[i]]) b188 kb188 (cs.length + 8) := by rw [own_ub_app, own_ub_one]; exact B188
              have ch188 : own_chs ((own_dnT cs i) ++ [cs[i]]) := own_chs_app hch0 (own_chs_cons hcc own_chs_nil)
              refine own_pop W189.K d_prog_3_m2_196 rfl rfl ?_
              refine own_goto W189.K d_prog_3_m2_197 (pc' := 207) (by decide) (by decide) ?_
              refine own_iinc W189.K (Ls' := #[.val (.ref st), .val (.ref x), .val (.int (Int32.ofNat cs.length - (1 : Int32))), .val (.int ((Int32.ofNat i) + (1 : Int32))), .val (.int cs[i])]) (x := (Int32.ofNat i)) (v := (Int32.ofNat i)) d_prog_3_m2_207 rfl rfl rfl ?_
              refine own_goto W189.K d_prog_3_m2_210 (pc' := 24) (by decide) (by decide) ?_
              rw [own_one]
              have hesc : own_dn cs[i] (i == 0) (i + 1 == cs.length) = [cs[i]] := by unfold own_dn; rw [if_neg hspb, if_neg hc0, if_neg (fun q => hc32 q.1), if_neg (by simp [hi0])]
              exact ih (i + 1) (by omega) W189 (by dsimp only; omega) (by dsimp only; omega) X188 (by rw [own_dnT_succ hin, hesc]; simpa only [List.append_assoc, List.cons_append, List.nil_append] using D188) gb188 sb188 (One.val rfl)
          · skip
            refine own_lookup W155.K d_prog_3_m2_38 (by decide) (off := 162) (own_sw _ hc0 hc32 hc35 hsp) (by decide) (pc' := 200) (by decide) ?_
            refine own_aloadN W155.K d_prog_3_m2_200 rfl rfl rfl ?_
            refine own_iload W155.K d_prog_3_m2_201 rfl rfl ?_
            have sx190 : Safe Z consts_1 _ h x := Safe.exa W155.hZ.alike B.exa (by decide) (by decide)
            refine own_callV W155.K (a := x) (x0 := (⟨"java/lang/StringBuilder", "append", "(C)Ljava/lang/StringBuilder;"⟩ : MethodName)) (wd146 hw) (wd147 hw) (fun q => own_nfS (args := #[]) (mvT q (wd65 hw)) rfl) (wd149 hw) (wd148 hw) (rm_appendC hw hs (y := cs[i]) (cap := 24) W155.K.O B hcc (own_ub_ok hch0) (by omega) (by omega) (by first | omega | (simp only [List.length_append, List.length_cons, List.length_nil]; omega))) (wd150 hw) (wd35 hw) (by decide) B.exa (argsL := [(.int cs[i])]) (rest := []) rfl pd_28C29Ljava2flang2fStringBuilder3b rfl rfl (W := 0) rfl (by first | decide | (dsimp only; omega)) (by first | decide | (dsimp only; omega)) (by first | decide | (dsimp only; omega)) (by first | decide | (dsimp only; omega)) d_prog_3_m2_203 rfl ?_
            intro T191 h191 L191 v191 K191 q191
            obtain ⟨rfl, Kp191, b191, kb191, nb191, B191⟩ := q191
            show G (T191.setTop (mkF m 206 #[.val (.ref st), .val (.ref x), .val (.int (Int32.ofNat cs.length - (1 : Int32))), .val (.int (Int32.ofNat i)), .val (.int cs[i])] [(.ref x)]))
            have W192 := W155.keep K191 Kp191 (allS sx190 (allS sb all0))
            have sb191 : Safe Z consts_1 _ h191 b191 := Safe.keep Kp191 (allS sx190 (allS sb all0)) W155.C.1 (nb191.elim (fun q => q ▸ sb) Safe.new)
            have gb191 : h0.size ≤ b191 := nb191.elim (fun q => q ▸ gb) (fun q => Nat.le_trans X.1 q)
            have X191 : Ext h0 h191 := own_ext_keep X Kp191 (allS gx (allS gb all0))
            have D191 : own_SB Z h191 x (own_ub ((own_dnT cs i) ++ [cs[i]])) ((own_dnT cs i) ++ [cs[i]]).length ((own_dnT cs i) ++ [cs[i]]) b191 kb191 (cs.length + 8) := by rw [own_ub_app, own_ub_one]; exact B191
            have ch191 : own_chs ((own_dnT cs i) ++ [cs[i]]) := own_chs_app hch0 (own_chs_cons hcc own_chs_nil)
            refine own_pop W192.K d_prog_3_m2_206 rfl rfl ?_
            refine own_iinc W192.K (Ls' := #[.val (.ref st), .val (.ref x), .val (.int (Int32.ofNat cs.length - (1 : Int32))), .val (.int ((Int32.ofNat i) + (1 : Int32))), .val (.int cs[i])]) (x := (Int32.ofNat i)) (v := (Int32.ofNat i)) d_prog_3_m2_207 rfl rfl rfl ?_
            refine own_goto W192.K d_prog_3_m2_210 (pc' := 24) (by decide) (by decide) ?_
            rw [own_one]
            have hesc : own_dn cs[i] (i == 0) (i + 1 == cs.length) = [cs[i]] := by unfold own_dn; rw [if_neg hspb, if_neg hc0, if_neg (fun q => hc32 q.1), if_neg (fun q => hc35 q.1)]
            exact ih (i + 1) (by omega) W192 (by dsimp only; omega) (by dsimp only; omega) X191 (by rw [own_dnT_succ hin, hesc]; simpa only [List.append_assoc, List.cons_append, List.nil_append] using D191) gb191 sb191 (One.val rfl)
end Lp
theorem d_prog_3_m2_0 : decode prog_3_method_2_code 0 = .ok (.new 7, 3) := by decide +kernel
theorem wd33 {a0 : Array Value} {Z : State} (hw : ∀ d ∈ tables_1, d.before a0 Z = true) : (Jvm.Cond.classLink "com/example/reevemark/reevemark/connectors/ldap/LdapEscape" (7 : Nat) "java/lang/StringBuilder").before a0 Z = true := hw _ (List.mem_of_getElem? (i := 33) rfl)
theorem d_prog_3_m2_3 : decode prog_3_method_2_code 3 = .ok (.dup, 1) := by decide +kernel
theorem d_prog_3_m2_4 : decode prog_3_method_2_code 4 = .ok (.aload_n 0, 1) := by decide +kernel
theorem d_prog_3_m2_5 : decode prog_3_method_2_code 5 = .ok (.invokevirtual 9, 3) := by decide +kernel
theorem wd36 {a0 : Array Value} {Z : State} (hw : ∀ d ∈ tables_1, d.before a0 Z = true) : (Jvm.Cond.methodLink "com/example/reevemark/reevemark/connectors/ldap/LdapEscape" (9 : Nat) ({ cls := "java/lang/String", name := "length", desc := "()I" } : Jvm.MethodName)).before a0 Z = true := hw _ (List.mem_of_getElem? (i := 36) rfl)
theorem d_prog_3_m2_8 : decode prog_3_method_2_code 8 = .ok (.bipush 8, 2) := by decide +kernel
theorem d_prog_3_m2_10 : decode prog_3_method_2_code 10 = .ok (.iadd, 1) := by decide +kernel
theorem d_prog_3_m2_11 : decode prog_3_method_2_code 11 = .ok (.invokespecial 15, 3) := by decide +kernel
theorem wd49 {a0 : Array Value} {Z : State} (hw : ∀ d ∈ tables_1, d.before a0 Z = true) : (Jvm.Cond.code ({ cls := "java/lang/StringBuilder", name := "<init>", desc := "(I)V" } : Jvm.MethodName) jdk_67_method_2_code (2 : Nat) (Option.none : Option Jvm.ClassFile.FieldType)).before a0 Z = true := hw _ (List.mem_of_getElem? (i := 49) rfl)
theorem wd47 {a0 : Array Value} {Z : State} (hw : ∀ d ∈ tables_1, d.before a0 Z = true) : (Jvm.Cond.methodLink "com/example/reevemark/reevemark/connectors/ldap/LdapEscape" (15 : Nat) ({ cls := "java/lang/StringBuilder", name := "<init>", desc := "(I)V" } : Jvm.MethodName)).before a0 Z = true := hw _ (List.mem_of_getElem? (i := 47) rfl)
theorem wd48 {a0 : Array Value} {Z : State} (hw : ∀ d ∈ tables_1, d.before a0 Z = true) : (Jvm.Cond.instanceMethod ({ cls := "java/lang/StringBuilder", name := "<init>", desc := "(I)V" } : Jvm.MethodName)).before a0 Z = true := hw _ (List.mem_of_getElem? (i := 48) rfl)
theorem d_prog_3_m2_14 : decode prog_3_method_2_code 14 = .ok (.astore_n 1, 1) := by decide +kernel
theorem d_prog_3_m2_15 : decode prog_3_method_2_code 15 = .ok (.aload_n 0, 1) := by decide +kernel
theorem d_prog_3_m2_16 : decode prog_3_method_2_code 16 = .ok (.invokevirtual 9, 3) := by decide +kernel
theorem d_prog_3_m2_19 : decode prog_3_method_2_code 19 = .ok (.iconst 1, 1) := by decide +kernel
theorem d_prog_3_m2_20 : decode prog_3_method_2_code 20 = .ok (.isub, 1) := by decide +kernel
theorem d_prog_3_m2_21 : decode prog_3_method_2_code 21 = .ok (.istore_n 2, 1) := by decide +kernel
theorem d_prog_3_m2_22 : decode prog_3_method_2_code 22 = .ok (.iconst 0, 1) := by decide +kernel
theorem d_prog_3_m2_23 : decode prog_3_method_2_code 23 = .ok (.istore_n 3, 1) := by decide +kernel
theorem pn_com_example_reevemark_reevemark_connectors_ldap_LdapEscape : plainName "com/example/reevemark/reevemark/connectors/ldap/LdapEscape" = true := by first | (simp [plainName, overriddenIn]; done) | decide +kernel
set_option maxRecDepth 65536 in
set_option maxHeartbeats 40000000 in
theorem rm_dn {l : Launch} {Z : State} {a0 : Array Value} (hw : ∀ d ∈ tables_1, d.before a0 Z = true) (hs : ∀ d ∈ jdkStatics_1, d.before a0 Z = true) {st : Addr} {us : Bool} {cs : List Int32} {h0 : Heap} (O0 : Ext Z.heap h0) (S : own_StrG Z h0 st us cs) (hok : own_ok us cs) (hch : own_chs cs) (hlen : cs.length ≤ 4) :
    own_CtW l Z consts_1 true false (⟨"com/example/reevemark/reevemark/connectors/ldap/LdapEscape", "dnValue", "(Ljava/lang/String;)Ljava/lang/String;"⟩ : MethodName) prog_3_method_2_code 5 (some (.object "java/lang/String")) [] ({ frames := 10, locals := 143, cells := 16, slots := 296 } : Room) #[(.ref st)] h0 (fun v h => ∃ a : Addr, v = some (.ref a) ∧ Ext h0 h ∧ own_StrG Z h a (own_ub (own_dnT cs cs.length)) (own_dnT cs cs.length)) := by
  refine own_bodyW (Ls := #[.val (.ref st), .unset, .unset, .unset, .unset]) (own_EL hw) (plainFor_of_name pn_com_example_reevemark_reevemark_connectors_ldap_LdapEscape) (fun m => by first | (simp [entryFrame, mkF, argsToLocals, Value.category]; done) | rfl) O0 ?_
  intro p e s m below meth c T0 G hkn hs0 W0
  refine own_newO W0.K (wd33 hw) (wd34 hw) (wd35 hw) d_prog_3_m2_0 (by first | decide | (dsimp only; omega)) (by first | decide | (dsimp only; omega)) rfl ?_
  intro T193 h193 a193 K193 g193 E193 A193 D193 U193
  have F_value_193 : Fld Z h193 a193 "java/lang/AbstractStringBuilder" "value" "[B" .null := D193 (Or.inl (wd59 hw)) (ty := (.array .byte)) (by decide)
  have F_coder_193 : Fld Z h193 a193 "java/lang/AbstractStringBuilder" "coder" "B" (.int (0 : Int32)) := D193 (Or.inl (wd61 hw)) (ty := .byte) (by decide)
  have F_count_193 : Fld Z h193 a193 "java/lang/AbstractStringBuilder" "count" "I" (.int (0 : Int32)) := D193 (Or.inl (wd89 hw)) (ty := .int) (by decide)
  have F_maybeLatin1_193 : Fld Z h193 a193 "java/lang/AbstractStringBuilder" "maybeLatin1" "Z" (.int (0 : Int32)) := D193 (Or.inl (wd256 hw)) (ty := .boolean) (by decide)
  have W194 := W0.ext K193 E193
  refine own_dup W194.K d_prog_3_m2_3 rfl rfl ?_
  refine own_aloadN W194.K d_prog_3_m2_4 rfl rfl rfl ?_
  refine own_callV W194.K (a := st) (x0 := (⟨"java/lang/String", "length", "()I"⟩ : MethodName)) (wd36 hw) (wd37 hw) (fun q => own_nfS (args := #[]) (mvT q (wd39 hw)) rfl) (wd39 hw) (wd38 hw) (rm_lengthS hw hs W194.K.O (S.ext E193) (by omega)) (wd40 hw) (wd10 hw) (by decide) (S.exa.ext E193) (argsL := []) (rest := [(.ref a193), (.ref a193)]) rfl pd_2829I rfl rfl (W := 2) rfl (by first | decide | (dsimp only; omega)) (by first | decide | (dsimp only; omega)) (by first | decide | (dsimp only; omega)) (by first | decide | (dsimp only; omega)) d_prog_3_m2_5 rfl ?_
  intro T195 h195 L195 v195 K195 q195
  obtain ⟨rfl, e195⟩ := q195
  have f195 := e195.symm
  subst f195
  show G (T195.setTop (mkF m 8 #[.val (.ref st), .unset, .unset, .unset, .unset] [(.int (Int32.ofNat cs.length)), (.ref a193), (.ref a193)]))
  refine own_bipush K195 (v := (8 : Int32)) d_prog_3_m2_8 rfl rfl ?_
  refine own_iadd K195 d_prog_3_m2_10 rfl ?_
  rw [own_add8]
  have W196 := W194.same K195
  have gx193 : Z.heap.size ≤ a193 := by rw [g193]; exact O0.1
  have sx := Safe.exa (EL := consts_1) W196.hZ.alike A193 (by decide) (by decide)
  refine own_callI W196.K (a := a193) (wd47 hw) (wd48 hw) (rm_sbInit hw hs (cap := cs.length + 8) W196.K.O A193 F_value_193 F_coder_193 F_count_193 F_maybeLatin1_193 gx193 (by omega)) (wd49 hw) (wd35 hw) (by decide) rfl (argsL := [(.int (Int32.ofNat (cs.length + 8)))]) (rest := [(.ref a193)]) rfl pd_28I29V rfl rfl (W := 1) rfl (by first | decide | (dsimp only; omega)) (by first | decide | (dsimp only; omega)) (by first | decide | (dsimp only; omega)) (by first | decide | (dsimp only; omega)) d_prog_3_m2_11 rfl ?_
  intro T197 h197 L197 v197 K197 q197
  obtain ⟨rfl, Kp197, b197, kb197, nb197, B197⟩ := q197
  show G (T197.setTop (mkF m 14 #[.val (.ref st), .unset, .unset, .unset, .unset] [(.ref a193)]))
  have W198 := W196.keep K197 Kp197 (allS sx all0)
  have sb0 : Safe Z consts_1 _ h197 b197 := Safe.keep Kp197 (allS sx all0) W196.C.1 (Safe.new nb197)
  have X0 : Ext h0 h197 := own_ext_keep E193 Kp197 (allS (Nat.le_of_eq g193.symm) all0)
  refine own_astoreN W198.K (Ls' := #[.val (.ref st), .val (.ref a193), .unset, .unset, .unset]) d_prog_3_m2_14 rfl rfl rfl ?_
  refine own_aloadN W198.K d_prog_3_m2_15 rfl rfl rfl ?_
  refine own_callV W198.K (a := st) (x0 := (⟨"java/lang/String", "length", "()I"⟩ : MethodName)) (wd36 hw) (wd37 hw) (fun q => own_nfS (args := #[]) (mvT q (wd39 hw)) rfl) (wd39 hw) (wd38 hw) (rm_lengthS hw hs W198.K.O (S.ext X0) (by omega)) (wd40 hw) (wd10 hw) (by decide) (S.exa.ext X0) (argsL := []) (rest := []) rfl pd_2829I rfl rfl (W := 0) rfl (by first | decide | (dsimp only; omega)) (by first | decide | (dsimp only; omega)) (by first | decide | (dsimp only; omega)) (by first | decide | (dsimp only; omega)) d_prog_3_m2_16 rfl ?_
  intro T199 h199 L199 v199 K199 q199
  obtain ⟨rfl, e199⟩ := q199
  have f199 := e199.symm
  subst f199
  show G (T199.setTop (mkF m 19 #[.val (.ref st), .val (.ref a193), .unset, .unset, .unset] [(.int (Int32.ofNat cs.length))]))
  have W200 := W198.same K199
  refine own_iconst W200.K (v := (1 : Int32)) d_prog_3_m2_19 rfl rfl ?_
  refine own_isub W200.K d_prog_3_m2_20 rfl ?_
  refine own_istoreN W200.K (Ls' := #[.val (.ref st), .val (.ref a193), .val (.int ((Int32.ofNat cs.length) - (1 : Int32))), .unset, .unset]) d_prog_3_m2_21 rfl rfl ?_
  refine own_iconst W200.K (v := (0 : Int32)) d_prog_3_m2_22 rfl rfl ?_
  refine own_istoreN W200.K (Ls' := #[.val (.ref st), .val (.ref a193), .val (.int ((Int32.ofNat cs.length) - (1 : Int32))), .val (.int (0 : Int32)), .unset]) d_prog_3_m2_23 rfl rfl ?_
  exact lp_dn hw hs (by first | decide | (dsimp only; omega)) (by first | decide | (dsimp only; omega)) S hok hch hlen (Nat.le_of_eq g193.symm) (fun _ _ q => q) cs.length 0 (Nat.zero_add _) W200 (by dsimp only; omega) (by dsimp only; omega) X0 B197 (Nat.le_trans E193.1 nb197) sb0 One.u
def own_tab : List Int32 := [(34 : Int32), (43 : Int32), (44 : Int32), (59 : Int32), (60 : Int32), (62 : Int32), (92 : Int32), (0 : Int32), (32 : Int32), (35 : Int32)]
theorem own_tab_chs : own_chs own_tab := by intro c hc; revert c; decide
theorem own_and15 (x : Int32) (h : x &&& 15 < 10) : ∃ k, k < 10 ∧ x &&& 15 = Int32.ofNat k := by
  have h1 := c_mask x 15 4 (by decide) (by decide)
  rw [Int32.lt_iff_toInt_lt, show (10 : Int32).toInt = 10 from rfl] at h
  refine ⟨(x &&& 15).toInt.toNat, by omega, Int32.toInt_inj.mp ?_⟩
  rw [Int32.toInt_ofNat_of_lt (by omega)]; omega
theorem own_len5 (x : Int32) : (x &&& 7) % 5 = 0 ∨ (x &&& 7) % 5 = 1 ∨ (x &&& 7) % 5 = 2 ∨ (x &&& 7) % 5 = 3 ∨ (x &&& 7) % 5 = 4 := by
  have h := c_mask x 7 3 (by decide) (by decide)
  have h2 := (c_irem (x &&& 7) 5 5 rfl).1
  have : ((x &&& 7) % 5).toInt = 0 ∨ ((x &&& 7) % 5).toInt = 1 ∨ ((x &&& 7) % 5).toInt = 2 ∨ ((x &&& 7) % 5).toInt = 3 ∨ ((x &&& 7) % 5).toInt = 4 := by omega
  rcases this with q | q | q | q | q
  · exact Or.inl (Int32.toInt_inj.mp q)
  · exact Or.inr (Or.inl (Int32.toInt_inj.mp q))
  · exact Or.inr (Or.inr (Or.inl (Int32.toInt_inj.mp q)))
  · exact Or.inr (Or.inr (Or.inr (Or.inl (Int32.toInt_inj.mp q))))
  · exact Or.inr (Or.inr (Or.inr (Or.inr (Int32.toInt_inj.mp q))))
theorem d_m3_0 : decode method_3_code 0 = .ok (.iload_n 0, 1) := by decide +kernel
theorem d_m3_1 : decode method_3_code 1 = .ok (.bipush 15, 2) := by decide +kernel
theorem d_m3_3 : decode method_3_code 3 = .ok (.iand, 1) := by decide +kernel
theorem d_m3_4 : decode method_3_code 4 = .ok (.istore_n 1, 1) := by decide +kernel
theorem d_m3_5 : decode method_3_code 5 = .ok (.bipush 10, 2) := by decide +kernel
theorem d_m3_7 : decode method_3_code 7 = .ok (.newarray .char, 2) := by decide +kernel
theorem wd4 {a0 : Array Value} {Z : State} (hw : ∀ d ∈ tables_1, d.before a0 Z = true) : (Jvm.Cond.arrayClass Jvm.ClassFile.FieldType.char).before a0 Z = true := hw _ (List.mem_of_getElem? (i := 4) rfl)
theorem d_m3_9 : decode method_3_code 9 = .ok (.dup, 1) := by decide +kernel
theorem d_m3_10 : decode method_3_code 10 = .ok (.iconst 0, 1) := by decide +kernel
theorem d_m3_11 : decode method_3_code 11 = .ok (.bipush 34, 2) := by decide +kernel
theorem d_m3_13 : decode method_3_code 13 = .ok (.castore, 1) := by decide +kernel
theorem d_m3_14 : decode method_3_code 14 = .ok (.dup, 1) := by decide +kernel
theorem d_m3_15 : decode method_3_code 15 = .ok (.iconst 1, 1) := by decide +kernel
theorem d_m3_16 : decode method_3_code 16 = .ok (.bipush 43, 2) := by decide +kernel
theorem d_m3_18 : decode method_3_code 18 = .ok (.castore, 1) := by decide +kernel
theorem d_m3_19 : decode method_3_code 19 = .ok (.dup, 1) := by decide +kernel
theorem d_m3_20 : decode method_3_code 20 = .ok (.iconst 2, 1) := by decide +kernel
theorem d_m3_21 : decode method_3_code 21 = .ok (.bipush 44, 2) := by decide +kernel
theorem d_m3_23 : decode method_3_code 23 = .ok (.castore, 1) := by decide +kernel
theorem d_m3_24 : decode method_3_code 24 = .ok (.dup, 1) := by decide +kernel
theorem d_m3_25 : decode method_3_code 25 = .ok (.iconst 3, 1) := by decide +kernel
theorem d_m3_26 : decode method_3_code 26 = .ok (.bipush 59, 2) := by decide +kernel
theorem d_m3_28 : decode method_3_code 28 = .ok (.castore, 1) := by decide +kernel
theorem d_m3_29 : decode method_3_code 29 = .ok (.dup, 1) := by decide +kernel
theorem d_m3_30 : decode method_3_code 30 = .ok (.iconst 4, 1) := by decide +kernel
theorem d_m3_31 : decode method_3_code 31 = .ok (.bipush 60, 2) := by decide +kernel
theorem d_m3_33 : decode method_3_code 33 = .ok (.castore, 1) := by decide +kernel
theorem d_m3_34 : decode method_3_code 34 = .ok (.dup, 1) := by decide +kernel
theorem d_m3_35 : decode method_3_code 35 = .ok (.iconst 5, 1) := by decide +kernel
theorem d_m3_36 : decode method_3_code 36 = .ok (.bipush 62, 2) := by decide +kernel
theorem d_m3_38 : decode method_3_code 38 = .ok (.castore, 1) := by decide +kernel
theorem d_m3_39 : decode method_3_code 39 = .ok (.dup, 1) := by decide +kernel
theorem d_m3_40 : decode method_3_code 40 = .ok (.bipush 6, 2) := by decide +kernel
theorem d_m3_42 : decode method_3_code 42 = .ok (.bipush 92, 2) := by decide +kernel
theorem d_m3_44 : decode method_3_code 44 = .ok (.castore, 1) := by decide +kernel
theorem d_m3_45 : decode method_3_code 45 = .ok (.dup, 1) := by decide +kernel
theorem d_m3_46 : decode method_3_code 46 = .ok (.bipush 7, 2) := by decide +kernel
theorem d_m3_48 : decode method_3_code 48 = .ok (.iconst 0, 1) := by decide +kernel
theorem d_m3_49 : decode method_3_code 49 = .ok (.castore, 1) := by decide +kernel
theorem d_m3_50 : decode method_3_code 50 = .ok (.dup, 1) := by decide +kernel
theorem d_m3_51 : decode method_3_code 51 = .ok (.bipush 8, 2) := by decide +kernel
theorem d_m3_53 : decode method_3_code 53 = .ok (.bipush 32, 2) := by decide +kernel
theorem d_m3_55 : decode method_3_code 55 = .ok (.castore, 1) := by decide +kernel
theorem d_m3_56 : decode method_3_code 56 = .ok (.dup, 1) := by decide +kernel
theorem d_m3_57 : decode method_3_code 57 = .ok (.bipush 9, 2) := by decide +kernel
theorem d_m3_59 : decode method_3_code 59 = .ok (.bipush 35, 2) := by decide +kernel
theorem d_m3_61 : decode method_3_code 61 = .ok (.castore, 1) := by decide +kernel
theorem d_m3_62 : decode method_3_code 62 = .ok (.astore_n 2, 1) := by decide +kernel
theorem d_m3_63 : decode method_3_code 63 = .ok (.iload_n 1, 1) := by decide +kernel
theorem d_m3_64 : decode method_3_code 64 = .ok (.bipush 10, 2) := by decide +kernel
theorem d_m3_66 : decode method_3_code 66 = .ok (.if_icmp .ge 7, 3) := by decide +kernel
theorem d_m3_69 : decode method_3_code 69 = .ok (.aload_n 2, 1) := by decide +kernel
theorem d_m3_70 : decode method_3_code 70 = .ok (.iload_n 1, 1) := by decide +kernel
theorem d_m3_71 : decode method_3_code 71 = .ok (.caload, 1) := by decide +kernel
theorem d_m3_72 : decode method_3_code 72 = .ok (.ireturn, 1) := by decide +kernel
theorem d_m3_73 : decode method_3_code 73 = .ok (.iload_n 0, 1) := by decide +kernel
theorem d_m3_74 : decode method_3_code 74 = .ok (.iconst 4, 1) := by decide +kernel
theorem d_m3_75 : decode method_3_code 75 = .ok (.iushr, 1) := by decide +kernel
theorem d_m3_76 : decode method_3_code 76 = .ok (.i2c, 1) := by decide +kernel
theorem d_m3_77 : decode method_3_code 77 = .ok (.ireturn, 1) := by decide +kernel
theorem pn_com_example_reevemark_reevemark_connectors_ldap_LdapEscapeDnValuePinLaw : plainName "com/example/reevemark/reevemark/connectors/ldap/LdapEscapeDnValuePinLaw" = true := by first | (simp [plainName, overriddenIn]; done) | decide +kernel
set_option maxRecDepth 65536 in
set_option maxHeartbeats 40000000 in
theorem rm_draw {l : Launch} {Z : State} {a0 : Array Value} (hw : ∀ d ∈ tables_1, d.before a0 Z = true) (hs : ∀ d ∈ jdkStatics_1, d.before a0 Z = true) {x : Int32} {h0 : Heap} (O0 : Ext Z.heap h0)  :
    own_Ct l Z (⟨"com/example/reevemark/reevemark/connectors/ldap/LdapEscapeDnValuePinLaw", "draw", "(I)C"⟩ : MethodName) method_3_code 3 (some .char) [] ({ frames := 0, locals := 0, cells := 1, slots := 10 } : Room) #[(.int x)] h0 (fun v h => ∃ c : Int32, v = some (.int c) ∧ (¬ c < 0 ∧ c < 65536) ∧ Ext h0 h) := by
  refine own_body (Ls := #[.val (.int x), .unset, .unset]) (plainFor_of_name pn_com_example_reevemark_reevemark_connectors_ldap_LdapEscapeDnValuePinLaw) (fun m => by first | (simp [entryFrame, mkF, argsToLocals, Value.category]; done) | rfl) O0 ?_
  intro p e s m below meth c T0 G K0
  refine own_iloadN K0 d_m3_0 rfl rfl ?_
  refine own_bipush K0 (v := (15 : Int32)) d_m3_1 rfl rfl ?_
  refine own_iand K0 d_m3_3 rfl ?_
  refine own_istoreN K0 (Ls' := #[.val (.int x), .val (.int (x &&& (15 : Int32))), .unset]) d_m3_4 rfl rfl ?_
  refine own_bipush K0 (v := (10 : Int32)) d_m3_5 rfl rfl ?_
  refine own_newP K0 (aty := .char) (wd4 hw) d_m3_7 (by decide) (cap := 10) (by decide) (by decide) (by decide) (by decide) rfl ?_
  intro T201 h201 a201 c201 K201 g201 E201 V201
  refine own_dup K201 d_m3_9 rfl rfl ?_
  refine own_iconst K201 (v := (0 : Int32)) d_m3_10 rfl rfl ?_
  refine own_bipush K201 (v := (34 : Int32)) d_m3_11 rfl rfl ?_
  have ge : Z.heap.size ≤ a201 := by rw [g201]; exact K0.O.1
  have Y : Ext h0 h201 := E201
  refine own_castore K201 (V201.pad (pad_rep [] _ 10)) ⟨by decide, by decide⟩ 0 rfl (by simp) (x' := 34) (by decide) ge d_m3_13 rfl ?_
  intro T202 h202 K202 W202 V202
  have Y202 : Ext h0 h202 := own_ext_wr Y W202 (Nat.le_of_eq g201.symm)
  refine own_dup K202 d_m3_14 rfl rfl ?_
  refine own_iconst K202 (v := (1 : Int32)) d_m3_15 rfl rfl ?_
  refine own_bipush K202 (v := (43 : Int32)) d_m3_16 rfl rfl ?_
  refine own_castore K202 V202 ⟨by decide, by decide⟩ 1 rfl (by simp) (x' := 43) (by decide) ge d_m3_18 rfl ?_
  intro T203 h203 K203 W203 V203
  have Y203 : Ext h0 h203 := own_ext_wr Y202 W203 (Nat.le_of_eq g201.symm)
  refine own_dup K203 d_m3_19 rfl rfl ?_
  refine own_iconst K203 (v := (2 : Int32)) d_m3_20 rfl rfl ?_
  refine own_bipush K203 (v := (44 : Int32)) d_m3_21 rfl rfl ?_
  refine own_castore K203 V203 ⟨by decide, by decide⟩ 2 rfl (by simp) (x' := 44) (by decide) ge d_m3_23 rfl ?_
  intro T204 h204 K204 W204 V204
  have Y204 : Ext h0 h204 := own_ext_wr Y203 W204 (Nat.le_of_eq g201.symm)
  refine own_dup K204 d_m3_24 rfl rfl ?_
  refine own_iconst K204 (v := (3 : Int32)) d_m3_25 rfl rfl ?_
  refine own_bipush K204 (v := (59 : Int32)) d_m3_26 rfl rfl ?_
  refine own_castore K204 V204 ⟨by decide, by decide⟩ 3 rfl (by simp) (x' := 59) (by decide) ge d_m3_28 rfl ?_
  intro T205 h205 K205 W205 V205
  have Y205 : Ext h0 h205 := own_ext_wr Y204 W205 (Nat.le_of_eq g201.symm)
  refine own_dup K205 d_m3_29 rfl rfl ?_
  refine own_iconst K205 (v := (4 : Int32)) d_m3_30 rfl rfl ?_
  refine own_bipush K205 (v := (60 : Int32)) d_m3_31 rfl rfl ?_
  refine own_castore K205 V205 ⟨by decide, by decide⟩ 4 rfl (by simp) (x' := 60) (by decide) ge d_m3_33 rfl ?_
  intro T206 h206 K206 W206 V206
  have Y206 : Ext h0 h206 := own_ext_wr Y205 W206 (Nat.le_of_eq g201.symm)
  refine own_dup K206 d_m3_34 rfl rfl ?_
  refine own_iconst K206 (v := (5 : Int32)) d_m3_35 rfl rfl ?_
  refine own_bipush K206 (v := (62 : Int32)) d_m3_36 rfl rfl ?_
  refine own_castore K206 V206 ⟨by decide, by decide⟩ 5 rfl (by simp) (x' := 62) (by decide) ge d_m3_38 rfl ?_
  intro T207 h207 K207 W207 V207
  have Y207 : Ext h0 h207 := own_ext_wr Y206 W207 (Nat.le_of_eq g201.symm)
  refine own_dup K207 d_m3_39 rfl rfl ?_
  refine own_bipush K207 (v := (6 : Int32)) d_m3_40 rfl rfl ?_
  refine own_bipush K207 (v := (92 : Int32)) d_m3_42 rfl rfl ?_
  refine own_castore K207 V207 ⟨by decide, by decide⟩ 6 rfl (by simp) (x' := 92) (by decide) ge d_m3_44 rfl ?_
  intro T208 h208 K208 W208 V208
  have Y208 : Ext h0 h208 := own_ext_wr Y207 W208 (Nat.le_of_eq g201.symm)
  refine own_dup K208 d_m3_45 rfl rfl ?_
  refine own_bipush K208 (v := (7 : Int32)) d_m3_46 rfl rfl ?_
  refine own_iconst K208 (v := (0 : Int32)) d_m3_48 rfl rfl ?_
  refine own_castore K208 V208 ⟨by decide, by decide⟩ 7 rfl (by simp) (x' := 0) (by decide) ge d_m3_49 rfl ?_
  intro T209 h209 K209 W209 V209
  have Y209 : Ext h0 h209 := own_ext_wr Y208 W209 (Nat.le_of_eq g201.symm)
  refine own_dup K209 d_m3_50 rfl rfl ?_
  refine own_bipush K209 (v := (8 : Int32)) d_m3_51 rfl rfl ?_
  refine own_bipush K209 (v := (32 : Int32)) d_m3_53 rfl rfl ?_
  refine own_castore K209 V209 ⟨by decide, by decide⟩ 8 rfl (by simp) (x' := 32) (by decide) ge d_m3_55 rfl ?_
  intro T210 h210 K210 W210 V210
  have Y210 : Ext h0 h210 := own_ext_wr Y209 W210 (Nat.le_of_eq g201.symm)
  refine own_dup K210 d_m3_56 rfl rfl ?_
  refine own_bipush K210 (v := (9 : Int32)) d_m3_57 rfl rfl ?_
  refine own_bipush K210 (v := (35 : Int32)) d_m3_59 rfl rfl ?_
  refine own_castore K210 V210 ⟨by decide, by decide⟩ 9 rfl (by simp) (x' := 35) (by decide) ge d_m3_61 rfl ?_
  intro T211 h211 K211 W211 V211
  have Y211 : Ext h0 h211 := own_ext_wr Y210 W211 (Nat.le_of_eq g201.symm)
  refine own_astoreN K211 (Ls' := #[.val (.int x), .val (.int (x &&& (15 : Int32))), .val (.ref a201)]) d_m3_62 rfl rfl rfl ?_
  refine own_iloadN K211 d_m3_63 rfl rfl ?_
  refine own_bipush K211 (v := (10 : Int32)) d_m3_64 rfl rfl ?_
  have VT : Arv Z h211 a201 c201 .char 10 (own_tab.map Value.int) (.int 0) := V211
  by_cases hb : (x &&& (15 : Int32)) < (10 : Int32)
  · skip
    refine own_icmpNo K211 d_m3_66 rfl (tlt hb).2.1 ?_
    obtain ⟨j, hj, ej⟩ := own_and15 x hb
    have hjt : j < own_tab.length := hj
    rw [ej]
    refine own_aloadN K211 d_m3_69 rfl rfl rfl ?_
    refine own_iloadN K211 d_m3_70 rfl rfl ?_
    refine own_caload K211 (x := own_tab[j]) VT ⟨own_nn (by omega), own_lt (n := 10) hj (by decide)⟩ (by rw [own_clamp (by omega)]; simp [hjt]) d_m3_71 rfl ?_
    exact own_retN K211 (z' := own_tab[j]) d_m3_72 rfl (by simp) (own_nar_char (own_tab_chs _ (List.getElem_mem hjt))) (by decide) (by decide) ⟨own_tab[j], rfl, own_tab_chs _ (List.getElem_mem hjt), Y211⟩
  · skip
    refine own_icmpYes K211 d_m3_66 (pc' := 73) (by decide) (by decide) (flt hb).2.1 ?_
    refine own_iloadN K211 d_m3_73 rfl rfl ?_
    refine own_iconst K211 (v := (4 : Int32)) d_m3_74 rfl rfl ?_
    refine own_iushr K211 d_m3_75 rfl ?_
    refine own_i2c K211 d_m3_76 rfl ?_
    exact own_retN K211 (z' := _) d_m3_77 rfl (by simp) (own_nar_i2c _) (by decide) (by decide) ⟨_, rfl, own_i2c_rng _, Y211⟩
theorem d_m5_0 : decode method_5_code 0 = .ok (.iload_n 0, 1) := by decide +kernel
theorem d_m5_1 : decode method_5_code 1 = .ok (.bipush 34, 2) := by decide +kernel
theorem d_m5_3 : decode method_5_code 3 = .ok (.if_icmp .eq 39, 3) := by decide +kernel
theorem d_m5_42 : decode method_5_code 42 = .ok (.iconst 1, 1) := by decide +kernel
theorem d_m5_43 : decode method_5_code 43 = .ok (.goto 4, 3) := by decide +kernel
theorem d_m5_47 : decode method_5_code 47 = .ok (.ireturn, 1) := by decide +kernel
theorem d_m5_6 : decode method_5_code 6 = .ok (.iload_n 0, 1) := by decide +kernel
theorem d_m5_7 : decode method_5_code 7 = .ok (.bipush 43, 2) := by decide +kernel
theorem d_m5_9 : decode method_5_code 9 = .ok (.if_icmp .eq 33, 3) := by decide +kernel
theorem d_m5_12 : decode method_5_code 12 = .ok (.iload_n 0, 1) := by decide +kernel
theorem d_m5_13 : decode method_5_code 13 = .ok (.bipush 44, 2) := by decide +kernel
theorem d_m5_15 : decode method_5_code 15 = .ok (.if_icmp .eq 27, 3) := by decide +kernel
theorem d_m5_18 : decode method_5_code 18 = .ok (.iload_n 0, 1) := by decide +kernel
theorem d_m5_19 : decode method_5_code 19 = .ok (.bipush 59, 2) := by decide +kernel
theorem d_m5_21 : decode method_5_code 21 = .ok (.if_icmp .eq 21, 3) := by decide +kernel
theorem d_m5_24 : decode method_5_code 24 = .ok (.iload_n 0, 1) := by decide +kernel
theorem d_m5_25 : decode method_5_code 25 = .ok (.bipush 60, 2) := by decide +kernel
theorem d_m5_27 : decode method_5_code 27 = .ok (.if_icmp .eq 15, 3) := by decide +kernel
theorem d_m5_30 : decode method_5_code 30 = .ok (.iload_n 0, 1) := by decide +kernel
theorem d_m5_31 : decode method_5_code 31 = .ok (.bipush 62, 2) := by decide +kernel
theorem d_m5_33 : decode method_5_code 33 = .ok (.if_icmp .eq 9, 3) := by decide +kernel
theorem d_m5_36 : decode method_5_code 36 = .ok (.iload_n 0, 1) := by decide +kernel
theorem d_m5_37 : decode method_5_code 37 = .ok (.bipush 92, 2) := by decide +kernel
theorem d_m5_39 : decode method_5_code 39 = .ok (.if_icmp .ne 7, 3) := by decide +kernel
theorem d_m5_46 : decode method_5_code 46 = .ok (.iconst 0, 1) := by decide +kernel
set_option maxRecDepth 65536 in
set_option maxHeartbeats 40000000 in
theorem rm_special {l : Launch} {Z : State} {a0 : Array Value} (hw : ∀ d ∈ tables_1, d.before a0 Z = true) (hs : ∀ d ∈ jdkStatics_1, d.before a0 Z = true) {y : Int32} {h0 : Heap} (O0 : Ext Z.heap h0)  :
    own_Ct l Z (⟨"com/example/reevemark/reevemark/connectors/ldap/LdapEscapeDnValuePinLaw", "special", "(C)Z"⟩ : MethodName) method_5_code 1 (some .boolean) [] ({ frames := 0, locals := 0, cells := 0, slots := 0 } : Room) #[(.int y)] h0 (fun v h => v = some (.int (cond (own_spb y) 1 0)) ∧ h = h0) := by
  refine own_body (Ls := #[.val (.int y)]) (plainFor_of_name pn_com_example_reevemark_reevemark_connectors_ldap_LdapEscapeDnValuePinLaw) (fun m => by first | (simp [entryFrame, mkF, argsToLocals, Value.category]; done) | rfl) O0 ?_
  intro p e s m below meth c T0 G K0
  refine own_iloadN K0 d_m5_0 rfl rfl ?_
  refine own_bipush K0 (v := (34 : Int32)) d_m5_1 rfl rfl ?_
  by_cases hb0 : y = (34 : Int32)
  · skip
    refine own_icmpYes K0 d_m5_3 (pc' := 42) (by decide) (by decide) (teq hb0).1 ?_
    refine own_iconst K0 (v := (1 : Int32)) d_m5_42 rfl rfl ?_
    refine own_goto K0 d_m5_43 (pc' := 47) (by decide) (by decide) ?_
    exact own_retN K0 (z' := (1 : Int32)) d_m5_47 rfl (by simp) (by decide) (by decide) (by decide) ⟨by simp [own_spb, hb0], rfl⟩
  · skip
    refine own_icmpNo K0 d_m5_3 rfl (feq hb0).1 ?_
    refine own_iloadN K0 d_m5_6 rfl rfl ?_
    refine own_bipush K0 (v := (43 : Int32)) d_m5_7 rfl rfl ?_
    by_cases hb1 : y = (43 : Int32)
    · skip
      refine own_icmpYes K0 d_m5_9 (pc' := 42) (by decide) (by decide) (teq hb1).1 ?_
      refine own_iconst K0 (v := (1 : Int32)) d_m5_42 rfl rfl ?_
      refine own_goto K0 d_m5_43 (pc' := 47) (by decide) (by decide) ?_
      exact own_retN K0 (z' := (1 : Int32)) d_m5_47 rfl (by simp) (by decide) (by decide) (by decide) ⟨by simp [own_spb, hb1], rfl⟩
    · skip
      refine own_icmpNo K0 d_m5_9 rfl (feq hb1).1 ?_
      refine own_iloadN K0 d_m5_12 rfl rfl ?_
      refine own_bipush K0 (v := (44 : Int32)) d_m5_13 rfl rfl ?_
      by_cases hb2 : y = (44 : Int32)
      · skip
        refine own_icmpYes K0 d_m5_15 (pc' := 42) (by decide) (by decide) (teq hb2).1 ?_
        refine own_iconst K0 (v := (1 : Int32)) d_m5_42 rfl rfl ?_
        refine own_goto K0 d_m5_43 (pc' := 47) (by decide) (by decide) ?_
        exact own_retN K0 (z' := (1 : Int32)) d_m5_47 rfl (by simp) (by decide) (by decide) (by decide) ⟨by simp [own_spb, hb2], rfl⟩
      · skip
        refine own_icmpNo K0 d_m5_15 rfl (feq hb2).1 ?_
        refine own_iloadN K0 d_m5_18 rfl rfl ?_
        refine own_bipush K0 (v := (59 : Int32)) d_m5_19 rfl rfl ?_
        by_cases hb3 : y = (59 : Int32)
        · skip
          refine own_icmpYes K0 d_m5_21 (pc' := 42) (by decide) (by decide) (teq hb3).1 ?_
          refine own_iconst K0 (v := (1 : Int32)) d_m5_42 rfl rfl ?_
          refine own_goto K0 d_m5_43 (pc' := 47) (by decide) (by decide) ?_
          exact own_retN K0 (z' := (1 : Int32)) d_m5_47 rfl (by simp) (by decide) (by decide) (by decide) ⟨by simp [own_spb, hb3], rfl⟩
        · skip
          refine own_icmpNo K0 d_m5_21 rfl (feq hb3).1 ?_
          refine own_iloadN K0 d_m5_24 rfl rfl ?_
          refine own_bipush K0 (v := (60 : Int32)) d_m5_25 rfl rfl ?_
          by_cases hb4 : y = (60 : Int32)
          · skip
            refine own_icmpYes K0 d_m5_27 (pc' := 42) (by decide) (by decide) (teq hb4).1 ?_
            refine own_iconst K0 (v := (1 : Int32)) d_m5_42 rfl rfl ?_
            refine own_goto K0 d_m5_43 (pc' := 47) (by decide) (by decide) ?_
            exact own_retN K0 (z' := (1 : Int32)) d_m5_47 rfl (by simp) (by decide) (by decide) (by decide) ⟨by simp [own_spb, hb4], rfl⟩
          · skip
            refine own_icmpNo K0 d_m5_27 rfl (feq hb4).1 ?_
            refine own_iloadN K0 d_m5_30 rfl rfl ?_
            refine own_bipush K0 (v := (62 : Int32)) d_m5_31 rfl rfl ?_
            by_cases hb5 : y = (62 : Int32)
            · skip
              refine own_icmpYes K0 d_m5_33 (pc' := 42) (by decide) (by decide) (teq hb5).1 ?_
              refine own_iconst K0 (v := (1 : Int32)) d_m5_42 rfl rfl ?_
              refine own_goto K0 d_m5_43 (pc' := 47) (by decide) (by decide) ?_
              exact own_retN K0 (z' := (1 : Int32)) d_m5_47 rfl (by simp) (by decide) (by decide) (by decide) ⟨by simp [own_spb, hb5], rfl⟩
            · skip
              refine own_icmpNo K0 d_m5_33 rfl (feq hb5).1 ?_
              refine own_iloadN K0 d_m5_36 rfl rfl ?_
              refine own_bipush K0 (v := (92 : Int32)) d_m5_37 rfl rfl ?_
              by_cases hb6 : y = (92 : Int32)
              · skip
                refine own_icmpNo K0 d_m5_39 rfl (teq hb6).2 ?_
                refine own_iconst K0 (v := (1 : Int32)) d_m5_42 rfl rfl ?_
                refine own_goto K0 d_m5_43 (pc' := 47) (by decide) (by decide) ?_
                exact own_retN K0 (z' := (1 : Int32)) d_m5_47 rfl (by simp) (by decide) (by decide) (by decide) ⟨by simp [own_spb, hb6], rfl⟩
              · skip
                refine own_icmpYes K0 d_m5_39 (pc' := 46) (by decide) (by decide) (feq hb6).2 ?_
                refine own_iconst K0 (v := (0 : Int32)) d_m5_46 rfl rfl ?_
                exact own_retN K0 (z' := (0 : Int32)) d_m5_47 rfl (by simp) (by decide) (by decide) (by decide) ⟨by simp [own_spb, hb0, hb1, hb2, hb3, hb4, hb5, hb6], rfl⟩
theorem d_m6_0 : decode method_6_code 0 = .ok (.iload_n 0, 1) := by decide +kernel
theorem d_m6_1 : decode method_6_code 1 = .ok (.invokestatic 40, 3) := by decide +kernel
theorem wd200 {a0 : Array Value} {Z : State} (hw : ∀ d ∈ tables_1, d.before a0 Z = true) : (Jvm.Cond.code ({ cls := "com/example/reevemark/reevemark/connectors/ldap/LdapEscapeDnValuePinLaw", name := "special", desc := "(C)Z" } : Jvm.MethodName) method_5_code (1 : Nat) (Option.some Jvm.ClassFile.FieldType.boolean)).before a0 Z = true := hw _ (List.mem_of_getElem? (i := 200) rfl)
theorem wd2 {a0 : Array Value} {Z : State} (hw : ∀ d ∈ tables_1, d.before a0 Z = true) : (Jvm.Cond.initialized "com/example/reevemark/reevemark/connectors/ldap/LdapEscapeDnValuePinLaw").before a0 Z = true := hw _ (List.mem_of_getElem? (i := 2) rfl)
theorem wd198 {a0 : Array Value} {Z : State} (hw : ∀ d ∈ tables_1, d.before a0 Z = true) : (Jvm.Cond.methodLink "com/example/reevemark/reevemark/connectors/ldap/LdapEscapeDnValuePinLaw" (40 : Nat) ({ cls := "com/example/reevemark/reevemark/connectors/ldap/LdapEscapeDnValuePinLaw", name := "special", desc := "(C)Z" } : Jvm.MethodName)).before a0 Z = true := hw _ (List.mem_of_getElem? (i := 198) rfl)
theorem wd199 {a0 : Array Value} {Z : State} (hw : ∀ d ∈ tables_1, d.before a0 Z = true) : (Jvm.Cond.static ({ cls := "com/example/reevemark/reevemark/connectors/ldap/LdapEscapeDnValuePinLaw", name := "special", desc := "(C)Z" } : Jvm.MethodName)).before a0 Z = true := hw _ (List.mem_of_getElem? (i := 199) rfl)
theorem d_m6_4 : decode method_6_code 4 = .ok (.ifCond .eq 5, 3) := by decide +kernel
theorem d_m6_7 : decode method_6_code 7 = .ok (.iconst 2, 1) := by decide +kernel
theorem d_m6_8 : decode method_6_code 8 = .ok (.ireturn, 1) := by decide +kernel
theorem d_m6_9 : decode method_6_code 9 = .ok (.iload_n 0, 1) := by decide +kernel
theorem d_m6_10 : decode method_6_code 10 = .ok (.ifCond .ne 5, 3) := by decide +kernel
theorem d_m6_13 : decode method_6_code 13 = .ok (.iconst 3, 1) := by decide +kernel
theorem d_m6_14 : decode method_6_code 14 = .ok (.ireturn, 1) := by decide +kernel
theorem d_m6_15 : decode method_6_code 15 = .ok (.iload_n 0, 1) := by decide +kernel
theorem d_m6_16 : decode method_6_code 16 = .ok (.bipush 32, 2) := by decide +kernel
theorem d_m6_18 : decode method_6_code 18 = .ok (.if_icmp .ne 13, 3) := by decide +kernel
theorem d_m6_21 : decode method_6_code 21 = .ok (.iload_n 1, 1) := by decide +kernel
theorem d_m6_22 : decode method_6_code 22 = .ok (.ifCond .ne 7, 3) := by decide +kernel
theorem d_m6_29 : decode method_6_code 29 = .ok (.iconst 2, 1) := by decide +kernel
theorem d_m6_30 : decode method_6_code 30 = .ok (.ireturn, 1) := by decide +kernel
theorem d_m6_25 : decode method_6_code 25 = .ok (.iload_n 2, 1) := by decide +kernel
theorem d_m6_26 : decode method_6_code 26 = .ok (.ifCond .eq 5, 3) := by decide +kernel
theorem d_m6_31 : decode method_6_code 31 = .ok (.iload_n 0, 1) := by decide +kernel
theorem d_m6_32 : decode method_6_code 32 = .ok (.bipush 35, 2) := by decide +kernel
theorem d_m6_34 : decode method_6_code 34 = .ok (.if_icmp .ne 9, 3) := by decide +kernel
theorem d_m6_43 : decode method_6_code 43 = .ok (.iconst 1, 1) := by decide +kernel
theorem d_m6_44 : decode method_6_code 44 = .ok (.ireturn, 1) := by decide +kernel
theorem d_m6_37 : decode method_6_code 37 = .ok (.iload_n 1, 1) := by decide +kernel
theorem d_m6_38 : decode method_6_code 38 = .ok (.ifCond .eq 5, 3) := by decide +kernel
theorem d_m6_41 : decode method_6_code 41 = .ok (.iconst 2, 1) := by decide +kernel
theorem d_m6_42 : decode method_6_code 42 = .ok (.ireturn, 1) := by decide +kernel
set_option maxRecDepth 65536 in
set_option maxHeartbeats 40000000 in
theorem rm_need {l : Launch} {Z : State} {a0 : Array Value} (hw : ∀ d ∈ tables_1, d.before a0 Z = true) (hs : ∀ d ∈ jdkStatics_1, d.before a0 Z = true) {y : Int32} {f : Bool} {g : Bool} {h0 : Heap} (O0 : Ext Z.heap h0)  :
    own_Ct l Z (⟨"com/example/reevemark/reevemark/connectors/ldap/LdapEscapeDnValuePinLaw", "need", "(CZZ)I"⟩ : MethodName) method_6_code 3 (some .int) [] ({ frames := 1, locals := 12, cells := 0, slots := 0 } : Room) #[(.int y), (.int (cond f 1 0)), (.int (cond g 1 0))] h0 (fun v h => v = some (.int (Int32.ofNat (own_dn y f g).length)) ∧ h = h0) := by
  refine own_body (Ls := #[.val (.int y), .val (.int (cond f 1 0)), .val (.int (cond g 1 0))]) (plainFor_of_name pn_com_example_reevemark_reevemark_connectors_ldap_LdapEscapeDnValuePinLaw) (fun m => by first | (simp [entryFrame, mkF, argsToLocals, Value.category]; done) | rfl) O0 ?_
  intro p e s m below meth c T0 G K0
  refine own_iloadN K0 d_m6_0 rfl rfl ?_
  refine own_callS K0 (wd198 hw) (wd199 hw) (rm_special hw hs (y := y) K0.O) (wd200 hw) (wd2 hw) (by decide) (argsL := [(.int y)]) (rest := []) rfl pd_28C29Z rfl rfl (W := 0) rfl (by decide) (by decide) (by decide) (by decide) d_m6_1 rfl ?_
  intro T212 h212 L212 v212 K212 q212
  obtain ⟨rfl, e212⟩ := q212
  have f212 := e212.symm
  subst f212
  show G (T212.setTop (mkF m 4 #[.val (.int y), .val (.int (cond f 1 0)), .val (.int (cond g 1 0))] [(.int (cond (own_spb y) 1 0))]))
  by_cases hp : own_spb y = true
  · skip
    refine own_ifNo K212 d_m6_4 rfl ((if0 _ _).trans (feq (by rw [hp]; decide)).1) ?_
    refine own_iconst K212 (v := (2 : Int32)) d_m6_7 rfl rfl ?_
    exact own_retI K212 d_m6_8 rfl (by decide) (by decide) ⟨by unfold own_dn; rw [if_pos hp]; rfl, rfl⟩
  · skip
    have hpf : own_spb y = false := by simpa using hp
    refine own_ifYes K212 d_m6_4 (pc' := 9) (by decide) (by decide) ((if0 _ _).trans (teq (by rw [hpf]; rfl)).1) ?_
    refine own_iloadN K212 d_m6_9 rfl rfl ?_
    by_cases h0' : y = 0
    · skip
      refine own_ifNo K212 d_m6_10 rfl ((if0 _ _).trans (teq h0').2) ?_
      refine own_iconst K212 (v := (3 : Int32)) d_m6_13 rfl rfl ?_
      exact own_retI K212 d_m6_14 rfl (by decide) (by decide) ⟨by unfold own_dn; rw [if_neg hp, if_pos h0']; rfl, rfl⟩
    · skip
      refine own_ifYes K212 d_m6_10 (pc' := 15) (by decide) (by decide) ((if0 _ _).trans (feq h0').2) ?_
      refine own_iloadN K212 d_m6_15 rfl rfl ?_
      refine own_bipush K212 (v := (32 : Int32)) d_m6_16 rfl rfl ?_
      by_cases h32 : y = 32
      · skip
        refine own_icmpNo K212 d_m6_18 rfl (teq h32).2 ?_
        refine own_iloadN K212 d_m6_21 rfl rfl ?_
        cases f with
        | false =>
          refine own_ifNo K212 d_m6_22 rfl ((if0 _ _).trans (teq rfl).2) ?_
          refine own_iloadN K212 d_m6_25 rfl rfl ?_
          cases g with
          | false =>
            refine own_ifYes K212 d_m6_26 (pc' := 31) (by decide) (by decide) ((if0 _ _).trans (teq rfl).1) ?_
            refine own_iloadN K212 d_m6_31 rfl rfl ?_
            refine own_bipush K212 (v := (35 : Int32)) d_m6_32 rfl rfl ?_
            refine own_icmpYes K212 d_m6_34 (pc' := 43) (by decide) (by decide) (feq (by rw [h32]; decide)).2 ?_
            refine own_iconst K212 (v := (1 : Int32)) d_m6_43 rfl rfl ?_
            exact own_retI K212 d_m6_44 rfl (by decide) (by decide) ⟨by unfold own_dn; rw [if_neg hp, if_neg h0', if_neg (by simp), if_neg (by simp)]; rfl, rfl⟩
          | true =>
            refine own_ifNo K212 d_m6_26 rfl ((if0 _ _).trans (feq (by decide)).1) ?_
            refine own_iconst K212 (v := (2 : Int32)) d_m6_29 rfl rfl ?_
            exact own_retI K212 d_m6_30 rfl (by decide) (by decide) ⟨by unfold own_dn; rw [if_neg hp, if_neg h0', if_pos ⟨h32, rfl⟩]; rfl, rfl⟩
        | true =>
          refine own_ifYes K212 d_m6_22 (pc' := 29) (by decide) (by decide) ((if0 _ _).trans (feq (by decide)).2) ?_
          refine own_iconst K212 (v := (2 : Int32)) d_m6_29 rfl rfl ?_
          exact own_retI K212 d_m6_30 rfl (by decide) (by decide) ⟨by unfold own_dn; rw [if_neg hp, if_neg h0', if_pos ⟨h32, rfl⟩]; rfl, rfl⟩
      · skip
        refine own_icmpYes K212 d_m6_18 (pc' := 31) (by decide) (by decide) (feq h32).2 ?_
        refine own_iloadN K212 d_m6_31 rfl rfl ?_
        refine own_bipush K212 (v := (35 : Int32)) d_m6_32 rfl rfl ?_
        by_cases h35 : y = 35
        · skip
          refine own_icmpNo K212 d_m6_34 rfl (teq h35).2 ?_
          refine own_iloadN K212 d_m6_37 rfl rfl ?_
          cases f with
          | false =>
            refine own_ifYes K212 d_m6_38 (pc' := 43) (by decide) (by decide) ((if0 _ _).trans (teq rfl).1) ?_
            refine own_iconst K212 (v := (1 : Int32)) d_m6_43 rfl rfl ?_
            exact own_retI K212 d_m6_44 rfl (by decide) (by decide) ⟨by unfold own_dn; rw [if_neg hp, if_neg h0', if_neg (fun q => h32 q.1), if_neg (by simp)]; rfl, rfl⟩
          | true =>
            refine own_ifNo K212 d_m6_38 rfl ((if0 _ _).trans (feq (by decide)).1) ?_
            refine own_iconst K212 (v := (2 : Int32)) d_m6_41 rfl rfl ?_
            exact own_retI K212 d_m6_42 rfl (by decide) (by decide) ⟨by unfold own_dn; rw [if_neg hp, if_neg h0', if_neg (fun q => h32 q.1), if_pos ⟨h35, rfl⟩]; rfl, rfl⟩
        · skip
          refine own_icmpYes K212 d_m6_34 (pc' := 43) (by decide) (by decide) (feq h35).2 ?_
          refine own_iconst K212 (v := (1 : Int32)) d_m6_43 rfl rfl ?_
          exact own_retI K212 d_m6_44 rfl (by decide) (by decide) ⟨by unfold own_dn; rw [if_neg hp, if_neg h0', if_neg (fun q => h32 q.1), if_neg (fun q => h35 q.1)]; rfl, rfl⟩
theorem own_at0 (pre d post : List Int32) (c : Int32) : (pre ++ (c :: d) ++ post)[pre.length]? = some c := by simp
theorem own_at1 (pre d post : List Int32) (b c : Int32) : (pre ++ (b :: c :: d) ++ post)[pre.length + 1]? = some c := by
  rw [List.append_assoc, List.getElem?_append_right (by omega), Nat.add_sub_cancel_left]; rfl
theorem own_at2 (pre d post : List Int32) (a b c : Int32) : (pre ++ (a :: b :: c :: d) ++ post)[pre.length + 2]? = some c := by
  rw [List.append_assoc, List.getElem?_append_right (by omega), Nat.add_sub_cancel_left]; rfl
theorem d_m7_0 : decode method_7_code 0 = .ok (.iload_n 2, 1) := by decide +kernel
theorem d_m7_1 : decode method_7_code 1 = .ok (.iload_n 3, 1) := by decide +kernel
theorem d_m7_2 : decode method_7_code 2 = .ok (.iload 4, 2) := by decide +kernel
theorem d_m7_4 : decode method_7_code 4 = .ok (.invokestatic 27, 3) := by decide +kernel
theorem wd197 {a0 : Array Value} {Z : State} (hw : ∀ d ∈ tables_1, d.before a0 Z = true) : (Jvm.Cond.code ({ cls := "com/example/reevemark/reevemark/connectors/ldap/LdapEscapeDnValuePinLaw", name := "need", desc := "(CZZ)I" } : Jvm.MethodName) method_6_code (3 : Nat) (Option.some Jvm.ClassFile.FieldType.int)).before a0 Z = true := hw _ (List.mem_of_getElem? (i := 197) rfl)
theorem pd_28CZZ29I : parseMethodDescriptor "(CZZ)I" = some ⟨[.char, .boolean, .boolean], some .int⟩ := by decide +kernel
theorem wd195 {a0 : Array Value} {Z : State} (hw : ∀ d ∈ tables_1, d.before a0 Z = true) : (Jvm.Cond.methodLink "com/example/reevemark/reevemark/connectors/ldap/LdapEscapeDnValuePinLaw" (27 : Nat) ({ cls := "com/example/reevemark/reevemark/connectors/ldap/LdapEscapeDnValuePinLaw", name := "need", desc := "(CZZ)I" } : Jvm.MethodName)).before a0 Z = true := hw _ (List.mem_of_getElem? (i := 195) rfl)
theorem wd196 {a0 : Array Value} {Z : State} (hw : ∀ d ∈ tables_1, d.before a0 Z = true) : (Jvm.Cond.static ({ cls := "com/example/reevemark/reevemark/connectors/ldap/LdapEscapeDnValuePinLaw", name := "need", desc := "(CZZ)I" } : Jvm.MethodName)).before a0 Z = true := hw _ (List.mem_of_getElem? (i := 196) rfl)
theorem d_m7_7 : decode method_7_code 7 = .ok (.istore 5, 2) := by decide +kernel
theorem d_m7_9 : decode method_7_code 9 = .ok (.iload_n 1, 1) := by decide +kernel
theorem d_m7_10 : decode method_7_code 10 = .ok (.iload 5, 2) := by decide +kernel
theorem d_m7_12 : decode method_7_code 12 = .ok (.iadd, 1) := by decide +kernel
theorem d_m7_13 : decode method_7_code 13 = .ok (.aload_n 0, 1) := by decide +kernel
theorem d_m7_14 : decode method_7_code 14 = .ok (.invokevirtual 31, 3) := by decide +kernel
theorem wd113 {a0 : Array Value} {Z : State} (hw : ∀ d ∈ tables_1, d.before a0 Z = true) : (Jvm.Cond.methodLink "com/example/reevemark/reevemark/connectors/ldap/LdapEscapeDnValuePinLaw" (31 : Nat) ({ cls := "java/lang/String", name := "length", desc := "()I" } : Jvm.MethodName)).before a0 Z = true := hw _ (List.mem_of_getElem? (i := 113) rfl)
theorem d_m7_17 : decode method_7_code 17 = .ok (.if_icmp .le 5, 3) := by decide +kernel
theorem d_m7_22 : decode method_7_code 22 = .ok (.iload 5, 2) := by decide +kernel
theorem d_m7_24 : decode method_7_code 24 = .ok (.iconst 1, 1) := by decide +kernel
theorem d_m7_25 : decode method_7_code 25 = .ok (.if_icmp .ne 18, 3) := by decide +kernel
theorem d_m7_28 : decode method_7_code 28 = .ok (.aload_n 0, 1) := by decide +kernel
theorem d_m7_29 : decode method_7_code 29 = .ok (.iload_n 1, 1) := by decide +kernel
theorem d_m7_30 : decode method_7_code 30 = .ok (.invokevirtual 44, 3) := by decide +kernel
theorem wd201 {a0 : Array Value} {Z : State} (hw : ∀ d ∈ tables_1, d.before a0 Z = true) : (Jvm.Cond.methodLink "com/example/reevemark/reevemark/connectors/ldap/LdapEscapeDnValuePinLaw" (44 : Nat) ({ cls := "java/lang/String", name := "charAt", desc := "(I)C" } : Jvm.MethodName)).before a0 Z = true := hw _ (List.mem_of_getElem? (i := 201) rfl)
theorem d_m7_33 : decode method_7_code 33 = .ok (.iload_n 2, 1) := by decide +kernel
theorem d_m7_34 : decode method_7_code 34 = .ok (.if_icmp .ne 7, 3) := by decide +kernel
theorem d_m7_37 : decode method_7_code 37 = .ok (.iconst 1, 1) := by decide +kernel
theorem d_m7_38 : decode method_7_code 38 = .ok (.goto 4, 3) := by decide +kernel
theorem d_m7_42 : decode method_7_code 42 = .ok (.ireturn, 1) := by decide +kernel
theorem d_m7_43 : decode method_7_code 43 = .ok (.iload 5, 2) := by decide +kernel
theorem d_m7_45 : decode method_7_code 45 = .ok (.iconst 2, 1) := by decide +kernel
theorem d_m7_46 : decode method_7_code 46 = .ok (.if_icmp .ne 30, 3) := by decide +kernel
theorem d_m7_49 : decode method_7_code 49 = .ok (.aload_n 0, 1) := by decide +kernel
theorem d_m7_50 : decode method_7_code 50 = .ok (.iload_n 1, 1) := by decide +kernel
theorem d_m7_51 : decode method_7_code 51 = .ok (.invokevirtual 44, 3) := by decide +kernel
theorem d_m7_54 : decode method_7_code 54 = .ok (.bipush 92, 2) := by decide +kernel
theorem d_m7_56 : decode method_7_code 56 = .ok (.if_icmp .ne 18, 3) := by decide +kernel
theorem d_m7_59 : decode method_7_code 59 = .ok (.aload_n 0, 1) := by decide +kernel
theorem d_m7_60 : decode method_7_code 60 = .ok (.iload_n 1, 1) := by decide +kernel
theorem d_m7_61 : decode method_7_code 61 = .ok (.iconst 1, 1) := by decide +kernel
theorem d_m7_62 : decode method_7_code 62 = .ok (.iadd, 1) := by decide +kernel
theorem d_m7_63 : decode method_7_code 63 = .ok (.invokevirtual 44, 3) := by decide +kernel
theorem d_m7_66 : decode method_7_code 66 = .ok (.iload_n 2, 1) := by decide +kernel
theorem d_m7_67 : decode method_7_code 67 = .ok (.if_icmp .ne 7, 3) := by decide +kernel
theorem d_m7_70 : decode method_7_code 70 = .ok (.iconst 1, 1) := by decide +kernel
theorem d_m7_71 : decode method_7_code 71 = .ok (.goto 4, 3) := by decide +kernel
theorem d_m7_75 : decode method_7_code 75 = .ok (.ireturn, 1) := by decide +kernel
theorem d_m7_76 : decode method_7_code 76 = .ok (.aload_n 0, 1) := by decide +kernel
theorem d_m7_77 : decode method_7_code 77 = .ok (.iload_n 1, 1) := by decide +kernel
theorem d_m7_78 : decode method_7_code 78 = .ok (.invokevirtual 44, 3) := by decide +kernel
theorem d_m7_81 : decode method_7_code 81 = .ok (.bipush 92, 2) := by decide +kernel
theorem d_m7_83 : decode method_7_code 83 = .ok (.if_icmp .ne 31, 3) := by decide +kernel
theorem d_m7_86 : decode method_7_code 86 = .ok (.aload_n 0, 1) := by decide +kernel
theorem d_m7_87 : decode method_7_code 87 = .ok (.iload_n 1, 1) := by decide +kernel
theorem d_m7_88 : decode method_7_code 88 = .ok (.iconst 1, 1) := by decide +kernel
theorem d_m7_89 : decode method_7_code 89 = .ok (.iadd, 1) := by decide +kernel
theorem d_m7_90 : decode method_7_code 90 = .ok (.invokevirtual 44, 3) := by decide +kernel
theorem d_m7_93 : decode method_7_code 93 = .ok (.bipush 48, 2) := by decide +kernel
theorem d_m7_95 : decode method_7_code 95 = .ok (.if_icmp .ne 19, 3) := by decide +kernel
theorem d_m7_98 : decode method_7_code 98 = .ok (.aload_n 0, 1) := by decide +kernel
theorem d_m7_99 : decode method_7_code 99 = .ok (.iload_n 1, 1) := by decide +kernel
theorem d_m7_100 : decode method_7_code 100 = .ok (.iconst 2, 1) := by decide +kernel
theorem d_m7_101 : decode method_7_code 101 = .ok (.iadd, 1) := by decide +kernel
theorem d_m7_102 : decode method_7_code 102 = .ok (.invokevirtual 44, 3) := by decide +kernel
theorem d_m7_105 : decode method_7_code 105 = .ok (.bipush 48, 2) := by decide +kernel
theorem d_m7_107 : decode method_7_code 107 = .ok (.if_icmp .ne 7, 3) := by decide +kernel
theorem d_m7_110 : decode method_7_code 110 = .ok (.iconst 1, 1) := by decide +kernel
theorem d_m7_111 : decode method_7_code 111 = .ok (.goto 4, 3) := by decide +kernel
theorem d_m7_115 : decode method_7_code 115 = .ok (.ireturn, 1) := by decide +kernel
set_option maxRecDepth 65536 in
set_option maxHeartbeats 40000000 in
theorem rm_part {l : Launch} {Z : State} {a0 : Array Value} (hw : ∀ d ∈ tables_1, d.before a0 Z = true) (hs : ∀ d ∈ jdkStatics_1, d.before a0 Z = true) {r : Addr} {u : Bool} {pr : List Int32} {po : List Int32} {y : Int32} {f : Bool} {g : Bool} {h0 : Heap} (O0 : Ext Z.heap h0) (S : own_StrG Z h0 r u (pr ++ own_dn y f g ++ po)) (hlen : (pr ++ own_dn y f g ++ po).length ≤ 4000) (hok : own_ok u (pr ++ own_dn y f g ++ po)) :
    own_Ct l Z (⟨"com/example/reevemark/reevemark/connectors/ldap/LdapEscapeDnValuePinLaw", "part", "(Ljava/lang/String;ICZZ)Z"⟩ : MethodName) method_7_code 6 (some .boolean) [] ({ frames := 5, locals := 66, cells := 0, slots := 0 } : Room) #[(.ref r), (.int (Int32.ofNat pr.length)), (.int y), (.int (cond f 1 0)), (.int (cond g 1 0))] h0 (fun v h => v = some (.int 1) ∧ h = h0) := by
  refine own_body (Ls := #[.val (.ref r), .val (.int (Int32.ofNat pr.length)), .val (.int y), .val (.int (cond f 1 0)), .val (.int (cond g 1 0)), .unset]) (plainFor_of_name pn_com_example_reevemark_reevemark_connectors_ldap_LdapEscapeDnValuePinLaw) (fun m => by first | (simp [entryFrame, mkF, argsToLocals, Value.category]; done) | rfl) O0 ?_
  intro p e s m below meth c T0 G K0
  refine own_iloadN K0 d_m7_0 rfl rfl ?_
  refine own_iloadN K0 d_m7_1 rfl rfl ?_
  refine own_iload K0 d_m7_2 rfl rfl ?_
  refine own_callS K0 (wd195 hw) (wd196 hw) (rm_need hw hs (y := y) (f := f) (g := g) K0.O) (wd197 hw) (wd2 hw) (by decide) (argsL := [(.int y), (.int (cond f 1 0)), (.int (cond g 1 0))]) (rest := []) rfl pd_28CZZ29I rfl rfl (W := 0) rfl (by decide) (by decide) (by decide) (by decide) d_m7_4 rfl ?_
  intro T213 h213 L213 v213 K213 q213
  obtain ⟨rfl, e213⟩ := q213
  have f213 := e213.symm
  subst f213
  show G (T213.setTop (mkF m 7 #[.val (.ref r), .val (.int (Int32.ofNat pr.length)), .val (.int y), .val (.int (cond f 1 0)), .val (.int (cond g 1 0)), .unset] [(.int (Int32.ofNat (own_dn y f g).length))]))
  refine own_istore K213 (Ls' := #[.val (.ref r), .val (.int (Int32.ofNat pr.length)), .val (.int y), .val (.int (cond f 1 0)), .val (.int (cond g 1 0)), .val (.int (Int32.ofNat (own_dn y f g).length))]) d_m7_7 rfl rfl ?_
  refine own_iloadN K213 d_m7_9 rfl rfl ?_
  refine own_iload K213 d_m7_10 rfl rfl ?_
  refine own_iadd K213 d_m7_12 rfl ?_
  refine own_aloadN K213 d_m7_13 rfl rfl rfl ?_
  refine own_callV K213 (a := r) (x0 := (⟨"java/lang/String", "length", "()I"⟩ : MethodName)) (wd113 hw) (wd37 hw) (fun q => own_nfS (args := #[]) (mvT q (wd39 hw)) rfl) (wd39 hw) (wd38 hw) (rm_lengthS hw hs K213.O S hlen) (wd40 hw) (wd10 hw) (by decide) S.exa (argsL := []) (rest := [(.int ((Int32.ofNat pr.length) + (Int32.ofNat (own_dn y f g).length)))]) rfl pd_2829I rfl rfl (W := 1) rfl (by decide) (by decide) (by decide) (by decide) d_m7_14 rfl ?_
  intro T214 h214 L214 v214 K214 q214
  obtain ⟨rfl, e214⟩ := q214
  have f214 := e214.symm
  subst f214
  show G (T214.setTop (mkF m 17 #[.val (.ref r), .val (.int (Int32.ofNat pr.length)), .val (.int y), .val (.int (cond f 1 0)), .val (.int (cond g 1 0)), .val (.int (Int32.ofNat (own_dn y f g).length))] [(.int (Int32.ofNat (pr ++ own_dn y f g ++ po).length)), (.int ((Int32.ofNat pr.length) + (Int32.ofNat (own_dn y f g).length)))]))
  refine own_icmpYes K214 d_m7_17 (pc' := 22) (by decide) (by decide) (flt (by rw [own_addN]; exact own_nlt (by simp only [List.length_append]; omega) (by omega))).2.2.2 ?_
  rcases own_dn_cases y f g with hd | hd | hd
  · skip
    rw [hd] at S hlen hok
    rw [hd]
    refine own_iload K214 d_m7_22 rfl rfl ?_
    refine own_iconst K214 (v := (1 : Int32)) d_m7_24 rfl rfl ?_
    refine own_icmpNo K214 d_m7_25 rfl (teq rfl).2 ?_
    refine own_aloadN K214 d_m7_28 rfl rfl rfl ?_
    refine own_iloadN K214 d_m7_29 rfl rfl ?_
    refine own_callV K214 (a := r) (x0 := (⟨"java/lang/String", "charAt", "(I)C"⟩ : MethodName)) (wd201 hw) (wd125 hw) (fun q => own_nfS (args := #[]) (mvT q (wd39 hw)) rfl) (wd127 hw) (wd126 hw) (rm_charAtE hw hs (y := y) (i := pr.length) K214.O S hlen hok (own_at0 pr [] po y)) (wd128 hw) (wd10 hw) (by decide) S.exa (argsL := [(.int (Int32.ofNat pr.length))]) (rest := []) rfl pd_28I29C rfl rfl (W := 0) rfl (by decide) (by decide) (by decide) (by decide) d_m7_30 rfl ?_
    intro T215 h215 L215 v215 K215 q215
    obtain ⟨rfl, e215⟩ := q215
    have f215 := e215.symm
    subst f215
    show G (T215.setTop (mkF m 33 #[.val (.ref r), .val (.int (Int32.ofNat pr.length)), .val (.int y), .val (.int (cond f 1 0)), .val (.int (cond g 1 0)), .val (.int (Int32.ofNat ([y] : List Int32).length))] [(.int y)]))
    refine own_iloadN K215 d_m7_33 rfl rfl ?_
    refine own_icmpNo K215 d_m7_34 rfl (teq rfl).2 ?_
    refine own_iconst K215 (v := (1 : Int32)) d_m7_37 rfl rfl ?_
    refine own_goto K215 d_m7_38 (pc' := 42) (by decide) (by decide) ?_
    exact own_retN K215 (z' := (1 : Int32)) d_m7_42 rfl (by simp) (by decide) (by decide) (by decide) ⟨rfl, rfl⟩
  · skip
    rw [hd] at S hlen hok
    rw [hd]
    refine own_iload K214 d_m7_22 rfl rfl ?_
    refine own_iconst K214 (v := (1 : Int32)) d_m7_24 rfl rfl ?_
    refine own_icmpYes K214 d_m7_25 (pc' := 43) (by decide) (by decide) (feq (show ¬ (2 : Int32) = 1 by decide)).2 ?_
    refine own_iload K214 d_m7_43 rfl rfl ?_
    refine own_iconst K214 (v := (2 : Int32)) d_m7_45 rfl rfl ?_
    refine own_icmpNo K214 d_m7_46 rfl (teq rfl).2 ?_
    refine own_aloadN K214 d_m7_49 rfl rfl rfl ?_
    refine own_iloadN K214 d_m7_50 rfl rfl ?_
    refine own_callV K214 (a := r) (x0 := (⟨"java/lang/String", "charAt", "(I)C"⟩ : MethodName)) (wd201 hw) (wd125 hw) (fun q => own_nfS (args := #[]) (mvT q (wd39 hw)) rfl) (wd127 hw) (wd126 hw) (rm_charAtE hw hs (y := (92 : Int32)) (i := pr.length) K214.O S hlen hok (own_at0 pr [y] po (92 : Int32))) (wd128 hw) (wd10 hw) (by decide) S.exa (argsL := [(.int (Int32.ofNat pr.length))]) (rest := []) rfl pd_28I29C rfl rfl (W := 0) rfl (by decide) (by decide) (by decide) (by decide) d_m7_51 rfl ?_
    intro T216 h216 L216 v216 K216 q216
    obtain ⟨rfl, e216⟩ := q216
    have f216 := e216.symm
    subst f216
    show G (T216.setTop (mkF m 54 #[.val (.ref r), .val (.int (Int32.ofNat pr.length)), .val (.int y), .val (.int (cond f 1 0)), .val (.int (cond g 1 0)), .val (.int (Int32.ofNat ([(92 : Int32), y] : List Int32).length))] [(.int (92 : Int32))]))
    refine own_bipush K216 (v := (92 : Int32)) d_m7_54 rfl rfl ?_
    refine own_icmpNo K216 d_m7_56 rfl (teq rfl).2 ?_
    refine own_aloadN K216 d_m7_59 rfl rfl rfl ?_
    refine own_iloadN K216 d_m7_60 rfl rfl ?_
    refine own_iconst K216 (v := (1 : Int32)) d_m7_61 rfl rfl ?_
    refine own_iadd K216 d_m7_62 rfl ?_
    rw [own_one]
    refine own_callV K216 (a := r) (x0 := (⟨"java/lang/String", "charAt", "(I)C"⟩ : MethodName)) (wd201 hw) (wd125 hw) (fun q => own_nfS (args := #[]) (mvT q (wd39 hw)) rfl) (wd127 hw) (wd126 hw) (rm_charAtE hw hs (y := y) (i := pr.length + 1) K216.O S hlen hok (own_at1 pr [] po (92 : Int32) y)) (wd128 hw) (wd10 hw) (by decide) S.exa (argsL := [(.int (Int32.ofNat (pr.length + 1)))]) (rest := []) rfl pd_28I29C rfl rfl (W := 0) rfl (by decide) (by decide) (by decide) (by decide) d_m7_63 rfl ?_
    intro T217 h217 L217 v217 K217 q217
    obtain ⟨rfl, e217⟩ := q217
    have f217 := e217.symm
    subst f217
    show G (T217.setTop (mkF m 66 #[.val (.ref r), .val (.int (Int32.ofNat pr.length)), .val (.int y), .val (.int (cond f 1 0)), .val (.int (cond g 1 0)), .val (.int (Int32.ofNat ([(92 : Int32), y] : List Int32).length))] [(.int y)]))
    refine own_iloadN K217 d_m7_66 rfl rfl ?_
    refine own_icmpNo K217 d_m7_67 rfl (teq rfl).2 ?_
    refine own_iconst K217 (v := (1 : Int32)) d_m7_70 rfl rfl ?_
    refine own_goto K217 d_m7_71 (pc' := 75) (by decide) (by decide) ?_
    exact own_retN K217 (z' := (1 : Int32)) d_m7_75 rfl (by simp) (by decide) (by decide) (by decide) ⟨rfl, rfl⟩
  · skip
    rw [hd] at S hlen hok
    rw [hd]
    refine own_iload K214 d_m7_22 rfl rfl ?_
    refine own_iconst K214 (v := (1 : Int32)) d_m7_24 rfl rfl ?_
    refine own_icmpYes K214 d_m7_25 (pc' := 43) (by decide) (by decide) (feq (show ¬ (3 : Int32) = 1 by decide)).2 ?_
    refine own_iload K214 d_m7_43 rfl rfl ?_
    refine own_iconst K214 (v := (2 : Int32)) d_m7_45 rfl rfl ?_
    refine own_icmpYes K214 d_m7_46 (pc' := 76) (by decide) (by decide) (feq (show ¬ (3 : Int32) = 2 by decide)).2 ?_
    refine own_aloadN K214 d_m7_76 rfl rfl rfl ?_
    refine own_iloadN K214 d_m7_77 rfl rfl ?_
    refine own_callV K214 (a := r) (x0 := (⟨"java/lang/String", "charAt", "(I)C"⟩ : MethodName)) (wd201 hw) (wd125 hw) (fun q => own_nfS (args := #[]) (mvT q (wd39 hw)) rfl) (wd127 hw) (wd126 hw) (rm_charAtE hw hs (y := (92 : Int32)) (i := pr.length) K214.O S hlen hok (own_at0 pr [(48 : Int32), (48 : Int32)] po (92 : Int32))) (wd128 hw) (wd10 hw) (by decide) S.exa (argsL := [(.int (Int32.ofNat pr.length))]) (rest := []) rfl pd_28I29C rfl rfl (W := 0) rfl (by decide) (by decide) (by decide) (by decide) d_m7_78 rfl ?_
    intro T218 h218 L218 v218 K218 q218
    obtain ⟨rfl, e218⟩ := q218
    have f218 := e218.symm
    subst f218
    show G (T218.setTop (mkF m 81 #[.val (.ref r), .val (.int (Int32.ofNat pr.length)), .val (.int y), .val (.int (cond f 1 0)), .val (.int (cond g 1 0)), .val (.int (Int32.ofNat ([(92 : Int32), (48 : Int32), (48 : Int32)] : List Int32).length))] [(.int (92 : Int32))]))
    refine own_bipush K218 (v := (92 : Int32)) d_m7_81 rfl rfl ?_
    refine own_icmpNo K218 d_m7_83 rfl (teq rfl).2 ?_
    refine own_aloadN K218 d_m7_86 rfl rfl rfl ?_
    refine own_iloadN K218 d_m7_87 rfl rfl ?_
    refine own_iconst K218 (v := (1 : Int32)) d_m7_88 rfl rfl ?_
    refine own_iadd K218 d_m7_89 rfl ?_
    rw [own_one]
    refine own_callV K218 (a := r) (x0 := (⟨"java/lang/String", "charAt", "(I)C"⟩ : MethodName)) (wd201 hw) (wd125 hw) (fun q => own_nfS (args := #[]) (mvT q (wd39 hw)) rfl) (wd127 hw) (wd126 hw) (rm_charAtE hw hs (y := (48 : Int32)) (i := pr.length + 1) K218.O S hlen hok (own_at1 pr [(48 : Int32)] po (92 : Int32) (48 : Int32))) (wd128 hw) (wd10 hw) (by decide) S.exa (argsL := [(.int (Int32.ofNat (pr.length + 1)))]) (rest := []) rfl pd_28I29C rfl rfl (W := 0) rfl (by decide) (by decide) (by decide) (by decide) d_m7_90 rfl ?_
    intro T219 h219 L219 v219 K219 q219
    obtain ⟨rfl, e219⟩ := q219
    have f219 := e219.symm
    subst f219
    show G (T219.setTop (mkF m 93 #[.val (.ref r), .val (.int (Int32.ofNat pr.length)), .val (.int y), .val (.int (cond f 1 0)), .val (.int (cond g 1 0)), .val (.int (Int32.ofNat ([(92 : Int32), (48 : Int32), (48 : Int32)] : List Int32).length))] [(.int (48 : Int32))]))
    refine own_bipush K219 (v := (48 : Int32)) d_m7_93 rfl rfl ?_
    refine own_icmpNo K219 d_m7_95 rfl (teq rfl).2 ?_
    refine own_aloadN K219 d_m7_98 rfl rfl rfl ?_
    refine own_iloadN K219 d_m7_99 rfl rfl ?_
    refine own_iconst K219 (v := (2 : Int32)) d_m7_100 rfl rfl ?_
    refine own_iadd K219 d_m7_101 rfl ?_
    rw [own_add2]
    refine own_callV K219 (a := r) (x0 := (⟨"java/lang/String", "charAt", "(I)C"⟩ : MethodName)) (wd201 hw) (wd125 hw) (fun q => own_nfS (args := #[]) (mvT q (wd39 hw)) rfl) (wd127 hw) (wd126 hw) (rm_charAtE hw hs (y := (48 : Int32)) (i := pr.length + 2) K219.O S hlen hok (own_at2 pr [] po (92 : Int32) (48 : Int32) (48 : Int32))) (wd128 hw) (wd10 hw) (by decide) S.exa (argsL := [(.int (Int32.ofNat (pr.length + 2)))]) (rest := []) rfl pd_28I29C rfl rfl (W := 0) rfl (by decide) (by decide) (by decide) (by decide) d_m7_102 rfl ?_
    intro T220 h220 L220 v220 K220 q220
    obtain ⟨rfl, e220⟩ := q220
    have f220 := e220.symm
    subst f220
    show G (T220.setTop (mkF m 105 #[.val (.ref r), .val (.int (Int32.ofNat pr.length)), .val (.int y), .val (.int (cond f 1 0)), .val (.int (cond g 1 0)), .val (.int (Int32.ofNat ([(92 : Int32), (48 : Int32), (48 : Int32)] : List Int32).length))] [(.int (48 : Int32))]))
    refine own_bipush K220 (v := (48 : Int32)) d_m7_105 rfl rfl ?_
    refine own_icmpNo K220 d_m7_107 rfl (teq rfl).2 ?_
    refine own_iconst K220 (v := (1 : Int32)) d_m7_110 rfl rfl ?_
    refine own_goto K220 d_m7_111 (pc' := 115) (by decide) (by decide) ?_
    exact own_retN K220 (z' := (1 : Int32)) d_m7_115 rfl (by simp) (by decide) (by decide) (by decide) ⟨rfl, rfl⟩
theorem d_jdk_52_m21_3 : decode jdk_52_method_21_code 3 = .ok (.iload 5, 2) := by decide +kernel
theorem d_jdk_52_m21_5 : decode jdk_52_method_21_code 5 = .ok (.iload 4, 2) := by decide +kernel
theorem d_jdk_52_m21_7 : decode jdk_52_method_21_code 7 = .ok (.if_icmp .ge 37, 3) := by decide +kernel
theorem d_jdk_52_m21_10 : decode jdk_52_method_21_code 10 = .ok (.aload_n 0, 1) := by decide +kernel
theorem d_jdk_52_m21_11 : decode jdk_52_method_21_code 11 = .ok (.iload_n 1, 1) := by decide +kernel
theorem d_jdk_52_m21_12 : decode jdk_52_method_21_code 12 = .ok (.caload, 1) := by decide +kernel
theorem d_jdk_52_m21_13 : decode jdk_52_method_21_code 13 = .ok (.istore 6, 2) := by decide +kernel
theorem d_jdk_52_m21_15 : decode jdk_52_method_21_code 15 = .ok (.iload 6, 2) := by decide +kernel
theorem d_jdk_52_m21_17 : decode jdk_52_method_21_code 17 = .ok (.sipush 255, 3) := by decide +kernel
theorem d_jdk_52_m21_20 : decode jdk_52_method_21_code 20 = .ok (.if_icmp .le 6, 3) := by decide +kernel
theorem d_jdk_52_m21_26 : decode jdk_52_method_21_code 26 = .ok (.aload_n 2, 1) := by decide +kernel
theorem d_jdk_52_m21_27 : decode jdk_52_method_21_code 27 = .ok (.iload_n 3, 1) := by decide +kernel
theorem d_jdk_52_m21_28 : decode jdk_52_method_21_code 28 = .ok (.iload 6, 2) := by decide +kernel
theorem d_jdk_52_m21_30 : decode jdk_52_method_21_code 30 = .ok (.i2b, 1) := by decide +kernel
theorem d_jdk_52_m21_31 : decode jdk_52_method_21_code 31 = .ok (.bastore, 1) := by decide +kernel
theorem d_jdk_52_m21_32 : decode jdk_52_method_21_code 32 = .ok (.iinc 1 1, 3) := by decide +kernel
theorem d_jdk_52_m21_35 : decode jdk_52_method_21_code 35 = .ok (.iinc 3 1, 3) := by decide +kernel
theorem d_jdk_52_m21_38 : decode jdk_52_method_21_code 38 = .ok (.iinc 5 1, 3) := by decide +kernel
theorem d_jdk_52_m21_41 : decode jdk_52_method_21_code 41 = .ok (.goto (-38), 3) := by decide +kernel
section Lp
variable {p : Program} {l : Launch} {e : Env} {R : Room} {s : State} {m : MethodId} {args : Array Value} {below : List Frame} {meth : Method} {c : Code} {own nm : String} {mx : Nat} {ret : Option FieldType} {Q : Option Value → Heap → Prop} {G : State → Prop} {Z T : State} {L : List Loc} {k n : Nat} {h h0 : Heap} {a0 : Array Value}
set_option maxRecDepth 65536 in
set_option maxHeartbeats 40000000 in
theorem lp_compress5 {a b : Addr} {ka kb : ClassId} {cs : List Int32} (A : Arv Z h0 a ka .char (Int32.ofNat cs.length) (cs.map Value.int) (.int 0)) (hab : a ∉ [b]) (gb : Z.heap.size ≤ b) (hlat : ∀ c ∈ cs, ¬ c < 0 ∧ c < 256) (hlen : cs.length ≤ 4000)
    (ex : ∀ (T' : State) (L' : List Loc) (h' : Heap), own_K p l e R s m args below meth c jdk_52_method_21_code own nm mx ret Q G Z T' L' k n h' → Keep h0 h' [b] → Arv Z h' b kb .byte (Int32.ofNat cs.length) (own_by cs) (.int 0) → ∀ (x1 x3 x5 : Int32) (s6 : Slot), G (T'.setTop (mkF m 44 #[.val (.ref a), .val (.int x1), .val (.ref b), .val (.int x3), .val (.int (Int32.ofNat cs.length)), .val (.int x5), s6] [])))
    (j : Nat) : ∀ (i : Nat), i + j = cs.length → ∀ {T : State} {L : List Loc} {h : Heap} {s6 : Slot}, own_K p l e R s m args below meth c jdk_52_method_21_code own nm mx ret Q G Z T L k n h → Keep h0 h [b] → Arv Z h b kb .byte (Int32.ofNat cs.length) (own_by (cs.take i) ++ List.replicate (cs.length - i) (Value.int 0)) (.int 0) → One s6 → G (T.setTop (mkF m 3 #[.val (.ref a), .val (.int (Int32.ofNat i)), .val (.ref b), .val (.int (Int32.ofNat i)), .val (.int (Int32.ofNat cs.length)), .val (.int (Int32.ofNat i)), s6] [])) := by
  induction j with
  | zero =>
    intro i hij T L h s6 K Kp V hs6
    refine own_iload K d_jdk_52_m21_3 rfl rfl ?_
    refine own_iload K d_jdk_52_m21_5 rfl rfl ?_
    refine own_icmpYes K d_jdk_52_m21_7 (pc' := 44) (by decide) (by decide) (flt (own_nlt (by omega) (by omega))).2.1 ?_
    exact ex _ _ _ K Kp (by rw [List.take_of_length_le (by omega), Nat.sub_eq_zero_of_le (by omega), List.replicate_zero, List.append_nil] at V; exact V) _ _ _ _
  | succ j ih =>
    intro i hij T L h s6 K Kp V hs6
    have hin : i < cs.length := by omega
    refine own_iload K d_jdk_52_m21_3 rfl rfl ?_
    refine own_iload K d_jdk_52_m21_5 rfl rfl ?_
    refine own_icmpNo K d_jdk_52_m21_7 rfl (tlt (own_lt hin (by omega))).2.1 ?_
    refine own_aloadN K d_jdk_52_m21_10 rfl rfl rfl ?_
    refine own_iloadN K d_jdk_52_m21_11 rfl rfl ?_
    refine own_caload K (x := cs[i]) (A.keep Kp hab) ⟨own_nn (by omega), own_lt hin (by omega)⟩ (by rw [own_clamp (by omega)]; simp [hin]) d_jdk_52_m21_12 rfl ?_
    refine own_istore K (Ls' := #[.val (.ref a), .val (.int (Int32.ofNat i)), .val (.ref b), .val (.int (Int32.ofNat i)), .val (.int (Int32.ofNat cs.length)), .val (.int (Int32.ofNat i)), .val (.int cs[i])]) d_jdk_52_m21_13 rfl (XS.store1 rfl hs6 rfl) ?_
    refine own_iload K d_jdk_52_m21_15 rfl rfl ?_
    refine own_sipush K (v := (255 : Int32)) d_jdk_52_m21_17 rfl rfl ?_
    refine own_icmpYes K d_jdk_52_m21_20 (pc' := 26) (by decide) (by decide) (flt (own_n255 (hlat _ (List.getElem_mem hin)))).2.2.2 ?_
    refine own_aloadN K d_jdk_52_m21_26 rfl rfl rfl ?_
    refine own_iloadN K d_jdk_52_m21_27 rfl rfl ?_
    refine own_iload K d_jdk_52_m21_28 rfl rfl ?_
    refine own_i2b K d_jdk_52_m21_30 rfl ?_
    refine own_bastore K V ⟨own_nn (by omega), own_lt hin (by omega)⟩ i (own_clamp (by omega)) (by rw [List.length_append, own_by_len, List.length_take, List.length_replicate]; omega) (x' := (cs[i]).toInt8.toInt32) (own_nar_byte _) gb d_jdk_52_m21_31 rfl ?_
    intro T221 h221 K221 W221 V221
    refine own_iinc K221 (Ls' := #[.val (.ref a), .val (.int ((Int32.ofNat i) + (1 : Int32))), .val (.ref b), .val (.int (Int32.ofNat i)), .val (.int (Int32.ofNat cs.length)), .val (.int (Int32.ofNat i)), .val (.int cs[i])]) (x := (Int32.ofNat i)) (v := (Int32.ofNat i)) d_jdk_52_m21_32 rfl rfl rfl ?_
    refine own_iinc K221 (Ls' := #[.val (.ref a), .val (.int ((Int32.ofNat i) + (1 : Int32))), .val (.ref b), .val (.int ((Int32.ofNat i) + (1 : Int32))), .val (.int (Int32.ofNat cs.length)), .val (.int (Int32.ofNat i)), .val (.int cs[i])]) (x := (Int32.ofNat i)) (v := (Int32.ofNat i)) d_jdk_52_m21_35 rfl rfl rfl ?_
    refine own_iinc K221 (Ls' := #[.val (.ref a), .val (.int ((Int32.ofNat i) + (1 : Int32))), .val (.ref b), .val (.int ((Int32.ofNat i) + (1 : Int32))), .val (.int (Int32.ofNat cs.length)), .val (.int ((Int32.ofNat i) + (1 : Int32))), .val (.int cs[i])]) (x := (Int32.ofNat i)) (v := (Int32.ofNat i)) d_jdk_52_m21_38 rfl rfl rfl ?_
    refine own_goto K221 d_jdk_52_m21_41 (pc' := 3) (by decide) (by decide) ?_
    rw [own_one]
    exact ih (i + 1) (by omega) K221 (Kp.wr W221 (Or.inl (List.mem_singleton.mpr rfl))) (by rw [← own_fill hin]; exact V221) (One.val rfl)
end Lp
theorem d_jdk_52_m21_0 : decode jdk_52_method_21_code 0 = .ok (.iconst 0, 1) := by decide +kernel
theorem d_jdk_52_m21_1 : decode jdk_52_method_21_code 1 = .ok (.istore 5, 2) := by decide +kernel
theorem d_jdk_52_m21_44 : decode jdk_52_method_21_code 44 = .ok (.iload 4, 2) := by decide +kernel
theorem d_jdk_52_m21_46 : decode jdk_52_method_21_code 46 = .ok (.ireturn, 1) := by decide +kernel
set_option maxRecDepth 65536 in
set_option maxHeartbeats 40000000 in
theorem rm_compress5 {l : Launch} {Z : State} {a0 : Array Value} (hw : ∀ d ∈ tables_1, d.before a0 Z = true) (hs : ∀ d ∈ jdkStatics_1, d.before a0 Z = true) {a : Addr} {b : Addr} {ka : ClassId} {kb : ClassId} {cs : List Int32} {h0 : Heap} (O0 : Ext Z.heap h0) (A : Arv Z h0 a ka .char (Int32.ofNat cs.length) (cs.map Value.int) (.int 0)) (B : Arv Z h0 b kb .byte (Int32.ofNat cs.length) (List.replicate cs.length (Value.int 0)) (.int 0)) (hab : a ∉ [b]) (gb : Z.heap.size ≤ b) (hlat : ∀ c ∈ cs, ¬ c < 0 ∧ c < 256) (hlen : cs.length ≤ 4000) :
    own_Ct l Z (⟨"java/lang/StringUTF16", "compress", "([CI[BII)I"⟩ : MethodName) jdk_52_method_21_code 7 (some .int) [] ({ frames := 0, locals := 0, cells := 0, slots := 0 } : Room) #[(.ref a), (.int 0), (.ref b), (.int 0), (.int (Int32.ofNat cs.length))] h0 (fun v h => v = some (.int (Int32.ofNat cs.length)) ∧ Keep h0 h [b] ∧ Arv Z h b kb .byte (Int32.ofNat cs.length) (own_by cs) (.int 0)) := by
  refine own_body (Ls := #[.val (.ref a), .val (.int 0), .val (.ref b), .val (.int 0), .val (.int (Int32.ofNat cs.length)), .unset, .unset]) (plainFor_of_name pn_java_lang_StringUTF16) (fun m => by first | (simp [entryFrame, mkF, argsToLocals, Value.category]; done) | rfl) O0 ?_
  intro p e s m below meth c T0 G K0
  refine own_iconst K0 (v := (0 : Int32)) d_jdk_52_m21_0 rfl rfl ?_
  refine own_istore K0 (Ls' := #[.val (.ref a), .val (.int 0), .val (.ref b), .val (.int 0), .val (.int (Int32.ofNat cs.length)), .val (.int (0 : Int32)), .unset]) d_jdk_52_m21_1 rfl rfl ?_
  refine lp_compress5 A hab gb hlat hlen (fun T1 L1 h1 K1 Kp1 V1 x1 x3 x5 s6 => ?_) cs.length 0 (Nat.zero_add _) K0 (Keep.refl _ _) B One.u
  refine own_iload K1 d_jdk_52_m21_44 rfl rfl ?_
  exact own_retI K1 d_jdk_52_m21_46 rfl (by decide) (by decide) ⟨rfl, Kp1, V1⟩
section Lp
variable {p : Program} {l : Launch} {e : Env} {R : Room} {s : State} {m : MethodId} {args : Array Value} {below : List Frame} {meth : Method} {c : Code} {nm : String} {ret : Option FieldType} {Q : Option Value → Heap → Prop} {G : State → Prop} {Z T : State} {L : List Loc} {k n : Nat} {h h0 : Heap} {a0 : Array Value}
set_option maxRecDepth 65536 in
set_option maxHeartbeats 40000000 in
theorem lp_compress5X (hw : ∀ d ∈ tables_1, d.before a0 Z = true) (hs : ∀ d ∈ jdkStatics_1, d.before a0 Z = true) (hRf : 1 ≤ R.frames) (hRl : 0 ≤ R.locals) (hRc : k ≤ R.cells) (hRs : n ≤ R.slots) {a : Addr} {b : Addr} {ka : ClassId} {kb : ClassId} {cs : List Int32} (A : Arv Z h0 a ka .char (Int32.ofNat cs.length) (cs.map Value.int) (.int 0)) (hab : a ∉ [b]) (gb : Z.heap.size ≤ b) (hok : own_ok true cs) (hlen : cs.length ≤ 4000)
    (ex : ∀ (T' : State) (L' : List Loc) (h' : Heap), own_K p l e R s m args below meth c jdk_52_method_21_code "java/lang/StringUTF16" nm 7 ret Q G Z T' L' k n h' → Keep h0 h' [b] → ∀ (i : Nat) (hi : i < cs.length) (hx : ¬ cs[i] < 256), G (T'.setTop (mkF m 23 #[.val (.ref a), .val (.int (Int32.ofNat i)), .val (.ref b), .val (.int (Int32.ofNat i)), .val (.int (Int32.ofNat cs.length)), .val (.int (Int32.ofNat i)), .val (.int cs[i])] [])))
    (j : Nat) : ∀ (i : Nat), i + j = cs.length → ∀ {T : State} {L : List Loc} {h : Heap} {s6 : Slot}, own_K p l e R s m args below meth c jdk_52_method_21_code "java/lang/StringUTF16" nm 7 ret Q G Z T L k n h → Keep h0 h [b] → Arv Z h b kb .byte (Int32.ofNat cs.length) (own_by (cs.take i) ++ List.replicate (cs.length - i) (Value.int 0)) (.int 0) → (∃ q, ∃ hq : q < cs.length, i ≤ q ∧ ¬ cs[q] < 256) → One s6 → G (T.setTop (mkF m 3 #[.val (.ref a), .val (.int (Int32.ofNat i)), .val (.ref b), .val (.int (Int32.ofNat i)), .val (.int (Int32.ofNat cs.length)), .val (.int (Int32.ofNat i)), s6] [])) := by
  induction j with
  | zero =>
    intro i hij T L h s6 K Kp V hbad hs6
    obtain ⟨q, hq, h1, -⟩ := hbad
    omega
  | succ j ih =>
    intro i hij T L h s6 K Kp V hbad hs6
    have hin : i < cs.length := by omega
    refine own_iload K d_jdk_52_m21_3 rfl rfl ?_
    refine own_iload K d_jdk_52_m21_5 rfl rfl ?_
    refine own_icmpNo K d_jdk_52_m21_7 rfl (tlt (own_lt hin (by omega))).2.1 ?_
    refine own_aloadN K d_jdk_52_m21_10 rfl rfl rfl ?_
    refine own_iloadN K d_jdk_52_m21_11 rfl rfl ?_
    refine own_caload K (x := cs[i]) (A.keep Kp hab) ⟨own_nn (by omega), own_lt hin (by omega)⟩ (by rw [own_clamp (by omega)]; simp [hin]) d_jdk_52_m21_12 rfl ?_
    refine own_istore K (Ls' := #[.val (.ref a), .val (.int (Int32.ofNat i)), .val (.ref b), .val (.int (Int32.ofNat i)), .val (.int (Int32.ofNat cs.length)), .val (.int (Int32.ofNat i)), .val (.int cs[i])]) d_jdk_52_m21_13 rfl (XS.store1 rfl hs6 rfl) ?_
    refine own_iload K d_jdk_52_m21_15 rfl rfl ?_
    refine own_sipush K (v := (255 : Int32)) d_jdk_52_m21_17 rfl rfl ?_
    by_cases hc : cs[i] < 256
    · skip
      refine own_icmpYes K d_jdk_52_m21_20 (pc' := 26) (by decide) (by decide) (flt (own_n255 ⟨(hok _ (List.getElem_mem hin)).1, hc⟩)).2.2.2 ?_
      refine own_aloadN K d_jdk_52_m21_26 rfl rfl rfl ?_
      refine own_iloadN K d_jdk_52_m21_27 rfl rfl ?_
      refine own_iload K d_jdk_52_m21_28 rfl rfl ?_
      refine own_i2b K d_jdk_52_m21_30 rfl ?_
      refine own_bastore K V ⟨own_nn (by omega), own_lt hin (by omega)⟩ i (own_clamp (by omega)) (by rw [List.length_append, own_by_len, List.length_take, List.length_replicate]; omega) (x' := (cs[i]).toInt8.toInt32) (own_nar_byte _) gb d_jdk_52_m21_31 rfl ?_
      intro T222 h222 K222 W222 V222
      refine own_iinc K222 (Ls' := #[.val (.ref a), .val (.int ((Int32.ofNat i) + (1 : Int32))), .val (.ref b), .val (.int (Int32.ofNat i)), .val (.int (Int32.ofNat cs.length)), .val (.int (Int32.ofNat i)), .val (.int cs[i])]) (x := (Int32.ofNat i)) (v := (Int32.ofNat i)) d_jdk_52_m21_32 rfl rfl rfl ?_
      refine own_iinc K222 (Ls' := #[.val (.ref a), .val (.int ((Int32.ofNat i) + (1 : Int32))), .val (.ref b), .val (.int ((Int32.ofNat i) + (1 : Int32))), .val (.int (Int32.ofNat cs.length)), .val (.int (Int32.ofNat i)), .val (.int cs[i])]) (x := (Int32.ofNat i)) (v := (Int32.ofNat i)) d_jdk_52_m21_35 rfl rfl rfl ?_
      refine own_iinc K222 (Ls' := #[.val (.ref a), .val (.int ((Int32.ofNat i) + (1 : Int32))), .val (.ref b), .val (.int ((Int32.ofNat i) + (1 : Int32))), .val (.int (Int32.ofNat cs.length)), .val (.int ((Int32.ofNat i) + (1 : Int32))), .val (.int cs[i])]) (x := (Int32.ofNat i)) (v := (Int32.ofNat i)) d_jdk_52_m21_38 rfl rfl rfl ?_
      refine own_goto K222 d_jdk_52_m21_41 (pc' := 3) (by decide) (by decide) ?_
      rw [own_one]
      exact ih (i + 1) (by omega) K222 (Kp.wr W222 (Or.inl (List.mem_singleton.mpr rfl))) (by rw [← own_fill hin]; exact V222) (by obtain ⟨q, hq, h1, h2⟩ := hbad; exact ⟨q, hq, Nat.lt_of_le_of_ne h1 (fun z => h2 (by subst z; exact hc)), h2⟩) (One.val rfl)
    · skip
      refine own_icmpNo K d_jdk_52_m21_20 rfl (tlt (own_g255 hc)).2.2.2 ?_
      exact ex _ _ _ K Kp i hin hc
end Lp
theorem d_jdk_52_m21_23 : decode jdk_52_method_21_code 23 = .ok (.iload 5, 2) := by decide +kernel
theorem d_jdk_52_m21_25 : decode jdk_52_method_21_code 25 = .ok (.ireturn, 1) := by decide +kernel
set_option maxRecDepth 65536 in
set_option maxHeartbeats 40000000 in
theorem rm_compress5X {l : Launch} {Z : State} {a0 : Array Value} (hw : ∀ d ∈ tables_1, d.before a0 Z = true) (hs : ∀ d ∈ jdkStatics_1, d.before a0 Z = true) {a : Addr} {b : Addr} {ka : ClassId} {kb : ClassId} {cs : List Int32} {h0 : Heap} (O0 : Ext Z.heap h0) (A : Arv Z h0 a ka .char (Int32.ofNat cs.length) (cs.map Value.int) (.int 0)) (B : Arv Z h0 b kb .byte (Int32.ofNat cs.length) (List.replicate cs.length (Value.int 0)) (.int 0)) (hab : a ∉ [b]) (gb : Z.heap.size ≤ b) (hok : own_ok true cs) (hlen : cs.length ≤ 4000) (hbad : ∃ q, ∃ hq : q < cs.length, ¬ cs[q] < 256) :
    own_Ct l Z (⟨"java/lang/StringUTF16", "compress", "([CI[BII)I"⟩ : MethodName) jdk_52_method_21_code 7 (some .int) [] ({ frames := 1, locals := 0, cells := 0, slots := 0 } : Room) #[(.ref a), (.int 0), (.ref b), (.int 0), (.int (Int32.ofNat cs.length))] h0 (fun v h => ∃ i, ∃ hi : i < cs.length, v = some (.int (Int32.ofNat i)) ∧ ¬ cs[i] < 256 ∧ Keep h0 h [b]) := by
  refine own_body (Ls := #[.val (.ref a), .val (.int 0), .val (.ref b), .val (.int 0), .val (.int (Int32.ofNat cs.length)), .unset, .unset]) (plainFor_of_name pn_java_lang_StringUTF16) (fun m => by first | (simp [entryFrame, mkF, argsToLocals, Value.category]; done) | rfl) O0 ?_
  intro p e s m below meth c T0 G K0
  refine own_iconst K0 (v := (0 : Int32)) d_jdk_52_m21_0 rfl rfl ?_
  refine own_istore K0 (Ls' := #[.val (.ref a), .val (.int 0), .val (.ref b), .val (.int 0), .val (.int (Int32.ofNat cs.length)), .val (.int (0 : Int32)), .unset]) d_jdk_52_m21_1 rfl rfl ?_
  refine lp_compress5X hw hs (by first | decide | (dsimp only; omega)) (by first | decide | (dsimp only; omega)) (by first | decide | (dsimp only; omega)) (by first | decide | (dsimp only; omega)) A hab gb hok hlen (fun T1 L1 h1 K1 q1 i hi hx => ?_) cs.length 0 (Nat.zero_add _) K0 (Keep.refl _ _) B (by obtain ⟨q, hq, z⟩ := hbad; exact ⟨q, hq, Nat.zero_le _, z⟩) One.u
  refine own_iload K1 d_jdk_52_m21_23 rfl rfl ?_
  exact own_retI K1 d_jdk_52_m21_25 rfl (by decide) (by decide) ⟨i, hi, rfl, hx, q1⟩
theorem d_jdk_52_m14_8 : decode jdk_52_method_14_code 8 = .ok (.iload 4, 2) := by decide +kernel
theorem d_jdk_52_m14_10 : decode jdk_52_method_14_code 10 = .ok (.iload_n 2, 1) := by decide +kernel
theorem d_jdk_52_m14_11 : decode jdk_52_method_14_code 11 = .ok (.if_icmp .ge 21, 3) := by decide +kernel
theorem d_jdk_52_m14_14 : decode jdk_52_method_14_code 14 = .ok (.aload_n 3, 1) := by decide +kernel
theorem d_jdk_52_m14_15 : decode jdk_52_method_14_code 15 = .ok (.iload 4, 2) := by decide +kernel
theorem d_jdk_52_m14_17 : decode jdk_52_method_14_code 17 = .ok (.aload_n 0, 1) := by decide +kernel
theorem d_jdk_52_m14_18 : decode jdk_52_method_14_code 18 = .ok (.iload_n 1, 1) := by decide +kernel
theorem d_jdk_52_m14_19 : decode jdk_52_method_14_code 19 = .ok (.caload, 1) := by decide +kernel
theorem d_jdk_52_m14_20 : decode jdk_52_method_14_code 20 = .ok (.invokestatic 111, 3) := by decide +kernel
theorem d_jdk_52_m14_23 : decode jdk_52_method_14_code 23 = .ok (.iinc 1 1, 3) := by decide +kernel
theorem d_jdk_52_m14_26 : decode jdk_52_method_14_code 26 = .ok (.iinc 4 1, 3) := by decide +kernel
theorem d_jdk_52_m14_29 : decode jdk_52_method_14_code 29 = .ok (.goto (-21), 3) := by decide +kernel
section Lp
variable {p : Program} {l : Launch} {e : Env} {R : Room} {s : State} {m : MethodId} {args : Array Value} {below : List Frame} {meth : Method} {c : Code} {nm : String} {ret : Option FieldType} {Q : Option Value → Heap → Prop} {G : State → Prop} {Z T : State} {L : List Loc} {k n : Nat} {h h0 : Heap} {a0 : Array Value}
set_option maxRecDepth 65536 in
set_option maxHeartbeats 40000000 in
theorem lp_toBytes (hw : ∀ d ∈ tables_1, d.before a0 Z = true) (hs : ∀ d ∈ jdkStatics_1, d.before a0 Z = true) (hRf : 1 ≤ R.frames) (hRl : 40 ≤ R.locals) (hRc : k ≤ R.cells) (hRs : n ≤ R.slots) {a : Addr} {b : Addr} {ka : ClassId} {kb : ClassId} {cs : List Int32} (A : Arv Z h0 a ka .char (Int32.ofNat cs.length) (cs.map Value.int) (.int 0)) (hab : a ∉ [b]) (gb : Z.heap.size ≤ b) (hlen : cs.length ≤ 4000)
    (ex : ∀ (T' : State) (L' : List Loc) (h' : Heap), own_K p l e R s m args below meth c jdk_52_method_14_code "java/lang/StringUTF16" nm 5 ret Q G Z T' L' k n h' → Keep h0 h' [b] ∧ Arv Z h' b kb .byte (Int32.ofNat (2 * cs.length)) (own_by2 cs) (.int 0) → ∀ (x1 x4 : Int32), G (T'.setTop (mkF m 32 #[.val (.ref a), .val (.int x1), .val (.int (Int32.ofNat cs.length)), .val (.ref b), .val (.int x4)] [])))
    (j : Nat) : ∀ (i : Nat), i + j = cs.length → ∀ {T : State} {L : List Loc} {h : Heap} , own_K p l e R s m args below meth c jdk_52_method_14_code "java/lang/StringUTF16" nm 5 ret Q G Z T L k n h → Keep h0 h [b] → Arv Z h b kb .byte (Int32.ofNat (2 * cs.length)) (own_by2 (cs.take i)) (.int 0) → G (T.setTop (mkF m 8 #[.val (.ref a), .val (.int (Int32.ofNat i)), .val (.int (Int32.ofNat cs.length)), .val (.ref b), .val (.int (Int32.ofNat i))] [])) := by
  induction j with
  | zero =>
    intro i hij T L h  K Kp V 
    refine own_iload K d_jdk_52_m14_8 rfl rfl ?_
    refine own_iloadN K d_jdk_52_m14_10 rfl rfl ?_
    refine own_icmpYes K d_jdk_52_m14_11 (pc' := 32) (by decide) (by decide) (flt (own_nlt (by omega) (by omega))).2.1 ?_
    exact ex _ _ _ K ⟨Kp, by rw [List.take_of_length_le (by omega)] at V; exact V⟩ _ _
  | succ j ih =>
    intro i hij T L h  K Kp V 
    have hin : i < cs.length := by omega
    refine own_iload K d_jdk_52_m14_8 rfl rfl ?_
    refine own_iloadN K d_jdk_52_m14_10 rfl rfl ?_
    refine own_icmpNo K d_jdk_52_m14_11 rfl (tlt (own_lt hin (by omega))).2.1 ?_
    refine own_aloadN K d_jdk_52_m14_14 rfl rfl rfl ?_
    refine own_iload K d_jdk_52_m14_15 rfl rfl ?_
    refine own_aloadN K d_jdk_52_m14_17 rfl rfl rfl ?_
    refine own_iloadN K d_jdk_52_m14_18 rfl rfl ?_
    refine own_caload K (x := cs[i]) (A.keep Kp hab) ⟨own_nn (by omega), own_lt hin (by omega)⟩ (by rw [own_clamp (by omega)]; simp [hin]) d_jdk_52_m14_19 rfl ?_
    have ht : (cs.take i).length = i := by rw [List.length_take]; omega
    rw [show Int32.ofNat i = Int32.ofNat (cs.take i).length by rw [ht]]
    refine own_callS K (wd212 hw) (wd213 hw) (rm_putChar hw hs (y := cs[i]) K.O V ⟨by omega, by omega⟩ gb) (wd214 hw) (wd116 hw) (by decide) (argsL := [(.ref b), (.int (Int32.ofNat (cs.take i).length)), (.int cs[i])]) (rest := []) rfl pd_285bBII29V rfl rfl (W := 0) rfl (by first | decide | (dsimp only; omega)) (by first | decide | (dsimp only; omega)) (by first | decide | (dsimp only; omega)) (by first | decide | (dsimp only; omega)) d_jdk_52_m14_20 rfl ?_
    intro T223 h223 L223 v223 K223 q223
    obtain ⟨rfl, Kq223, Vq223⟩ := q223
    show G (T223.setTop (mkF m 23 #[.val (.ref a), .val (.int (Int32.ofNat (cs.take i).length)), .val (.int (Int32.ofNat cs.length)), .val (.ref b), .val (.int (Int32.ofNat (cs.take i).length))] []))
    refine own_iinc K223 (Ls' := #[.val (.ref a), .val (.int ((Int32.ofNat (cs.take i).length) + (1 : Int32))), .val (.int (Int32.ofNat cs.length)), .val (.ref b), .val (.int (Int32.ofNat (cs.take i).length))]) (x := (Int32.ofNat (cs.take i).length)) (v := (Int32.ofNat (cs.take i).length)) d_jdk_52_m14_23 rfl rfl rfl ?_
    refine own_iinc K223 (Ls' := #[.val (.ref a), .val (.int ((Int32.ofNat (cs.take i).length) + (1 : Int32))), .val (.int (Int32.ofNat cs.length)), .val (.ref b), .val (.int ((Int32.ofNat (cs.take i).length) + (1 : Int32)))]) (x := (Int32.ofNat (cs.take i).length)) (v := (Int32.ofNat (cs.take i).length)) d_jdk_52_m14_26 rfl rfl rfl ?_
    refine own_goto K223 d_jdk_52_m14_29 (pc' := 8) (by decide) (by decide) ?_
    rw [ht, own_one]
    exact ih (i + 1) (by omega) K223 (Kp.trans Kq223 (fun x hx => Or.inl hx)) (by rw [List.take_add_one, List.getElem?_eq_getElem hin]; exact Vq223)
end Lp
theorem d_jdk_52_m14_0 : decode jdk_52_method_14_code 0 = .ok (.iload_n 2, 1) := by decide +kernel
theorem d_jdk_52_m14_1 : decode jdk_52_method_14_code 1 = .ok (.invokestatic 107, 3) := by decide +kernel
theorem wd205 {a0 : Array Value} {Z : State} (hw : ∀ d ∈ tables_1, d.before a0 Z = true) : (Jvm.Cond.methodLink "java/lang/StringUTF16" (107 : Nat) ({ cls := "java/lang/StringUTF16", name := "newBytesFor", desc := "(I)[B" } : Jvm.MethodName)).before a0 Z = true := hw _ (List.mem_of_getElem? (i := 205) rfl)
theorem d_jdk_52_m14_4 : decode jdk_52_method_14_code 4 = .ok (.astore_n 3, 1) := by decide +kernel
theorem d_jdk_52_m14_5 : decode jdk_52_method_14_code 5 = .ok (.iconst 0, 1) := by decide +kernel
theorem d_jdk_52_m14_6 : decode jdk_52_method_14_code 6 = .ok (.istore 4, 2) := by decide +kernel
theorem d_jdk_52_m14_32 : decode jdk_52_method_14_code 32 = .ok (.aload_n 3, 1) := by decide +kernel
theorem d_jdk_52_m14_33 : decode jdk_52_method_14_code 33 = .ok (.areturn, 1) := by decide +kernel
set_option maxRecDepth 65536 in
set_option maxHeartbeats 40000000 in
theorem rm_toBytes {l : Launch} {Z : State} {a0 : Array Value} (hw : ∀ d ∈ tables_1, d.before a0 Z = true) (hs : ∀ d ∈ jdkStatics_1, d.before a0 Z = true) {a : Addr} {ka : ClassId} {cs : List Int32} {cap : Nat} {h0 : Heap} (O0 : Ext Z.heap h0) (A : Arv Z h0 a ka .char (Int32.ofNat cs.length) (cs.map Value.int) (.int 0)) (hlen : cs.length ≤ 4000) (hcap : 2 * cs.length ≤ cap) (hcap2 : cap ≤ 8000) :
    own_Ct l Z (⟨"java/lang/StringUTF16", "toBytes", "([CII)[B"⟩ : MethodName) jdk_52_method_14_code 5 (some (.array .byte)) [] ({ frames := 2, locals := 40, cells := 1, slots := cap } : Room) #[(.ref a), (.int 0), (.int (Int32.ofNat cs.length))] h0 (fun v h => ∃ (b : Addr) (kb : ClassId), v = some (.ref b) ∧ b = h0.size ∧ Ext h0 h ∧ Arv Z h b kb .byte (Int32.ofNat (2 * cs.length)) (own_by2 cs) (.int 0)) := by
  refine own_body (Ls := #[.val (.ref a), .val (.int 0), .val (.int (Int32.ofNat cs.length)), .unset, .unset]) (plainFor_of_name pn_java_lang_StringUTF16) (fun m => by first | (simp [entryFrame, mkF, argsToLocals, Value.category]; done) | rfl) O0 ?_
  intro p e s m below meth c T0 G K0
  refine own_iloadN K0 d_jdk_52_m14_0 rfl rfl ?_
  refine own_callS K0 (wd205 hw) (wd206 hw) (rm_newBytesFor hw hs (cap := cap) K0.O (by omega) hcap (by omega)) (wd207 hw) (wd116 hw) (by decide) (argsL := [(.int (Int32.ofNat cs.length))]) (rest := []) rfl pd_28I295bB rfl rfl (W := 0) rfl (by first | decide | (dsimp only; omega)) (by first | decide | (dsimp only; omega)) (by first | decide | (dsimp only; omega)) (by first | decide | (dsimp only; omega)) d_jdk_52_m14_1 rfl ?_
  intro T224 h224 L224 v224 K224 q224
  obtain ⟨b224, kb224, rfl, gb224, E224, V224, -⟩ := q224
  show G (T224.setTop (mkF m 4 #[.val (.ref a), .val (.int 0), .val (.int (Int32.ofNat cs.length)), .unset, .unset] [(.ref b224)]))
  refine own_astoreN K224 (Ls' := #[.val (.ref a), .val (.int 0), .val (.int (Int32.ofNat cs.length)), .val (.ref b224), .unset]) d_jdk_52_m14_4 rfl rfl rfl ?_
  refine own_iconst K224 (v := (0 : Int32)) d_jdk_52_m14_5 rfl rfl ?_
  refine own_istore K224 (Ls' := #[.val (.ref a), .val (.int 0), .val (.int (Int32.ofNat cs.length)), .val (.ref b224), .val (.int (0 : Int32))]) d_jdk_52_m14_6 rfl rfl ?_
  have gz224 : Z.heap.size ≤ b224 := by rw [gb224]; exact K0.O.1
  have hab224 : a ∉ [b224] := fun q => Nat.ne_of_lt (Nat.lt_of_lt_of_le A.lt (Nat.le_of_eq gb224.symm)) (List.mem_singleton.mp q)
  refine lp_toBytes hw hs (by first | decide | (dsimp only; omega)) (by first | decide | (dsimp only; omega)) (by first | decide | (dsimp only; omega)) (by first | decide | (dsimp only; omega)) (A.ext E224) hab224 gz224 hlen (fun T1 L1 h1 K1 q1 x1 x4 => ?_) cs.length 0 (Nat.zero_add _) K224 (Keep.refl _ _) V224
  refine own_aloadN K1 d_jdk_52_m14_32 rfl rfl rfl ?_
  exact own_retA K1 d_jdk_52_m14_33 rfl rfl rfl rfl (by first | decide | (dsimp only; omega)) (by first | decide | (dsimp only; omega)) ⟨b224, kb224, rfl, gb224, own_ext_keep E224 q1.1 (fun y q => by cases List.mem_singleton.mp q; exact Nat.le_of_eq gb224.symm), q1.2⟩
theorem d_jdk_52_m16_0 : decode jdk_52_method_16_code 0 = .ok (.iload_n 2, 1) := by decide +kernel
theorem d_jdk_52_m16_1 : decode jdk_52_method_16_code 1 = .ok (.newarray .byte, 2) := by decide +kernel
theorem d_jdk_52_m16_3 : decode jdk_52_method_16_code 3 = .ok (.astore_n 3, 1) := by decide +kernel
theorem d_jdk_52_m16_4 : decode jdk_52_method_16_code 4 = .ok (.aload_n 0, 1) := by decide +kernel
theorem d_jdk_52_m16_5 : decode jdk_52_method_16_code 5 = .ok (.iload_n 1, 1) := by decide +kernel
theorem d_jdk_52_m16_6 : decode jdk_52_method_16_code 6 = .ok (.aload_n 3, 1) := by decide +kernel
theorem d_jdk_52_m16_7 : decode jdk_52_method_16_code 7 = .ok (.iconst 0, 1) := by decide +kernel
theorem d_jdk_52_m16_8 : decode jdk_52_method_16_code 8 = .ok (.iload_n 2, 1) := by decide +kernel
theorem d_jdk_52_m16_9 : decode jdk_52_method_16_code 9 = .ok (.invokestatic 115, 3) := by decide +kernel
theorem wd120 {a0 : Array Value} {Z : State} (hw : ∀ d ∈ tables_1, d.before a0 Z = true) : (Jvm.Cond.code ({ cls := "java/lang/StringUTF16", name := "compress", desc := "([CI[BII)I" } : Jvm.MethodName) jdk_52_method_21_code (7 : Nat) (Option.some Jvm.ClassFile.FieldType.int)).before a0 Z = true := hw _ (List.mem_of_getElem? (i := 120) rfl)
theorem pd_285bCI5bBII29I : parseMethodDescriptor "([CI[BII)I" = some ⟨[(.array .char), .int, (.array .byte), .int, .int], some .int⟩ := by decide +kernel
theorem wd118 {a0 : Array Value} {Z : State} (hw : ∀ d ∈ tables_1, d.before a0 Z = true) : (Jvm.Cond.methodLink "java/lang/StringUTF16" (115 : Nat) ({ cls := "java/lang/StringUTF16", name := "compress", desc := "([CI[BII)I" } : Jvm.MethodName)).before a0 Z = true := hw _ (List.mem_of_getElem? (i := 118) rfl)
theorem wd119 {a0 : Array Value} {Z : State} (hw : ∀ d ∈ tables_1, d.before a0 Z = true) : (Jvm.Cond.static ({ cls := "java/lang/StringUTF16", name := "compress", desc := "([CI[BII)I" } : Jvm.MethodName)).before a0 Z = true := hw _ (List.mem_of_getElem? (i := 119) rfl)
theorem d_jdk_52_m16_12 : decode jdk_52_method_16_code 12 = .ok (.istore 4, 2) := by decide +kernel
theorem d_jdk_52_m16_14 : decode jdk_52_method_16_code 14 = .ok (.iload 4, 2) := by decide +kernel
theorem d_jdk_52_m16_16 : decode jdk_52_method_16_code 16 = .ok (.iload_n 2, 1) := by decide +kernel
theorem d_jdk_52_m16_17 : decode jdk_52_method_16_code 17 = .ok (.if_icmp .eq 40, 3) := by decide +kernel
theorem d_jdk_52_m16_57 : decode jdk_52_method_16_code 57 = .ok (.aload_n 3, 1) := by decide +kernel
theorem d_jdk_52_m16_58 : decode jdk_52_method_16_code 58 = .ok (.areturn, 1) := by decide +kernel
theorem d_jdk_52_m16_20 : decode jdk_52_method_16_code 20 = .ok (.aload_n 0, 1) := by decide +kernel
theorem d_jdk_52_m16_21 : decode jdk_52_method_16_code 21 = .ok (.iload_n 1, 1) := by decide +kernel
theorem d_jdk_52_m16_22 : decode jdk_52_method_16_code 22 = .ok (.iload_n 2, 1) := by decide +kernel
theorem d_jdk_52_m16_23 : decode jdk_52_method_16_code 23 = .ok (.invokestatic 119, 3) := by decide +kernel
theorem wd204 {a0 : Array Value} {Z : State} (hw : ∀ d ∈ tables_1, d.before a0 Z = true) : (Jvm.Cond.code ({ cls := "java/lang/StringUTF16", name := "toBytes", desc := "([CII)[B" } : Jvm.MethodName) jdk_52_method_14_code (5 : Nat) (Option.some (Jvm.ClassFile.FieldType.array Jvm.ClassFile.FieldType.byte))).before a0 Z = true := hw _ (List.mem_of_getElem? (i := 204) rfl)
theorem pd_285bCII295bB : parseMethodDescriptor "([CII)[B" = some ⟨[(.array .char), .int, .int], some (.array .byte)⟩ := by decide +kernel
theorem wd202 {a0 : Array Value} {Z : State} (hw : ∀ d ∈ tables_1, d.before a0 Z = true) : (Jvm.Cond.methodLink "java/lang/StringUTF16" (119 : Nat) ({ cls := "java/lang/StringUTF16", name := "toBytes", desc := "([CII)[B" } : Jvm.MethodName)).before a0 Z = true := hw _ (List.mem_of_getElem? (i := 202) rfl)
theorem wd203 {a0 : Array Value} {Z : State} (hw : ∀ d ∈ tables_1, d.before a0 Z = true) : (Jvm.Cond.static ({ cls := "java/lang/StringUTF16", name := "toBytes", desc := "([CII)[B" } : Jvm.MethodName)).before a0 Z = true := hw _ (List.mem_of_getElem? (i := 203) rfl)
theorem d_jdk_52_m16_26 : decode jdk_52_method_16_code 26 = .ok (.astore 5, 2) := by decide +kernel
theorem d_jdk_52_m16_28 : decode jdk_52_method_16_code 28 = .ok (.aload 5, 2) := by decide +kernel
theorem d_jdk_52_m16_30 : decode jdk_52_method_16_code 30 = .ok (.iload 4, 2) := by decide +kernel
theorem d_jdk_52_m16_32 : decode jdk_52_method_16_code 32 = .ok (.invokestatic 71, 3) := by decide +kernel
theorem d_jdk_52_m16_35 : decode jdk_52_method_16_code 35 = .ok (.sipush 255, 3) := by decide +kernel
theorem d_jdk_52_m16_38 : decode jdk_52_method_16_code 38 = .ok (.if_icmp .gt 16, 3) := by decide +kernel
theorem d_jdk_52_m16_54 : decode jdk_52_method_16_code 54 = .ok (.aload 5, 2) := by decide +kernel
theorem d_jdk_52_m16_56 : decode jdk_52_method_16_code 56 = .ok (.areturn, 1) := by decide +kernel
set_option maxRecDepth 65536 in
set_option maxHeartbeats 40000000 in
theorem rm_compress3G {l : Launch} {Z : State} {a0 : Array Value} (hw : ∀ d ∈ tables_1, d.before a0 Z = true) (hs : ∀ d ∈ jdkStatics_1, d.before a0 Z = true) {a : Addr} {ka : ClassId} {u : Bool} {cs : List Int32} {cap : Nat} {h0 : Heap} (O0 : Ext Z.heap h0) (A : Arv Z h0 a ka .char (Int32.ofNat cs.length) (cs.map Value.int) (.int 0)) (hok : own_ok u cs) (hbad : u = true → ∃ q, ∃ hq : q < cs.length, ¬ cs[q] < 256) (hcap : cs.length ≤ cap) (hcap2 : cap ≤ 2000) :
    own_Ct l Z (⟨"java/lang/StringUTF16", "compress", "([CII)[B"⟩ : MethodName) jdk_52_method_16_code 6 (some (.array .byte)) [] ({ frames := 3, locals := 56, cells := 2, slots := 3 * cap } : Room) #[(.ref a), (.int 0), (.int (Int32.ofNat cs.length))] h0 (fun v h => ∃ (b : Addr) (kb : ClassId), v = some (.ref b) ∧ h0.size ≤ b ∧ Ext h0 h ∧ Arv Z h b kb .byte (Int32.ofNat (own_bn u cs.length)) (own_bs u cs) (.int 0)) := by
  refine own_body (Ls := #[.val (.ref a), .val (.int 0), .val (.int (Int32.ofNat cs.length)), .unset, .unset, .unset]) (plainFor_of_name pn_java_lang_StringUTF16) (fun m => by first | (simp [entryFrame, mkF, argsToLocals, Value.category]; done) | rfl) O0 ?_
  intro p e s m below meth c T0 G K0
  refine own_iloadN K0 d_jdk_52_m16_0 rfl rfl ?_
  refine own_newP K0 (aty := .byte) (wd22 hw) d_jdk_52_m16_1 (own_nn (by omega)) (cap := cap) (by rw [own_clamp (by omega)]; exact hcap) (by omega) (by first | decide | (dsimp only; omega)) (by first | decide | (dsimp only; omega)) rfl ?_
  intro T225 h225 a225 c225 K225 g225 E225 V225
  refine own_astoreN K225 (Ls' := #[.val (.ref a), .val (.int 0), .val (.int (Int32.ofNat cs.length)), .val (.ref a225), .unset, .unset]) d_jdk_52_m16_3 rfl rfl rfl ?_
  refine own_aloadN K225 d_jdk_52_m16_4 rfl rfl rfl ?_
  refine own_iloadN K225 d_jdk_52_m16_5 rfl rfl ?_
  refine own_aloadN K225 d_jdk_52_m16_6 rfl rfl rfl ?_
  refine own_iconst K225 (v := (0 : Int32)) d_jdk_52_m16_7 rfl rfl ?_
  refine own_iloadN K225 d_jdk_52_m16_8 rfl rfl ?_
  have gb225 : Z.heap.size ≤ a225 := by rw [g225]; exact K0.O.1
  have hab225 : a ∉ [a225] := fun q => Nat.ne_of_lt (Nat.lt_of_lt_of_le A.lt (Nat.le_of_eq g225.symm)) (List.mem_singleton.mp q)
  cases u with
  | false =>
    refine own_callS K225 (wd118 hw) (wd119 hw) (rm_compress5 hw hs K225.O (A.ext E225) (V225.pad (pad_rep [] _ cs.length)) hab225 gb225 hok (by omega)) (wd120 hw) (wd116 hw) (by decide) (argsL := [(.ref a), (.int 0), (.ref a225), (.int (0 : Int32)), (.int (Int32.ofNat cs.length))]) (rest := []) rfl pd_285bCI5bBII29I rfl rfl (W := 0) rfl (by first | decide | (dsimp only; omega)) (by first | decide | (dsimp only; omega)) (by first | decide | (dsimp only; omega)) (by first | decide | (dsimp only; omega)) d_jdk_52_m16_9 rfl ?_
    intro T226 h226 L226 v226 K226 q226
    obtain ⟨rfl, Kp226, V226⟩ := q226
    show G (T226.setTop (mkF m 12 #[.val (.ref a), .val (.int 0), .val (.int (Int32.ofNat cs.length)), .val (.ref a225), .unset, .unset] [(.int (Int32.ofNat cs.length))]))
    refine own_istore K226 (Ls' := #[.val (.ref a), .val (.int 0), .val (.int (Int32.ofNat cs.length)), .val (.ref a225), .val (.int (Int32.ofNat cs.length)), .unset]) d_jdk_52_m16_12 rfl rfl ?_
    refine own_iload K226 d_jdk_52_m16_14 rfl rfl ?_
    refine own_iloadN K226 d_jdk_52_m16_16 rfl rfl ?_
    refine own_icmpYes K226 d_jdk_52_m16_17 (pc' := 57) (by decide) (by decide) (teq rfl).1 ?_
    refine own_aloadN K226 d_jdk_52_m16_57 rfl rfl rfl ?_
    exact own_retA K226 d_jdk_52_m16_58 rfl rfl rfl rfl (by first | decide | (dsimp only; omega)) (by first | decide | (dsimp only; omega)) ⟨a225, c225, rfl, Nat.le_of_eq g225.symm, own_ext_keep E225 Kp226 (fun y q => by cases List.mem_singleton.mp q; exact Nat.le_of_eq g225.symm), V226⟩
  | true =>
    refine own_callS K225 (wd118 hw) (wd119 hw) (rm_compress5X hw hs K225.O (A.ext E225) (V225.pad (pad_rep [] _ cs.length)) hab225 gb225 hok (by omega) (hbad rfl)) (wd120 hw) (wd116 hw) (by decide) (argsL := [(.ref a), (.int 0), (.ref a225), (.int (0 : Int32)), (.int (Int32.ofNat cs.length))]) (rest := []) rfl pd_285bCI5bBII29I rfl rfl (W := 0) rfl (by first | decide | (dsimp only; omega)) (by first | decide | (dsimp only; omega)) (by first | decide | (dsimp only; omega)) (by first | decide | (dsimp only; omega)) d_jdk_52_m16_9 rfl ?_
    intro T227 h227 L227 v227 K227 q227
    obtain ⟨i227, hi227, rfl, hx227, Kp227⟩ := q227
    show G (T227.setTop (mkF m 12 #[.val (.ref a), .val (.int 0), .val (.int (Int32.ofNat cs.length)), .val (.ref a225), .unset, .unset] [(.int (Int32.ofNat i227))]))
    refine own_istore K227 (Ls' := #[.val (.ref a), .val (.int 0), .val (.int (Int32.ofNat cs.length)), .val (.ref a225), .val (.int (Int32.ofNat i227)), .unset]) d_jdk_52_m16_12 rfl rfl ?_
    refine own_iload K227 d_jdk_52_m16_14 rfl rfl ?_
    refine own_iloadN K227 d_jdk_52_m16_16 rfl rfl ?_
    refine own_icmpNo K227 d_jdk_52_m16_17 rfl (feq (fun q => by have := own_ofNat_inj (by omega) (by omega) q; omega)).1 ?_
    refine own_aloadN K227 d_jdk_52_m16_20 rfl rfl rfl ?_
    refine own_iloadN K227 d_jdk_52_m16_21 rfl rfl ?_
    refine own_iloadN K227 d_jdk_52_m16_22 rfl rfl ?_
    refine own_callS K227 (wd202 hw) (wd203 hw) (rm_toBytes hw hs (cap := 2 * cap) K227.O ((A.ext E225).keep Kp227 hab225) (by omega) (by omega) (by omega)) (wd204 hw) (wd116 hw) (by decide) (argsL := [(.ref a), (.int 0), (.int (Int32.ofNat cs.length))]) (rest := []) rfl pd_285bCII295bB rfl rfl (W := 0) rfl (by first | decide | (dsimp only; omega)) (by first | decide | (dsimp only; omega)) (by first | decide | (dsimp only; omega)) (by first | decide | (dsimp only; omega)) d_jdk_52_m16_23 rfl ?_
    intro T228 h228 L228 v228 K228 q228
    obtain ⟨b228, kb228, rfl, gb228, E228, V228⟩ := q228
    show G (T228.setTop (mkF m 26 #[.val (.ref a), .val (.int 0), .val (.int (Int32.ofNat cs.length)), .val (.ref a225), .val (.int (Int32.ofNat i227)), .unset] [(.ref b228)]))
    refine own_astore K228 (Ls' := #[.val (.ref a), .val (.int 0), .val (.int (Int32.ofNat cs.length)), .val (.ref a225), .val (.int (Int32.ofNat i227)), .val (.ref b228)]) d_jdk_52_m16_26 rfl rfl rfl ?_
    refine own_aload K228 d_jdk_52_m16_28 rfl rfl rfl ?_
    refine own_iload K228 d_jdk_52_m16_30 rfl rfl ?_
    refine own_callS K228 (wd218 hw) (wd219 hw) (rm_getChar hw hs K228.O V228 ⟨Nat.le_refl _, by omega⟩ hok hi227) (wd220 hw) (wd116 hw) (by decide) (argsL := [(.ref b228), (.int (Int32.ofNat i227))]) (rest := []) rfl pd_285bBI29C rfl rfl (W := 0) rfl (by first | decide | (dsimp only; omega)) (by first | decide | (dsimp only; omega)) (by first | decide | (dsimp only; omega)) (by first | decide | (dsimp only; omega)) d_jdk_52_m16_32 rfl ?_
    intro T229 h229 L229 v229 K229 q229
    obtain ⟨rfl, e229⟩ := q229
    have f229 := e229.symm
    subst f229
    show G (T229.setTop (mkF m 35 #[.val (.ref a), .val (.int 0), .val (.int (Int32.ofNat cs.length)), .val (.ref a225), .val (.int (Int32.ofNat i227)), .val (.ref b228)] [(.int cs[i227])]))
    refine own_sipush K229 (v := (255 : Int32)) d_jdk_52_m16_35 rfl rfl ?_
    refine own_icmpYes K229 d_jdk_52_m16_38 (pc' := 54) (by decide) (by decide) (tlt (own_g255 hx227)).2.2.1 ?_
    refine own_aload K229 d_jdk_52_m16_54 rfl rfl rfl ?_
    have Ex227 : Ext h0 h227 := own_ext_keep E225 Kp227 (fun y q => by cases List.mem_singleton.mp q; exact Nat.le_of_eq g225.symm)
    exact own_retA K229 d_jdk_52_m16_56 rfl rfl rfl rfl (by first | decide | (dsimp only; omega)) (by first | decide | (dsimp only; omega)) ⟨b228, kb228, rfl, by rw [gb228]; exact Ex227.1, own_ext_trans Ex227 E228, V228⟩
theorem own_coderG (u : Bool) {n : Nat} (h : 0 < n ∧ n ≤ 4000) : nar .byte ((((Int32.ofNat n - Int32.ofNat (own_bn u n)).toUInt32 >>> ((31 : Int32) &&& 31).toUInt32).toInt32).toInt8.toInt32) = own_cd u := by
  cases u
  · show nar .byte ((((Int32.ofNat n - Int32.ofNat n).toUInt32 >>> ((31 : Int32) &&& 31).toUInt32).toInt32).toInt8.toInt32) = 0
    rw [Int32.sub_self]; decide
  · have h1 := c_isub (Int32.ofNat n) (Int32.ofNat (2 * n))
    have h2 := c_iushr (Int32.ofNat n - Int32.ofNat (2 * n)) 31 31 (by decide) (by decide)
    have h3 : ∀ y : Int32, -2147483648 ≤ y.toInt ∧ y.toInt < 2147483648 := fun y => ⟨Int32.le_toInt y, Int32.toInt_lt y⟩
    have h4 := h3 (Int32.ofNat n - Int32.ofNat (2 * n))
    rw [Int32.toInt_ofNat_of_lt (by omega), Int32.toInt_ofNat_of_lt (by omega)] at h1
    show nar .byte ((((Int32.ofNat n - Int32.ofNat (2 * n)).toUInt32 >>> ((31 : Int32) &&& 31).toUInt32).toInt32).toInt8.toInt32) = 1
    have e : (((Int32.ofNat n - Int32.ofNat (2 * n)).toUInt32 >>> ((31 : Int32) &&& 31).toUInt32).toInt32) = 1 := by
      apply Int32.toInt_inj.mp
      rw [h2]; show _ = (1 : Int); omega
    rw [e]; decide
theorem d_jdk_52_m15_0 : decode jdk_52_method_15_code 0 = .ok (.iload_n 1, 1) := by decide +kernel
theorem d_jdk_52_m15_1 : decode jdk_52_method_15_code 1 = .ok (.aload_n 0, 1) := by decide +kernel
theorem d_jdk_52_m15_2 : decode jdk_52_method_15_code 2 = .ok (.arraylength, 1) := by decide +kernel
theorem d_jdk_52_m15_3 : decode jdk_52_method_15_code 3 = .ok (.isub, 1) := by decide +kernel
theorem d_jdk_52_m15_4 : decode jdk_52_method_15_code 4 = .ok (.bipush 31, 2) := by decide +kernel
theorem d_jdk_52_m15_6 : decode jdk_52_method_15_code 6 = .ok (.iushr, 1) := by decide +kernel
theorem d_jdk_52_m15_7 : decode jdk_52_method_15_code 7 = .ok (.i2b, 1) := by decide +kernel
theorem d_jdk_52_m15_8 : decode jdk_52_method_15_code 8 = .ok (.ireturn, 1) := by decide +kernel
set_option maxRecDepth 65536 in
set_option maxHeartbeats 40000000 in
theorem rm_coderFromG {l : Launch} {Z : State} {a0 : Array Value} (hw : ∀ d ∈ tables_1, d.before a0 Z = true) (hs : ∀ d ∈ jdkStatics_1, d.before a0 Z = true) {b : Addr} {kb : ClassId} {u : Bool} {nn : Nat} {vs : List Value} {dv : Value} {h0 : Heap} (O0 : Ext Z.heap h0) (B : Arv Z h0 b kb .byte (Int32.ofNat (own_bn u nn)) vs dv) (hn : 0 < nn ∧ nn ≤ 4000) :
    own_Ct l Z (⟨"java/lang/StringUTF16", "coderFromArrayLen", "([BI)B"⟩ : MethodName) jdk_52_method_15_code 2 (some .byte) [] ({ frames := 0, locals := 0, cells := 0, slots := 0 } : Room) #[(.ref b), (.int (Int32.ofNat nn))] h0 (fun v h => v = some (.int (own_cd u)) ∧ h = h0) := by
  refine own_body (Ls := #[.val (.ref b), .val (.int (Int32.ofNat nn))]) (plainFor_of_name pn_java_lang_StringUTF16) (fun m => by first | (simp [entryFrame, mkF, argsToLocals, Value.category]; done) | rfl) O0 ?_
  intro p e s m below meth c T0 G K0
  refine own_iloadN K0 d_jdk_52_m15_0 rfl rfl ?_
  refine own_aloadN K0 d_jdk_52_m15_1 rfl rfl rfl ?_
  refine own_arraylength K0 B d_jdk_52_m15_2 rfl ?_
  refine own_isub K0 d_jdk_52_m15_3 rfl ?_
  refine own_bipush K0 (v := (31 : Int32)) d_jdk_52_m15_4 rfl rfl ?_
  refine own_iushr K0 d_jdk_52_m15_6 rfl ?_
  refine own_i2b K0 d_jdk_52_m15_7 rfl ?_
  exact own_retN K0 (z' := own_cd u) d_jdk_52_m15_8 rfl (by simp) (own_coderG u hn) (by decide) (by decide) ⟨rfl, rfl⟩
theorem d_jdk_42_m149_27 : decode jdk_42_method_149_code 27 = .ok (.getstatic 38, 3) := by decide +kernel
theorem d_jdk_42_m149_30 : decode jdk_42_method_149_code 30 = .ok (.ifCond .eq 28, 3) := by decide +kernel
theorem d_jdk_42_m149_33 : decode jdk_42_method_149_code 33 = .ok (.aload_n 1, 1) := by decide +kernel
theorem d_jdk_42_m149_34 : decode jdk_42_method_149_code 34 = .ok (.iload_n 2, 1) := by decide +kernel
theorem d_jdk_42_m149_35 : decode jdk_42_method_149_code 35 = .ok (.iload_n 3, 1) := by decide +kernel
theorem d_jdk_42_m149_36 : decode jdk_42_method_149_code 36 = .ok (.invokestatic 177, 3) := by decide +kernel
theorem wd117 {a0 : Array Value} {Z : State} (hw : ∀ d ∈ tables_1, d.before a0 Z = true) : (Jvm.Cond.code ({ cls := "java/lang/StringUTF16", name := "compress", desc := "([CII)[B" } : Jvm.MethodName) jdk_52_method_16_code (6 : Nat) (Option.some (Jvm.ClassFile.FieldType.array Jvm.ClassFile.FieldType.byte))).before a0 Z = true := hw _ (List.mem_of_getElem? (i := 117) rfl)
theorem wd114 {a0 : Array Value} {Z : State} (hw : ∀ d ∈ tables_1, d.before a0 Z = true) : (Jvm.Cond.methodLink "java/lang/String" (177 : Nat) ({ cls := "java/lang/StringUTF16", name := "compress", desc := "([CII)[B" } : Jvm.MethodName)).before a0 Z = true := hw _ (List.mem_of_getElem? (i := 114) rfl)
theorem wd115 {a0 : Array Value} {Z : State} (hw : ∀ d ∈ tables_1, d.before a0 Z = true) : (Jvm.Cond.static ({ cls := "java/lang/StringUTF16", name := "compress", desc := "([CII)[B" } : Jvm.MethodName)).before a0 Z = true := hw _ (List.mem_of_getElem? (i := 115) rfl)
theorem d_jdk_42_m149_39 : decode jdk_42_method_149_code 39 = .ok (.astore 5, 2) := by decide +kernel
theorem d_jdk_42_m149_41 : decode jdk_42_method_149_code 41 = .ok (.aload_n 0, 1) := by decide +kernel
theorem d_jdk_42_m149_42 : decode jdk_42_method_149_code 42 = .ok (.aload 5, 2) := by decide +kernel
theorem d_jdk_42_m149_44 : decode jdk_42_method_149_code 44 = .ok (.iload_n 3, 1) := by decide +kernel
theorem d_jdk_42_m149_45 : decode jdk_42_method_149_code 45 = .ok (.invokestatic 47, 3) := by decide +kernel
theorem wd123 {a0 : Array Value} {Z : State} (hw : ∀ d ∈ tables_1, d.before a0 Z = true) : (Jvm.Cond.code ({ cls := "java/lang/StringUTF16", name := "coderFromArrayLen", desc := "([BI)B" } : Jvm.MethodName) jdk_52_method_15_code (2 : Nat) (Option.some Jvm.ClassFile.FieldType.byte)).before a0 Z = true := hw _ (List.mem_of_getElem? (i := 123) rfl)
theorem pd_285bBI29B : parseMethodDescriptor "([BI)B" = some ⟨[(.array .byte), .int], some .byte⟩ := by decide +kernel
theorem wd121 {a0 : Array Value} {Z : State} (hw : ∀ d ∈ tables_1, d.before a0 Z = true) : (Jvm.Cond.methodLink "java/lang/String" (47 : Nat) ({ cls := "java/lang/StringUTF16", name := "coderFromArrayLen", desc := "([BI)B" } : Jvm.MethodName)).before a0 Z = true := hw _ (List.mem_of_getElem? (i := 121) rfl)
theorem wd122 {a0 : Array Value} {Z : State} (hw : ∀ d ∈ tables_1, d.before a0 Z = true) : (Jvm.Cond.static ({ cls := "java/lang/StringUTF16", name := "coderFromArrayLen", desc := "([BI)B" } : Jvm.MethodName)).before a0 Z = true := hw _ (List.mem_of_getElem? (i := 122) rfl)
theorem d_jdk_42_m149_48 : decode jdk_42_method_149_code 48 = .ok (.putfield 15, 3) := by decide +kernel
theorem d_jdk_42_m149_51 : decode jdk_42_method_149_code 51 = .ok (.aload_n 0, 1) := by decide +kernel
theorem d_jdk_42_m149_52 : decode jdk_42_method_149_code 52 = .ok (.aload 5, 2) := by decide +kernel
theorem d_jdk_42_m149_54 : decode jdk_42_method_149_code 54 = .ok (.putfield 9, 3) := by decide +kernel
theorem d_jdk_42_m149_57 : decode jdk_42_method_149_code 57 = .ok (.return_, 1) := by decide +kernel
set_option maxRecDepth 65536 in
set_option maxHeartbeats 40000000 in
theorem rm_initC4G {l : Launch} {Z : State} {a0 : Array Value} (hw : ∀ d ∈ tables_1, d.before a0 Z = true) (hs : ∀ d ∈ jdkStatics_1, d.before a0 Z = true) {x : Addr} {a : Addr} {ka : ClassId} {u : Bool} {cs : List Int32} {cap : Nat} {u1 : Value} {u2 : Value} {h0 : Heap} (O0 : Ext Z.heap h0) (E : Exa Z h0 x "java/lang/String") (F1 : Fld Z h0 x "java/lang/String" "value" "[B" u1) (F2 : Fld Z h0 x "java/lang/String" "coder" "B" u2) (gx : Z.heap.size ≤ x) (A : Arv Z h0 a ka .char (Int32.ofNat cs.length) (cs.map Value.int) (.int 0)) (hok : own_ok u cs) (hbad : u = true → ∃ q, ∃ hq : q < cs.length, ¬ cs[q] < 256) (hpos : 0 < cs.length) (hcap : cs.length ≤ cap) (hcap2 : cap ≤ 2000) :
    own_Ct l Z (⟨"java/lang/String", "<init>", "([CIILjava/lang/Void;)V"⟩ : MethodName) jdk_42_method_149_code 6 none [] ({ frames := 4, locals := 73, cells := 2, slots := 0 + 3 * cap } : Room) #[(.ref x), (.ref a), (.int 0), (.int (Int32.ofNat cs.length)), .null] h0 (fun v h => v = none ∧ Keep h0 h [x] ∧ own_StrG Z h x u cs) := by
  obtain ⟨zc, SC, hzc⟩ := own_compact hs
  refine own_body (Ls := #[.val (.ref x), .val (.ref a), .val (.int 0), .val (.int (Int32.ofNat cs.length)), .val .null, .unset]) (plainFor_of_name pn_java_lang_String) (fun m => by first | (simp [entryFrame, mkF, argsToLocals, Value.category]; done) | rfl) O0 ?_
  intro p e s m below meth c T0 G K0
  refine own_aloadN K0 d_jdk_42_m149_0 rfl rfl rfl ?_
  refine own_initO K0 (W := 0) (wd18 hw) (wd19 hw) (wd20 hw) rfl rfl (by first | decide | (dsimp only; omega)) (by first | decide | (dsimp only; omega)) d_jdk_42_m149_1 rfl ?_
  intro T230 K230
  refine own_iloadN K230 d_jdk_42_m149_4 rfl rfl ?_
  refine own_ifYes K230 d_jdk_42_m149_5 (pc' := 27) (by decide) (by decide) ((if0 _ _).trans (feq (own_ne0 hpos (by omega))).2) ?_
  refine own_getS K230 (wd46 hw) Via.refl (SC.ext K230.O) d_jdk_42_m149_27 rfl ?_
  intro T231 K231
  refine own_ifNo K231 d_jdk_42_m149_30 rfl ((if0 _ _).trans (feq hzc).1) ?_
  refine own_aloadN K231 d_jdk_42_m149_33 rfl rfl rfl ?_
  refine own_iloadN K231 d_jdk_42_m149_34 rfl rfl ?_
  refine own_iloadN K231 d_jdk_42_m149_35 rfl rfl ?_
  refine own_callS K231 (wd114 hw) (wd115 hw) (rm_compress3G hw hs (cap := cap) K231.O A hok hbad hcap hcap2) (wd117 hw) (wd116 hw) (by decide) (argsL := [(.ref a), (.int 0), (.int (Int32.ofNat cs.length))]) (rest := []) rfl pd_285bCII295bB rfl rfl (W := 0) rfl (by first | decide | (dsimp only; omega)) (by first | decide | (dsimp only; omega)) (by first | decide | (dsimp only; omega)) (by first | decide | (dsimp only; omega)) d_jdk_42_m149_36 rfl ?_
  intro T232 h232 L232 v232 K232 q232
  obtain ⟨b232, kb232, rfl, gb232, E232, V232⟩ := q232
  show G (T232.setTop (mkF m 39 #[.val (.ref x), .val (.ref a), .val (.int 0), .val (.int (Int32.ofNat cs.length)), .val .null, .unset] [(.ref b232)]))
  refine own_astore K232 (Ls' := #[.val (.ref x), .val (.ref a), .val (.int 0), .val (.int (Int32.ofNat cs.length)), .val .null, .val (.ref b232)]) d_jdk_42_m149_39 rfl rfl rfl ?_
  refine own_aloadN K232 d_jdk_42_m149_41 rfl rfl rfl ?_
  refine own_aload K232 d_jdk_42_m149_42 rfl rfl rfl ?_
  refine own_iloadN K232 d_jdk_42_m149_44 rfl rfl ?_
  refine own_callS K232 (wd121 hw) (wd122 hw) (rm_coderFromG hw hs (u := u) (nn := cs.length) K232.O V232 ⟨hpos, by omega⟩) (wd123 hw) (wd116 hw) (by decide) (argsL := [(.ref b232), (.int (Int32.ofNat cs.length))]) (rest := [(.ref x)]) rfl pd_285bBI29B rfl rfl (W := 1) rfl (by first | decide | (dsimp only; omega)) (by first | decide | (dsimp only; omega)) (by first | decide | (dsimp only; omega)) (by first | decide | (dsimp only; omega)) d_jdk_42_m149_45 rfl ?_
  intro T233 h233 L233 v233 K233 q233
  obtain ⟨rfl, e233⟩ := q233
  have f233 := e233.symm
  subst f233
  show G (T233.setTop (mkF m 48 #[.val (.ref x), .val (.ref a), .val (.int 0), .val (.int (Int32.ofNat cs.length)), .val .null, .val (.ref b232)] [(.int (own_cd u)), (.ref x)]))
  refine own_putFN K233 (wd28 hw) Via.refl (F2.ext E232) (E.ext E232) (Or.inr ⟨(wd24 hw), rfl, rfl⟩) (wd9 hw) (ty := .byte) (v' := .int (own_cd u)) (by decide) (by cases u <;> rfl) (by cases u <;> rfl) gx d_jdk_42_m149_48 rfl ?_
  intro T234 h234 K234 W234
  refine own_aloadN K234 d_jdk_42_m149_51 rfl rfl rfl ?_
  refine own_aload K234 d_jdk_42_m149_52 rfl rfl rfl ?_
  refine own_putF K234 (host := "") (Or.inl (wd27 hw)) Via.refl ((F1.ext E232).other W234 (Or.inr (slot_ne (Or.inr (wd23 hw)) (Or.inr (wd24 hw)) (by decide) (t := (.array .byte)) (t' := .byte) (by decide) (by decide)))) ((E.ext E232).wr W234) (Or.inr ⟨(wd23 hw), rfl, rfl⟩) (wd9 hw) (ty := (.array .byte)) (by decide) rfl rfl gx d_jdk_42_m149_54 rfl ?_
  intro T235 h235 K235 W235
  have hne232 : b232 ≠ x := Nat.ne_of_gt (Nat.lt_of_lt_of_le E.lt gb232)
  exact own_ret0 K235 d_jdk_42_m149_57 rfl (by first | decide | (dsimp only; omega)) (by first | decide | (dsimp only; omega)) ⟨rfl, (((Keep.refl h0 [x]).ext E232).wr W234 (Or.inl (List.mem_singleton.mpr rfl))).wr W235 (Or.inl (List.mem_singleton.mpr rfl)), ((E.ext E232).wr W234).wr W235, ((F2.ext E232).same W234).other W235 (Or.inr (slot_ne (Or.inr (wd24 hw)) (Or.inr (wd23 hw)) (by decide) (t := .byte) (t' := (.array .byte)) (by decide) (by decide))), b232, kb232, ((F1.ext E232).other W234 (Or.inr (slot_ne (Or.inr (wd23 hw)) (Or.inr (wd24 hw)) (by decide) (t := (.array .byte)) (t' := .byte) (by decide) (by decide)))).same W235, (V232.other W234 hne232).other W235 hne232⟩
set_option maxRecDepth 65536 in
set_option maxHeartbeats 40000000 in
theorem rm_initCG {l : Launch} {Z : State} {a0 : Array Value} (hw : ∀ d ∈ tables_1, d.before a0 Z = true) (hs : ∀ d ∈ jdkStatics_1, d.before a0 Z = true) {x : Addr} {a : Addr} {ka : ClassId} {u : Bool} {cs : List Int32} {cap : Nat} {u1 : Value} {u2 : Value} {h0 : Heap} (O0 : Ext Z.heap h0) (E : Exa Z h0 x "java/lang/String") (F1 : Fld Z h0 x "java/lang/String" "value" "[B" u1) (F2 : Fld Z h0 x "java/lang/String" "coder" "B" u2) (gx : Z.heap.size ≤ x) (A : Arv Z h0 a ka .char (Int32.ofNat cs.length) (cs.map Value.int) (.int 0)) (hok : own_ok u cs) (hbad : u = true → ∃ q, ∃ hq : q < cs.length, ¬ cs[q] < 256) (hpos : 0 < cs.length) (hcap : cs.length ≤ cap) (hcap2 : cap ≤ 2000) :
    own_Ct l Z (⟨"java/lang/String", "<init>", "([C)V"⟩ : MethodName) jdk_42_method_3_code 2 none [] ({ frames := 5, locals := 90, cells := 2, slots := 0 + 0 + 3 * cap } : Room) #[(.ref x), (.ref a)] h0 (fun v h => v = none ∧ Keep h0 h [x] ∧ own_StrG Z h x u cs) := by
  refine own_body (Ls := #[.val (.ref x), .val (.ref a)]) (plainFor_of_name pn_java_lang_String) (fun m => by first | (simp [entryFrame, mkF, argsToLocals, Value.category]; done) | rfl) O0 ?_
  intro p e s m below meth c T0 G K0
  refine own_aloadN K0 d_jdk_42_m3_0 rfl rfl rfl ?_
  refine own_aloadN K0 d_jdk_42_m3_1 rfl rfl rfl ?_
  refine own_iconst K0 (v := (0 : Int32)) d_jdk_42_m3_2 rfl rfl ?_
  refine own_aloadN K0 d_jdk_42_m3_3 rfl rfl rfl ?_
  refine own_arraylength K0 A d_jdk_42_m3_4 rfl ?_
  refine own_aconstNull K0 d_jdk_42_m3_5 rfl ?_
  refine own_callI K0 (a := x) (wd14 hw) (wd15 hw) (rm_initC4G hw hs (cap := cap) K0.O E F1 F2 gx A hok hbad hpos hcap hcap2) (wd17 hw) (wd10 hw) (by decide) rfl (argsL := [(.ref a), (.int (0 : Int32)), (.int (Int32.ofNat cs.length)), .null]) (rest := []) rfl pd_285bCIILjava2flang2fVoid3b29V rfl rfl (W := 0) rfl (by first | decide | (dsimp only; omega)) (by first | decide | (dsimp only; omega)) (by first | decide | (dsimp only; omega)) (by first | decide | (dsimp only; omega)) d_jdk_42_m3_6 rfl ?_
  intro T236 h236 L236 v236 K236 q236
  obtain ⟨rfl, Kp236, S236⟩ := q236
  show G (T236.setTop (mkF m 9 #[.val (.ref x), .val (.ref a)] []))
  exact own_ret0 K236 d_jdk_42_m3_9 rfl (by first | decide | (dsimp only; omega)) (by first | decide | (dsimp only; omega)) ⟨rfl, Kp236, S236⟩
theorem d_m4_0 : decode method_4_code 0 = .ok (.iload_n 0, 1) := by decide +kernel
theorem d_m4_1 : decode method_4_code 1 = .ok (.ifCond .ne 14, 3) := by decide +kernel
theorem d_m4_4 : decode method_4_code 4 = .ok (.new 32, 3) := by decide +kernel
theorem wd8 {a0 : Array Value} {Z : State} (hw : ∀ d ∈ tables_1, d.before a0 Z = true) : (Jvm.Cond.classLink "com/example/reevemark/reevemark/connectors/ldap/LdapEscapeDnValuePinLaw" (32 : Nat) "java/lang/String").before a0 Z = true := hw _ (List.mem_of_getElem? (i := 8) rfl)
theorem d_m4_7 : decode method_4_code 7 = .ok (.dup, 1) := by decide +kernel
theorem d_m4_8 : decode method_4_code 8 = .ok (.iconst 0, 1) := by decide +kernel
theorem d_m4_9 : decode method_4_code 9 = .ok (.newarray .char, 2) := by decide +kernel
theorem d_m4_11 : decode method_4_code 11 = .ok (.invokespecial 37, 3) := by decide +kernel
theorem wd13 {a0 : Array Value} {Z : State} (hw : ∀ d ∈ tables_1, d.before a0 Z = true) : (Jvm.Cond.code ({ cls := "java/lang/String", name := "<init>", desc := "([C)V" } : Jvm.MethodName) jdk_42_method_3_code (2 : Nat) (Option.none : Option Jvm.ClassFile.FieldType)).before a0 Z = true := hw _ (List.mem_of_getElem? (i := 13) rfl)
theorem pd_285bC29V : parseMethodDescriptor "([C)V" = some ⟨[(.array .char)], none⟩ := by decide +kernel
theorem wd11 {a0 : Array Value} {Z : State} (hw : ∀ d ∈ tables_1, d.before a0 Z = true) : (Jvm.Cond.methodLink "com/example/reevemark/reevemark/connectors/ldap/LdapEscapeDnValuePinLaw" (37 : Nat) ({ cls := "java/lang/String", name := "<init>", desc := "([C)V" } : Jvm.MethodName)).before a0 Z = true := hw _ (List.mem_of_getElem? (i := 11) rfl)
theorem wd12 {a0 : Array Value} {Z : State} (hw : ∀ d ∈ tables_1, d.before a0 Z = true) : (Jvm.Cond.instanceMethod ({ cls := "java/lang/String", name := "<init>", desc := "([C)V" } : Jvm.MethodName)).before a0 Z = true := hw _ (List.mem_of_getElem? (i := 12) rfl)
theorem d_m4_14 : decode method_4_code 14 = .ok (.areturn, 1) := by decide +kernel
set_option maxRecDepth 65536 in
set_option maxHeartbeats 40000000 in
theorem rm_make0 {l : Launch} {Z : State} {a0 : Array Value} (hw : ∀ d ∈ tables_1, d.before a0 Z = true) (hs : ∀ d ∈ jdkStatics_1, d.before a0 Z = true) {c0 : Int32} {c1 : Int32} {c2 : Int32} {c3 : Int32} {h0 : Heap} (O0 : Ext Z.heap h0) (hc0 : ¬ c0 < 0 ∧ c0 < 65536) (hc1 : ¬ c1 < 0 ∧ c1 < 65536) (hc2 : ¬ c2 < 0 ∧ c2 < 65536) (hc3 : ¬ c3 < 0 ∧ c3 < 65536) :
    own_CtW l Z consts_1 true false (⟨"com/example/reevemark/reevemark/connectors/ldap/LdapEscapeDnValuePinLaw", "make", "(ICCCC)Ljava/lang/String;"⟩ : MethodName) method_4_code 5 (some (.object "java/lang/String")) [] ({ frames := 3, locals := 43, cells := 6, slots := 12 } : Room) #[(.int (0 : Int32)), (.int c0), (.int c1), (.int c2), (.int c3)] h0 (fun v h => ∃ a : Addr, v = some (.ref a) ∧ Ext h0 h ∧ own_StrG Z h a (own_ub ([] : List Int32)) ([] : List Int32)) := by
  refine own_bodyW (Ls := #[.val (.int (0 : Int32)), .val (.int c0), .val (.int c1), .val (.int c2), .val (.int c3)]) (own_EL hw) (plainFor_of_name pn_com_example_reevemark_reevemark_connectors_ldap_LdapEscapeDnValuePinLaw) (fun m => by first | (simp [entryFrame, mkF, argsToLocals, Value.category]; done) | rfl) O0 ?_
  intro p e s m below meth c T0 G hkn hs0 W0
  refine own_iloadN W0.K d_m4_0 rfl rfl ?_
  refine own_ifNo W0.K d_m4_1 rfl ((if0 _ _).trans (teq rfl).2) ?_
  refine own_newO W0.K (wd8 hw) (wd9 hw) (wd10 hw) d_m4_4 (by decide) (by decide) rfl ?_
  intro T237 h237 a237 K237 g237 E237 A237 D237 U237
  have F_value_237 : Fld Z h237 a237 "java/lang/String" "value" "[B" .null := D237 (Or.inr (wd23 hw)) (ty := (.array .byte)) (by decide)
  have F_coder_237 : Fld Z h237 a237 "java/lang/String" "coder" "B" (.int (0 : Int32)) := D237 (Or.inr (wd24 hw)) (ty := .byte) (by decide)
  refine own_dup K237 d_m4_7 rfl rfl ?_
  refine own_iconst K237 (v := (0 : Int32)) d_m4_8 rfl rfl ?_
  refine own_newP K237 (aty := .char) (wd4 hw) d_m4_9 (by decide) (cap := 0) (by decide) (by decide) (by decide) (by decide) rfl ?_
  intro T238 h238 a238 c238 K238 g238 E238 V238
  have gs237 : Z.heap.size ≤ a237 := by rw [g237]; exact O0.1
  have gj238 : Z.heap.size ≤ a238 := by rw [g238]; exact Nat.le_trans O0.1 E237.1
  have Y238 : Ext h237 h238 := E238
  have W239 := W0.ext K238 (own_ext_trans E237 Y238)
  refine own_callIW W239 (own_EL hw) (kn := false) (fun q => nomatch q) (a := a237) (wd11 hw) (wd12 hw) (rm_initCE hw hs W239.K.O (A237.ext Y238) (F_value_237.ext Y238) (F_coder_237.ext Y238) gs237 V238) (wd13 hw) (wd10 hw) (by decide) rfl (argsL := [(.ref a238)]) (rest := [(.ref a237)]) rfl pd_285bC29V rfl rfl (Wd := 1) rfl (by decide) (by decide) (by decide) (by decide) d_m4_11 rfl ?_
  intro T240 h240 L240 v240 k1_240 W240 C240 q240
  obtain ⟨rfl, Kp240, S240⟩ := q240
  show G (T240.setTop (mkF m 14 #[.val (.int (0 : Int32)), .val (.int c0), .val (.int c1), .val (.int c2), .val (.int c3)] [(.ref a237)]))
  have Z240 : Ext h0 h240 := own_ext_keep (own_ext_trans E237 Y238) Kp240 (fun y q => by cases List.mem_singleton.mp q; exact Nat.le_of_eq g237.symm)
  exact own_retA W240.K d_m4_14 rfl rfl rfl rfl (by decide) (by decide) ⟨⟨⟨a237, rfl, Z240, S240⟩, W240.le⟩, fun _ => W240.C⟩
theorem d_m4_15 : decode method_4_code 15 = .ok (.iload_n 0, 1) := by decide +kernel
theorem d_m4_16 : decode method_4_code 16 = .ok (.iconst 1, 1) := by decide +kernel
theorem d_m4_17 : decode method_4_code 17 = .ok (.if_icmp .ne 18, 3) := by decide +kernel
theorem d_m4_20 : decode method_4_code 20 = .ok (.new 32, 3) := by decide +kernel
theorem d_m4_23 : decode method_4_code 23 = .ok (.dup, 1) := by decide +kernel
theorem d_m4_24 : decode method_4_code 24 = .ok (.iconst 1, 1) := by decide +kernel
theorem d_m4_25 : decode method_4_code 25 = .ok (.newarray .char, 2) := by decide +kernel
theorem d_m4_27 : decode method_4_code 27 = .ok (.dup, 1) := by decide +kernel
theorem d_m4_28 : decode method_4_code 28 = .ok (.iconst 0, 1) := by decide +kernel
theorem d_m4_29 : decode method_4_code 29 = .ok (.iload_n 1, 1) := by decide +kernel
theorem d_m4_30 : decode method_4_code 30 = .ok (.castore, 1) := by decide +kernel
theorem d_m4_31 : decode method_4_code 31 = .ok (.invokespecial 37, 3) := by decide +kernel
theorem d_m4_34 : decode method_4_code 34 = .ok (.areturn, 1) := by decide +kernel
set_option maxRecDepth 65536 in
set_option maxHeartbeats 40000000 in
theorem rm_make1 {l : Launch} {Z : State} {a0 : Array Value} (hw : ∀ d ∈ tables_1, d.before a0 Z = true) (hs : ∀ d ∈ jdkStatics_1, d.before a0 Z = true) {c0 : Int32} {c1 : Int32} {c2 : Int32} {c3 : Int32} {h0 : Heap} (O0 : Ext Z.heap h0) (hc0 : ¬ c0 < 0 ∧ c0 < 65536) (hc1 : ¬ c1 < 0 ∧ c1 < 65536) (hc2 : ¬ c2 < 0 ∧ c2 < 65536) (hc3 : ¬ c3 < 0 ∧ c3 < 65536) :
    own_CtW l Z consts_1 true false (⟨"com/example/reevemark/reevemark/connectors/ldap/LdapEscapeDnValuePinLaw", "make", "(ICCCC)Ljava/lang/String;"⟩ : MethodName) method_4_code 5 (some (.object "java/lang/String")) [] ({ frames := 6, locals := 104, cells := 4, slots := 8 } : Room) #[(.int (1 : Int32)), (.int c0), (.int c1), (.int c2), (.int c3)] h0 (fun v h => ∃ a : Addr, v = some (.ref a) ∧ Ext h0 h ∧ own_StrG Z h a (own_ub [c0]) [c0]) := by
  refine own_bodyW (Ls := #[.val (.int (1 : Int32)), .val (.int c0), .val (.int c1), .val (.int c2), .val (.int c3)]) (own_EL hw) (plainFor_of_name pn_com_example_reevemark_reevemark_connectors_ldap_LdapEscapeDnValuePinLaw) (fun m => by first | (simp [entryFrame, mkF, argsToLocals, Value.category]; done) | rfl) O0 ?_
  intro p e s m below meth c T0 G hkn hs0 W0
  refine own_iloadN W0.K d_m4_0 rfl rfl ?_
  refine own_ifYes W0.K d_m4_1 (pc' := 15) (by decide) (by decide) ((if0 _ _).trans (feq (by decide)).2) ?_
  refine own_iloadN W0.K d_m4_15 rfl rfl ?_
  refine own_iconst W0.K (v := (1 : Int32)) d_m4_16 rfl rfl ?_
  refine own_icmpNo W0.K d_m4_17 rfl (teq rfl).2 ?_
  refine own_newO W0.K (wd8 hw) (wd9 hw) (wd10 hw) d_m4_20 (by decide) (by decide) rfl ?_
  intro T241 h241 a241 K241 g241 E241 A241 D241 U241
  have F_value_241 : Fld Z h241 a241 "java/lang/String" "value" "[B" .null := D241 (Or.inr (wd23 hw)) (ty := (.array .byte)) (by decide)
  have F_coder_241 : Fld Z h241 a241 "java/lang/String" "coder" "B" (.int (0 : Int32)) := D241 (Or.inr (wd24 hw)) (ty := .byte) (by decide)
  refine own_dup K241 d_m4_23 rfl rfl ?_
  refine own_iconst K241 (v := (1 : Int32)) d_m4_24 rfl rfl ?_
  refine own_newP K241 (aty := .char) (wd4 hw) d_m4_25 (by decide) (cap := 1) (by decide) (by decide) (by decide) (by decide) rfl ?_
  intro T242 h242 a242 c242 K242 g242 E242 V242
  refine own_dup K242 d_m4_27 rfl rfl ?_
  refine own_iconst K242 (v := (0 : Int32)) d_m4_28 rfl rfl ?_
  refine own_iloadN K242 d_m4_29 rfl rfl ?_
  have gs241 : Z.heap.size ≤ a241 := by rw [g241]; exact O0.1
  have gj242 : Z.heap.size ≤ a242 := by rw [g242]; exact Nat.le_trans O0.1 E241.1
  have Y242 : Ext h241 h242 := E242
  refine own_castore K242 (V242.pad (pad_rep [] _ 1)) ⟨by decide, by decide⟩ 0 rfl (by simp) (x' := c0) (own_nar_char hc0) gj242 d_m4_30 rfl ?_
  intro T243 h243 K243 W243 V243
  have Y243 : Ext h241 h243 := own_ext_wr Y242 W243 (Nat.le_of_eq g242.symm)
  have hch : own_chs [c0] := own_chs_cons hc0 (own_chs_nil)
  have A_ : Arv Z h243 a242 c242 .char (Int32.ofNat [c0].length) ([c0].map Value.int) (.int 0) := V243
  refine own_callI K243 (a := a241) (wd11 hw) (wd12 hw) (rm_initCG hw hs (u := own_ub [c0]) (cap := 1) K243.O (A241.ext Y243) (F_value_241.ext Y243) (F_coder_241.ext Y243) gs241 A_ (own_ub_ok hch) own_ub_bad (by simp) (by simp) (by simp)) (wd13 hw) (wd10 hw) (by decide) rfl (argsL := [(.ref a242)]) (rest := [(.ref a241)]) rfl pd_285bC29V rfl rfl (W := 1) rfl (by decide) (by decide) (by decide) (by decide) d_m4_31 rfl ?_
  intro T244 h244 L244 v244 K244 q244
  obtain ⟨rfl, Kp244, S244⟩ := q244
  show G (T244.setTop (mkF m 34 #[.val (.int (1 : Int32)), .val (.int c0), .val (.int c1), .val (.int c2), .val (.int c3)] [(.ref a241)]))
  have Z244 : Ext h0 h244 := own_ext_keep (own_ext_trans E241 Y243) Kp244 (fun y q => by cases List.mem_singleton.mp q; exact Nat.le_of_eq g241.symm)
  have W245 := W0.ext K244 Z244
  exact own_retA W245.K d_m4_34 rfl rfl rfl rfl (by decide) (by decide) ⟨⟨⟨a241, rfl, Z244, S244⟩, W245.le⟩, fun _ => W245.C⟩
theorem d_m4_35 : decode method_4_code 35 = .ok (.iload_n 0, 1) := by decide +kernel
theorem d_m4_36 : decode method_4_code 36 = .ok (.iconst 2, 1) := by decide +kernel
theorem d_m4_37 : decode method_4_code 37 = .ok (.if_icmp .ne 22, 3) := by decide +kernel
theorem d_m4_40 : decode method_4_code 40 = .ok (.new 32, 3) := by decide +kernel
theorem d_m4_43 : decode method_4_code 43 = .ok (.dup, 1) := by decide +kernel
theorem d_m4_44 : decode method_4_code 44 = .ok (.iconst 2, 1) := by decide +kernel
theorem d_m4_45 : decode method_4_code 45 = .ok (.newarray .char, 2) := by decide +kernel
theorem d_m4_47 : decode method_4_code 47 = .ok (.dup, 1) := by decide +kernel
theorem d_m4_48 : decode method_4_code 48 = .ok (.iconst 0, 1) := by decide +kernel
theorem d_m4_49 : decode method_4_code 49 = .ok (.iload_n 1, 1) := by decide +kernel
theorem d_m4_50 : decode method_4_code 50 = .ok (.castore, 1) := by decide +kernel
theorem d_m4_51 : decode method_4_code 51 = .ok (.dup, 1) := by decide +kernel
theorem d_m4_52 : decode method_4_code 52 = .ok (.iconst 1, 1) := by decide +kernel
theorem d_m4_53 : decode method_4_code 53 = .ok (.iload_n 2, 1) := by decide +kernel
theorem d_m4_54 : decode method_4_code 54 = .ok (.castore, 1) := by decide +kernel
theorem d_m4_55 : decode method_4_code 55 = .ok (.invokespecial 37, 3) := by decide +kernel
theorem d_m4_58 : decode method_4_code 58 = .ok (.areturn, 1) := by decide +kernel
set_option maxRecDepth 65536 in
set_option maxHeartbeats 40000000 in
theorem rm_make2 {l : Launch} {Z : State} {a0 : Array Value} (hw : ∀ d ∈ tables_1, d.before a0 Z = true) (hs : ∀ d ∈ jdkStatics_1, d.before a0 Z = true) {c0 : Int32} {c1 : Int32} {c2 : Int32} {c3 : Int32} {h0 : Heap} (O0 : Ext Z.heap h0) (hc0 : ¬ c0 < 0 ∧ c0 < 65536) (hc1 : ¬ c1 < 0 ∧ c1 < 65536) (hc2 : ¬ c2 < 0 ∧ c2 < 65536) (hc3 : ¬ c3 < 0 ∧ c3 < 65536) :
    own_CtW l Z consts_1 true false (⟨"com/example/reevemark/reevemark/connectors/ldap/LdapEscapeDnValuePinLaw", "make", "(ICCCC)Ljava/lang/String;"⟩ : MethodName) method_4_code 5 (some (.object "java/lang/String")) [] ({ frames := 6, locals := 104, cells := 4, slots := 12 } : Room) #[(.int (2 : Int32)), (.int c0), (.int c1), (.int c2), (.int c3)] h0 (fun v h => ∃ a : Addr, v = some (.ref a) ∧ Ext h0 h ∧ own_StrG Z h a (own_ub [c0, c1]) [c0, c1]) := by
  refine own_bodyW (Ls := #[.val (.int (2 : Int32)), .val (.int c0), .val (.int c1), .val (.int c2), .val (.int c3)]) (own_EL hw) (plainFor_of_name pn_com_example_reevemark_reevemark_connectors_ldap_LdapEscapeDnValuePinLaw) (fun m => by first | (simp [entryFrame, mkF, argsToLocals, Value.category]; done) | rfl) O0 ?_
  intro p e s m below meth c T0 G hkn hs0 W0
  refine own_iloadN W0.K d_m4_0 rfl rfl ?_
  refine own_ifYes W0.K d_m4_1 (pc' := 15) (by decide) (by decide) ((if0 _ _).trans (feq (by decide)).2) ?_
  refine own_iloadN W0.K d_m4_15 rfl rfl ?_
  refine own_iconst W0.K (v := (1 : Int32)) d_m4_16 rfl rfl ?_
  refine own_icmpYes W0.K d_m4_17 (pc' := 35) (by decide) (by decide) (feq (by decide)).2 ?_
  refine own_iloadN W0.K d_m4_35 rfl rfl ?_
  refine own_iconst W0.K (v := (2 : Int32)) d_m4_36 rfl rfl ?_
  refine own_icmpNo W0.K d_m4_37 rfl (teq rfl).2 ?_
  refine own_newO W0.K (wd8 hw) (wd9 hw) (wd10 hw) d_m4_40 (by decide) (by decide) rfl ?_
  intro T246 h246 a246 K246 g246 E246 A246 D246 U246
  have F_value_246 : Fld Z h246 a246 "java/lang/String" "value" "[B" .null := D246 (Or.inr (wd23 hw)) (ty := (.array .byte)) (by decide)
  have F_coder_246 : Fld Z h246 a246 "java/lang/String" "coder" "B" (.int (0 : Int32)) := D246 (Or.inr (wd24 hw)) (ty := .byte) (by decide)
  refine own_dup K246 d_m4_43 rfl rfl ?_
  refine own_iconst K246 (v := (2 : Int32)) d_m4_44 rfl rfl ?_
  refine own_newP K246 (aty := .char) (wd4 hw) d_m4_45 (by decide) (cap := 2) (by decide) (by decide) (by decide) (by decide) rfl ?_
  intro T247 h247 a247 c247 K247 g247 E247 V247
  refine own_dup K247 d_m4_47 rfl rfl ?_
  refine own_iconst K247 (v := (0 : Int32)) d_m4_48 rfl rfl ?_
  refine own_iloadN K247 d_m4_49 rfl rfl ?_
  have gs246 : Z.heap.size ≤ a246 := by rw [g246]; exact O0.1
  have gj247 : Z.heap.size ≤ a247 := by rw [g247]; exact Nat.le_trans O0.1 E246.1
  have Y247 : Ext h246 h247 := E247
  refine own_castore K247 (V247.pad (pad_rep [] _ 2)) ⟨by decide, by decide⟩ 0 rfl (by simp) (x' := c0) (own_nar_char hc0) gj247 d_m4_50 rfl ?_
  intro T248 h248 K248 W248 V248
  have Y248 : Ext h246 h248 := own_ext_wr Y247 W248 (Nat.le_of_eq g247.symm)
  refine own_dup K248 d_m4_51 rfl rfl ?_
  refine own_iconst K248 (v := (1 : Int32)) d_m4_52 rfl rfl ?_
  refine own_iloadN K248 d_m4_53 rfl rfl ?_
  refine own_castore K248 V248 ⟨by decide, by decide⟩ 1 rfl (by simp) (x' := c1) (own_nar_char hc1) gj247 d_m4_54 rfl ?_
  intro T249 h249 K249 W249 V249
  have Y249 : Ext h246 h249 := own_ext_wr Y248 W249 (Nat.le_of_eq g247.symm)
  have hch : own_chs [c0, c1] := own_chs_cons hc0 (own_chs_cons hc1 (own_chs_nil))
  have A_ : Arv Z h249 a247 c247 .char (Int32.ofNat [c0, c1].length) ([c0, c1].map Value.int) (.int 0) := V249
  refine own_callI K249 (a := a246) (wd11 hw) (wd12 hw) (rm_initCG hw hs (u := own_ub [c0, c1]) (cap := 2) K249.O (A246.ext Y249) (F_value_246.ext Y249) (F_coder_246.ext Y249) gs246 A_ (own_ub_ok hch) own_ub_bad (by simp) (by simp) (by simp)) (wd13 hw) (wd10 hw) (by decide) rfl (argsL := [(.ref a247)]) (rest := [(.ref a246)]) rfl pd_285bC29V rfl rfl (W := 1) rfl (by decide) (by decide) (by decide) (by decide) d_m4_55 rfl ?_
  intro T250 h250 L250 v250 K250 q250
  obtain ⟨rfl, Kp250, S250⟩ := q250
  show G (T250.setTop (mkF m 58 #[.val (.int (2 : Int32)), .val (.int c0), .val (.int c1), .val (.int c2), .val (.int c3)] [(.ref a246)]))
  have Z250 : Ext h0 h250 := own_ext_keep (own_ext_trans E246 Y249) Kp250 (fun y q => by cases List.mem_singleton.mp q; exact Nat.le_of_eq g246.symm)
  have W251 := W0.ext K250 Z250
  exact own_retA W251.K d_m4_58 rfl rfl rfl rfl (by decide) (by decide) ⟨⟨⟨a246, rfl, Z250, S250⟩, W251.le⟩, fun _ => W251.C⟩
theorem d_m4_59 : decode method_4_code 59 = .ok (.iload_n 0, 1) := by decide +kernel
theorem d_m4_60 : decode method_4_code 60 = .ok (.iconst 3, 1) := by decide +kernel
theorem d_m4_61 : decode method_4_code 61 = .ok (.if_icmp .ne 26, 3) := by decide +kernel
theorem d_m4_64 : decode method_4_code 64 = .ok (.new 32, 3) := by decide +kernel
theorem d_m4_67 : decode method_4_code 67 = .ok (.dup, 1) := by decide +kernel
theorem d_m4_68 : decode method_4_code 68 = .ok (.iconst 3, 1) := by decide +kernel
theorem d_m4_69 : decode method_4_code 69 = .ok (.newarray .char, 2) := by decide +kernel
theorem d_m4_71 : decode method_4_code 71 = .ok (.dup, 1) := by decide +kernel
theorem d_m4_72 : decode method_4_code 72 = .ok (.iconst 0, 1) := by decide +kernel
theorem d_m4_73 : decode method_4_code 73 = .ok (.iload_n 1, 1) := by decide +kernel
theorem d_m4_74 : decode method_4_code 74 = .ok (.castore, 1) := by decide +kernel
theorem d_m4_75 : decode method_4_code 75 = .ok (.dup, 1) := by decide +kernel
theorem d_m4_76 : decode method_4_code 76 = .ok (.iconst 1, 1) := by decide +kernel
theorem d_m4_77 : decode method_4_code 77 = .ok (.iload_n 2, 1) := by decide +kernel
theorem d_m4_78 : decode method_4_code 78 = .ok (.castore, 1) := by decide +kernel
theorem d_m4_79 : decode method_4_code 79 = .ok (.dup, 1) := by decide +kernel
theorem d_m4_80 : decode method_4_code 80 = .ok (.iconst 2, 1) := by decide +kernel
theorem d_m4_81 : decode method_4_code 81 = .ok (.iload_n 3, 1) := by decide +kernel
theorem d_m4_82 : decode method_4_code 82 = .ok (.castore, 1) := by decide +kernel
theorem d_m4_83 : decode method_4_code 83 = .ok (.invokespecial 37, 3) := by decide +kernel
theorem d_m4_86 : decode method_4_code 86 = .ok (.areturn, 1) := by decide +kernel
set_option maxRecDepth 65536 in
set_option maxHeartbeats 40000000 in
theorem rm_make3 {l : Launch} {Z : State} {a0 : Array Value} (hw : ∀ d ∈ tables_1, d.before a0 Z = true) (hs : ∀ d ∈ jdkStatics_1, d.before a0 Z = true) {c0 : Int32} {c1 : Int32} {c2 : Int32} {c3 : Int32} {h0 : Heap} (O0 : Ext Z.heap h0) (hc0 : ¬ c0 < 0 ∧ c0 < 65536) (hc1 : ¬ c1 < 0 ∧ c1 < 65536) (hc2 : ¬ c2 < 0 ∧ c2 < 65536) (hc3 : ¬ c3 < 0 ∧ c3 < 65536) :
    own_CtW l Z consts_1 true false (⟨"com/example/reevemark/reevemark/connectors/ldap/LdapEscapeDnValuePinLaw", "make", "(ICCCC)Ljava/lang/String;"⟩ : MethodName) method_4_code 5 (some (.object "java/lang/String")) [] ({ frames := 6, locals := 104, cells := 4, slots := 16 } : Room) #[(.int (3 : Int32)), (.int c0), (.int c1), (.int c2), (.int c3)] h0 (fun v h => ∃ a : Addr, v = some (.ref a) ∧ Ext h0 h ∧ own_StrG Z h a (own_ub [c0, c1, c2]) [c0, c1, c2]) := by
  refine own_bodyW (Ls := #[.val (.int (3 : Int32)), .val (.int c0), .val (.int c1), .val (.int c2), .val (.int c3)]) (own_EL hw) (plainFor_of_name pn_com_example_reevemark_reevemark_connectors_ldap_LdapEscapeDnValuePinLaw) (fun m => by first | (simp [entryFrame, mkF, argsToLocals, Value.category]; done) | rfl) O0 ?_
  intro p e s m below meth c T0 G hkn hs0 W0
  refine own_iloadN W0.K d_m4_0 rfl rfl ?_
  refine own_ifYes W0.K d_m4_1 (pc' := 15) (by decide) (by decide) ((if0 _ _).trans (feq (by decide)).2) ?_
  refine own_iloadN W0.K d_m4_15 rfl rfl ?_
  refine own_iconst W0.K (v := (1 : Int32)) d_m4_16 rfl rfl ?_
  refine own_icmpYes W0.K d_m4_17 (pc' := 35) (by decide) (by decide) (feq (by decide)).2 ?_
  refine own_iloadN W0.K d_m4_35 rfl rfl ?_
  refine own_iconst W0.K (v := (2 : Int32)) d_m4_36 rfl rfl ?_
  refine own_icmpYes W0.K d_m4_37 (pc' := 59) (by decide) (by decide) (feq (by decide)).2 ?_
  refine own_iloadN W0.K d_m4_59 rfl rfl ?_
  refine own_iconst W0.K (v := (3 : Int32)) d_m4_60 rfl rfl ?_
  refine own_icmpNo W0.K d_m4_61 rfl (teq rfl).2 ?_
  refine own_newO W0.K (wd8 hw) (wd9 hw) (wd10 hw) d_m4_64 (by decide) (by decide) rfl ?_
  intro T252 h252 a252 K252 g252 E252 A252 D252 U252
  have F_value_252 : Fld Z h252 a252 "java/lang/String" "value" "[B" .null := D252 (Or.inr (wd23 hw)) (ty := (.array .byte)) (by decide)
  have F_coder_252 : Fld Z h252 a252 "java/lang/String" "coder" "B" (.int (0 : Int32)) := D252 (Or.inr (wd24 hw)) (ty := .byte) (by decide)
  refine own_dup K252 d_m4_67 rfl rfl ?_
  refine own_iconst K252 (v := (3 : Int32)) d_m4_68 rfl rfl ?_
  refine own_newP K252 (aty := .char) (wd4 hw) d_m4_69 (by decide) (cap := 3) (by decide) (by decide) (by decide) (by decide) rfl ?_
  intro T253 h253 a253 c253 K253 g253 E253 V253
  refine own_dup K253 d_m4_71 rfl rfl ?_
  refine own_iconst K253 (v := (0 : Int32)) d_m4_72 rfl rfl ?_
  refine own_iloadN K253 d_m4_73 rfl rfl ?_
  have gs252 : Z.heap.size ≤ a252 := by rw [g252]; exact O0.1
  have gj253 : Z.heap.size ≤ a253 := by rw [g253]; exact Nat.le_trans O0.1 E252.1
  have Y253 : Ext h252 h253 := E253
  refine own_castore K253 (V253.pad (pad_rep [] _ 3)) ⟨by decide, by decide⟩ 0 rfl (by simp) (x' := c0) (own_nar_char hc0) gj253 d_m4_74 rfl ?_
  intro T254 h254 K254 W254 V254
  have Y254 : Ext h252 h254 := own_ext_wr Y253 W254 (Nat.le_of_eq g253.symm)
  refine own_dup K254 d_m4_75 rfl rfl ?_
  refine own_iconst K254 (v := (1 : Int32)) d_m4_76 rfl rfl ?_
  refine own_iloadN K254 d_m4_77 rfl rfl ?_
  refine own_castore K254 V254 ⟨by decide, by decide⟩ 1 rfl (by simp) (x' := c1) (own_nar_char hc1) gj253 d_m4_78 rfl ?_
  intro T255 h255 K255 W255 V255
  have Y255 : Ext h252 h255 := own_ext_wr Y254 W255 (Nat.le_of_eq g253.symm)
  refine own_dup K255 d_m4_79 rfl rfl ?_
  refine own_iconst K255 (v := (2 : Int32)) d_m4_80 rfl rfl ?_
  refine own_iloadN K255 d_m4_81 rfl rfl ?_
  refine own_castore K255 V255 ⟨by decide, by decide⟩ 2 rfl (by simp) (x' := c2) (own_nar_char hc2) gj253 d_m4_82 rfl ?_
  intro T256 h256 K256 W256 V256
  have Y256 : Ext h252 h256 := own_ext_wr Y255 W256 (Nat.le_of_eq g253.symm)
  have hch : own_chs [c0, c1, c2] := own_chs_cons hc0 (own_chs_cons hc1 (own_chs_cons hc2 (own_chs_nil)))
  have A_ : Arv Z h256 a253 c253 .char (Int32.ofNat [c0, c1, c2].length) ([c0, c1, c2].map Value.int) (.int 0) := V256
  refine own_callI K256 (a := a252) (wd11 hw) (wd12 hw) (rm_initCG hw hs (u := own_ub [c0, c1, c2]) (cap := 3) K256.O (A252.ext Y256) (F_value_252.ext Y256) (F_coder_252.ext Y256) gs252 A_ (own_ub_ok hch) own_ub_bad (by simp) (by simp) (by simp)) (wd13 hw) (wd10 hw) (by decide) rfl (argsL := [(.ref a253)]) (rest := [(.ref a252)]) rfl pd_285bC29V rfl rfl (W := 1) rfl (by decide) (by decide) (by decide) (by decide) d_m4_83 rfl ?_
  intro T257 h257 L257 v257 K257 q257
  obtain ⟨rfl, Kp257, S257⟩ := q257
  show G (T257.setTop (mkF m 86 #[.val (.int (3 : Int32)), .val (.int c0), .val (.int c1), .val (.int c2), .val (.int c3)] [(.ref a252)]))
  have Z257 : Ext h0 h257 := own_ext_keep (own_ext_trans E252 Y256) Kp257 (fun y q => by cases List.mem_singleton.mp q; exact Nat.le_of_eq g252.symm)
  have W258 := W0.ext K257 Z257
  exact own_retA W258.K d_m4_86 rfl rfl rfl rfl (by decide) (by decide) ⟨⟨⟨a252, rfl, Z257, S257⟩, W258.le⟩, fun _ => W258.C⟩
theorem d_m4_87 : decode method_4_code 87 = .ok (.new 32, 3) := by decide +kernel
theorem d_m4_90 : decode method_4_code 90 = .ok (.dup, 1) := by decide +kernel
theorem d_m4_91 : decode method_4_code 91 = .ok (.iconst 4, 1) := by decide +kernel
theorem d_m4_92 : decode method_4_code 92 = .ok (.newarray .char, 2) := by decide +kernel
theorem d_m4_94 : decode method_4_code 94 = .ok (.dup, 1) := by decide +kernel
theorem d_m4_95 : decode method_4_code 95 = .ok (.iconst 0, 1) := by decide +kernel
theorem d_m4_96 : decode method_4_code 96 = .ok (.iload_n 1, 1) := by decide +kernel
theorem d_m4_97 : decode method_4_code 97 = .ok (.castore, 1) := by decide +kernel
theorem d_m4_98 : decode method_4_code 98 = .ok (.dup, 1) := by decide +kernel
theorem d_m4_99 : decode method_4_code 99 = .ok (.iconst 1, 1) := by decide +kernel
theorem d_m4_100 : decode method_4_code 100 = .ok (.iload_n 2, 1) := by decide +kernel
theorem d_m4_101 : decode method_4_code 101 = .ok (.castore, 1) := by decide +kernel
theorem d_m4_102 : decode method_4_code 102 = .ok (.dup, 1) := by decide +kernel
theorem d_m4_103 : decode method_4_code 103 = .ok (.iconst 2, 1) := by decide +kernel
theorem d_m4_104 : decode method_4_code 104 = .ok (.iload_n 3, 1) := by decide +kernel
theorem d_m4_105 : decode method_4_code 105 = .ok (.castore, 1) := by decide +kernel
theorem d_m4_106 : decode method_4_code 106 = .ok (.dup, 1) := by decide +kernel
theorem d_m4_107 : decode method_4_code 107 = .ok (.iconst 3, 1) := by decide +kernel
theorem d_m4_108 : decode method_4_code 108 = .ok (.iload 4, 2) := by decide +kernel
theorem d_m4_110 : decode method_4_code 110 = .ok (.castore, 1) := by decide +kernel
theorem d_m4_111 : decode method_4_code 111 = .ok (.invokespecial 37, 3) := by decide +kernel
theorem d_m4_114 : decode method_4_code 114 = .ok (.areturn, 1) := by decide +kernel
set_option maxRecDepth 65536 in
set_option maxHeartbeats 40000000 in
theorem rm_make4 {l : Launch} {Z : State} {a0 : Array Value} (hw : ∀ d ∈ tables_1, d.before a0 Z = true) (hs : ∀ d ∈ jdkStatics_1, d.before a0 Z = true) {c0 : Int32} {c1 : Int32} {c2 : Int32} {c3 : Int32} {h0 : Heap} (O0 : Ext Z.heap h0) (hc0 : ¬ c0 < 0 ∧ c0 < 65536) (hc1 : ¬ c1 < 0 ∧ c1 < 65536) (hc2 : ¬ c2 < 0 ∧ c2 < 65536) (hc3 : ¬ c3 < 0 ∧ c3 < 65536) :
    own_CtW l Z consts_1 true false (⟨"com/example/reevemark/reevemark/connectors/ldap/LdapEscapeDnValuePinLaw", "make", "(ICCCC)Ljava/lang/String;"⟩ : MethodName) method_4_code 5 (some (.object "java/lang/String")) [] ({ frames := 6, locals := 104, cells := 4, slots := 20 } : Room) #[(.int (4 : Int32)), (.int c0), (.int c1), (.int c2), (.int c3)] h0 (fun v h => ∃ a : Addr, v = some (.ref a) ∧ Ext h0 h ∧ own_StrG Z h a (own_ub [c0, c1, c2, c3]) [c0, c1, c2, c3]) := by
  refine own_bodyW (Ls := #[.val (.int (4 : Int32)), .val (.int c0), .val (.int c1), .val (.int c2), .val (.int c3)]) (own_EL hw) (plainFor_of_name pn_com_example_reevemark_reevemark_connectors_ldap_LdapEscapeDnValuePinLaw) (fun m => by first | (simp [entryFrame, mkF, argsToLocals, Value.category]; done) | rfl) O0 ?_
  intro p e s m below meth c T0 G hkn hs0 W0
  refine own_iloadN W0.K d_m4_0 rfl rfl ?_
  refine own_ifYes W0.K d_m4_1 (pc' := 15) (by decide) (by decide) ((if0 _ _).trans (feq (by decide)).2) ?_
  refine own_iloadN W0.K d_m4_15 rfl rfl ?_
  refine own_iconst W0.K (v := (1 : Int32)) d_m4_16 rfl rfl ?_
  refine own_icmpYes W0.K d_m4_17 (pc' := 35) (by decide) (by decide) (feq (by decide)).2 ?_
  refine own_iloadN W0.K d_m4_35 rfl rfl ?_
  refine own_iconst W0.K (v := (2 : Int32)) d_m4_36 rfl rfl ?_
  refine own_icmpYes W0.K d_m4_37 (pc' := 59) (by decide) (by decide) (feq (by decide)).2 ?_
  refine own_iloadN W0.K d_m4_59 rfl rfl ?_
  refine own_iconst W0.K (v := (3 : Int32)) d_m4_60 rfl rfl ?_
  refine own_icmpYes W0.K d_m4_61 (pc' := 87) (by decide) (by decide) (feq (by decide)).2 ?_
  refine own_newO W0.K (wd8 hw) (wd9 hw) (wd10 hw) d_m4_87 (by decide) (by decide) rfl ?_
  intro T259 h259 a259 K259 g259 E259 A259 D259 U259
  have F_value_259 : Fld Z h259 a259 "java/lang/String" "value" "[B" .null := D259 (Or.inr (wd23 hw)) (ty := (.array .byte)) (by decide)
  have F_coder_259 : Fld Z h259 a259 "java/lang/String" "coder" "B" (.int (0 : Int32)) := D259 (Or.inr (wd24 hw)) (ty := .byte) (by decide)
  refine own_dup K259 d_m4_90 rfl rfl ?_
  refine own_iconst K259 (v := (4 : Int32)) d_m4_91 rfl rfl ?_
  refine own_newP K259 (aty := .char) (wd4 hw) d_m4_92 (by decide) (cap := 4) (by decide) (by decide) (by decide) (by decide) rfl ?_
  intro T260 h260 a260 c260 K260 g260 E260 V260
  refine own_dup K260 d_m4_94 rfl rfl ?_
  refine own_iconst K260 (v := (0 : Int32)) d_m4_95 rfl rfl ?_
  refine own_iloadN K260 d_m4_96 rfl rfl ?_
  have gs259 : Z.heap.size ≤ a259 := by rw [g259]; exact O0.1
  have gj260 : Z.heap.size ≤ a260 := by rw [g260]; exact Nat.le_trans O0.1 E259.1
  have Y260 : Ext h259 h260 := E260
  refine own_castore K260 (V260.pad (pad_rep [] _ 4)) ⟨by decide, by decide⟩ 0 rfl (by simp) (x' := c0) (own_nar_char hc0) gj260 d_m4_97 rfl ?_
  intro T261 h261 K261 W261 V261
  have Y261 : Ext h259 h261 := own_ext_wr Y260 W261 (Nat.le_of_eq g260.symm)
  refine own_dup K261 d_m4_98 rfl rfl ?_
  refine own_iconst K261 (v := (1 : Int32)) d_m4_99 rfl rfl ?_
  refine own_iloadN K261 d_m4_100 rfl rfl ?_
  refine own_castore K261 V261 ⟨by decide, by decide⟩ 1 rfl (by simp) (x' := c1) (own_nar_char hc1) gj260 d_m4_101 rfl ?_
  intro T262 h262 K262 W262 V262
  have Y262 : Ext h259 h262 := own_ext_wr Y261 W262 (Nat.le_of_eq g260.symm)
  refine own_dup K262 d_m4_102 rfl rfl ?_
  refine own_iconst K262 (v := (2 : Int32)) d_m4_103 rfl rfl ?_
  refine own_iloadN K262 d_m4_104 rfl rfl ?_
  refine own_castore K262 V262 ⟨by decide, by decide⟩ 2 rfl (by simp) (x' := c2) (own_nar_char hc2) gj260 d_m4_105 rfl ?_
  intro T263 h263 K263 W263 V263
  have Y263 : Ext h259 h263 := own_ext_wr Y262 W263 (Nat.le_of_eq g260.symm)
  refine own_dup K263 d_m4_106 rfl rfl ?_
  refine own_iconst K263 (v := (3 : Int32)) d_m4_107 rfl rfl ?_
  refine own_iload K263 d_m4_108 rfl rfl ?_
  refine own_castore K263 V263 ⟨by decide, by decide⟩ 3 rfl (by simp) (x' := c3) (own_nar_char hc3) gj260 d_m4_110 rfl ?_
  intro T264 h264 K264 W264 V264
  have Y264 : Ext h259 h264 := own_ext_wr Y263 W264 (Nat.le_of_eq g260.symm)
  have hch : own_chs [c0, c1, c2, c3] := own_chs_cons hc0 (own_chs_cons hc1 (own_chs_cons hc2 (own_chs_cons hc3 (own_chs_nil))))
  have A_ : Arv Z h264 a260 c260 .char (Int32.ofNat [c0, c1, c2, c3].length) ([c0, c1, c2, c3].map Value.int) (.int 0) := V264
  refine own_callI K264 (a := a259) (wd11 hw) (wd12 hw) (rm_initCG hw hs (u := own_ub [c0, c1, c2, c3]) (cap := 4) K264.O (A259.ext Y264) (F_value_259.ext Y264) (F_coder_259.ext Y264) gs259 A_ (own_ub_ok hch) own_ub_bad (by simp) (by simp) (by simp)) (wd13 hw) (wd10 hw) (by decide) rfl (argsL := [(.ref a260)]) (rest := [(.ref a259)]) rfl pd_285bC29V rfl rfl (W := 1) rfl (by decide) (by decide) (by decide) (by decide) d_m4_111 rfl ?_
  intro T265 h265 L265 v265 K265 q265
  obtain ⟨rfl, Kp265, S265⟩ := q265
  show G (T265.setTop (mkF m 114 #[.val (.int (4 : Int32)), .val (.int c0), .val (.int c1), .val (.int c2), .val (.int c3)] [(.ref a259)]))
  have Z265 : Ext h0 h265 := own_ext_keep (own_ext_trans E259 Y264) Kp265 (fun y q => by cases List.mem_singleton.mp q; exact Nat.le_of_eq g259.symm)
  have W266 := W0.ext K265 Z265
  exact own_retA W266.K d_m4_114 rfl rfl rfl rfl (by decide) (by decide) ⟨⟨⟨a259, rfl, Z265, S265⟩, W266.le⟩, fun _ => W266.C⟩
theorem wd3 {a0 : Array Value} {Z : State} (hw : ∀ d ∈ tables_1, d.before a0 Z = true) : (Jvm.Cond.code ({ cls := "com/example/reevemark/reevemark/connectors/ldap/LdapEscapeDnValuePinLaw", name := "draw", desc := "(I)C" } : Jvm.MethodName) method_3_code (3 : Nat) (Option.some Jvm.ClassFile.FieldType.char)).before a0 Z = true := hw _ (List.mem_of_getElem? (i := 3) rfl)
theorem wd0 {a0 : Array Value} {Z : State} (hw : ∀ d ∈ tables_1, d.before a0 Z = true) : (Jvm.Cond.methodLink "com/example/reevemark/reevemark/connectors/ldap/LdapEscapeDnValuePinLaw" (7 : Nat) ({ cls := "com/example/reevemark/reevemark/connectors/ldap/LdapEscapeDnValuePinLaw", name := "draw", desc := "(I)C" } : Jvm.MethodName)).before a0 Z = true := hw _ (List.mem_of_getElem? (i := 0) rfl)
theorem wd1 {a0 : Array Value} {Z : State} (hw : ∀ d ∈ tables_1, d.before a0 Z = true) : (Jvm.Cond.static ({ cls := "com/example/reevemark/reevemark/connectors/ldap/LdapEscapeDnValuePinLaw", name := "draw", desc := "(I)C" } : Jvm.MethodName)).before a0 Z = true := hw _ (List.mem_of_getElem? (i := 1) rfl)
theorem wd7 {a0 : Array Value} {Z : State} (hw : ∀ d ∈ tables_1, d.before a0 Z = true) : (Jvm.Cond.code ({ cls := "com/example/reevemark/reevemark/connectors/ldap/LdapEscapeDnValuePinLaw", name := "make", desc := "(ICCCC)Ljava/lang/String;" } : Jvm.MethodName) method_4_code (5 : Nat) (Option.some (Jvm.ClassFile.FieldType.object "java/lang/String"))).before a0 Z = true := hw _ (List.mem_of_getElem? (i := 7) rfl)
theorem pd_28ICCCC29Ljava2flang2fString3b : parseMethodDescriptor "(ICCCC)Ljava/lang/String;" = some ⟨[.int, .char, .char, .char, .char], some (.object "java/lang/String")⟩ := by decide +kernel
theorem wd5 {a0 : Array Value} {Z : State} (hw : ∀ d ∈ tables_1, d.before a0 Z = true) : (Jvm.Cond.methodLink "com/example/reevemark/reevemark/connectors/ldap/LdapEscapeDnValuePinLaw" (13 : Nat) ({ cls := "com/example/reevemark/reevemark/connectors/ldap/LdapEscapeDnValuePinLaw", name := "make", desc := "(ICCCC)Ljava/lang/String;" } : Jvm.MethodName)).before a0 Z = true := hw _ (List.mem_of_getElem? (i := 5) rfl)
theorem wd6 {a0 : Array Value} {Z : State} (hw : ∀ d ∈ tables_1, d.before a0 Z = true) : (Jvm.Cond.static ({ cls := "com/example/reevemark/reevemark/connectors/ldap/LdapEscapeDnValuePinLaw", name := "make", desc := "(ICCCC)Ljava/lang/String;" } : Jvm.MethodName)).before a0 Z = true := hw _ (List.mem_of_getElem? (i := 6) rfl)
theorem wd32 {a0 : Array Value} {Z : State} (hw : ∀ d ∈ tables_1, d.before a0 Z = true) : (Jvm.Cond.code ({ cls := "com/example/reevemark/reevemark/connectors/ldap/LdapEscape", name := "dnValue", desc := "(Ljava/lang/String;)Ljava/lang/String;" } : Jvm.MethodName) prog_3_method_2_code (5 : Nat) (Option.some (Jvm.ClassFile.FieldType.object "java/lang/String"))).before a0 Z = true := hw _ (List.mem_of_getElem? (i := 32) rfl)
theorem wd31 {a0 : Array Value} {Z : State} (hw : ∀ d ∈ tables_1, d.before a0 Z = true) : (Jvm.Cond.initialized "com/example/reevemark/reevemark/connectors/ldap/LdapEscape").before a0 Z = true := hw _ (List.mem_of_getElem? (i := 31) rfl)
theorem pd_28Ljava2flang2fString3b29Ljava2flang2fString3b : parseMethodDescriptor "(Ljava/lang/String;)Ljava/lang/String;" = some ⟨[(.object "java/lang/String")], some (.object "java/lang/String")⟩ := by decide +kernel
theorem wd29 {a0 : Array Value} {Z : State} (hw : ∀ d ∈ tables_1, d.before a0 Z = true) : (Jvm.Cond.methodLink "com/example/reevemark/reevemark/connectors/ldap/LdapEscapeDnValuePinLaw" (17 : Nat) ({ cls := "com/example/reevemark/reevemark/connectors/ldap/LdapEscape", name := "dnValue", desc := "(Ljava/lang/String;)Ljava/lang/String;" } : Jvm.MethodName)).before a0 Z = true := hw _ (List.mem_of_getElem? (i := 29) rfl)
theorem wd30 {a0 : Array Value} {Z : State} (hw : ∀ d ∈ tables_1, d.before a0 Z = true) : (Jvm.Cond.static ({ cls := "com/example/reevemark/reevemark/connectors/ldap/LdapEscape", name := "dnValue", desc := "(Ljava/lang/String;)Ljava/lang/String;" } : Jvm.MethodName)).before a0 Z = true := hw _ (List.mem_of_getElem? (i := 30) rfl)
theorem wd194 {a0 : Array Value} {Z : State} (hw : ∀ d ∈ tables_1, d.before a0 Z = true) : (Jvm.Cond.code ({ cls := "com/example/reevemark/reevemark/connectors/ldap/LdapEscapeDnValuePinLaw", name := "part", desc := "(Ljava/lang/String;ICZZ)Z" } : Jvm.MethodName) method_7_code (6 : Nat) (Option.some Jvm.ClassFile.FieldType.boolean)).before a0 Z = true := hw _ (List.mem_of_getElem? (i := 194) rfl)
theorem pd_28Ljava2flang2fString3bICZZ29Z : parseMethodDescriptor "(Ljava/lang/String;ICZZ)Z" = some ⟨[(.object "java/lang/String"), .int, .char, .boolean, .boolean], some .boolean⟩ := by decide +kernel
theorem wd192 {a0 : Array Value} {Z : State} (hw : ∀ d ∈ tables_1, d.before a0 Z = true) : (Jvm.Cond.methodLink "com/example/reevemark/reevemark/connectors/ldap/LdapEscapeDnValuePinLaw" (23 : Nat) ({ cls := "com/example/reevemark/reevemark/connectors/ldap/LdapEscapeDnValuePinLaw", name := "part", desc := "(Ljava/lang/String;ICZZ)Z" } : Jvm.MethodName)).before a0 Z = true := hw _ (List.mem_of_getElem? (i := 192) rfl)
theorem wd193 {a0 : Array Value} {Z : State} (hw : ∀ d ∈ tables_1, d.before a0 Z = true) : (Jvm.Cond.static ({ cls := "com/example/reevemark/reevemark/connectors/ldap/LdapEscapeDnValuePinLaw", name := "part", desc := "(Ljava/lang/String;ICZZ)Z" } : Jvm.MethodName)).before a0 Z = true := hw _ (List.mem_of_getElem? (i := 193) rfl)
set_option maxRecDepth 65536 in
set_option maxHeartbeats 40000000 in
theorem rm_law {l : Launch} {Z : State} {a0 : Array Value} (hw : ∀ d ∈ tables_1, d.before a0 Z = true) (hs : ∀ d ∈ jdkStatics_1, d.before a0 Z = true) {p0 : Int32} {p1 : Int32} {p2 : Int32} {p3 : Int32} {p4 : Int32} {h0 : Heap} (O0 : Ext Z.heap h0)  :
    own_CtW l Z consts_1 true false x code maxLocals ret tables_1 room_1 #[(.int p0), (.int p1), (.int p2), (.int p3), (.int p4)] h0 (fun v h => v = some (.int 1)) := by
  refine own_bodyW (Ls := #[.val (.int p0), .val (.int p1), .val (.int p2), .val (.int p3), .val (.int p4), .unset, .unset, .unset, .unset, .unset, .unset, .unset, .unset, .unset]) (own_EL hw) (plainFor_of_name pn_com_example_reevemark_reevemark_connectors_ldap_LdapEscapeDnValuePinLaw) (fun m => by first | (simp [entryFrame, mkF, argsToLocals, Value.category, maxLocals]; done) | rfl) O0 ?_
  intro p e s m below meth c T0 G hkn hs0 W0
  refine own_iloadN W0.K at_0 rfl rfl ?_
  refine own_bipush W0.K (v := (7 : Int32)) at_1 rfl rfl ?_
  refine own_iand W0.K at_3 rfl ?_
  refine own_iconst W0.K (v := (5 : Int32)) at_4 rfl rfl ?_
  refine own_irem W0.K at_5 rfl (by decide) ?_
  refine own_istore W0.K (Ls' := #[.val (.int p0), .val (.int p1), .val (.int p2), .val (.int p3), .val (.int p4), .val (.int ((p0 &&& (7 : Int32)) % (5 : Int32))), .unset, .unset, .unset, .unset, .unset, .unset, .unset, .unset]) at_6 rfl rfl ?_
  refine own_iloadN W0.K at_8 rfl rfl ?_
  refine own_callS W0.K (wd0 hw) (wd1 hw) (rm_draw hw hs W0.K.O) (wd3 hw) (wd2 hw) (by decide) (argsL := [(.int p1)]) (rest := []) rfl pd_28I29C rfl rfl (W := 0) rfl (by decide) (by decide) (by decide) (by decide) at_9 rfl ?_
  intro T267 h267 L267 v267 K267 q267
  obtain ⟨c267, rfl, hc267, X267⟩ := q267
  show G (T267.setTop (mkF m 12 #[.val (.int p0), .val (.int p1), .val (.int p2), .val (.int p3), .val (.int p4), .val (.int ((p0 &&& (7 : Int32)) % (5 : Int32))), .unset, .unset, .unset, .unset, .unset, .unset, .unset, .unset] [(.int c267)]))
  have U267 : Ext h0 h267 := X267
  refine own_istore K267 (Ls' := #[.val (.int p0), .val (.int p1), .val (.int p2), .val (.int p3), .val (.int p4), .val (.int ((p0 &&& (7 : Int32)) % (5 : Int32))), .val (.int c267), .unset, .unset, .unset, .unset, .unset, .unset, .unset]) at_12 rfl rfl ?_
  refine own_iloadN K267 at_14 rfl rfl ?_
  refine own_callS K267 (wd0 hw) (wd1 hw) (rm_draw hw hs K267.O) (wd3 hw) (wd2 hw) (by decide) (argsL := [(.int p2)]) (rest := []) rfl pd_28I29C rfl rfl (W := 0) rfl (by decide) (by decide) (by decide) (by decide) at_15 rfl ?_
  intro T268 h268 L268 v268 K268 q268
  obtain ⟨c268, rfl, hc268, X268⟩ := q268
  show G (T268.setTop (mkF m 18 #[.val (.int p0), .val (.int p1), .val (.int p2), .val (.int p3), .val (.int p4), .val (.int ((p0 &&& (7 : Int32)) % (5 : Int32))), .val (.int c267), .unset, .unset, .unset, .unset, .unset, .unset, .unset] [(.int c268)]))
  have U268 : Ext h0 h268 := own_ext_trans U267 X268
  refine own_istore K268 (Ls' := #[.val (.int p0), .val (.int p1), .val (.int p2), .val (.int p3), .val (.int p4), .val (.int ((p0 &&& (7 : Int32)) % (5 : Int32))), .val (.int c267), .val (.int c268), .unset, .unset, .unset, .unset, .unset, .unset]) at_18 rfl rfl ?_
  refine own_iloadN K268 at_20 rfl rfl ?_
  refine own_callS K268 (wd0 hw) (wd1 hw) (rm_draw hw hs K268.O) (wd3 hw) (wd2 hw) (by decide) (argsL := [(.int p3)]) (rest := []) rfl pd_28I29C rfl rfl (W := 0) rfl (by decide) (by decide) (by decide) (by decide) at_21 rfl ?_
  intro T269 h269 L269 v269 K269 q269
  obtain ⟨c269, rfl, hc269, X269⟩ := q269
  show G (T269.setTop (mkF m 24 #[.val (.int p0), .val (.int p1), .val (.int p2), .val (.int p3), .val (.int p4), .val (.int ((p0 &&& (7 : Int32)) % (5 : Int32))), .val (.int c267), .val (.int c268), .unset, .unset, .unset, .unset, .unset, .unset] [(.int c269)]))
  have U269 : Ext h0 h269 := own_ext_trans U268 X269
  refine own_istore K269 (Ls' := #[.val (.int p0), .val (.int p1), .val (.int p2), .val (.int p3), .val (.int p4), .val (.int ((p0 &&& (7 : Int32)) % (5 : Int32))), .val (.int c267), .val (.int c268), .val (.int c269), .unset, .unset, .unset, .unset, .unset]) at_24 rfl rfl ?_
  refine own_iload K269 at_26 rfl rfl ?_
  refine own_callS K269 (wd0 hw) (wd1 hw) (rm_draw hw hs K269.O) (wd3 hw) (wd2 hw) (by decide) (argsL := [(.int p4)]) (rest := []) rfl pd_28I29C rfl rfl (W := 0) rfl (by decide) (by decide) (by decide) (by decide) at_28 rfl ?_
  intro T270 h270 L270 v270 K270 q270
  obtain ⟨c270, rfl, hc270, X270⟩ := q270
  show G (T270.setTop (mkF m 31 #[.val (.int p0), .val (.int p1), .val (.int p2), .val (.int p3), .val (.int p4), .val (.int ((p0 &&& (7 : Int32)) % (5 : Int32))), .val (.int c267), .val (.int c268), .val (.int c269), .unset, .unset, .unset, .unset, .unset] [(.int c270)]))
  have U270 : Ext h0 h270 := own_ext_trans U269 X270
  refine own_istore K270 (Ls' := #[.val (.int p0), .val (.int p1), .val (.int p2), .val (.int p3), .val (.int p4), .val (.int ((p0 &&& (7 : Int32)) % (5 : Int32))), .val (.int c267), .val (.int c268), .val (.int c269), .val (.int c270), .unset, .unset, .unset, .unset]) at_31 rfl rfl ?_
  refine own_iload K270 at_33 rfl rfl ?_
  refine own_iload K270 at_35 rfl rfl ?_
  refine own_iload K270 at_37 rfl rfl ?_
  refine own_iload K270 at_39 rfl rfl ?_
  refine own_iload K270 at_41 rfl rfl ?_
  have W271 := W0.ext K270 U270
  rcases own_len5 p0 with hn | hn | hn | hn | hn
  · skip
    rw [hn]
    refine own_callSW W271 (own_EL hw) (kn := false) (fun q => nomatch q) (wd5 hw) (wd6 hw) (rm_make0 hw hs W271.K.O hc267 hc268 hc269 hc270) (wd7 hw) (wd2 hw) (by decide) (argsL := [(.int (0 : Int32)), (.int c267), (.int c268), (.int c269), (.int c270)]) (rest := []) rfl pd_28ICCCC29Ljava2flang2fString3b rfl rfl (Wd := 0) rfl (by decide) (by decide) (by decide) (by decide) at_43 rfl ?_
    intro T272 h272 L272 v272 k1_272 W272 C272 q272
    obtain ⟨s272, rfl, X272, S272⟩ := q272
    show G (T272.setTop (mkF m 46 #[.val (.int p0), .val (.int p1), .val (.int p2), .val (.int p3), .val (.int p4), .val (.int (0 : Int32)), .val (.int c267), .val (.int c268), .val (.int c269), .val (.int c270), .unset, .unset, .unset, .unset] [(.ref s272)]))
    refine own_astore W272.K (Ls' := #[.val (.int p0), .val (.int p1), .val (.int p2), .val (.int p3), .val (.int p4), .val (.int (0 : Int32)), .val (.int c267), .val (.int c268), .val (.int c269), .val (.int c270), .val (.ref s272), .unset, .unset, .unset]) at_46 rfl rfl rfl ?_
    refine own_aload W272.K at_48 rfl rfl rfl ?_
    have hch : own_chs ([] : List Int32) := own_chs_nil
    refine own_callSW W272 (own_EL hw) (kn := false) (fun q => nomatch q) (wd29 hw) (wd30 hw) (rm_dn hw hs W272.K.O S272 (own_ub_ok hch) hch (by simp)) (wd32 hw) (wd31 hw) (by decide) (argsL := [(.ref s272)]) (rest := []) rfl pd_28Ljava2flang2fString3b29Ljava2flang2fString3b rfl rfl (Wd := 0) rfl (by decide) (by decide) (by decide) (by decide) at_50 rfl ?_
    intro T273 h273 L273 v273 k1_273 W273 C273 q273
    obtain ⟨r273, rfl, X273, S273⟩ := q273
    show G (T273.setTop (mkF m 53 #[.val (.int p0), .val (.int p1), .val (.int p2), .val (.int p3), .val (.int p4), .val (.int (0 : Int32)), .val (.int c267), .val (.int c268), .val (.int c269), .val (.int c270), .val (.ref s272), .unset, .unset, .unset] [(.ref r273)]))
    have hT : own_dnT ([] : List Int32) ([] : List Int32).length = ([] : List Int32) := rfl
    rw [hT] at S273
    have hfc : own_chs ([] : List Int32) := hT ▸ own_dnT_chs hch _ (Nat.le_refl _)
    have hle : ([] : List Int32).length ≤ 12 := by rw [← hT]; exact Nat.le_trans (own_dnT_len _ _) (by simp)
    refine own_astore W273.K (Ls' := #[.val (.int p0), .val (.int p1), .val (.int p2), .val (.int p3), .val (.int p4), .val (.int (0 : Int32)), .val (.int c267), .val (.int c268), .val (.int c269), .val (.int c270), .val (.ref s272), .val (.ref r273), .unset, .unset]) at_53 rfl rfl rfl ?_
    refine own_iconst W273.K (v := (0 : Int32)) at_55 rfl rfl ?_
    refine own_istore W273.K (Ls' := #[.val (.int p0), .val (.int p1), .val (.int p2), .val (.int p3), .val (.int p4), .val (.int (0 : Int32)), .val (.int c267), .val (.int c268), .val (.int c269), .val (.int c270), .val (.ref s272), .val (.ref r273), .val (.int (0 : Int32)), .unset]) at_56 rfl rfl ?_
    refine own_iconst W273.K (v := (1 : Int32)) at_58 rfl rfl ?_
    refine own_istore W273.K (Ls' := #[.val (.int p0), .val (.int p1), .val (.int p2), .val (.int p3), .val (.int p4), .val (.int (0 : Int32)), .val (.int c267), .val (.int c268), .val (.int c269), .val (.int c270), .val (.ref s272), .val (.ref r273), .val (.int (0 : Int32)), .val (.int (1 : Int32))]) at_59 rfl rfl ?_
    refine own_iload W273.K at_61 rfl rfl ?_
    refine own_ifYes W273.K at_63 (pc' := 124) (by decide) (by decide) ((if0 _ _).trans (flt (by decide)).2.2.2) ?_
    refine own_iload W273.K at_124 rfl rfl ?_
    refine own_iconst W273.K (v := (1 : Int32)) at_126 rfl rfl ?_
    refine own_icmpYes W273.K at_127 (pc' := 188) (by decide) (by decide) (flt (by decide)).2.2.2 ?_
    refine own_iload W273.K at_188 rfl rfl ?_
    refine own_iconst W273.K (v := (2 : Int32)) at_190 rfl rfl ?_
    refine own_icmpYes W273.K at_191 (pc' := 252) (by decide) (by decide) (flt (by decide)).2.2.2 ?_
    refine own_iload W273.K at_252 rfl rfl ?_
    refine own_iconst W273.K (v := (3 : Int32)) at_254 rfl rfl ?_
    refine own_icmpYes W273.K at_255 (pc' := 296) (by decide) (by decide) (flt (by decide)).2.2.2 ?_
    refine own_iload W273.K at_296 rfl rfl ?_
    refine own_ifNo W273.K at_298 rfl ((if0 _ _).trans (feq (by decide)).1) ?_
    refine own_aload W273.K at_301 rfl rfl rfl ?_
    refine own_callV W273.K (a := r273) (x0 := (⟨"java/lang/String", "length", "()I"⟩ : MethodName)) (wd113 hw) (wd37 hw) (fun q => own_nfS (args := #[]) (mvT q (wd39 hw)) rfl) (wd39 hw) (wd38 hw) (rm_lengthS hw hs W273.K.O S273 (by omega)) (wd40 hw) (wd10 hw) (by decide) S273.exa (argsL := []) (rest := []) rfl pd_2829I rfl rfl (W := 0) rfl (by decide) (by decide) (by decide) (by decide) at_303 rfl ?_
    intro T274 h274 L274 v274 K274 q274
    obtain ⟨rfl, e274⟩ := q274
    have f274 := e274.symm
    subst f274
    show G (T274.setTop (mkF m 306 #[.val (.int p0), .val (.int p1), .val (.int p2), .val (.int p3), .val (.int p4), .val (.int (0 : Int32)), .val (.int c267), .val (.int c268), .val (.int c269), .val (.int c270), .val (.ref s272), .val (.ref r273), .val (.int (0 : Int32)), .val (.int (1 : Int32))] [(.int (Int32.ofNat ([] : List Int32).length))]))
    refine own_iload K274 at_306 rfl rfl ?_
    refine own_icmpNo K274 at_308 rfl (teq rfl).2 ?_
    refine own_iconst K274 (v := (1 : Int32)) at_311 rfl rfl ?_
    refine own_goto K274 at_312 (pc' := 316) (by decide) (by decide) ?_
    have W275 := W273.same K274
    exact own_retN W275.K (z' := (1 : Int32)) at_316 rfl (by simp) (by decide) (by decide) (by decide) ⟨⟨rfl, W275.le⟩, fun _ => W275.C⟩
  · skip
    rw [hn]
    refine own_callSW W271 (own_EL hw) (kn := false) (fun q => nomatch q) (wd5 hw) (wd6 hw) (rm_make1 hw hs W271.K.O hc267 hc268 hc269 hc270) (wd7 hw) (wd2 hw) (by decide) (argsL := [(.int (1 : Int32)), (.int c267), (.int c268), (.int c269), (.int c270)]) (rest := []) rfl pd_28ICCCC29Ljava2flang2fString3b rfl rfl (Wd := 0) rfl (by decide) (by decide) (by decide) (by decide) at_43 rfl ?_
    intro T276 h276 L276 v276 k1_276 W276 C276 q276
    obtain ⟨s276, rfl, X276, S276⟩ := q276
    show G (T276.setTop (mkF m 46 #[.val (.int p0), .val (.int p1), .val (.int p2), .val (.int p3), .val (.int p4), .val (.int (1 : Int32)), .val (.int c267), .val (.int c268), .val (.int c269), .val (.int c270), .unset, .unset, .unset, .unset] [(.ref s276)]))
    refine own_astore W276.K (Ls' := #[.val (.int p0), .val (.int p1), .val (.int p2), .val (.int p3), .val (.int p4), .val (.int (1 : Int32)), .val (.int c267), .val (.int c268), .val (.int c269), .val (.int c270), .val (.ref s276), .unset, .unset, .unset]) at_46 rfl rfl rfl ?_
    refine own_aload W276.K at_48 rfl rfl rfl ?_
    have hch : own_chs [c267] := own_chs_cons hc267 (own_chs_nil)
    refine own_callSW W276 (own_EL hw) (kn := false) (fun q => nomatch q) (wd29 hw) (wd30 hw) (rm_dn hw hs W276.K.O S276 (own_ub_ok hch) hch (by simp)) (wd32 hw) (wd31 hw) (by decide) (argsL := [(.ref s276)]) (rest := []) rfl pd_28Ljava2flang2fString3b29Ljava2flang2fString3b rfl rfl (Wd := 0) rfl (by decide) (by decide) (by decide) (by decide) at_50 rfl ?_
    intro T277 h277 L277 v277 k1_277 W277 C277 q277
    obtain ⟨r277, rfl, X277, S277⟩ := q277
    show G (T277.setTop (mkF m 53 #[.val (.int p0), .val (.int p1), .val (.int p2), .val (.int p3), .val (.int p4), .val (.int (1 : Int32)), .val (.int c267), .val (.int c268), .val (.int c269), .val (.int c270), .val (.ref s276), .unset, .unset, .unset] [(.ref r277)]))
    have hT : own_dnT [c267] [c267].length = (([] : List Int32) ++ (own_dn c267 true true)) := rfl
    rw [hT] at S277
    have hfc : own_chs (([] : List Int32) ++ (own_dn c267 true true)) := hT ▸ own_dnT_chs hch _ (Nat.le_refl _)
    have hle : (([] : List Int32) ++ (own_dn c267 true true)).length ≤ 12 := by rw [← hT]; exact Nat.le_trans (own_dnT_len _ _) (by simp)
    refine own_astore W277.K (Ls' := #[.val (.int p0), .val (.int p1), .val (.int p2), .val (.int p3), .val (.int p4), .val (.int (1 : Int32)), .val (.int c267), .val (.int c268), .val (.int c269), .val (.int c270), .val (.ref s276), .val (.ref r277), .unset, .unset]) at_53 rfl rfl rfl ?_
    refine own_iconst W277.K (v := (0 : Int32)) at_55 rfl rfl ?_
    refine own_istore W277.K (Ls' := #[.val (.int p0), .val (.int p1), .val (.int p2), .val (.int p3), .val (.int p4), .val (.int (1 : Int32)), .val (.int c267), .val (.int c268), .val (.int c269), .val (.int c270), .val (.ref s276), .val (.ref r277), .val (.int (0 : Int32)), .unset]) at_56 rfl rfl ?_
    refine own_iconst W277.K (v := (1 : Int32)) at_58 rfl rfl ?_
    refine own_istore W277.K (Ls' := #[.val (.int p0), .val (.int p1), .val (.int p2), .val (.int p3), .val (.int p4), .val (.int (1 : Int32)), .val (.int c267), .val (.int c268), .val (.int c269), .val (.int c270), .val (.ref s276), .val (.ref r277), .val (.int (0 : Int32)), .val (.int (1 : Int32))]) at_59 rfl rfl ?_
    refine own_iload W277.K at_61 rfl rfl ?_
    refine own_ifNo W277.K at_63 rfl ((if0 _ _).trans (tlt (by decide)).2.2.2) ?_
    refine own_iload W277.K at_66 rfl rfl ?_
    refine own_ifNo W277.K at_68 rfl ((if0 _ _).trans (feq (by decide)).1) ?_
    refine own_aload W277.K at_71 rfl rfl rfl ?_
    refine own_iload W277.K at_73 rfl rfl ?_
    refine own_iload W277.K at_75 rfl rfl ?_
    refine own_iconst W277.K (v := (1 : Int32)) at_77 rfl rfl ?_
    refine own_iload W277.K at_78 rfl rfl ?_
    refine own_iconst W277.K (v := (1 : Int32)) at_80 rfl rfl ?_
    refine own_icmpNo W277.K at_81 rfl (teq rfl).2 ?_
    refine own_iconst W277.K (v := (1 : Int32)) at_84 rfl rfl ?_
    refine own_goto W277.K at_85 (pc' := 89) (by decide) (by decide) ?_
    have e0 : (([] : List Int32) ++ (own_dn c267 true true)) = ([] : List Int32) ++ (own_dn c267 true true) ++ ([] : List Int32) := by simp only [List.nil_append, List.append_nil, List.append_assoc]
    refine own_callS W277.K (wd192 hw) (wd193 hw) (rm_part hw hs (pr := ([] : List Int32)) (po := ([] : List Int32)) (y := c267) (f := true) (g := true) (u := own_ub (([] : List Int32) ++ (own_dn c267 true true))) W277.K.O (e0 ▸ S277) (e0 ▸ (by omega : ((([] : List Int32) ++ (own_dn c267 true true))).length ≤ 4000)) (e0 ▸ own_ub_ok hfc)) (wd194 hw) (wd2 hw) (by decide) (argsL := [(.ref r277), (.int (0 : Int32)), (.int c267), (.int (1 : Int32)), (.int (1 : Int32))]) (rest := []) rfl pd_28Ljava2flang2fString3bICZZ29Z rfl rfl (W := 0) rfl (by decide) (by decide) (by decide) (by decide) at_89 rfl ?_
    intro T278 h278 L278 v278 K278 q278
    obtain ⟨rfl, e278⟩ := q278
    have f278 := e278.symm
    subst f278
    show G (T278.setTop (mkF m 92 #[.val (.int p0), .val (.int p1), .val (.int p2), .val (.int p3), .val (.int p4), .val (.int (1 : Int32)), .val (.int c267), .val (.int c268), .val (.int c269), .val (.int c270), .val (.ref s276), .val (.ref r277), .val (.int (0 : Int32)), .val (.int (1 : Int32))] [(.int (1 : Int32))]))
    refine own_ifNo K278 at_92 rfl ((if0 _ _).trans (feq (by decide)).1) ?_
    refine own_iconst K278 (v := (1 : Int32)) at_95 rfl rfl ?_
    refine own_goto K278 at_96 (pc' := 100) (by decide) (by decide) ?_
    refine own_istore K278 (Ls' := #[.val (.int p0), .val (.int p1), .val (.int p2), .val (.int p3), .val (.int p4), .val (.int (1 : Int32)), .val (.int c267), .val (.int c268), .val (.int c269), .val (.int c270), .val (.ref s276), .val (.ref r277), .val (.int (0 : Int32)), .val (.int (1 : Int32))]) at_100 rfl rfl ?_
    refine own_iload K278 at_102 rfl rfl ?_
    refine own_iload K278 at_104 rfl rfl ?_
    refine own_iconst K278 (v := (1 : Int32)) at_106 rfl rfl ?_
    refine own_iload K278 at_107 rfl rfl ?_
    refine own_iconst K278 (v := (1 : Int32)) at_109 rfl rfl ?_
    refine own_icmpNo K278 at_110 rfl (teq rfl).2 ?_
    refine own_iconst K278 (v := (1 : Int32)) at_113 rfl rfl ?_
    refine own_goto K278 at_114 (pc' := 118) (by decide) (by decide) ?_
    refine own_callS K278 (wd195 hw) (wd196 hw) (rm_need hw hs (y := c267) (f := true) (g := true) K278.O) (wd197 hw) (wd2 hw) (by decide) (argsL := [(.int c267), (.int (1 : Int32)), (.int (1 : Int32))]) (rest := [(.int (0 : Int32))]) rfl pd_28CZZ29I rfl rfl (W := 1) rfl (by decide) (by decide) (by decide) (by decide) at_118 rfl ?_
    intro T279 h279 L279 v279 K279 q279
    obtain ⟨rfl, e279⟩ := q279
    have f279 := e279.symm
    subst f279
    show G (T279.setTop (mkF m 121 #[.val (.int p0), .val (.int p1), .val (.int p2), .val (.int p3), .val (.int p4), .val (.int (1 : Int32)), .val (.int c267), .val (.int c268), .val (.int c269), .val (.int c270), .val (.ref s276), .val (.ref r277), .val (.int (0 : Int32)), .val (.int (1 : Int32))] [(.int (Int32.ofNat (own_dn c267 true true).length)), (.int (0 : Int32))]))
    refine own_iadd K279 at_121 rfl ?_
    rw [show (0 : Int32) + Int32.ofNat (own_dn c267 true true).length = Int32.ofNat (([] : List Int32) ++ (own_dn c267 true true)).length from own_addL ([] : List Int32) (own_dn c267 true true)]
    refine own_istore K279 (Ls' := #[.val (.int p0), .val (.int p1), .val (.int p2), .val (.int p3), .val (.int p4), .val (.int (1 : Int32)), .val (.int c267), .val (.int c268), .val (.int c269), .val (.int c270), .val (.ref s276), .val (.ref r277), .val (.int (Int32.ofNat (([] : List Int32) ++ (own_dn c267 true true)).length)), .val (.int (1 : Int32))]) at_122 rfl rfl ?_
    refine own_iload K279 at_124 rfl rfl ?_
    refine own_iconst K279 (v := (1 : Int32)) at_126 rfl rfl ?_
    refine own_icmpYes K279 at_127 (pc' := 188) (by decide) (by decide) (flt (by decide)).2.2.2 ?_
    refine own_iload K279 at_188 rfl rfl ?_
    refine own_iconst K279 (v := (2 : Int32)) at_190 rfl rfl ?_
    refine own_icmpYes K279 at_191 (pc' := 252) (by decide) (by decide) (flt (by decide)).2.2.2 ?_
    refine own_iload K279 at_252 rfl rfl ?_
    refine own_iconst K279 (v := (3 : Int32)) at_254 rfl rfl ?_
    refine own_icmpYes K279 at_255 (pc' := 296) (by decide) (by decide) (flt (by decide)).2.2.2 ?_
    refine own_iload K279 at_296 rfl rfl ?_
    refine own_ifNo K279 at_298 rfl ((if0 _ _).trans (feq (by decide)).1) ?_
    refine own_aload K279 at_301 rfl rfl rfl ?_
    refine own_callV K279 (a := r277) (x0 := (⟨"java/lang/String", "length", "()I"⟩ : MethodName)) (wd113 hw) (wd37 hw) (fun q => own_nfS (args := #[]) (mvT q (wd39 hw)) rfl) (wd39 hw) (wd38 hw) (rm_lengthS hw hs K279.O S277 (by omega)) (wd40 hw) (wd10 hw) (by decide) S277.exa (argsL := []) (rest := []) rfl pd_2829I rfl rfl (W := 0) rfl (by decide) (by decide) (by decide) (by decide) at_303 rfl ?_
    intro T280 h280 L280 v280 K280 q280
    obtain ⟨rfl, e280⟩ := q280
    have f280 := e280.symm
    subst f280
    show G (T280.setTop (mkF m 306 #[.val (.int p0), .val (.int p1), .val (.int p2), .val (.int p3), .val (.int p4), .val (.int (1 : Int32)), .val (.int c267), .val (.int c268), .val (.int c269), .val (.int c270), .val (.ref s276), .val (.ref r277), .val (.int (Int32.ofNat (([] : List Int32) ++ (own_dn c267 true true)).length)), .val (.int (1 : Int32))] [(.int (Int32.ofNat (([] : List Int32) ++ (own_dn c267 true true)).length))]))
    refine own_iload K280 at_306 rfl rfl ?_
    refine own_icmpNo K280 at_308 rfl (teq rfl).2 ?_
    refine own_iconst K280 (v := (1 : Int32)) at_311 rfl rfl ?_
    refine own_goto K280 at_312 (pc' := 316) (by decide) (by decide) ?_
    have W281 := W277.same K280
    exact own_retN W281.K (z' := (1 : Int32)) at_316 rfl (by simp) (by decide) (by decide) (by decide) ⟨⟨rfl, W281.le⟩, fun _ => W281.C⟩
  · skip
    rw [hn]
    refine own_callSW W271 (own_EL hw) (kn := false) (fun q => nomatch q) (wd5 hw) (wd6 hw) (rm_make2 hw hs W271.K.O hc267 hc268 hc269 hc270) (wd7 hw) (wd2 hw) (by decide) (argsL := [(.int (2 : Int32)), (.int c267), (.int c268), (.int c269), (.int c270)]) (rest := []) rfl pd_28ICCCC29Ljava2flang2fString3b rfl rfl (Wd := 0) rfl (by decide) (by decide) (by decide) (by decide) at_43 rfl ?_
    intro T282 h282 L282 v282 k1_282 W282 C282 q282
    obtain ⟨s282, rfl, X282, S282⟩ := q282
    show G (T282.setTop (mkF m 46 #[.val (.int p0), .val (.int p1), .val (.int p2), .val (.int p3), .val (.int p4), .val (.int (2 : Int32)), .val (.int c267), .val (.int c268), .val (.int c269), .val (.int c270), .unset, .unset, .unset, .unset] [(.ref s282)]))
    refine own_astore W282.K (Ls' := #[.val (.int p0), .val (.int p1), .val (.int p2), .val (.int p3), .val (.int p4), .val (.int (2 : Int32)), .val (.int c267), .val (.int c268), .val (.int c269), .val (.int c270), .val (.ref s282), .unset, .unset, .unset]) at_46 rfl rfl rfl ?_
    refine own_aload W282.K at_48 rfl rfl rfl ?_
    have hch : own_chs [c267, c268] := own_chs_cons hc267 (own_chs_cons hc268 (own_chs_nil))
    refine own_callSW W282 (own_EL hw) (kn := false) (fun q => nomatch q) (wd29 hw) (wd30 hw) (rm_dn hw hs W282.K.O S282 (own_ub_ok hch) hch (by simp)) (wd32 hw) (wd31 hw) (by decide) (argsL := [(.ref s282)]) (rest := []) rfl pd_28Ljava2flang2fString3b29Ljava2flang2fString3b rfl rfl (Wd := 0) rfl (by decide) (by decide) (by decide) (by decide) at_50 rfl ?_
    intro T283 h283 L283 v283 k1_283 W283 C283 q283
    obtain ⟨r283, rfl, X283, S283⟩ := q283
    show G (T283.setTop (mkF m 53 #[.val (.int p0), .val (.int p1), .val (.int p2), .val (.int p3), .val (.int p4), .val (.int (2 : Int32)), .val (.int c267), .val (.int c268), .val (.int c269), .val (.int c270), .val (.ref s282), .unset, .unset, .unset] [(.ref r283)]))
    have hT : own_dnT [c267, c268] [c267, c268].length = ((([] : List Int32) ++ (own_dn c267 true false)) ++ (own_dn c268 false true)) := rfl
    rw [hT] at S283
    have hfc : own_chs ((([] : List Int32) ++ (own_dn c267 true false)) ++ (own_dn c268 false true)) := hT ▸ own_dnT_chs hch _ (Nat.le_refl _)
    have hle : ((([] : List Int32) ++ (own_dn c267 true false)) ++ (own_dn c268 false true)).length ≤ 12 := by rw [← hT]; exact Nat.le_trans (own_dnT_len _ _) (by simp)
    refine own_astore W283.K (Ls' := #[.val (.int p0), .val (.int p1), .val (.int p2), .val (.int p3), .val (.int p4), .val (.int (2 : Int32)), .val (.int c267), .val (.int c268), .val (.int c269), .val (.int c270), .val (.ref s282), .val (.ref r283), .unset, .unset]) at_53 rfl rfl rfl ?_
    refine own_iconst W283.K (v := (0 : Int32)) at_55 rfl rfl ?_
    refine own_istore W283.K (Ls' := #[.val (.int p0), .val (.int p1), .val (.int p2), .val (.int p3), .val (.int p4), .val (.int (2 : Int32)), .val (.int c267), .val (.int c268), .val (.int c269), .val (.int c270), .val (.ref s282), .val (.ref r283), .val (.int (0 : Int32)), .unset]) at_56 rfl rfl ?_
    refine own_iconst W283.K (v := (1 : Int32)) at_58 rfl rfl ?_
    refine own_istore W283.K (Ls' := #[.val (.int p0), .val (.int p1), .val (.int p2), .val (.int p3), .val (.int p4), .val (.int (2 : Int32)), .val (.int c267), .val (.int c268), .val (.int c269), .val (.int c270), .val (.ref s282), .val (.ref r283), .val (.int (0 : Int32)), .val (.int (1 : Int32))]) at_59 rfl rfl ?_
    refine own_iload W283.K at_61 rfl rfl ?_
    refine own_ifNo W283.K at_63 rfl ((if0 _ _).trans (tlt (by decide)).2.2.2) ?_
    refine own_iload W283.K at_66 rfl rfl ?_
    refine own_ifNo W283.K at_68 rfl ((if0 _ _).trans (feq (by decide)).1) ?_
    refine own_aload W283.K at_71 rfl rfl rfl ?_
    refine own_iload W283.K at_73 rfl rfl ?_
    refine own_iload W283.K at_75 rfl rfl ?_
    refine own_iconst W283.K (v := (1 : Int32)) at_77 rfl rfl ?_
    refine own_iload W283.K at_78 rfl rfl ?_
    refine own_iconst W283.K (v := (1 : Int32)) at_80 rfl rfl ?_
    refine own_icmpYes W283.K at_81 (pc' := 88) (by decide) (by decide) (feq (by decide)).2 ?_
    refine own_iconst W283.K (v := (0 : Int32)) at_88 rfl rfl ?_
    have e0 : ((([] : List Int32) ++ (own_dn c267 true false)) ++ (own_dn c268 false true)) = ([] : List Int32) ++ (own_dn c267 true false) ++ (([] : List Int32) ++ (own_dn c268 false true)) := by simp only [List.nil_append, List.append_nil, List.append_assoc]
    refine own_callS W283.K (wd192 hw) (wd193 hw) (rm_part hw hs (pr := ([] : List Int32)) (po := (([] : List Int32) ++ (own_dn c268 false true))) (y := c267) (f := true) (g := false) (u := own_ub ((([] : List Int32) ++ (own_dn c267 true false)) ++ (own_dn c268 false true))) W283.K.O (e0 ▸ S283) (e0 ▸ (by omega : (((([] : List Int32) ++ (own_dn c267 true false)) ++ (own_dn c268 false true))).length ≤ 4000)) (e0 ▸ own_ub_ok hfc)) (wd194 hw) (wd2 hw) (by decide) (argsL := [(.ref r283), (.int (0 : Int32)), (.int c267), (.int (1 : Int32)), (.int (0 : Int32))]) (rest := []) rfl pd_28Ljava2flang2fString3bICZZ29Z rfl rfl (W := 0) rfl (by decide) (by decide) (by decide) (by decide) at_89 rfl ?_
    intro T284 h284 L284 v284 K284 q284
    obtain ⟨rfl, e284⟩ := q284
    have f284 := e284.symm
    subst f284
    show G (T284.setTop (mkF m 92 #[.val (.int p0), .val (.int p1), .val (.int p2), .val (.int p3), .val (.int p4), .val (.int (2 : Int32)), .val (.int c267), .val (.int c268), .val (.int c269), .val (.int c270), .val (.ref s282), .val (.ref r283), .val (.int (0 : Int32)), .val (.int (1 : Int32))] [(.int (1 : Int32))]))
    refine own_ifNo K284 at_92 rfl ((if0 _ _).trans (feq (by decide)).1) ?_
    refine own_iconst K284 (v := (1 : Int32)) at_95 rfl rfl ?_
    refine own_goto K284 at_96 (pc' := 100) (by decide) (by decide) ?_
    refine own_istore K284 (Ls' := #[.val (.int p0), .val (.int p1), .val (.int p2), .val (.int p3), .val (.int p4), .val (.int (2 : Int32)), .val (.int c267), .val (.int c268), .val (.int c269), .val (.int c270), .val (.ref s282), .val (.ref r283), .val (.int (0 : Int32)), .val (.int (1 : Int32))]) at_100 rfl rfl ?_
    refine own_iload K284 at_102 rfl rfl ?_
    refine own_iload K284 at_104 rfl rfl ?_
    refine own_iconst K284 (v := (1 : Int32)) at_106 rfl rfl ?_
    refine own_iload K284 at_107 rfl rfl ?_
    refine own_iconst K284 (v := (1 : Int32)) at_109 rfl rfl ?_
    refine own_icmpYes K284 at_110 (pc' := 117) (by decide) (by decide) (feq (by decide)).2 ?_
    refine own_iconst K284 (v := (0 : Int32)) at_117 rfl rfl ?_
    refine own_callS K284 (wd195 hw) (wd196 hw) (rm_need hw hs (y := c267) (f := true) (g := false) K284.O) (wd197 hw) (wd2 hw) (by decide) (argsL := [(.int c267), (.int (1 : Int32)), (.int (0 : Int32))]) (rest := [(.int (0 : Int32))]) rfl pd_28CZZ29I rfl rfl (W := 1) rfl (by decide) (by decide) (by decide) (by decide) at_118 rfl ?_
    intro T285 h285 L285 v285 K285 q285
    obtain ⟨rfl, e285⟩ := q285
    have f285 := e285.symm
    subst f285
    show G (T285.setTop (mkF m 121 #[.val (.int p0), .val (.int p1), .val (.int p2), .val (.int p3), .val (.int p4), .val (.int (2 : Int32)), .val (.int c267), .val (.int c268), .val (.int c269), .val (.int c270), .val (.ref s282), .val (.ref r283), .val (.int (0 : Int32)), .val (.int (1 : Int32))] [(.int (Int32.ofNat (own_dn c267 true false).length)), (.int (0 : Int32))]))
    refine own_iadd K285 at_121 rfl ?_
    rw [show (0 : Int32) + Int32.ofNat (own_dn c267 true false).length = Int32.ofNat (([] : List Int32) ++ (own_dn c267 true false)).length from own_addL ([] : List Int32) (own_dn c267 true false)]
    refine own_istore K285 (Ls' := #[.val (.int p0), .val (.int p1), .val (.int p2), .val (.int p3), .val (.int p4), .val (.int (2 : Int32)), .val (.int c267), .val (.int c268), .val (.int c269), .val (.int c270), .val (.ref s282), .val (.ref r283), .val (.int (Int32.ofNat (([] : List Int32) ++ (own_dn c267 true false)).length)), .val (.int (1 : Int32))]) at_122 rfl rfl ?_
    refine own_iload K285 at_124 rfl rfl ?_
    refine own_iconst K285 (v := (1 : Int32)) at_126 rfl rfl ?_
    refine own_icmpNo K285 at_127 rfl (tlt (by decide)).2.2.2 ?_
    refine own_iload K285 at_130 rfl rfl ?_
    refine own_ifNo K285 at_132 rfl ((if0 _ _).trans (feq (by decide)).1) ?_
    refine own_aload K285 at_135 rfl rfl rfl ?_
    refine own_iload K285 at_137 rfl rfl ?_
    refine own_iload K285 at_139 rfl rfl ?_
    refine own_iconst K285 (v := (0 : Int32)) at_141 rfl rfl ?_
    refine own_iload K285 at_142 rfl rfl ?_
    refine own_iconst K285 (v := (2 : Int32)) at_144 rfl rfl ?_
    refine own_icmpNo K285 at_145 rfl (teq rfl).2 ?_
    refine own_iconst K285 (v := (1 : Int32)) at_148 rfl rfl ?_
    refine own_goto K285 at_149 (pc' := 153) (by decide) (by decide) ?_
    have e1 : ((([] : List Int32) ++ (own_dn c267 true false)) ++ (own_dn c268 false true)) = (([] : List Int32) ++ (own_dn c267 true false)) ++ (own_dn c268 false true) ++ ([] : List Int32) := by simp only [List.nil_append, List.append_nil, List.append_assoc]
    refine own_callS K285 (wd192 hw) (wd193 hw) (rm_part hw hs (pr := (([] : List Int32) ++ (own_dn c267 true false))) (po := ([] : List Int32)) (y := c268) (f := false) (g := true) (u := own_ub ((([] : List Int32) ++ (own_dn c267 true false)) ++ (own_dn c268 false true))) K285.O (e1 ▸ S283) (e1 ▸ (by omega : (((([] : List Int32) ++ (own_dn c267 true false)) ++ (own_dn c268 false true))).length ≤ 4000)) (e1 ▸ own_ub_ok hfc)) (wd194 hw) (wd2 hw) (by decide) (argsL := [(.ref r283), (.int (Int32.ofNat (([] : List Int32) ++ (own_dn c267 true false)).length)), (.int c268), (.int (0 : Int32)), (.int (1 : Int32))]) (rest := []) rfl pd_28Ljava2flang2fString3bICZZ29Z rfl rfl (W := 0) rfl (by decide) (by decide) (by decide) (by decide) at_153 rfl ?_
    intro T286 h286 L286 v286 K286 q286
    obtain ⟨rfl, e286⟩ := q286
    have f286 := e286.symm
    subst f286
    show G (T286.setTop (mkF m 156 #[.val (.int p0), .val (.int p1), .val (.int p2), .val (.int p3), .val (.int p4), .val (.int (2 : Int32)), .val (.int c267), .val (.int c268), .val (.int c269), .val (.int c270), .val (.ref s282), .val (.ref r283), .val (.int (Int32.ofNat (([] : List Int32) ++ (own_dn c267 true false)).length)), .val (.int (1 : Int32))] [(.int (1 : Int32))]))
    refine own_ifNo K286 at_156 rfl ((if0 _ _).trans (feq (by decide)).1) ?_
    refine own_iconst K286 (v := (1 : Int32)) at_159 rfl rfl ?_
    refine own_goto K286 at_160 (pc' := 164) (by decide) (by decide) ?_
    refine own_istore K286 (Ls' := #[.val (.int p0), .val (.int p1), .val (.int p2), .val (.int p3), .val (.int p4), .val (.int (2 : Int32)), .val (.int c267), .val (.int c268), .val (.int c269), .val (.int c270), .val (.ref s282), .val (.ref r283), .val (.int (Int32.ofNat (([] : List Int32) ++ (own_dn c267 true false)).length)), .val (.int (1 : Int32))]) at_164 rfl rfl ?_
    refine own_iload K286 at_166 rfl rfl ?_
    refine own_iload K286 at_168 rfl rfl ?_
    refine own_iconst K286 (v := (0 : Int32)) at_170 rfl rfl ?_
    refine own_iload K286 at_171 rfl rfl ?_
    refine own_iconst K286 (v := (2 : Int32)) at_173 rfl rfl ?_
    refine own_icmpNo K286 at_174 rfl (teq rfl).2 ?_
    refine own_iconst K286 (v := (1 : Int32)) at_177 rfl rfl ?_
    refine own_goto K286 at_178 (pc' := 182) (by decide) (by decide) ?_
    refine own_callS K286 (wd195 hw) (wd196 hw) (rm_need hw hs (y := c268) (f := false) (g := true) K286.O) (wd197 hw) (wd2 hw) (by decide) (argsL := [(.int c268), (.int (0 : Int32)), (.int (1 : Int32))]) (rest := [(.int (Int32.ofNat (([] : List Int32) ++ (own_dn c267 true false)).length))]) rfl pd_28CZZ29I rfl rfl (W := 1) rfl (by decide) (by decide) (by decide) (by decide) at_182 rfl ?_
    intro T287 h287 L287 v287 K287 q287
    obtain ⟨rfl, e287⟩ := q287
    have f287 := e287.symm
    subst f287
    show G (T287.setTop (mkF m 185 #[.val (.int p0), .val (.int p1), .val (.int p2), .val (.int p3), .val (.int p4), .val (.int (2 : Int32)), .val (.int c267), .val (.int c268), .val (.int c269), .val (.int c270), .val (.ref s282), .val (.ref r283), .val (.int (Int32.ofNat (([] : List Int32) ++ (own_dn c267 true false)).length)), .val (.int (1 : Int32))] [(.int (Int32.ofNat (own_dn c268 false true).length)), (.int (Int32.ofNat (([] : List Int32) ++ (own_dn c267 true false)).length))]))
    refine own_iadd K287 at_185 rfl ?_
    rw [show Int32.ofNat (([] : List Int32) ++ (own_dn c267 true false)).length + Int32.ofNat (own_dn c268 false true).length = Int32.ofNat ((([] : List Int32) ++ (own_dn c267 true false)) ++ (own_dn c268 false true)).length from own_addL (([] : List Int32) ++ (own_dn c267 true false)) (own_dn c268 false true)]
    refine own_istore K287 (Ls' := #[.val (.int p0), .val (.int p1), .val (.int p2), .val (.int p3), .val (.int p4), .val (.int (2 : Int32)), .val (.int c267), .val (.int c268), .val (.int c269), .val (.int c270), .val (.ref s282), .val (.ref r283), .val (.int (Int32.ofNat ((([] : List Int32) ++ (own_dn c267 true false)) ++ (own_dn c268 false true)).length)), .val (.int (1 : Int32))]) at_186 rfl rfl ?_
    refine own_iload K287 at_188 rfl rfl ?_
    refine own_iconst K287 (v := (2 : Int32)) at_190 rfl rfl ?_
    refine own_icmpYes K287 at_191 (pc' := 252) (by decide) (by decide) (flt (by decide)).2.2.2 ?_
    refine own_iload K287 at_252 rfl rfl ?_
    refine own_iconst K287 (v := (3 : Int32)) at_254 rfl rfl ?_
    refine own_icmpYes K287 at_255 (pc' := 296) (by decide) (by decide) (flt (by decide)).2.2.2 ?_
    refine own_iload K287 at_296 rfl rfl ?_
    refine own_ifNo K287 at_298 rfl ((if0 _ _).trans (feq (by decide)).1) ?_
    refine own_aload K287 at_301 rfl rfl rfl ?_
    refine own_callV K287 (a := r283) (x0 := (⟨"java/lang/String", "length", "()I"⟩ : MethodName)) (wd113 hw) (wd37 hw) (fun q => own_nfS (args := #[]) (mvT q (wd39 hw)) rfl) (wd39 hw) (wd38 hw) (rm_lengthS hw hs K287.O S283 (by omega)) (wd40 hw) (wd10 hw) (by decide) S283.exa (argsL := []) (rest := []) rfl pd_2829I rfl rfl (W := 0) rfl (by decide) (by decide) (by decide) (by decide) at_303 rfl ?_
    intro T288 h288 L288 v288 K288 q288
    obtain ⟨rfl, e288⟩ := q288
    have f288 := e288.symm
    subst f288
    show G (T288.setTop (mkF m 306 #[.val (.int p0), .val (.int p1), .val (.int p2), .val (.int p3), .val (.int p4), .val (.int (2 : Int32)), .val (.int c267), .val (.int c268), .val (.int c269), .val (.int c270), .val (.ref s282), .val (.ref r283), .val (.int (Int32.ofNat ((([] : List Int32) ++ (own_dn c267 true false)) ++ (own_dn c268 false true)).length)), .val (.int (1 : Int32))] [(.int (Int32.ofNat ((([] : List Int32) ++ (own_dn c267 true false)) ++ (own_dn c268 false true)).length))]))
    refine own_iload K288 at_306 rfl rfl ?_
    refine own_icmpNo K288 at_308 rfl (teq rfl).2 ?_
    refine own_iconst K288 (v := (1 : Int32)) at_311 rfl rfl ?_
    refine own_goto K288 at_312 (pc' := 316) (by decide) (by decide) ?_
    have W289 := W283.same K288
    exact own_retN W289.K (z' := (1 : Int32)) at_316 rfl (by simp) (by decide) (by decide) (by decide) ⟨⟨rfl, W289.le⟩, fun _ => W289.C⟩
  · skip
    rw [hn]
    refine own_callSW W271 (own_EL hw) (kn := false) (fun q => nomatch q) (wd5 hw) (wd6 hw) (rm_make3 hw hs W271.K.O hc267 hc268 hc269 hc270) (wd7 hw) (wd2 hw) (by decide) (argsL := [(.int (3 : Int32)), (.int c267), (.int c268), (.int c269), (.int c270)]) (rest := []) rfl pd_28ICCCC29Ljava2flang2fString3b rfl rfl (Wd := 0) rfl (by decide) (by decide) (by decide) (by decide) at_43 rfl ?_
    intro T290 h290 L290 v290 k1_290 W290 C290 q290
    obtain ⟨s290, rfl, X290, S290⟩ := q290
    show G (T290.setTop (mkF m 46 #[.val (.int p0), .val (.int p1), .val (.int p2), .val (.int p3), .val (.int p4), .val (.int (3 : Int32)), .val (.int c267), .val (.int c268), .val (.int c269), .val (.int c270), .unset, .unset, .unset, .unset] [(.ref s290)]))
    refine own_astore W290.K (Ls' := #[.val (.int p0), .val (.int p1), .val (.int p2), .val (.int p3), .val (.int p4), .val (.int (3 : Int32)), .val (.int c267), .val (.int c268), .val (.int c269), .val (.int c270), .val (.ref s290), .unset, .unset, .unset]) at_46 rfl rfl rfl ?_
    refine own_aload W290.K at_48 rfl rfl rfl ?_
    have hch : own_chs [c267, c268, c269] := own_chs_cons hc267 (own_chs_cons hc268 (own_chs_cons hc269 (own_chs_nil)))
    refine own_callSW W290 (own_EL hw) (kn := false) (fun q => nomatch q) (wd29 hw) (wd30 hw) (rm_dn hw hs W290.K.O S290 (own_ub_ok hch) hch (by simp)) (wd32 hw) (wd31 hw) (by decide) (argsL := [(.ref s290)]) (rest := []) rfl pd_28Ljava2flang2fString3b29Ljava2flang2fString3b rfl rfl (Wd := 0) rfl (by decide) (by decide) (by decide) (by decide) at_50 rfl ?_
    intro T291 h291 L291 v291 k1_291 W291 C291 q291
    obtain ⟨r291, rfl, X291, S291⟩ := q291
    show G (T291.setTop (mkF m 53 #[.val (.int p0), .val (.int p1), .val (.int p2), .val (.int p3), .val (.int p4), .val (.int (3 : Int32)), .val (.int c267), .val (.int c268), .val (.int c269), .val (.int c270), .val (.ref s290), .unset, .unset, .unset] [(.ref r291)]))
    have hT : own_dnT [c267, c268, c269] [c267, c268, c269].length = (((([] : List Int32) ++ (own_dn c267 true false)) ++ (own_dn c268 false false)) ++ (own_dn c269 false true)) := rfl
    rw [hT] at S291
    have hfc : own_chs (((([] : List Int32) ++ (own_dn c267 true false)) ++ (own_dn c268 false false)) ++ (own_dn c269 false true)) := hT ▸ own_dnT_chs hch _ (Nat.le_refl _)
    have hle : (((([] : List Int32) ++ (own_dn c267 true false)) ++ (own_dn c268 false false)) ++ (own_dn c269 false true)).length ≤ 12 := by rw [← hT]; exact Nat.le_trans (own_dnT_len _ _) (by simp)
    refine own_astore W291.K (Ls' := #[.val (.int p0), .val (.int p1), .val (.int p2), .val (.int p3), .val (.int p4), .val (.int (3 : Int32)), .val (.int c267), .val (.int c268), .val (.int c269), .val (.int c270), .val (.ref s290), .val (.ref r291), .unset, .unset]) at_53 rfl rfl rfl ?_
    refine own_iconst W291.K (v := (0 : Int32)) at_55 rfl rfl ?_
    refine own_istore W291.K (Ls' := #[.val (.int p0), .val (.int p1), .val (.int p2), .val (.int p3), .val (.int p4), .val (.int (3 : Int32)), .val (.int c267), .val (.int c268), .val (.int c269), .val (.int c270), .val (.ref s290), .val (.ref r291), .val (.int (0 : Int32)), .unset]) at_56 rfl rfl ?_
    refine own_iconst W291.K (v := (1 : Int32)) at_58 rfl rfl ?_
    refine own_istore W291.K (Ls' := #[.val (.int p0), .val (.int p1), .val (.int p2), .val (.int p3), .val (.int p4), .val (.int (3 : Int32)), .val (.int c267), .val (.int c268), .val (.int c269), .val (.int c270), .val (.ref s290), .val (.ref r291), .val (.int (0 : Int32)), .val (.int (1 : Int32))]) at_59 rfl rfl ?_
    refine own_iload W291.K at_61 rfl rfl ?_
    refine own_ifNo W291.K at_63 rfl ((if0 _ _).trans (tlt (by decide)).2.2.2) ?_
    refine own_iload W291.K at_66 rfl rfl ?_
    refine own_ifNo W291.K at_68 rfl ((if0 _ _).trans (feq (by decide)).1) ?_
    refine own_aload W291.K at_71 rfl rfl rfl ?_
    refine own_iload W291.K at_73 rfl rfl ?_
    refine own_iload W291.K at_75 rfl rfl ?_
    refine own_iconst W291.K (v := (1 : Int32)) at_77 rfl rfl ?_
    refine own_iload W291.K at_78 rfl rfl ?_
    refine own_iconst W291.K (v := (1 : Int32)) at_80 rfl rfl ?_
    refine own_icmpYes W291.K at_81 (pc' := 88) (by decide) (by decide) (feq (by decide)).2 ?_
    refine own_iconst W291.K (v := (0 : Int32)) at_88 rfl rfl ?_
    have e0 : (((([] : List Int32) ++ (own_dn c267 true false)) ++ (own_dn c268 false false)) ++ (own_dn c269 false true)) = ([] : List Int32) ++ (own_dn c267 true false) ++ ((([] : List Int32) ++ (own_dn c268 false false)) ++ (own_dn c269 false true)) := by simp only [List.nil_append, List.append_nil, List.append_assoc]
    refine own_callS W291.K (wd192 hw) (wd193 hw) (rm_part hw hs (pr := ([] : List Int32)) (po := ((([] : List Int32) ++ (own_dn c268 false false)) ++ (own_dn c269 false true))) (y := c267) (f := true) (g := false) (u := own_ub (((([] : List Int32) ++ (own_dn c267 true false)) ++ (own_dn c268 false false)) ++ (own_dn c269 false true))) W291.K.O (e0 ▸ S291) (e0 ▸ (by omega : ((((([] : List Int32) ++ (own_dn c267 true false)) ++ (own_dn c268 false false)) ++ (own_dn c269 false true))).length ≤ 4000)) (e0 ▸ own_ub_ok hfc)) (wd194 hw) (wd2 hw) (by decide) (argsL := [(.ref r291), (.int (0 : Int32)), (.int c267), (.int (1 : Int32)), (.int (0 : Int32))]) (rest := []) rfl pd_28Ljava2flang2fString3bICZZ29Z rfl rfl (W := 0) rfl (by decide) (by decide) (by decide) (by decide) at_89 rfl ?_
    intro T292 h292 L292 v292 K292 q292
    obtain ⟨rfl, e292⟩ := q292
    have f292 := e292.symm
    subst f292
    show G (T292.setTop (mkF m 92 #[.val (.int p0), .val (.int p1), .val (.int p2), .val (.int p3), .val (.int p4), .val (.int (3 : Int32)), .val (.int c267), .val (.int c268), .val (.int c269), .val (.int c270), .val (.ref s290), .val (.ref r291), .val (.int (0 : Int32)), .val (.int (1 : Int32))] [(.int (1 : Int32))]))
    refine own_ifNo K292 at_92 rfl ((if0 _ _).trans (feq (by decide)).1) ?_
    refine own_iconst K292 (v := (1 : Int32)) at_95 rfl rfl ?_
    refine own_goto K292 at_96 (pc' := 100) (by decide) (by decide) ?_
    refine own_istore K292 (Ls' := #[.val (.int p0), .val (.int p1), .val (.int p2), .val (.int p3), .val (.int p4), .val (.int (3 : Int32)), .val (.int c267), .val (.int c268), .val (.int c269), .val (.int c270), .val (.ref s290), .val (.ref r291), .val (.int (0 : Int32)), .val (.int (1 : Int32))]) at_100 rfl rfl ?_
    refine own_iload K292 at_102 rfl rfl ?_
    refine own_iload K292 at_104 rfl rfl ?_
    refine own_iconst K292 (v := (1 : Int32)) at_106 rfl rfl ?_
    refine own_iload K292 at_107 rfl rfl ?_
    refine own_iconst K292 (v := (1 : Int32)) at_109 rfl rfl ?_
    refine own_icmpYes K292 at_110 (pc' := 117) (by decide) (by decide) (feq (by decide)).2 ?_
    refine own_iconst K292 (v := (0 : Int32)) at_117 rfl rfl ?_
    refine own_callS K292 (wd195 hw) (wd196 hw) (rm_need hw hs (y := c267) (f := true) (g := false) K292.O) (wd197 hw) (wd2 hw) (by decide) (argsL := [(.int c267), (.int (1 : Int32)), (.int (0 : Int32))]) (rest := [(.int (0 : Int32))]) rfl pd_28CZZ29I rfl rfl (W := 1) rfl (by decide) (by decide) (by decide) (by decide) at_118 rfl ?_
    intro T293 h293 L293 v293 K293 q293
    obtain ⟨rfl, e293⟩ := q293
    have f293 := e293.symm
    subst f293
    show G (T293.setTop (mkF m 121 #[.val (.int p0), .val (.int p1), .val (.int p2), .val (.int p3), .val (.int p4), .val (.int (3 : Int32)), .val (.int c267), .val (.int c268), .val (.int c269), .val (.int c270), .val (.ref s290), .val (.ref r291), .val (.int (0 : Int32)), .val (.int (1 : Int32))] [(.int (Int32.ofNat (own_dn c267 true false).length)), (.int (0 : Int32))]))
    refine own_iadd K293 at_121 rfl ?_
    rw [show (0 : Int32) + Int32.ofNat (own_dn c267 true false).length = Int32.ofNat (([] : List Int32) ++ (own_dn c267 true false)).length from own_addL ([] : List Int32) (own_dn c267 true false)]
    refine own_istore K293 (Ls' := #[.val (.int p0), .val (.int p1), .val (.int p2), .val (.int p3), .val (.int p4), .val (.int (3 : Int32)), .val (.int c267), .val (.int c268), .val (.int c269), .val (.int c270), .val (.ref s290), .val (.ref r291), .val (.int (Int32.ofNat (([] : List Int32) ++ (own_dn c267 true false)).length)), .val (.int (1 : Int32))]) at_122 rfl rfl ?_
    refine own_iload K293 at_124 rfl rfl ?_
    refine own_iconst K293 (v := (1 : Int32)) at_126 rfl rfl ?_
    refine own_icmpNo K293 at_127 rfl (tlt (by decide)).2.2.2 ?_
    refine own_iload K293 at_130 rfl rfl ?_
    refine own_ifNo K293 at_132 rfl ((if0 _ _).trans (feq (by decide)).1) ?_
    refine own_aload K293 at_135 rfl rfl rfl ?_
    refine own_iload K293 at_137 rfl rfl ?_
    refine own_iload K293 at_139 rfl rfl ?_
    refine own_iconst K293 (v := (0 : Int32)) at_141 rfl rfl ?_
    refine own_iload K293 at_142 rfl rfl ?_
    refine own_iconst K293 (v := (2 : Int32)) at_144 rfl rfl ?_
    refine own_icmpYes K293 at_145 (pc' := 152) (by decide) (by decide) (feq (by decide)).2 ?_
    refine own_iconst K293 (v := (0 : Int32)) at_152 rfl rfl ?_
    have e1 : (((([] : List Int32) ++ (own_dn c267 true false)) ++ (own_dn c268 false false)) ++ (own_dn c269 false true)) = (([] : List Int32) ++ (own_dn c267 true false)) ++ (own_dn c268 false false) ++ (([] : List Int32) ++ (own_dn c269 false true)) := by simp only [List.nil_append, List.append_nil, List.append_assoc]
    refine own_callS K293 (wd192 hw) (wd193 hw) (rm_part hw hs (pr := (([] : List Int32) ++ (own_dn c267 true false))) (po := (([] : List Int32) ++ (own_dn c269 false true))) (y := c268) (f := false) (g := false) (u := own_ub (((([] : List Int32) ++ (own_dn c267 true false)) ++ (own_dn c268 false false)) ++ (own_dn c269 false true))) K293.O (e1 ▸ S291) (e1 ▸ (by omega : ((((([] : List Int32) ++ (own_dn c267 true false)) ++ (own_dn c268 false false)) ++ (own_dn c269 false true))).length ≤ 4000)) (e1 ▸ own_ub_ok hfc)) (wd194 hw) (wd2 hw) (by decide) (argsL := [(.ref r291), (.int (Int32.ofNat (([] : List Int32) ++ (own_dn c267 true false)).length)), (.int c268), (.int (0 : Int32)), (.int (0 : Int32))]) (rest := []) rfl pd_28Ljava2flang2fString3bICZZ29Z rfl rfl (W := 0) rfl (by decide) (by decide) (by decide) (by decide) at_153 rfl ?_
    intro T294 h294 L294 v294 K294 q294
    obtain ⟨rfl, e294⟩ := q294
    have f294 := e294.symm
    subst f294
    show G (T294.setTop (mkF m 156 #[.val (.int p0), .val (.int p1), .val (.int p2), .val (.int p3), .val (.int p4), .val (.int (3 : Int32)), .val (.int c267), .val (.int c268), .val (.int c269), .val (.int c270), .val (.ref s290), .val (.ref r291), .val (.int (Int32.ofNat (([] : List Int32) ++ (own_dn c267 true false)).length)), .val (.int (1 : Int32))] [(.int (1 : Int32))]))
    refine own_ifNo K294 at_156 rfl ((if0 _ _).trans (feq (by decide)).1) ?_
    refine own_iconst K294 (v := (1 : Int32)) at_159 rfl rfl ?_
    refine own_goto K294 at_160 (pc' := 164) (by decide) (by decide) ?_
    refine own_istore K294 (Ls' := #[.val (.int p0), .val (.int p1), .val (.int p2), .val (.int p3), .val (.int p4), .val (.int (3 : Int32)), .val (.int c267), .val (.int c268), .val (.int c269), .val (.int c270), .val (.ref s290), .val (.ref r291), .val (.int (Int32.ofNat (([] : List Int32) ++ (own_dn c267 true false)).length)), .val (.int (1 : Int32))]) at_164 rfl rfl ?_
    refine own_iload K294 at_166 rfl rfl ?_
    refine own_iload K294 at_168 rfl rfl ?_
    refine own_iconst K294 (v := (0 : Int32)) at_170 rfl rfl ?_
    refine own_iload K294 at_171 rfl rfl ?_
    refine own_iconst K294 (v := (2 : Int32)) at_173 rfl rfl ?_
    refine own_icmpYes K294 at_174 (pc' := 181) (by decide) (by decide) (feq (by decide)).2 ?_
    refine own_iconst K294 (v := (0 : Int32)) at_181 rfl rfl ?_
    refine own_callS K294 (wd195 hw) (wd196 hw) (rm_need hw hs (y := c268) (f := false) (g := false) K294.O) (wd197 hw) (wd2 hw) (by decide) (argsL := [(.int c268), (.int (0 : Int32)), (.int (0 : Int32))]) (rest := [(.int (Int32.ofNat (([] : List Int32) ++ (own_dn c267 true false)).length))]) rfl pd_28CZZ29I rfl rfl (W := 1) rfl (by decide) (by decide) (by decide) (by decide) at_182 rfl ?_
    intro T295 h295 L295 v295 K295 q295
    obtain ⟨rfl, e295⟩ := q295
    have f295 := e295.symm
    subst f295
    show G (T295.setTop (mkF m 185 #[.val (.int p0), .val (.int p1), .val (.int p2), .val (.int p3), .val (.int p4), .val (.int (3 : Int32)), .val (.int c267), .val (.int c268), .val (.int c269), .val (.int c270), .val (.ref s290), .val (.ref r291), .val (.int (Int32.ofNat (([] : List Int32) ++ (own_dn c267 true false)).length)), .val (.int (1 : Int32))] [(.int (Int32.ofNat (own_dn c268 false false).length)), (.int (Int32.ofNat (([] : List Int32) ++ (own_dn c267 true false)).length))]))
    refine own_iadd K295 at_185 rfl ?_
    rw [show Int32.ofNat (([] : List Int32) ++ (own_dn c267 true false)).length + Int32.ofNat (own_dn c268 false false).length = Int32.ofNat ((([] : List Int32) ++ (own_dn c267 true false)) ++ (own_dn c268 false false)).length from own_addL (([] : List Int32) ++ (own_dn c267 true false)) (own_dn c268 false false)]
    refine own_istore K295 (Ls' := #[.val (.int p0), .val (.int p1), .val (.int p2), .val (.int p3), .val (.int p4), .val (.int (3 : Int32)), .val (.int c267), .val (.int c268), .val (.int c269), .val (.int c270), .val (.ref s290), .val (.ref r291), .val (.int (Int32.ofNat ((([] : List Int32) ++ (own_dn c267 true false)) ++ (own_dn c268 false false)).length)), .val (.int (1 : Int32))]) at_186 rfl rfl ?_
    refine own_iload K295 at_188 rfl rfl ?_
    refine own_iconst K295 (v := (2 : Int32)) at_190 rfl rfl ?_
    refine own_icmpNo K295 at_191 rfl (tlt (by decide)).2.2.2 ?_
    refine own_iload K295 at_194 rfl rfl ?_
    refine own_ifNo K295 at_196 rfl ((if0 _ _).trans (feq (by decide)).1) ?_
    refine own_aload K295 at_199 rfl rfl rfl ?_
    refine own_iload K295 at_201 rfl rfl ?_
    refine own_iload K295 at_203 rfl rfl ?_
    refine own_iconst K295 (v := (0 : Int32)) at_205 rfl rfl ?_
    refine own_iload K295 at_206 rfl rfl ?_
    refine own_iconst K295 (v := (3 : Int32)) at_208 rfl rfl ?_
    refine own_icmpNo K295 at_209 rfl (teq rfl).2 ?_
    refine own_iconst K295 (v := (1 : Int32)) at_212 rfl rfl ?_
    refine own_goto K295 at_213 (pc' := 217) (by decide) (by decide) ?_
    have e2 : (((([] : List Int32) ++ (own_dn c267 true false)) ++ (own_dn c268 false false)) ++ (own_dn c269 false true)) = ((([] : List Int32) ++ (own_dn c267 true false)) ++ (own_dn c268 false false)) ++ (own_dn c269 false true) ++ ([] : List Int32) := by simp only [List.nil_append, List.append_nil, List.append_assoc]
    refine own_callS K295 (wd192 hw) (wd193 hw) (rm_part hw hs (pr := ((([] : List Int32) ++ (own_dn c267 true false)) ++ (own_dn c268 false false))) (po := ([] : List Int32)) (y := c269) (f := false) (g := true) (u := own_ub (((([] : List Int32) ++ (own_dn c267 true false)) ++ (own_dn c268 false false)) ++ (own_dn c269 false true))) K295.O (e2 ▸ S291) (e2 ▸ (by omega : ((((([] : List Int32) ++ (own_dn c267 true false)) ++ (own_dn c268 false false)) ++ (own_dn c269 false true))).length ≤ 4000)) (e2 ▸ own_ub_ok hfc)) (wd194 hw) (wd2 hw) (by decide) (argsL := [(.ref r291), (.int (Int32.ofNat ((([] : List Int32) ++ (own_dn c267 true false)) ++ (own_dn c268 false false)).length)), (.int c269), (.int (0 : Int32)), (.int (1 : Int32))]) (rest := []) rfl pd_28Ljava2flang2fString3bICZZ29Z rfl rfl (W := 0) rfl (by decide) (by decide) (by decide) (by decide) at_217 rfl ?_
    intro T296 h296 L296 v296 K296 q296
    obtain ⟨rfl, e296⟩ := q296
    have f296 := e296.symm
    subst f296
    show G (T296.setTop (mkF m 220 #[.val (.int p0), .val (.int p1), .val (.int p2), .val (.int p3), .val (.int p4), .val (.int (3 : Int32)), .val (.int c267), .val (.int c268), .val (.int c269), .val (.int c270), .val (.ref s290), .val (.ref r291), .val (.int (Int32.ofNat ((([] : List Int32) ++ (own_dn c267 true false)) ++ (own_dn c268 false false)).length)), .val (.int (1 : Int32))] [(.int (1 : Int32))]))
    refine own_ifNo K296 at_220 rfl ((if0 _ _).trans (feq (by decide)).1) ?_
    refine own_iconst K296 (v := (1 : Int32)) at_223 rfl rfl ?_
    refine own_goto K296 at_224 (pc' := 228) (by decide) (by decide) ?_
    refine own_istore K296 (Ls' := #[.val (.int p0), .val (.int p1), .val (.int p2), .val (.int p3), .val (.int p4), .val (.int (3 : Int32)), .val (.int c267), .val (.int c268), .val (.int c269), .val (.int c270), .val (.ref s290), .val (.ref r291), .val (.int (Int32.ofNat ((([] : List Int32) ++ (own_dn c267 true false)) ++ (own_dn c268 false false)).length)), .val (.int (1 : Int32))]) at_228 rfl rfl ?_
    refine own_iload K296 at_230 rfl rfl ?_
    refine own_iload K296 at_232 rfl rfl ?_
    refine own_iconst K296 (v := (0 : Int32)) at_234 rfl rfl ?_
    refine own_iload K296 at_235 rfl rfl ?_
    refine own_iconst K296 (v := (3 : Int32)) at_237 rfl rfl ?_
    refine own_icmpNo K296 at_238 rfl (teq rfl).2 ?_
    refine own_iconst K296 (v := (1 : Int32)) at_241 rfl rfl ?_
    refine own_goto K296 at_242 (pc' := 246) (by decide) (by decide) ?_
    refine own_callS K296 (wd195 hw) (wd196 hw) (rm_need hw hs (y := c269) (f := false) (g := true) K296.O) (wd197 hw) (wd2 hw) (by decide) (argsL := [(.int c269), (.int (0 : Int32)), (.int (1 : Int32))]) (rest := [(.int (Int32.ofNat ((([] : List Int32) ++ (own_dn c267 true false)) ++ (own_dn c268 false false)).length))]) rfl pd_28CZZ29I rfl rfl (W := 1) rfl (by decide) (by decide) (by decide) (by decide) at_246 rfl ?_
    intro T297 h297 L297 v297 K297 q297
    obtain ⟨rfl, e297⟩ := q297
    have f297 := e297.symm
    subst f297
    show G (T297.setTop (mkF m 249 #[.val (.int p0), .val (.int p1), .val (.int p2), .val (.int p3), .val (.int p4), .val (.int (3 : Int32)), .val (.int c267), .val (.int c268), .val (.int c269), .val (.int c270), .val (.ref s290), .val (.ref r291), .val (.int (Int32.ofNat ((([] : List Int32) ++ (own_dn c267 true false)) ++ (own_dn c268 false false)).length)), .val (.int (1 : Int32))] [(.int (Int32.ofNat (own_dn c269 false true).length)), (.int (Int32.ofNat ((([] : List Int32) ++ (own_dn c267 true false)) ++ (own_dn c268 false false)).length))]))
    refine own_iadd K297 at_249 rfl ?_
    rw [show Int32.ofNat ((([] : List Int32) ++ (own_dn c267 true false)) ++ (own_dn c268 false false)).length + Int32.ofNat (own_dn c269 false true).length = Int32.ofNat (((([] : List Int32) ++ (own_dn c267 true false)) ++ (own_dn c268 false false)) ++ (own_dn c269 false true)).length from own_addL ((([] : List Int32) ++ (own_dn c267 true false)) ++ (own_dn c268 false false)) (own_dn c269 false true)]
    refine own_istore K297 (Ls' := #[.val (.int p0), .val (.int p1), .val (.int p2), .val (.int p3), .val (.int p4), .val (.int (3 : Int32)), .val (.int c267), .val (.int c268), .val (.int c269), .val (.int c270), .val (.ref s290), .val (.ref r291), .val (.int (Int32.ofNat (((([] : List Int32) ++ (own_dn c267 true false)) ++ (own_dn c268 false false)) ++ (own_dn c269 false true)).length)), .val (.int (1 : Int32))]) at_250 rfl rfl ?_
    refine own_iload K297 at_252 rfl rfl ?_
    refine own_iconst K297 (v := (3 : Int32)) at_254 rfl rfl ?_
    refine own_icmpYes K297 at_255 (pc' := 296) (by decide) (by decide) (flt (by decide)).2.2.2 ?_
    refine own_iload K297 at_296 rfl rfl ?_
    refine own_ifNo K297 at_298 rfl ((if0 _ _).trans (feq (by decide)).1) ?_
    refine own_aload K297 at_301 rfl rfl rfl ?_
    refine own_callV K297 (a := r291) (x0 := (⟨"java/lang/String", "length", "()I"⟩ : MethodName)) (wd113 hw) (wd37 hw) (fun q => own_nfS (args := #[]) (mvT q (wd39 hw)) rfl) (wd39 hw) (wd38 hw) (rm_lengthS hw hs K297.O S291 (by omega)) (wd40 hw) (wd10 hw) (by decide) S291.exa (argsL := []) (rest := []) rfl pd_2829I rfl rfl (W := 0) rfl (by decide) (by decide) (by decide) (by decide) at_303 rfl ?_
    intro T298 h298 L298 v298 K298 q298
    obtain ⟨rfl, e298⟩ := q298
    have f298 := e298.symm
    subst f298
    show G (T298.setTop (mkF m 306 #[.val (.int p0), .val (.int p1), .val (.int p2), .val (.int p3), .val (.int p4), .val (.int (3 : Int32)), .val (.int c267), .val (.int c268), .val (.int c269), .val (.int c270), .val (.ref s290), .val (.ref r291), .val (.int (Int32.ofNat (((([] : List Int32) ++ (own_dn c267 true false)) ++ (own_dn c268 false false)) ++ (own_dn c269 false true)).length)), .val (.int (1 : Int32))] [(.int (Int32.ofNat (((([] : List Int32) ++ (own_dn c267 true false)) ++ (own_dn c268 false false)) ++ (own_dn c269 false true)).length))]))
    refine own_iload K298 at_306 rfl rfl ?_
    refine own_icmpNo K298 at_308 rfl (teq rfl).2 ?_
    refine own_iconst K298 (v := (1 : Int32)) at_311 rfl rfl ?_
    refine own_goto K298 at_312 (pc' := 316) (by decide) (by decide) ?_
    have W299 := W291.same K298
    exact own_retN W299.K (z' := (1 : Int32)) at_316 rfl (by simp) (by decide) (by decide) (by decide) ⟨⟨rfl, W299.le⟩, fun _ => W299.C⟩
  · skip
    rw [hn]
    refine own_callSW W271 (own_EL hw) (kn := false) (fun q => nomatch q) (wd5 hw) (wd6 hw) (rm_make4 hw hs W271.K.O hc267 hc268 hc269 hc270) (wd7 hw) (wd2 hw) (by decide) (argsL := [(.int (4 : Int32)), (.int c267), (.int c268), (.int c269), (.int c270)]) (rest := []) rfl pd_28ICCCC29Ljava2flang2fString3b rfl rfl (Wd := 0) rfl (by decide) (by decide) (by decide) (by decide) at_43 rfl ?_
    intro T300 h300 L300 v300 k1_300 W300 C300 q300
    obtain ⟨s300, rfl, X300, S300⟩ := q300
    show G (T300.setTop (mkF m 46 #[.val (.int p0), .val (.int p1), .val (.int p2), .val (.int p3), .val (.int p4), .val (.int (4 : Int32)), .val (.int c267), .val (.int c268), .val (.int c269), .val (.int c270), .unset, .unset, .unset, .unset] [(.ref s300)]))
    refine own_astore W300.K (Ls' := #[.val (.int p0), .val (.int p1), .val (.int p2), .val (.int p3), .val (.int p4), .val (.int (4 : Int32)), .val (.int c267), .val (.int c268), .val (.int c269), .val (.int c270), .val (.ref s300), .unset, .unset, .unset]) at_46 rfl rfl rfl ?_
    refine own_aload W300.K at_48 rfl rfl rfl ?_
    have hch : own_chs [c267, c268, c269, c270] := own_chs_cons hc267 (own_chs_cons hc268 (own_chs_cons hc269 (own_chs_cons hc270 (own_chs_nil))))
    refine own_callSW W300 (own_EL hw) (kn := false) (fun q => nomatch q) (wd29 hw) (wd30 hw) (rm_dn hw hs W300.K.O S300 (own_ub_ok hch) hch (by simp)) (wd32 hw) (wd31 hw) (by decide) (argsL := [(.ref s300)]) (rest := []) rfl pd_28Ljava2flang2fString3b29Ljava2flang2fString3b rfl rfl (Wd := 0) rfl (by decide) (by decide) (by decide) (by decide) at_50 rfl ?_
    intro T301 h301 L301 v301 k1_301 W301 C301 q301
    obtain ⟨r301, rfl, X301, S301⟩ := q301
    show G (T301.setTop (mkF m 53 #[.val (.int p0), .val (.int p1), .val (.int p2), .val (.int p3), .val (.int p4), .val (.int (4 : Int32)), .val (.int c267), .val (.int c268), .val (.int c269), .val (.int c270), .val (.ref s300), .unset, .unset, .unset] [(.ref r301)]))
    have hT : own_dnT [c267, c268, c269, c270] [c267, c268, c269, c270].length = ((((([] : List Int32) ++ (own_dn c267 true false)) ++ (own_dn c268 false false)) ++ (own_dn c269 false false)) ++ (own_dn c270 false true)) := rfl
    rw [hT] at S301
    have hfc : own_chs ((((([] : List Int32) ++ (own_dn c267 true false)) ++ (own_dn c268 false false)) ++ (own_dn c269 false false)) ++ (own_dn c270 false true)) := hT ▸ own_dnT_chs hch _ (Nat.le_refl _)
    have hle : ((((([] : List Int32) ++ (own_dn c267 true false)) ++ (own_dn c268 false false)) ++ (own_dn c269 false false)) ++ (own_dn c270 false true)).length ≤ 12 := by rw [← hT]; exact Nat.le_trans (own_dnT_len _ _) (by simp)
    refine own_astore W301.K (Ls' := #[.val (.int p0), .val (.int p1), .val (.int p2), .val (.int p3), .val (.int p4), .val (.int (4 : Int32)), .val (.int c267), .val (.int c268), .val (.int c269), .val (.int c270), .val (.ref s300), .val (.ref r301), .unset, .unset]) at_53 rfl rfl rfl ?_
    refine own_iconst W301.K (v := (0 : Int32)) at_55 rfl rfl ?_
    refine own_istore W301.K (Ls' := #[.val (.int p0), .val (.int p1), .val (.int p2), .val (.int p3), .val (.int p4), .val (.int (4 : Int32)), .val (.int c267), .val (.int c268), .val (.int c269), .val (.int c270), .val (.ref s300), .val (.ref r301), .val (.int (0 : Int32)), .unset]) at_56 rfl rfl ?_
    refine own_iconst W301.K (v := (1 : Int32)) at_58 rfl rfl ?_
    refine own_istore W301.K (Ls' := #[.val (.int p0), .val (.int p1), .val (.int p2), .val (.int p3), .val (.int p4), .val (.int (4 : Int32)), .val (.int c267), .val (.int c268), .val (.int c269), .val (.int c270), .val (.ref s300), .val (.ref r301), .val (.int (0 : Int32)), .val (.int (1 : Int32))]) at_59 rfl rfl ?_
    refine own_iload W301.K at_61 rfl rfl ?_
    refine own_ifNo W301.K at_63 rfl ((if0 _ _).trans (tlt (by decide)).2.2.2) ?_
    refine own_iload W301.K at_66 rfl rfl ?_
    refine own_ifNo W301.K at_68 rfl ((if0 _ _).trans (feq (by decide)).1) ?_
    refine own_aload W301.K at_71 rfl rfl rfl ?_
    refine own_iload W301.K at_73 rfl rfl ?_
    refine own_iload W301.K at_75 rfl rfl ?_
    refine own_iconst W301.K (v := (1 : Int32)) at_77 rfl rfl ?_
    refine own_iload W301.K at_78 rfl rfl ?_
    refine own_iconst W301.K (v := (1 : Int32)) at_80 rfl rfl ?_
    refine own_icmpYes W301.K at_81 (pc' := 88) (by decide) (by decide) (feq (by decide)).2 ?_
    refine own_iconst W301.K (v := (0 : Int32)) at_88 rfl rfl ?_
    have e0 : ((((([] : List Int32) ++ (own_dn c267 true false)) ++ (own_dn c268 false false)) ++ (own_dn c269 false false)) ++ (own_dn c270 false true)) = ([] : List Int32) ++ (own_dn c267 true false) ++ (((([] : List Int32) ++ (own_dn c268 false false)) ++ (own_dn c269 false false)) ++ (own_dn c270 false true)) := by simp only [List.nil_append, List.append_nil, List.append_assoc]
    refine own_callS W301.K (wd192 hw) (wd193 hw) (rm_part hw hs (pr := ([] : List Int32)) (po := (((([] : List Int32) ++ (own_dn c268 false false)) ++ (own_dn c269 false false)) ++ (own_dn c270 false true))) (y := c267) (f := true) (g := false) (u := own_ub ((((([] : List Int32) ++ (own_dn c267 true false)) ++ (own_dn c268 false false)) ++ (own_dn c269 false false)) ++ (own_dn c270 false true))) W301.K.O (e0 ▸ S301) (e0 ▸ (by omega : (((((([] : List Int32) ++ (own_dn c267 true false)) ++ (own_dn c268 false false)) ++ (own_dn c269 false false)) ++ (own_dn c270 false true))).length ≤ 4000)) (e0 ▸ own_ub_ok hfc)) (wd194 hw) (wd2 hw) (by decide) (argsL := [(.ref r301), (.int (0 : Int32)), (.int c267), (.int (1 : Int32)), (.int (0 : Int32))]) (rest := []) rfl pd_28Ljava2flang2fString3bICZZ29Z rfl rfl (W := 0) rfl (by decide) (by decide) (by decide) (by decide) at_89 rfl ?_
    intro T302 h302 L302 v302 K302 q302
    obtain ⟨rfl, e302⟩ := q302
    have f302 := e302.symm
    subst f302
    show G (T302.setTop (mkF m 92 #[.val (.int p0), .val (.int p1), .val (.int p2), .val (.int p3), .val (.int p4), .val (.int (4 : Int32)), .val (.int c267), .val (.int c268), .val (.int c269), .val (.int c270), .val (.ref s300), .val (.ref r301), .val (.int (0 : Int32)), .val (.int (1 : Int32))] [(.int (1 : Int32))]))
    refine own_ifNo K302 at_92 rfl ((if0 _ _).trans (feq (by decide)).1) ?_
    refine own_iconst K302 (v := (1 : Int32)) at_95 rfl rfl ?_
    refine own_goto K302 at_96 (pc' := 100) (by decide) (by decide) ?_
    refine own_istore K302 (Ls' := #[.val (.int p0), .val (.int p1), .val (.int p2), .val (.int p3), .val (.int p4), .val (.int (4 : Int32)), .val (.int c267), .val (.int c268), .val (.int c269), .val (.int c270), .val (.ref s300), .val (.ref r301), .val (.int (0 : Int32)), .val (.int (1 : Int32))]) at_100 rfl rfl ?_
    refine own_iload K302 at_102 rfl rfl ?_
    refine own_iload K302 at_104 rfl rfl ?_
    refine own_iconst K302 (v := (1 : Int32)) at_106 rfl rfl ?_
    refine own_iload K302 at_107 rfl rfl ?_
    refine own_iconst K302 (v := (1 : Int32)) at_109 rfl rfl ?_
    refine own_icmpYes K302 at_110 (pc' := 117) (by decide) (by decide) (feq (by decide)).2 ?_
    refine own_iconst K302 (v := (0 : Int32)) at_117 rfl rfl ?_
    refine own_callS K302 (wd195 hw) (wd196 hw) (rm_need hw hs (y := c267) (f := true) (g := false) K302.O) (wd197 hw) (wd2 hw) (by decide) (argsL := [(.int c267), (.int (1 : Int32)), (.int (0 : Int32))]) (rest := [(.int (0 : Int32))]) rfl pd_28CZZ29I rfl rfl (W := 1) rfl (by decide) (by decide) (by decide) (by decide) at_118 rfl ?_
    intro T303 h303 L303 v303 K303 q303
    obtain ⟨rfl, e303⟩ := q303
    have f303 := e303.symm
    subst f303
    show G (T303.setTop (mkF m 121 #[.val (.int p0), .val (.int p1), .val (.int p2), .val (.int p3), .val (.int p4), .val (.int (4 : Int32)), .val (.int c267), .val (.int c268), .val (.int c269), .val (.int c270), .val (.ref s300), .val (.ref r301), .val (.int (0 : Int32)), .val (.int (1 : Int32))] [(.int (Int32.ofNat (own_dn c267 true false).length)), (.int (0 : Int32))]))
    refine own_iadd K303 at_121 rfl ?_
    rw [show (0 : Int32) + Int32.ofNat (own_dn c267 true false).length = Int32.ofNat (([] : List Int32) ++ (own_dn c267 true false)).length from own_addL ([] : List Int32) (own_dn c267 true false)]
    refine own_istore K303 (Ls' := #[.val (.int p0), .val (.int p1), .val (.int p2), .val (.int p3), .val (.int p4), .val (.int (4 : Int32)), .val (.int c267), .val (.int c268), .val (.int c269), .val (.int c270), .val (.ref s300), .val (.ref r301), .val (.int (Int32.ofNat (([] : List Int32) ++ (own_dn c267 true false)).length)), .val (.int (1 : Int32))]) at_122 rfl rfl ?_
    refine own_iload K303 at_124 rfl rfl ?_
    refine own_iconst K303 (v := (1 : Int32)) at_126 rfl rfl ?_
    refine own_icmpNo K303 at_127 rfl (tlt (by decide)).2.2.2 ?_
    refine own_iload K303 at_130 rfl rfl ?_
    refine own_ifNo K303 at_132 rfl ((if0 _ _).trans (feq (by decide)).1) ?_
    refine own_aload K303 at_135 rfl rfl rfl ?_
    refine own_iload K303 at_137 rfl rfl ?_
    refine own_iload K303 at_139 rfl rfl ?_
    refine own_iconst K303 (v := (0 : Int32)) at_141 rfl rfl ?_
    refine own_iload K303 at_142 rfl rfl ?_
    refine own_iconst K303 (v := (2 : Int32)) at_144 rfl rfl ?_
    refine own_icmpYes K303 at_145 (pc' := 152) (by decide) (by decide) (feq (by decide)).2 ?_
    refine own_iconst K303 (v := (0 : Int32)) at_152 rfl rfl ?_
    have e1 : ((((([] : List Int32) ++ (own_dn c267 true false)) ++ (own_dn c268 false false)) ++ (own_dn c269 false false)) ++ (own_dn c270 false true)) = (([] : List Int32) ++ (own_dn c267 true false)) ++ (own_dn c268 false false) ++ ((([] : List Int32) ++ (own_dn c269 false false)) ++ (own_dn c270 false true)) := by simp only [List.nil_append, List.append_nil, List.append_assoc]
    refine own_callS K303 (wd192 hw) (wd193 hw) (rm_part hw hs (pr := (([] : List Int32) ++ (own_dn c267 true false))) (po := ((([] : List Int32) ++ (own_dn c269 false false)) ++ (own_dn c270 false true))) (y := c268) (f := false) (g := false) (u := own_ub ((((([] : List Int32) ++ (own_dn c267 true false)) ++ (own_dn c268 false false)) ++ (own_dn c269 false false)) ++ (own_dn c270 false true))) K303.O (e1 ▸ S301) (e1 ▸ (by omega : (((((([] : List Int32) ++ (own_dn c267 true false)) ++ (own_dn c268 false false)) ++ (own_dn c269 false false)) ++ (own_dn c270 false true))).length ≤ 4000)) (e1 ▸ own_ub_ok hfc)) (wd194 hw) (wd2 hw) (by decide) (argsL := [(.ref r301), (.int (Int32.ofNat (([] : List Int32) ++ (own_dn c267 true false)).length)), (.int c268), (.int (0 : Int32)), (.int (0 : Int32))]) (rest := []) rfl pd_28Ljava2flang2fString3bICZZ29Z rfl rfl (W := 0) rfl (by decide) (by decide) (by decide) (by decide) at_153 rfl ?_
    intro T304 h304 L304 v304 K304 q304
    obtain ⟨rfl, e304⟩ := q304
    have f304 := e304.symm
    subst f304
    show G (T304.setTop (mkF m 156 #[.val (.int p0), .val (.int p1), .val (.int p2), .val (.int p3), .val (.int p4), .val (.int (4 : Int32)), .val (.int c267), .val (.int c268), .val (.int c269), .val (.int c270), .val (.ref s300), .val (.ref r301), .val (.int (Int32.ofNat (([] : List Int32) ++ (own_dn c267 true false)).length)), .val (.int (1 : Int32))] [(.int (1 : Int32))]))
    refine own_ifNo K304 at_156 rfl ((if0 _ _).trans (feq (by decide)).1) ?_
    refine own_iconst K304 (v := (1 : Int32)) at_159 rfl rfl ?_
    refine own_goto K304 at_160 (pc' := 164) (by decide) (by decide) ?_
    refine own_istore K304 (Ls' := #[.val (.int p0), .val (.int p1), .val (.int p2), .val (.int p3), .val (.int p4), .val (.int (4 : Int32)), .val (.int c267), .val (.int c268), .val (.int c269), .val (.int c270), .val (.ref s300), .val (.ref r301), .val (.int (Int32.ofNat (([] : List Int32) ++ (own_dn c267 true false)).length)), .val (.int (1 : Int32))]) at_164 rfl rfl ?_
    refine own_iload K304 at_166 rfl rfl ?_
    refine own_iload K304 at_168 rfl rfl ?_
    refine own_iconst K304 (v := (0 : Int32)) at_170 rfl rfl ?_
    refine own_iload K304 at_171 rfl rfl ?_
    refine own_iconst K304 (v := (2 : Int32)) at_173 rfl rfl ?_
    refine own_icmpYes K304 at_174 (pc' := 181) (by decide) (by decide) (feq (by decide)).2 ?_
    refine own_iconst K304 (v := (0 : Int32)) at_181 rfl rfl ?_
    refine own_callS K304 (wd195 hw) (wd196 hw) (rm_need hw hs (y := c268) (f := false) (g := false) K304.O) (wd197 hw) (wd2 hw) (by decide) (argsL := [(.int c268), (.int (0 : Int32)), (.int (0 : Int32))]) (rest := [(.int (Int32.ofNat (([] : List Int32) ++ (own_dn c267 true false)).length))]) rfl pd_28CZZ29I rfl rfl (W := 1) rfl (by decide) (by decide) (by decide) (by decide) at_182 rfl ?_
    intro T305 h305 L305 v305 K305 q305
    obtain ⟨rfl, e305⟩ := q305
    have f305 := e305.symm
    subst f305
    show G (T305.setTop (mkF m 185 #[.val (.int p0), .val (.int p1), .val (.int p2), .val (.int p3), .val (.int p4), .val (.int (4 : Int32)), .val (.int c267), .val (.int c268), .val (.int c269), .val (.int c270), .val (.ref s300), .val (.ref r301), .val (.int (Int32.ofNat (([] : List Int32) ++ (own_dn c267 true false)).length)), .val (.int (1 : Int32))] [(.int (Int32.ofNat (own_dn c268 false false).length)), (.int (Int32.ofNat (([] : List Int32) ++ (own_dn c267 true false)).length))]))
    refine own_iadd K305 at_185 rfl ?_
    rw [show Int32.ofNat (([] : List Int32) ++ (own_dn c267 true false)).length + Int32.ofNat (own_dn c268 false false).length = Int32.ofNat ((([] : List Int32) ++ (own_dn c267 true false)) ++ (own_dn c268 false false)).length from own_addL (([] : List Int32) ++ (own_dn c267 true false)) (own_dn c268 false false)]
    refine own_istore K305 (Ls' := #[.val (.int p0), .val (.int p1), .val (.int p2), .val (.int p3), .val (.int p4), .val (.int (4 : Int32)), .val (.int c267), .val (.int c268), .val (.int c269), .val (.int c270), .val (.ref s300), .val (.ref r301), .val (.int (Int32.ofNat ((([] : List Int32) ++ (own_dn c267 true false)) ++ (own_dn c268 false false)).length)), .val (.int (1 : Int32))]) at_186 rfl rfl ?_
    refine own_iload K305 at_188 rfl rfl ?_
    refine own_iconst K305 (v := (2 : Int32)) at_190 rfl rfl ?_
    refine own_icmpNo K305 at_191 rfl (tlt (by decide)).2.2.2 ?_
    refine own_iload K305 at_194 rfl rfl ?_
    refine own_ifNo K305 at_196 rfl ((if0 _ _).trans (feq (by decide)).1) ?_
    refine own_aload K305 at_199 rfl rfl rfl ?_
    refine own_iload K305 at_201 rfl rfl ?_
    refine own_iload K305 at_203 rfl rfl ?_
    refine own_iconst K305 (v := (0 : Int32)) at_205 rfl rfl ?_
    refine own_iload K305 at_206 rfl rfl ?_
    refine own_iconst K305 (v := (3 : Int32)) at_208 rfl rfl ?_
    refine own_icmpYes K305 at_209 (pc' := 216) (by decide) (by decide) (feq (by decide)).2 ?_
    refine own_iconst K305 (v := (0 : Int32)) at_216 rfl rfl ?_
    have e2 : ((((([] : List Int32) ++ (own_dn c267 true false)) ++ (own_dn c268 false false)) ++ (own_dn c269 false false)) ++ (own_dn c270 false true)) = ((([] : List Int32) ++ (own_dn c267 true false)) ++ (own_dn c268 false false)) ++ (own_dn c269 false false) ++ (([] : List Int32) ++ (own_dn c270 false true)) := by simp only [List.nil_append, List.append_nil, List.append_assoc]
    refine own_callS K305 (wd192 hw) (wd193 hw) (rm_part hw hs (pr := ((([] : List Int32) ++ (own_dn c267 true false)) ++ (own_dn c268 false false))) (po := (([] : List Int32) ++ (own_dn c270 false true))) (y := c269) (f := false) (g := false) (u := own_ub ((((([] : List Int32) ++ (own_dn c267 true false)) ++ (own_dn c268 false false)) ++ (own_dn c269 false false)) ++ (own_dn c270 false true))) K305.O (e2 ▸ S301) (e2 ▸ (by omega : (((((([] : List Int32) ++ (own_dn c267 true false)) ++ (own_dn c268 false false)) ++ (own_dn c269 false false)) ++ (own_dn c270 false true))).length ≤ 4000)) (e2 ▸ own_ub_ok hfc)) (wd194 hw) (wd2 hw) (by decide) (argsL := [(.ref r301), (.int (Int32.ofNat ((([] : List Int32) ++ (own_dn c267 true false)) ++ (own_dn c268 false false)).length)), (.int c269), (.int (0 : Int32)), (.int (0 : Int32))]) (rest := []) rfl pd_28Ljava2flang2fString3bICZZ29Z rfl rfl (W := 0) rfl (by decide) (by decide) (by decide) (by decide) at_217 rfl ?_
    intro T306 h306 L306 v306 K306 q306
    obtain ⟨rfl, e306⟩ := q306
    have f306 := e306.symm
    subst f306
    show G (T306.setTop (mkF m 220 #[.val (.int p0), .val (.int p1), .val (.int p2), .val (.int p3), .val (.int p4), .val (.int (4 : Int32)), .val (.int c267), .val (.int c268), .val (.int c269), .val (.int c270), .val (.ref s300), .val (.ref r301), .val (.int (Int32.ofNat ((([] : List Int32) ++ (own_dn c267 true false)) ++ (own_dn c268 false false)).length)), .val (.int (1 : Int32))] [(.int (1 : Int32))]))
    refine own_ifNo K306 at_220 rfl ((if0 _ _).trans (feq (by decide)).1) ?_
    refine own_iconst K306 (v := (1 : Int32)) at_223 rfl rfl ?_
    refine own_goto K306 at_224 (pc' := 228) (by decide) (by decide) ?_
    refine own_istore K306 (Ls' := #[.val (.int p0), .val (.int p1), .val (.int p2), .val (.int p3), .val (.int p4), .val (.int (4 : Int32)), .val (.int c267), .val (.int c268), .val (.int c269), .val (.int c270), .val (.ref s300), .val (.ref r301), .val (.int (Int32.ofNat ((([] : List Int32) ++ (own_dn c267 true false)) ++ (own_dn c268 false false)).length)), .val (.int (1 : Int32))]) at_228 rfl rfl ?_
    refine own_iload K306 at_230 rfl rfl ?_
    refine own_iload K306 at_232 rfl rfl ?_
    refine own_iconst K306 (v := (0 : Int32)) at_234 rfl rfl ?_
    refine own_iload K306 at_235 rfl rfl ?_
    refine own_iconst K306 (v := (3 : Int32)) at_237 rfl rfl ?_
    refine own_icmpYes K306 at_238 (pc' := 245) (by decide) (by decide) (feq (by decide)).2 ?_
    refine own_iconst K306 (v := (0 : Int32)) at_245 rfl rfl ?_
    refine own_callS K306 (wd195 hw) (wd196 hw) (rm_need hw hs (y := c269) (f := false) (g := false) K306.O) (wd197 hw) (wd2 hw) (by decide) (argsL := [(.int c269), (.int (0 : Int32)), (.int (0 : Int32))]) (rest := [(.int (Int32.ofNat ((([] : List Int32) ++ (own_dn c267 true false)) ++ (own_dn c268 false false)).length))]) rfl pd_28CZZ29I rfl rfl (W := 1) rfl (by decide) (by decide) (by decide) (by decide) at_246 rfl ?_
    intro T307 h307 L307 v307 K307 q307
    obtain ⟨rfl, e307⟩ := q307
    have f307 := e307.symm
    subst f307
    show G (T307.setTop (mkF m 249 #[.val (.int p0), .val (.int p1), .val (.int p2), .val (.int p3), .val (.int p4), .val (.int (4 : Int32)), .val (.int c267), .val (.int c268), .val (.int c269), .val (.int c270), .val (.ref s300), .val (.ref r301), .val (.int (Int32.ofNat ((([] : List Int32) ++ (own_dn c267 true false)) ++ (own_dn c268 false false)).length)), .val (.int (1 : Int32))] [(.int (Int32.ofNat (own_dn c269 false false).length)), (.int (Int32.ofNat ((([] : List Int32) ++ (own_dn c267 true false)) ++ (own_dn c268 false false)).length))]))
    refine own_iadd K307 at_249 rfl ?_
    rw [show Int32.ofNat ((([] : List Int32) ++ (own_dn c267 true false)) ++ (own_dn c268 false false)).length + Int32.ofNat (own_dn c269 false false).length = Int32.ofNat (((([] : List Int32) ++ (own_dn c267 true false)) ++ (own_dn c268 false false)) ++ (own_dn c269 false false)).length from own_addL ((([] : List Int32) ++ (own_dn c267 true false)) ++ (own_dn c268 false false)) (own_dn c269 false false)]
    refine own_istore K307 (Ls' := #[.val (.int p0), .val (.int p1), .val (.int p2), .val (.int p3), .val (.int p4), .val (.int (4 : Int32)), .val (.int c267), .val (.int c268), .val (.int c269), .val (.int c270), .val (.ref s300), .val (.ref r301), .val (.int (Int32.ofNat (((([] : List Int32) ++ (own_dn c267 true false)) ++ (own_dn c268 false false)) ++ (own_dn c269 false false)).length)), .val (.int (1 : Int32))]) at_250 rfl rfl ?_
    refine own_iload K307 at_252 rfl rfl ?_
    refine own_iconst K307 (v := (3 : Int32)) at_254 rfl rfl ?_
    refine own_icmpNo K307 at_255 rfl (tlt (by decide)).2.2.2 ?_
    refine own_iload K307 at_258 rfl rfl ?_
    refine own_ifNo K307 at_260 rfl ((if0 _ _).trans (feq (by decide)).1) ?_
    refine own_aload K307 at_263 rfl rfl rfl ?_
    refine own_iload K307 at_265 rfl rfl ?_
    refine own_iload K307 at_267 rfl rfl ?_
    refine own_iconst K307 (v := (0 : Int32)) at_269 rfl rfl ?_
    refine own_iconst K307 (v := (1 : Int32)) at_270 rfl rfl ?_
    have e3 : ((((([] : List Int32) ++ (own_dn c267 true false)) ++ (own_dn c268 false false)) ++ (own_dn c269 false false)) ++ (own_dn c270 false true)) = (((([] : List Int32) ++ (own_dn c267 true false)) ++ (own_dn c268 false false)) ++ (own_dn c269 false false)) ++ (own_dn c270 false true) ++ ([] : List Int32) := by simp only [List.nil_append, List.append_nil, List.append_assoc]
    refine own_callS K307 (wd192 hw) (wd193 hw) (rm_part hw hs (pr := (((([] : List Int32) ++ (own_dn c267 true false)) ++ (own_dn c268 false false)) ++ (own_dn c269 false false))) (po := ([] : List Int32)) (y := c270) (f := false) (g := true) (u := own_ub ((((([] : List Int32) ++ (own_dn c267 true false)) ++ (own_dn c268 false false)) ++ (own_dn c269 false false)) ++ (own_dn c270 false true))) K307.O (e3 ▸ S301) (e3 ▸ (by omega : (((((([] : List Int32) ++ (own_dn c267 true false)) ++ (own_dn c268 false false)) ++ (own_dn c269 false false)) ++ (own_dn c270 false true))).length ≤ 4000)) (e3 ▸ own_ub_ok hfc)) (wd194 hw) (wd2 hw) (by decide) (argsL := [(.ref r301), (.int (Int32.ofNat (((([] : List Int32) ++ (own_dn c267 true false)) ++ (own_dn c268 false false)) ++ (own_dn c269 false false)).length)), (.int c270), (.int (0 : Int32)), (.int (1 : Int32))]) (rest := []) rfl pd_28Ljava2flang2fString3bICZZ29Z rfl rfl (W := 0) rfl (by decide) (by decide) (by decide) (by decide) at_271 rfl ?_
    intro T308 h308 L308 v308 K308 q308
    obtain ⟨rfl, e308⟩ := q308
    have f308 := e308.symm
    subst f308
    show G (T308.setTop (mkF m 274 #[.val (.int p0), .val (.int p1), .val (.int p2), .val (.int p3), .val (.int p4), .val (.int (4 : Int32)), .val (.int c267), .val (.int c268), .val (.int c269), .val (.int c270), .val (.ref s300), .val (.ref r301), .val (.int (Int32.ofNat (((([] : List Int32) ++ (own_dn c267 true false)) ++ (own_dn c268 false false)) ++ (own_dn c269 false false)).length)), .val (.int (1 : Int32))] [(.int (1 : Int32))]))
    refine own_ifNo K308 at_274 rfl ((if0 _ _).trans (feq (by decide)).1) ?_
    refine own_iconst K308 (v := (1 : Int32)) at_277 rfl rfl ?_
    refine own_goto K308 at_278 (pc' := 282) (by decide) (by decide) ?_
    refine own_istore K308 (Ls' := #[.val (.int p0), .val (.int p1), .val (.int p2), .val (.int p3), .val (.int p4), .val (.int (4 : Int32)), .val (.int c267), .val (.int c268), .val (.int c269), .val (.int c270), .val (.ref s300), .val (.ref r301), .val (.int (Int32.ofNat (((([] : List Int32) ++ (own_dn c267 true false)) ++ (own_dn c268 false false)) ++ (own_dn c269 false false)).length)), .val (.int (1 : Int32))]) at_282 rfl rfl ?_
    refine own_iload K308 at_284 rfl rfl ?_
    refine own_iload K308 at_286 rfl rfl ?_
    refine own_iconst K308 (v := (0 : Int32)) at_288 rfl rfl ?_
    refine own_iconst K308 (v := (1 : Int32)) at_289 rfl rfl ?_
    refine own_callS K308 (wd195 hw) (wd196 hw) (rm_need hw hs (y := c270) (f := false) (g := true) K308.O) (wd197 hw) (wd2 hw) (by decide) (argsL := [(.int c270), (.int (0 : Int32)), (.int (1 : Int32))]) (rest := [(.int (Int32.ofNat (((([] : List Int32) ++ (own_dn c267 true false)) ++ (own_dn c268 false false)) ++ (own_dn c269 false false)).length))]) rfl pd_28CZZ29I rfl rfl (W := 1) rfl (by decide) (by decide) (by decide) (by decide) at_290 rfl ?_
    intro T309 h309 L309 v309 K309 q309
    obtain ⟨rfl, e309⟩ := q309
    have f309 := e309.symm
    subst f309
    show G (T309.setTop (mkF m 293 #[.val (.int p0), .val (.int p1), .val (.int p2), .val (.int p3), .val (.int p4), .val (.int (4 : Int32)), .val (.int c267), .val (.int c268), .val (.int c269), .val (.int c270), .val (.ref s300), .val (.ref r301), .val (.int (Int32.ofNat (((([] : List Int32) ++ (own_dn c267 true false)) ++ (own_dn c268 false false)) ++ (own_dn c269 false false)).length)), .val (.int (1 : Int32))] [(.int (Int32.ofNat (own_dn c270 false true).length)), (.int (Int32.ofNat (((([] : List Int32) ++ (own_dn c267 true false)) ++ (own_dn c268 false false)) ++ (own_dn c269 false false)).length))]))
    refine own_iadd K309 at_293 rfl ?_
    rw [show Int32.ofNat (((([] : List Int32) ++ (own_dn c267 true false)) ++ (own_dn c268 false false)) ++ (own_dn c269 false false)).length + Int32.ofNat (own_dn c270 false true).length = Int32.ofNat ((((([] : List Int32) ++ (own_dn c267 true false)) ++ (own_dn c268 false false)) ++ (own_dn c269 false false)) ++ (own_dn c270 false true)).length from own_addL (((([] : List Int32) ++ (own_dn c267 true false)) ++ (own_dn c268 false false)) ++ (own_dn c269 false false)) (own_dn c270 false true)]
    refine own_istore K309 (Ls' := #[.val (.int p0), .val (.int p1), .val (.int p2), .val (.int p3), .val (.int p4), .val (.int (4 : Int32)), .val (.int c267), .val (.int c268), .val (.int c269), .val (.int c270), .val (.ref s300), .val (.ref r301), .val (.int (Int32.ofNat ((((([] : List Int32) ++ (own_dn c267 true false)) ++ (own_dn c268 false false)) ++ (own_dn c269 false false)) ++ (own_dn c270 false true)).length)), .val (.int (1 : Int32))]) at_294 rfl rfl ?_
    refine own_iload K309 at_296 rfl rfl ?_
    refine own_ifNo K309 at_298 rfl ((if0 _ _).trans (feq (by decide)).1) ?_
    refine own_aload K309 at_301 rfl rfl rfl ?_
    refine own_callV K309 (a := r301) (x0 := (⟨"java/lang/String", "length", "()I"⟩ : MethodName)) (wd113 hw) (wd37 hw) (fun q => own_nfS (args := #[]) (mvT q (wd39 hw)) rfl) (wd39 hw) (wd38 hw) (rm_lengthS hw hs K309.O S301 (by omega)) (wd40 hw) (wd10 hw) (by decide) S301.exa (argsL := []) (rest := []) rfl pd_2829I rfl rfl (W := 0) rfl (by decide) (by decide) (by decide) (by decide) at_303 rfl ?_
    intro T310 h310 L310 v310 K310 q310
    obtain ⟨rfl, e310⟩ := q310
    have f310 := e310.symm
    subst f310
    show G (T310.setTop (mkF m 306 #[.val (.int p0), .val (.int p1), .val (.int p2), .val (.int p3), .val (.int p4), .val (.int (4 : Int32)), .val (.int c267), .val (.int c268), .val (.int c269), .val (.int c270), .val (.ref s300), .val (.ref r301), .val (.int (Int32.ofNat ((((([] : List Int32) ++ (own_dn c267 true false)) ++ (own_dn c268 false false)) ++ (own_dn c269 false false)) ++ (own_dn c270 false true)).length)), .val (.int (1 : Int32))] [(.int (Int32.ofNat ((((([] : List Int32) ++ (own_dn c267 true false)) ++ (own_dn c268 false false)) ++ (own_dn c269 false false)) ++ (own_dn c270 false true)).length))]))
    refine own_iload K310 at_306 rfl rfl ?_
    refine own_icmpNo K310 at_308 rfl (teq rfl).2 ?_
    refine own_iconst K310 (v := (1 : Int32)) at_311 rfl rfl ?_
    refine own_goto K310 at_312 (pc' := 316) (by decide) (by decide) ?_
    have W311 := W301.same K310
    exact own_retN W311.K (z' := (1 : Int32)) at_316 rfl (by simp) (by decide) (by decide) (by decide) ⟨⟨rfl, W311.le⟩, fun _ => W311.C⟩
set_option maxRecDepth 65536 in
set_option maxHeartbeats 40000000 in
theorem comes_1 {Post : Tables → Env → Array Value → State → Outcome → State → Prop} (hpost : ∀ tb e args s v u, (limb_1_1.after args s (.returned v) u = true ∧ limb_1_2.after args s (.returned v) u = true ∧ True) → ReturnedEndW s (.returned v) u (Jvm.fieldLocs frame_1_writes args s ++ Jvm.arrayLocs frame_1_arrays args s ++ Jvm.staticLocs frame_1_statics s) 40 2368 → Post tb e args s (.returned v) u) :
    ArmFor flags0 classFile x code maxLocals ret World_1 tables_1 room_1 Calls_1 rest_1 Pre_1 Post := by
  intro l hfl _ _ p e ha hc hk s m args below hf hA hF happ hP
  obtain ⟨hcalls, hrest, hpre⟩ := hP
  obtain ⟨-, -, -, hnamed, -, -, -, hat⟩ := (Spec.applies_iff hf).mp happ
  obtain ⟨hg, hn⟩ := and_e (Cond.before_iff.mp (show (Jvm.Cond.and given_1 narrow_1).before args s = true from hpre))
  obtain ⟨gg1, gg2⟩ := and_e hg
  obtain ⟨gg3, gg4⟩ := and_e gg2
  obtain ⟨gg5, gg6⟩ := and_e gg4
  obtain ⟨gg7, gg8⟩ := and_e gg6
  obtain ⟨gg9, gg10⟩ := and_e gg8
  obtain ⟨w0, w1, w2, w3, w4, rfl⟩ : ∃ w0 w1 w2 w3 w4 : Value, args = #[w0, w1, w2, w3, w4] := by
    have hs : args.size = 5 := by simpa [Cond.value, given_1] using gg1
    obtain ⟨L⟩ := args
    match L, hs with
    | [w0, w1, w2, w3, w4], _ => exact ⟨w0, w1, w2, w3, w4, rfl⟩
  have hw := fun d (hd : d ∈ tables_1) => atoms_spec (ws := Jvm.Cond.code x code maxLocals ret :: tables_1) hat d (List.mem_cons_of_mem _ hd)
  have hfit : Fit s := fun {y c} hc i hi => by
    obtain ⟨ha, rfl⟩ := Array.getElem?_eq_some_iff.mp hc
    have q := List.all_eq_true.mp ((Array.all_eq_true_iff_forall_mem.mp hF) _ (Array.getElem_mem ha)) i (List.mem_range.mpr hi)
    simpa [Array.getElem?_eq_getElem hi] using q
  obtain ⟨hsets, hown0⟩ := atoms_of _ (rest_1_c_eq ▸ (show rest_1_c.before _ s = true from hrest))
  obtain ⟨i0, ei0⟩ := is_v gg3
  obtain rfl : w0 = (.int i0) := Option.some.inj ei0
  obtain ⟨i1, ei1⟩ := is_v gg5
  obtain rfl : w1 = (.int i1) := Option.some.inj ei1
  obtain ⟨i2, ei2⟩ := is_v gg7
  obtain rfl : w2 = (.int i2) := Option.some.inj ei2
  obtain ⟨i3, ei3⟩ := is_v gg9
  obtain rfl : w3 = (.int i3) := Option.some.inj ei3
  obtain ⟨i4, ei4⟩ := is_v gg10
  obtain rfl : w4 = (.int i4) := Option.some.inj ei4
  have hCH : CHv s consts_1 s.vm s.heap := CHv.start (own_EL hw) hcalls.1 (st2 hsets) (wd22 hw) (wd9 hw)
  obtain ⟨n, o, h1, h2, h3, _, L, rfl, ⟨N, O, rfl⟩, -, hq⟩ := rm_law hw hsets (own_ext_refl s.heap)  p e ha hc hk s m _ below hf ((Spec.applies_iff_loose hf).mp happ).1 ⟨rfl, State.Warmed39.refl s, rfl, hCH⟩ (fun q => nomatch q)
  refine ⟨n, _, h1, h2, h3, hpost _ _ _ _ _ _ ⟨Cond.after_iff.mpr rfl, Cond.after_iff.mpr (eq_i res_at (Term.int_eval (1)) rfl), trivial⟩ ⟨hq.1, hq.2.1, hq.2.2.1, (hq.2.2.2.sift fun y hy => Or.inr (N y hy)).mono (by decide) (by decide)⟩⟩
theorem main_1_1 : Claimed_1_1 := comes_1 fun _ _ _ _ _ _ h hF => ⟨h.1, hF⟩
theorem main_1_2 : Claimed_1_2 := comes_1 fun _ _ _ _ _ _ h hF => ⟨h.2.1, hF⟩
end Jvm.Pilot.@@N@@
namespace Jvm.Pilot.@@N@@
open Jvm Jvm.ClassFile Sem Op Lib Jvm.Free Jvm.Stand Jvm.Pilot.@@N@@.Jvm.D
/-! MADE BY PROGRAM (witnessworld.py) out of the Statement's table words and the real class files: 26 classes; the members and pool entries that the words name. The judged class is class 1, her method 1. -/
namespace start1
open Jvm.ClassFile
def u (s : String) : CpInfo := .utf8 (stringToUtf16 s)
/-- a pool by its gaps: so many unusable entries, then the entry; so many at the end -/
def gap : Nat → List CpInfo → List CpInfo
  | 0, r => r
  | n + 1, r => .unusable :: gap n r
def poolList (es : List (Nat × CpInfo)) (last : Nat) : List CpInfo := es.foldr (fun e r => gap e.1 (e.2 :: r)) (gap last [])
def pool (es : List (Nat × CpInfo)) (last : Nat) : Array CpInfo := ⟨poolList es last⟩
def fileOf (pool : Array CpInfo) (this : Nat) (attrs : Array Attribute := #[]) (ms : Array MethodInfo := #[]) (fl : Nat := 33) (sup : Nat := 0) (ifs : Array Nat := #[]) (fds : Array FieldInfo := #[]) : ClassFile where
  minorVersion := 0
  majorVersion := 65
  constantPool := pool
  accessFlags := fl
  thisClass := this
  superClass := sup
  interfaces := ifs
  fields := fds
  methods := ms
  attributes := attrs
def plain (name : String) (sup : Option ClassId) : Class where
  name := name
  kind := .ordinary
  loader := none
  accessFlags := 33
  super := sup
  interfaces := #[]
  cf := none
  fields := #[]
  methods := #[]
  instanceTypes := #[]
  staticTypes := #[]
  resolved := #[]
  callSites := []
  init := .initialized
  statics := none
  mirror := none

def pool0 : Array CpInfo := pool [(5, u "<init>"), (0, u "()V"), (1, .class_ 10), (1, u "java/lang/Object"), (85, u "clone"), (0, u "()Ljava/lang/Object;")] 26

def k0c0 : Code := { maxStack := 0, maxLocals := 1, code := object_method_1_code, exceptionTable := #[], attributes := #[] }
def k0m0 : Method := { name := "<init>", desc := "()V", sig := { parameters := [], returnType := none }, accessFlags := 1, code := some k0c0 }
def k0m1 : Method := { name := "clone", desc := "()Ljava/lang/Object;", sig := { parameters := [], returnType := some (.object "java/lang/Object") }, accessFlags := 260, code := none }
/-- java/lang/Object -/
def k0 : Class := { plain "java/lang/Object" none with
  accessFlags := 33
  interfaces := #[]
  cf := some (fileOf pool0 8 #[] #[{ accessFlags := 1, nameIndex := 5, descriptorIndex := 6, attributes := #[] }, { accessFlags := 260, nameIndex := 96, descriptorIndex := 97, attributes := #[] }] 33 0 #[] #[])
  fields := #[]
  methods := #[k0m0, k0m1]
  instanceTypes := #[]
  staticTypes := #[]
  resolved := Array.replicate 124 none
  statics := none }

def pool1 : Array CpInfo := pool [(2, .class_ 4), (1, u "java/lang/Object"), (0, u "<init>"), (0, u "()V"), (0, .methodref 8 9), (0, .class_ 10), (0, .nameAndType 11 12), (0, u "com/example/reevemark/reevemark/connectors/ldap/LdapEscapeDnValuePinLaw"), (0, u "draw"), (0, u "(I)C"), (0, .methodref 8 14), (0, .nameAndType 15 16), (0, u "make"), (0, u "(ICCCC)Ljava/lang/String;"), (0, .methodref 18 19), (0, .class_ 20), (0, .nameAndType 21 22), (0, u "com/example/reevemark/reevemark/connectors/ldap/LdapEscape"), (0, u "dnValue"), (0, u "(Ljava/lang/String;)Ljava/lang/String;"), (0, .methodref 8 24), (0, .nameAndType 25 26), (0, u "part"), (0, u "(Ljava/lang/String;ICZZ)Z"), (0, .methodref 8 28), (0, .nameAndType 29 30), (0, u "need"), (0, u "(CZZ)I"), (0, .methodref 32 33), (0, .class_ 34), (0, .nameAndType 35 36), (0, u "java/lang/String"), (0, u "length"), (0, u "()I"), (0, .methodref 32 38), (0, .nameAndType 5 39), (0, u "([C)V"), (0, .methodref 8 41), (0, .nameAndType 42 43), (0, u "special"), (0, u "(C)Z"), (0, .methodref 32 45), (0, .nameAndType 46 12), (0, u "charAt"), (2, u "law"), (0, u "(IIIII)Z")] 5

def k1m0 : Method := { name := "<init>", desc := "()V", sig := { parameters := [], returnType := none }, accessFlags := 2, code := none }
def k1c1 : Code := { maxStack := 6, maxLocals := 14, code := code, exceptionTable := #[], attributes := #[] }
def k1m1 : Method := { name := "law", desc := "(IIIII)Z", sig := { parameters := [.int, .int, .int, .int, .int], returnType := some .boolean }, accessFlags := 9, code := some k1c1 }
def k1c2 : Code := { maxStack := 4, maxLocals := 3, code := method_3_code, exceptionTable := #[], attributes := #[] }
def k1m2 : Method := { name := "draw", desc := "(I)C", sig := { parameters := [.int], returnType := some .char }, accessFlags := 10, code := some k1c2 }
def k1c3 : Code := { maxStack := 6, maxLocals := 5, code := method_4_code, exceptionTable := #[], attributes := #[] }
def k1m3 : Method := { name := "make", desc := "(ICCCC)Ljava/lang/String;", sig := { parameters := [.int, .char, .char, .char, .char], returnType := some (.object "java/lang/String") }, accessFlags := 10, code := some k1c3 }
def k1c4 : Code := { maxStack := 2, maxLocals := 1, code := method_5_code, exceptionTable := #[], attributes := #[] }
def k1m4 : Method := { name := "special", desc := "(C)Z", sig := { parameters := [.char], returnType := some .boolean }, accessFlags := 10, code := some k1c4 }
def k1c5 : Code := { maxStack := 2, maxLocals := 3, code := method_6_code, exceptionTable := #[], attributes := #[] }
def k1m5 : Method := { name := "need", desc := "(CZZ)I", sig := { parameters := [.char, .boolean, .boolean], returnType := some .int }, accessFlags := 10, code := some k1c5 }
def k1c6 : Code := { maxStack := 3, maxLocals := 6, code := method_7_code, exceptionTable := #[], attributes := #[] }
def k1m6 : Method := { name := "part", desc := "(Ljava/lang/String;ICZZ)Z", sig := { parameters := [(.object "java/lang/String"), .int, .char, .boolean, .boolean], returnType := some .boolean }, accessFlags := 10, code := some k1c6 }
/-- com/example/reevemark/reevemark/connectors/ldap/LdapEscapeDnValuePinLaw -/
def k1 : Class := { plain "com/example/reevemark/reevemark/connectors/ldap/LdapEscapeDnValuePinLaw" (some 0) with
  accessFlags := 49
  interfaces := #[]
  cf := some (fileOf pool1 8 #[] #[{ accessFlags := 2, nameIndex := 5, descriptorIndex := 6, attributes := #[] }, { accessFlags := 9, nameIndex := 49, descriptorIndex := 50, attributes := #[] }, { accessFlags := 10, nameIndex := 11, descriptorIndex := 12, attributes := #[] }, { accessFlags := 10, nameIndex := 15, descriptorIndex := 16, attributes := #[] }, { accessFlags := 10, nameIndex := 42, descriptorIndex := 43, attributes := #[] }, { accessFlags := 10, nameIndex := 29, descriptorIndex := 30, attributes := #[] }, { accessFlags := 10, nameIndex := 25, descriptorIndex := 26, attributes := #[] }] 49 2 #[] #[])
  fields := #[]
  methods := #[k1m0, k1m1, k1m2, k1m3, k1m4, k1m5, k1m6]
  instanceTypes := #[]
  staticTypes := #[]
  resolved := Array.replicate 56 none
  statics := none }

def pool2 : Array CpInfo := pool [(1, .class_ 2), (0, u "java/io/Serializable"), (0, .class_ 4), (0, u "java/lang/Object")] 2

/-- java/io/Serializable -/
def k2 : Class := { plain "java/io/Serializable" (some 0) with
  accessFlags := 1537
  interfaces := #[]
  cf := some (fileOf pool2 1 #[] #[] 1537 3 #[] #[])
  fields := #[]
  methods := #[]
  instanceTypes := #[]
  staticTypes := #[]
  resolved := Array.replicate 7 none
  statics := none }

def pool3 : Array CpInfo := pool [(1, .class_ 2), (0, u "java/lang/Comparable"), (0, .class_ 4), (0, u "java/lang/Object")] 7

/-- java/lang/Comparable -/
def k3 : Class := { plain "java/lang/Comparable" (some 0) with
  accessFlags := 1537
  interfaces := #[]
  cf := some (fileOf pool3 1 #[] #[] 1537 3 #[] #[])
  fields := #[]
  methods := #[]
  instanceTypes := #[]
  staticTypes := #[]
  resolved := Array.replicate 12 none
  statics := none }

def pool4 : Array CpInfo := pool [(2, .class_ 4), (1, u "java/lang/CharSequence"), (42, .class_ 48), (0, u "java/lang/CharSequence$1CodePointIterator"), (10, .class_ 60), (0, u "java/lang/CharSequence$1CharIterator"), (5, .class_ 67), (0, u "java/lang/Object")] 63

/-- java/lang/CharSequence -/
def k4 : Class := { plain "java/lang/CharSequence" (some 0) with
  accessFlags := 1537
  interfaces := #[]
  cf := some (fileOf pool4 2 #[.nestMembers #[47, 59]] #[] 1537 66 #[] #[])
  fields := #[]
  methods := #[]
  instanceTypes := #[]
  staticTypes := #[]
  resolved := Array.replicate 131 none
  statics := none }

def pool5 : Array CpInfo := pool [(1, .class_ 2), (0, u "java/lang/constant/Constable"), (0, .class_ 4), (0, u "java/lang/Object")] 6

/-- java/lang/constant/Constable -/
def k5 : Class := { plain "java/lang/constant/Constable" (some 0) with
  accessFlags := 1537
  interfaces := #[]
  cf := some (fileOf pool5 1 #[] #[] 1537 3 #[] #[])
  fields := #[]
  methods := #[]
  instanceTypes := #[]
  staticTypes := #[]
  resolved := Array.replicate 11 none
  statics := none }

def pool6 : Array CpInfo := pool [(1, .class_ 2), (0, u "java/lang/constant/ConstantDesc"), (0, .class_ 4), (0, u "java/lang/Object")] 32

/-- java/lang/constant/ConstantDesc -/
def k6 : Class := { plain "java/lang/constant/ConstantDesc" (some 0) with
  accessFlags := 1537
  interfaces := #[]
  cf := some (fileOf pool6 1 #[] #[] 1537 3 #[] #[])
  fields := #[]
  methods := #[]
  instanceTypes := #[]
  staticTypes := #[]
  resolved := Array.replicate 37 none
  statics := none }

def pool7 : Array CpInfo := pool [(1, .methodref 2 3), (0, .class_ 4), (0, .nameAndType 5 6), (0, u "java/lang/Object"), (0, u "<init>"), (0, u "()V"), (0, .string 8), (0, u ""), (0, .fieldref 10 11), (0, .class_ 12), (0, .nameAndType 13 14), (0, u "java/lang/String"), (0, u "value"), (0, u "[B"), (0, .fieldref 10 16), (0, .nameAndType 17 18), (0, u "coder"), (0, u "B"), (2, u "hash"), (0, u "I"), (2, u "hashIsZero"), (0, u "Z"), (0, .methodref 10 28), (0, .nameAndType 5 29), (0, u "([CIILjava/lang/Void;)V"), (6, u "checkBoundsOffCount"), (0, u "(III)I"), (0, .fieldref 10 39), (0, .nameAndType 40 26), (0, u "COMPACT_STRINGS"), (1, .class_ 44), (1, u "java/lang/StringUTF16"), (0, u "compress"), (1, .methodref 42 48), (0, .nameAndType 49 50), (0, u "coderFromArrayLen"), (0, u "([BI)B"), (3, .methodref 55 56), (0, .class_ 57), (0, .nameAndType 58 59), (0, u "java/util/Arrays"), (0, u "copyOfRange"), (0, u "([BII)[B"), (46, .methodref 107 108), (0, .class_ 109), (0, .nameAndType 110 111), (0, u "java/lang/StringLatin1"), (0, u "inflate"), (0, u "([BI[BII)V"), (30, u "()Z"), (34, .methodref 42 178), (0, .nameAndType 45 179), (0, u "([CII)[B"), (13, .class_ 195), (1, u "java/lang/System"), (16, .methodref 193 213), (0, .nameAndType 214 215), (0, u "arraycopy"), (0, u "(Ljava/lang/Object;ILjava/lang/Object;II)V"), (118, u "()I"), (0, .methodref 10 336), (0, .nameAndType 17 337), (0, u "()B"), (2, u "()[B"), (22, u "([BI)C"), (27, u "(II)V"), (35, u "(I)C"), (61, .methodref 10 490), (0, .nameAndType 5 491), (0, u "(Ljava/lang/AbstractStringBuilder;Ljava/lang/Void;)V"), (0, .methodref 10 493), (0, .nameAndType 494 142), (0, u "isLatin1"), (0, .methodref 107 496), (0, .nameAndType 497 363), (0, u "charAt"), (0, .methodref 42 496), (2, u "checkIndex"), (4, .nameAndType 507 334), (0, u "length"), (24, u "getBytes"), (16, .methodref 550 506), (0, .class_ 551), (0, u "java/lang/AbstractStringBuilder"), (0, .methodref 550 553), (0, .nameAndType 554 340), (0, u "getValue"), (20, .class_ 576), (0, u "java/lang/CharSequence"), (22, u "CASE_INSENSITIVE_ORDER"), (0, u "Ljava/util/Comparator;"), (220, u "([BIB)V"), (188, u "([C)V"), (36, .methodref 550 493), (0, .fieldref 550 1049), (0, .nameAndType 1050 26), (0, u "maybeLatin1"), (2, .fieldref 1054 1055), (0, .class_ 1056), (0, .nameAndType 1057 1058), (0, u "jdk/internal/util/Preconditions"), (0, u "SIOOBE_FORMATTER"), (0, u "Ljava/util/function/BiFunction;"), (0, .methodref 1054 1060), (0, .nameAndType 501 1061), (0, u "(IILjava/util/function/BiFunction;)I"), (2, u "(IIILjava/util/function/BiFunction;)I"), (0, .methodref 1054 1066), (0, .nameAndType 1067 1064), (0, u "checkFromIndexSize"), (33, u "serialPersistentFields"), (0, u "[Ljava/io/ObjectStreamField;"), (0, .class_ 1104), (0, u "java/lang/String$CaseInsensitiveComparator"), (1, .class_ 1107), (0, u "java/io/Serializable"), (0, .class_ 1109), (0, u "java/lang/Comparable"), (0, .class_ 1111), (0, u "java/lang/constant/Constable"), (0, .class_ 1113), (0, u "java/lang/constant/ConstantDesc"), (2, u "serialVersionUID"), (0, u "J"), (3, u "REPL"), (0, u "C"), (2, u "LATIN1"), (1, u "UTF16"), (105, u "(Ljava/lang/StringBuilder;)V")] 217

def k7m0 : Method := { name := "<init>", desc := "()V", sig := { parameters := [], returnType := none }, accessFlags := 1, code := none }
def k7c1 : Code := { maxStack := 5, maxLocals := 2, code := jdk_42_method_3_code, exceptionTable := #[], attributes := #[] }
def k7m1 : Method := { name := "<init>", desc := "([C)V", sig := { parameters := [(.array .char)], returnType := none }, accessFlags := 1, code := some k7c1 }
def k7c2 : Code := { maxStack := 3, maxLocals := 2, code := jdk_42_method_53_code, exceptionTable := #[], attributes := #[] }
def k7m2 : Method := { name := "<init>", desc := "(Ljava/lang/StringBuilder;)V", sig := { parameters := [(.object "java/lang/StringBuilder")], returnType := none }, accessFlags := 1, code := some k7c2 }
def k7c3 : Code := { maxStack := 2, maxLocals := 1, code := jdk_42_method_54_code, exceptionTable := #[], attributes := #[] }
def k7m3 : Method := { name := "length", desc := "()I", sig := { parameters := [], returnType := some .int }, accessFlags := 1, code := some k7c3 }
def k7c4 : Code := { maxStack := 2, maxLocals := 2, code := jdk_42_method_56_code, exceptionTable := #[], attributes := #[] }
def k7m4 : Method := { name := "charAt", desc := "(I)C", sig := { parameters := [.int], returnType := some .char }, accessFlags := 1, code := some k7c4 }
def k7c5 : Code := { maxStack := 5, maxLocals := 4, code := jdk_42_method_147_code, exceptionTable := #[], attributes := #[] }
def k7m5 : Method := { name := "getBytes", desc := "([BIB)V", sig := { parameters := [(.array .byte), .int, .byte], returnType := none }, accessFlags := 0, code := some k7c5 }
def k7c6 : Code := { maxStack := 4, maxLocals := 6, code := jdk_42_method_149_code, exceptionTable := #[], attributes := #[] }
def k7m6 : Method := { name := "<init>", desc := "([CIILjava/lang/Void;)V", sig := { parameters := [(.array .char), .int, .int, (.object "java/lang/Void")], returnType := none }, accessFlags := 2, code := some k7c6 }
def k7c7 : Code := { maxStack := 5, maxLocals := 5, code := jdk_42_method_150_code, exceptionTable := #[], attributes := #[] }
def k7m7 : Method := { name := "<init>", desc := "(Ljava/lang/AbstractStringBuilder;Ljava/lang/Void;)V", sig := { parameters := [(.object "java/lang/AbstractStringBuilder"), (.object "java/lang/Void")], returnType := none }, accessFlags := 0, code := some k7c7 }
def k7c8 : Code := { maxStack := 1, maxLocals := 1, code := jdk_42_method_152_code, exceptionTable := #[], attributes := #[] }
def k7m8 : Method := { name := "coder", desc := "()B", sig := { parameters := [], returnType := some .byte }, accessFlags := 0, code := some k7c8 }
def k7c9 : Code := { maxStack := 1, maxLocals := 1, code := jdk_42_method_154_code, exceptionTable := #[], attributes := #[] }
def k7m9 : Method := { name := "isLatin1", desc := "()Z", sig := { parameters := [], returnType := some .boolean }, accessFlags := 0, code := some k7c9 }
def k7c10 : Code := { maxStack := 3, maxLocals := 2, code := jdk_42_method_155_code, exceptionTable := #[], attributes := #[] }
def k7m10 : Method := { name := "checkIndex", desc := "(II)V", sig := { parameters := [.int, .int], returnType := none }, accessFlags := 8, code := some k7c10 }
def k7c11 : Code := { maxStack := 4, maxLocals := 3, code := jdk_42_method_157_code, exceptionTable := #[], attributes := #[] }
def k7m11 : Method := { name := "checkBoundsOffCount", desc := "(III)I", sig := { parameters := [.int, .int, .int], returnType := some .int }, accessFlags := 8, code := some k7c11 }
/-- java/lang/String -/
def k7 : Class := { plain "java/lang/String" (some 0) with
  accessFlags := 49
  interfaces := #[2, 3, 4, 5, 6]
  cf := some (fileOf pool7 10 #[.nestMembers #[1103]] #[{ accessFlags := 1, nameIndex := 5, descriptorIndex := 6, attributes := #[] }, { accessFlags := 1, nameIndex := 5, descriptorIndex := 1010, attributes := #[] }, { accessFlags := 1, nameIndex := 5, descriptorIndex := 1233, attributes := #[] }, { accessFlags := 1, nameIndex := 507, descriptorIndex := 334, attributes := #[] }, { accessFlags := 1, nameIndex := 497, descriptorIndex := 427, attributes := #[] }, { accessFlags := 0, nameIndex := 532, descriptorIndex := 821, attributes := #[] }, { accessFlags := 2, nameIndex := 5, descriptorIndex := 29, attributes := #[] }, { accessFlags := 0, nameIndex := 5, descriptorIndex := 491, attributes := #[] }, { accessFlags := 0, nameIndex := 17, descriptorIndex := 337, attributes := #[] }, { accessFlags := 0, nameIndex := 494, descriptorIndex := 142, attributes := #[] }, { accessFlags := 8, nameIndex := 501, descriptorIndex := 391, attributes := #[] }, { accessFlags := 8, nameIndex := 36, descriptorIndex := 37, attributes := #[] }] 49 2 #[1106, 1108, 575, 1110, 1112] #[{ accessFlags := 18, nameIndex := 13, descriptorIndex := 14, attributes := #[] }, { accessFlags := 18, nameIndex := 17, descriptorIndex := 18, attributes := #[] }, { accessFlags := 2, nameIndex := 21, descriptorIndex := 22, attributes := #[] }, { accessFlags := 2, nameIndex := 25, descriptorIndex := 26, attributes := #[] }, { accessFlags := 26, nameIndex := 1116, descriptorIndex := 1117, attributes := #[] }, { accessFlags := 24, nameIndex := 40, descriptorIndex := 26, attributes := #[] }, { accessFlags := 26, nameIndex := 1101, descriptorIndex := 1102, attributes := #[] }, { accessFlags := 26, nameIndex := 1121, descriptorIndex := 1122, attributes := #[] }, { accessFlags := 25, nameIndex := 599, descriptorIndex := 600, attributes := #[] }, { accessFlags := 24, nameIndex := 1125, descriptorIndex := 18, attributes := #[] }, { accessFlags := 24, nameIndex := 1127, descriptorIndex := 18, attributes := #[] }])
  fields := #[{ name := "value", type := (.array .byte), accessFlags := 18, slot := 0, constantValue := 0 }, { name := "coder", type := .byte, accessFlags := 18, slot := 1, constantValue := 0 }, { name := "hash", type := .int, accessFlags := 2, slot := 2, constantValue := 0 }, { name := "hashIsZero", type := .boolean, accessFlags := 2, slot := 3, constantValue := 0 }, { name := "serialVersionUID", type := .long, accessFlags := 26, slot := 0, constantValue := 0 }, { name := "COMPACT_STRINGS", type := .boolean, accessFlags := 24, slot := 1, constantValue := 0 }, { name := "serialPersistentFields", type := (.array (.object "java/io/ObjectStreamField")), accessFlags := 26, slot := 2, constantValue := 0 }, { name := "REPL", type := .char, accessFlags := 26, slot := 3, constantValue := 0 }, { name := "CASE_INSENSITIVE_ORDER", type := (.object "java/util/Comparator"), accessFlags := 25, slot := 4, constantValue := 0 }, { name := "LATIN1", type := .byte, accessFlags := 24, slot := 5, constantValue := 0 }, { name := "UTF16", type := .byte, accessFlags := 24, slot := 6, constantValue := 0 }]
  methods := #[k7m0, k7m1, k7m2, k7m3, k7m4, k7m5, k7m6, k7m7, k7m8, k7m9, k7m10, k7m11]
  instanceTypes := #[(.array .byte), .byte, .int, .boolean]
  staticTypes := #[.long, .boolean, (.array (.object "java/io/ObjectStreamField")), .char, (.object "java/util/Comparator"), .byte, .byte]
  resolved := Array.replicate 1451 none
  statics := some 0 }

def pool8 : Array CpInfo := pool [(2, .class_ 4), (1, u "java/lang/Object"), (0, u "<init>"), (0, u "()V"), (0, .class_ 8), (0, u "java/lang/StringBuilder"), (0, .methodref 10 11), (0, .class_ 12), (0, .nameAndType 13 14), (0, u "java/lang/String"), (0, u "length"), (0, u "()I"), (0, .methodref 7 16), (0, .nameAndType 5 17), (0, u "(I)V"), (0, .methodref 10 19), (0, .nameAndType 20 21), (0, u "charAt"), (0, u "(I)C"), (0, .methodref 7 23), (0, .nameAndType 24 25), (0, u "append"), (0, u "(C)Ljava/lang/StringBuilder;"), (0, .string 27), (0, u "\\00"), (0, .methodref 7 29), (0, .nameAndType 24 30), (0, u "(Ljava/lang/String;)Ljava/lang/StringBuilder;"), (0, .methodref 7 32), (0, .nameAndType 33 34), (0, u "toString"), (0, u "()Ljava/lang/String;"), (8, .class_ 44), (0, u "com/example/reevemark/reevemark/connectors/ldap/LdapEscape"), (2, u "dnValue"), (0, u "(Ljava/lang/String;)Ljava/lang/String;")] 4

def k8m0 : Method := { name := "<init>", desc := "()V", sig := { parameters := [], returnType := none }, accessFlags := 2, code := none }
def k8c1 : Code := { maxStack := 4, maxLocals := 5, code := prog_3_method_2_code, exceptionTable := #[], attributes := #[] }
def k8m1 : Method := { name := "dnValue", desc := "(Ljava/lang/String;)Ljava/lang/String;", sig := { parameters := [(.object "java/lang/String")], returnType := some (.object "java/lang/String") }, accessFlags := 9, code := some k8c1 }
/-- com/example/reevemark/reevemark/connectors/ldap/LdapEscape -/
def k8 : Class := { plain "com/example/reevemark/reevemark/connectors/ldap/LdapEscape" (some 0) with
  accessFlags := 49
  interfaces := #[]
  cf := some (fileOf pool8 43 #[] #[{ accessFlags := 2, nameIndex := 5, descriptorIndex := 6, attributes := #[] }, { accessFlags := 9, nameIndex := 47, descriptorIndex := 48, attributes := #[] }] 49 2 #[] #[])
  fields := #[]
  methods := #[k8m0, k8m1]
  instanceTypes := #[]
  staticTypes := #[]
  resolved := Array.replicate 53 none
  statics := none }

def pool9 : Array CpInfo := pool [(1, .class_ 2), (0, u "java/lang/Appendable"), (0, .class_ 4), (0, u "java/lang/Object")] 9

/-- java/lang/Appendable -/
def k9 : Class := { plain "java/lang/Appendable" (some 0) with
  accessFlags := 1537
  interfaces := #[]
  cf := some (fileOf pool9 1 #[] #[] 1537 3 #[] #[])
  fields := #[]
  methods := #[]
  instanceTypes := #[]
  staticTypes := #[]
  resolved := Array.replicate 14 none
  statics := none }

def pool10 : Array CpInfo := pool [(1, .class_ 2), (0, u "java/lang/String"), (0, .methodref 4 5), (0, .class_ 6), (0, .nameAndType 7 8), (0, u "java/lang/Object"), (0, u "<init>"), (0, u "()V"), (1, .class_ 12), (1, u "java/lang/AbstractStringBuilder"), (0, u "EMPTYVALUE"), (0, u "[B"), (0, .fieldref 10 16), (0, .nameAndType 17 14), (0, u "value"), (0, .fieldref 1 19), (0, .nameAndType 20 21), (0, u "COMPACT_STRINGS"), (0, u "Z"), (0, .fieldref 10 23), (0, .nameAndType 24 25), (0, u "coder"), (0, u "B"), (0, .methodref 27 28), (0, .class_ 29), (0, .nameAndType 30 31), (0, u "java/lang/StringUTF16"), (0, u "newBytesFor"), (0, u "(I)[B"), (0, .methodref 1 33), (0, .nameAndType 34 35), (0, u "length"), (0, u "()I"), (4, .methodref 1 41), (0, .nameAndType 24 42), (0, u "()B"), (2, u "append"), (0, u "(Ljava/lang/String;)Ljava/lang/AbstractStringBuilder;"), (1, .class_ 49), (0, u "java/lang/CharSequence"), (19, u "(Ljava/lang/String;)V"), (5, u "maybeLatin1"), (3, .fieldref 10 80), (0, .nameAndType 81 82), (0, u "count"), (0, u "I"), (0, .methodref 10 84), (0, .nameAndType 85 86), (0, u "isLatin1"), (0, u "()Z"), (1, .class_ 90), (1, u "java/lang/StringLatin1"), (9, .methodref 10 101), (0, .nameAndType 102 103), (0, u "ensureCapacityInternal"), (0, u "(I)V"), (21, .methodref 88 126), (0, .nameAndType 127 128), (0, u "inflate"), (0, u "([BI[BII)V"), (7, u "([BII)V"), (54, .methodref 88 192), (0, .nameAndType 193 194), (0, u "canEncode"), (0, u "(C)Z"), (0, .methodref 10 196), (0, .nameAndType 127 8), (0, .methodref 27 198), (0, .nameAndType 199 136), (0, u "putCharSB"), (8, .methodref 10 209), (0, .nameAndType 210 211), (0, u "putStringAt"), (0, u "(ILjava/lang/String;)V"), (5, u "inflateIfNeededFor"), (2, .nameAndType 221 222), (0, u "getBytes"), (0, u "([BIB)V"), (69, u "(C)Ljava/lang/AbstractStringBuilder;"), (104, .methodref 10 398), (0, .nameAndType 217 69), (0, .methodref 1 220), (3, u "()[B"), (40, .class_ 445), (0, u "java/lang/Appendable"), (106, u "getValue")] 56

def k10m0 : Method := { name := "<init>", desc := "()V", sig := { parameters := [], returnType := none }, accessFlags := 0, code := none }
def k10c1 : Code := { maxStack := 2, maxLocals := 2, code := jdk_68_method_2_code, exceptionTable := #[], attributes := #[] }
def k10m1 : Method := { name := "<init>", desc := "(I)V", sig := { parameters := [.int], returnType := none }, accessFlags := 0, code := some k10c1 }
def k10c2 : Code := { maxStack := 1, maxLocals := 1, code := jdk_68_method_6_code, exceptionTable := #[], attributes := #[] }
def k10m2 : Method := { name := "length", desc := "()I", sig := { parameters := [], returnType := some .int }, accessFlags := 1, code := some k10c2 }
def k10c3 : Code := { maxStack := 4, maxLocals := 3, code := jdk_68_method_9_code, exceptionTable := #[], attributes := #[] }
def k10m3 : Method := { name := "ensureCapacityInternal", desc := "(I)V", sig := { parameters := [.int], returnType := none }, accessFlags := 2, code := some k10c3 }
def k10c4 : Code := { maxStack := 5, maxLocals := 2, code := jdk_68_method_11_code, exceptionTable := #[], attributes := #[] }
def k10m4 : Method := { name := "inflate", desc := "()V", sig := { parameters := [], returnType := none }, accessFlags := 2, code := some k10c4 }
def k10c5 : Code := { maxStack := 3, maxLocals := 3, code := jdk_68_method_22_code, exceptionTable := #[], attributes := #[] }
def k10m5 : Method := { name := "append", desc := "(Ljava/lang/String;)Ljava/lang/AbstractStringBuilder;", sig := { parameters := [(.object "java/lang/String")], returnType := some (.object "java/lang/AbstractStringBuilder") }, accessFlags := 1, code := some k10c5 }
def k10c6 : Code := { maxStack := 5, maxLocals := 2, code := jdk_68_method_31_code, exceptionTable := #[], attributes := #[] }
def k10m6 : Method := { name := "append", desc := "(C)Ljava/lang/AbstractStringBuilder;", sig := { parameters := [.char], returnType := some (.object "java/lang/AbstractStringBuilder") }, accessFlags := 1, code := some k10c6 }
def k10c7 : Code := { maxStack := 1, maxLocals := 1, code := jdk_68_method_64_code, exceptionTable := #[], attributes := #[] }
def k10m7 : Method := { name := "getValue", desc := "()[B", sig := { parameters := [], returnType := some (.array .byte) }, accessFlags := 16, code := some k10c7 }
def k10c8 : Code := { maxStack := 1, maxLocals := 1, code := jdk_68_method_68_code, exceptionTable := #[], attributes := #[] }
def k10m8 : Method := { name := "isLatin1", desc := "()Z", sig := { parameters := [], returnType := some .boolean }, accessFlags := 16, code := some k10c8 }
def k10c9 : Code := { maxStack := 2, maxLocals := 2, code := jdk_68_method_71_code, exceptionTable := #[], attributes := #[] }
def k10m9 : Method := { name := "inflateIfNeededFor", desc := "(Ljava/lang/String;)V", sig := { parameters := [(.object "java/lang/String")], returnType := none }, accessFlags := 2, code := some k10c9 }
def k10c10 : Code := { maxStack := 4, maxLocals := 3, code := jdk_68_method_73_code, exceptionTable := #[], attributes := #[] }
def k10m10 : Method := { name := "putStringAt", desc := "(ILjava/lang/String;)V", sig := { parameters := [.int, (.object "java/lang/String")], returnType := none }, accessFlags := 2, code := some k10c10 }
/-- java/lang/AbstractStringBuilder -/
def k10 : Class := { plain "java/lang/AbstractStringBuilder" (some 0) with
  accessFlags := 1056
  interfaces := #[9, 4]
  cf := some (fileOf pool10 10 #[] #[{ accessFlags := 0, nameIndex := 7, descriptorIndex := 8, attributes := #[] }, { accessFlags := 0, nameIndex := 7, descriptorIndex := 103, attributes := #[] }, { accessFlags := 1, nameIndex := 34, descriptorIndex := 35, attributes := #[] }, { accessFlags := 2, nameIndex := 102, descriptorIndex := 103, attributes := #[] }, { accessFlags := 2, nameIndex := 127, descriptorIndex := 8, attributes := #[] }, { accessFlags := 1, nameIndex := 45, descriptorIndex := 46, attributes := #[] }, { accessFlags := 1, nameIndex := 45, descriptorIndex := 292, attributes := #[] }, { accessFlags := 16, nameIndex := 552, descriptorIndex := 403, attributes := #[] }, { accessFlags := 16, nameIndex := 85, descriptorIndex := 86, attributes := #[] }, { accessFlags := 2, nameIndex := 217, descriptorIndex := 69, attributes := #[] }, { accessFlags := 2, nameIndex := 210, descriptorIndex := 211, attributes := #[] }] 1056 4 #[444, 48] #[{ accessFlags := 0, nameIndex := 17, descriptorIndex := 14, attributes := #[] }, { accessFlags := 0, nameIndex := 24, descriptorIndex := 25, attributes := #[] }, { accessFlags := 0, nameIndex := 75, descriptorIndex := 21, attributes := #[] }, { accessFlags := 0, nameIndex := 81, descriptorIndex := 82, attributes := #[] }, { accessFlags := 26, nameIndex := 13, descriptorIndex := 14, attributes := #[] }])
  fields := #[{ name := "value", type := (.array .byte), accessFlags := 0, slot := 0, constantValue := 0 }, { name := "coder", type := .byte, accessFlags := 0, slot := 1, constantValue := 0 }, { name := "maybeLatin1", type := .boolean, accessFlags := 0, slot := 2, constantValue := 0 }, { name := "count", type := .int, accessFlags := 0, slot := 3, constantValue := 0 }, { name := "EMPTYVALUE", type := (.array .byte), accessFlags := 26, slot := 0, constantValue := 0 }]
  methods := #[k10m0, k10m1, k10m2, k10m3, k10m4, k10m5, k10m6, k10m7, k10m8, k10m9, k10m10]
  instanceTypes := #[(.array .byte), .byte, .boolean, .int]
  staticTypes := #[(.array .byte)]
  resolved := Array.replicate 609 none
  statics := none }

def pool11 : Array CpInfo := pool [(1, .methodref 2 3), (0, .class_ 4), (0, .nameAndType 5 6), (0, u "java/lang/AbstractStringBuilder"), (0, u "<init>"), (0, u "(I)V"), (11, .class_ 20), (1, u "java/lang/String"), (3, .class_ 26), (1, u "java/lang/StringBuilder"), (0, u "append"), (0, u "(Ljava/lang/String;)Ljava/lang/StringBuilder;"), (0, .methodref 2 30), (0, .nameAndType 27 31), (0, u "(Ljava/lang/String;)Ljava/lang/AbstractStringBuilder;"), (18, .methodref 2 51), (0, .nameAndType 27 52), (0, u "(C)Ljava/lang/AbstractStringBuilder;"), (84, .methodref 18 138), (0, .nameAndType 5 139), (0, u "(Ljava/lang/StringBuilder;)V"), (5, u "()V"), (10, u "()I"), (129, u "(C)Ljava/lang/StringBuilder;"), (56, .methodref 2 344), (0, .nameAndType 345 156), (0, u "length"), (3, .class_ 350), (0, u "java/lang/Appendable"), (0, .class_ 352), (0, u "java/io/Serializable"), (0, .class_ 354), (0, u "java/lang/Comparable"), (0, .class_ 356), (0, u "java/lang/CharSequence"), (0, u "serialVersionUID"), (0, u "J"), (40, u "toString"), (0, u "()Ljava/lang/String;")] 21

def k11m0 : Method := { name := "<init>", desc := "()V", sig := { parameters := [], returnType := none }, accessFlags := 1, code := none }
def k11c1 : Code := { maxStack := 2, maxLocals := 2, code := jdk_67_method_2_code, exceptionTable := #[], attributes := #[] }
def k11m1 : Method := { name := "<init>", desc := "(I)V", sig := { parameters := [.int], returnType := none }, accessFlags := 1, code := some k11c1 }
def k11c2 : Code := { maxStack := 2, maxLocals := 2, code := jdk_67_method_7_code, exceptionTable := #[], attributes := #[] }
def k11m2 : Method := { name := "append", desc := "(Ljava/lang/String;)Ljava/lang/StringBuilder;", sig := { parameters := [(.object "java/lang/String")], returnType := some (.object "java/lang/StringBuilder") }, accessFlags := 1, code := some k11c2 }
def k11c3 : Code := { maxStack := 2, maxLocals := 2, code := jdk_67_method_14_code, exceptionTable := #[], attributes := #[] }
def k11m3 : Method := { name := "append", desc := "(C)Ljava/lang/StringBuilder;", sig := { parameters := [.char], returnType := some (.object "java/lang/StringBuilder") }, accessFlags := 1, code := some k11c3 }
def k11c4 : Code := { maxStack := 3, maxLocals := 1, code := jdk_67_method_42_code, exceptionTable := #[], attributes := #[] }
def k11m4 : Method := { name := "toString", desc := "()Ljava/lang/String;", sig := { parameters := [], returnType := some (.object "java/lang/String") }, accessFlags := 1, code := some k11c4 }
def k11c5 : Code := { maxStack := 1, maxLocals := 1, code := jdk_67_method_93_code, exceptionTable := #[], attributes := #[] }
def k11m5 : Method := { name := "length", desc := "()I", sig := { parameters := [], returnType := some .int }, accessFlags := 4161, code := some k11c5 }
/-- java/lang/StringBuilder -/
def k11 : Class := { plain "java/lang/StringBuilder" (some 10) with
  accessFlags := 49
  interfaces := #[9, 2, 3, 4]
  cf := some (fileOf pool11 24 #[] #[{ accessFlags := 1, nameIndex := 5, descriptorIndex := 145, attributes := #[] }, { accessFlags := 1, nameIndex := 5, descriptorIndex := 6, attributes := #[] }, { accessFlags := 1, nameIndex := 27, descriptorIndex := 28, attributes := #[] }, { accessFlags := 1, nameIndex := 27, descriptorIndex := 286, attributes := #[] }, { accessFlags := 1, nameIndex := 399, descriptorIndex := 400, attributes := #[] }, { accessFlags := 4161, nameIndex := 345, descriptorIndex := 156, attributes := #[] }] 49 2 #[349, 351, 353, 355] #[{ accessFlags := 24, nameIndex := 357, descriptorIndex := 358, attributes := #[] }])
  fields := #[{ name := "serialVersionUID", type := .long, accessFlags := 24, slot := 0, constantValue := 0 }]
  methods := #[k11m0, k11m1, k11m2, k11m3, k11m4, k11m5]
  instanceTypes := #[(.array .byte), .byte, .boolean, .int]
  staticTypes := #[.long]
  resolved := Array.replicate 422 none
  statics := none }

def pool12 : Array CpInfo := pool [(2, .class_ 4), (1, u "java/lang/Object"), (0, u "<init>"), (0, u "()V"), (7, .class_ 16), (1, u "java/util/Arrays"), (57, .class_ 76), (1, u "java/util/Arrays$NaturalOrder"), (32, u "()Ljava/lang/Object;"), (3, .class_ 115), (1, u "java/util/Arrays$LegacyMergeSort"), (1, u "Z"), (10, .nameAndType 129 109), (0, u "clone"), (9, u "copyOfRange"), (10, .methodref 151 152), (0, .class_ 153), (0, .nameAndType 154 155), (0, u "java/lang/System"), (0, u "arraycopy"), (0, u "(Ljava/lang/Object;ILjava/lang/Object;II)V"), (148, .methodref 305 306), (0, .class_ 307), (0, .nameAndType 308 309), (0, u "java/lang/Math"), (0, u "min"), (0, u "(II)I"), (0, .methodref 311 128), (0, .class_ 312), (0, u "[B"), (26, .methodref 14 340), (0, .nameAndType 341 342), (0, u "copyOfRangeByte"), (0, u "([BII)[B"), (0, .methodref 14 344), (0, .nameAndType 345 346), (0, u "checkLength"), (0, u "(II)V"), (28, .class_ 376), (0, u "java/util/Arrays$ArrayList"), (68, u "$assertionsDisabled"), (269, u "MIN_ARRAY_SORT_GRAN"), (0, u "I"), (2, u "INSERTIONSORT_THRESHOLD"), (255, .class_ 976), (0, u "java/util/Arrays$ArrayItr")] 52

def k12m0 : Method := { name := "<init>", desc := "()V", sig := { parameters := [], returnType := none }, accessFlags := 2, code := none }
def k12c1 : Code := { maxStack := 4, maxLocals := 2, code := jdk_65_method_131_code, exceptionTable := #[], attributes := #[] }
def k12m1 : Method := { name := "checkLength", desc := "(II)V", sig := { parameters := [.int, .int], returnType := none }, accessFlags := 10, code := some k12c1 }
def k12c2 : Code := { maxStack := 3, maxLocals := 3, code := jdk_65_method_132_code, exceptionTable := #[], attributes := #[] }
def k12m2 : Method := { name := "copyOfRange", desc := "([BII)[B", sig := { parameters := [(.array .byte), .int, .int], returnType := some (.array .byte) }, accessFlags := 9, code := some k12c2 }
def k12c3 : Code := { maxStack := 6, maxLocals := 5, code := jdk_65_method_133_code, exceptionTable := #[], attributes := #[] }
def k12m3 : Method := { name := "copyOfRangeByte", desc := "([BII)[B", sig := { parameters := [(.array .byte), .int, .int], returnType := some (.array .byte) }, accessFlags := 10, code := some k12c3 }
/-- java/util/Arrays -/
def k12 : Class := { plain "java/util/Arrays" (some 0) with
  accessFlags := 49
  interfaces := #[]
  cf := some (fileOf pool12 14 #[.nestMembers #[975, 375, 113, 74]] #[{ accessFlags := 2, nameIndex := 5, descriptorIndex := 6, attributes := #[] }, { accessFlags := 10, nameIndex := 345, descriptorIndex := 346, attributes := #[] }, { accessFlags := 9, nameIndex := 139, descriptorIndex := 342, attributes := #[] }, { accessFlags := 10, nameIndex := 341, descriptorIndex := 342, attributes := #[] }] 49 2 #[] #[{ accessFlags := 26, nameIndex := 715, descriptorIndex := 716, attributes := #[] }, { accessFlags := 26, nameIndex := 719, descriptorIndex := 716, attributes := #[] }, { accessFlags := 4120, nameIndex := 445, descriptorIndex := 117, attributes := #[] }])
  fields := #[{ name := "MIN_ARRAY_SORT_GRAN", type := .int, accessFlags := 26, slot := 0, constantValue := 0 }, { name := "INSERTIONSORT_THRESHOLD", type := .int, accessFlags := 26, slot := 1, constantValue := 0 }, { name := "$assertionsDisabled", type := .boolean, accessFlags := 4120, slot := 2, constantValue := 0 }]
  methods := #[k12m0, k12m1, k12m2, k12m3]
  instanceTypes := #[]
  staticTypes := #[.int, .int, .boolean]
  resolved := Array.replicate 1029 none
  statics := none }

def pool13 : Array CpInfo := pool [(1, .class_ 2), (0, u "java/lang/Math"), (1, .class_ 6), (1, u "java/lang/Object"), (0, u "<init>"), (0, u "()V"), (89, .class_ 100), (1, u "java/lang/Math$RandomNumberGeneratorHolder"), (71, u "negativeZeroFloatBits"), (0, u "J"), (2, u "negativeZeroDoubleBits"), (24, u "min"), (43, u "$assertionsDisabled"), (0, u "Z"), (88, u "(II)I"), (2, u "twoToTheDoubleScaleDown"), (0, u "D"), (4, u "twoToTheDoubleScaleUp"), (9, u "E"), (3, u "PI"), (2, u "TAU"), (2, u "DEGREES_TO_RADIANS"), (0, u "RADIANS_TO_DEGREES")] 94

def k13m0 : Method := { name := "<init>", desc := "()V", sig := { parameters := [], returnType := none }, accessFlags := 2, code := none }
def k13c1 : Code := { maxStack := 2, maxLocals := 2, code := jdk_29_method_69_code, exceptionTable := #[], attributes := #[] }
def k13m1 : Method := { name := "min", desc := "(II)I", sig := { parameters := [.int, .int], returnType := some .int }, accessFlags := 9, code := some k13c1 }
/-- java/lang/Math -/
def k13 : Class := { plain "java/lang/Math" (some 0) with
  accessFlags := 49
  interfaces := #[]
  cf := some (fileOf pool13 1 #[.nestMembers #[98]] #[{ accessFlags := 2, nameIndex := 7, descriptorIndex := 8, attributes := #[] }, { accessFlags := 9, nameIndex := 201, descriptorIndex := 335, attributes := #[] }] 49 4 #[] #[{ accessFlags := 25, nameIndex := 354, descriptorIndex := 339, attributes := #[] }, { accessFlags := 25, nameIndex := 358, descriptorIndex := 339, attributes := #[] }, { accessFlags := 25, nameIndex := 361, descriptorIndex := 339, attributes := #[] }, { accessFlags := 26, nameIndex := 364, descriptorIndex := 339, attributes := #[] }, { accessFlags := 26, nameIndex := 365, descriptorIndex := 339, attributes := #[] }, { accessFlags := 26, nameIndex := 172, descriptorIndex := 173, attributes := #[] }, { accessFlags := 26, nameIndex := 176, descriptorIndex := 173, attributes := #[] }, { accessFlags := 8, nameIndex := 344, descriptorIndex := 339, attributes := #[] }, { accessFlags := 8, nameIndex := 338, descriptorIndex := 339, attributes := #[] }, { accessFlags := 4120, nameIndex := 245, descriptorIndex := 246, attributes := #[] }])
  fields := #[{ name := "E", type := .double, accessFlags := 25, slot := 0, constantValue := 0 }, { name := "PI", type := .double, accessFlags := 25, slot := 1, constantValue := 0 }, { name := "TAU", type := .double, accessFlags := 25, slot := 2, constantValue := 0 }, { name := "DEGREES_TO_RADIANS", type := .double, accessFlags := 26, slot := 3, constantValue := 0 }, { name := "RADIANS_TO_DEGREES", type := .double, accessFlags := 26, slot := 4, constantValue := 0 }, { name := "negativeZeroFloatBits", type := .long, accessFlags := 26, slot := 5, constantValue := 0 }, { name := "negativeZeroDoubleBits", type := .long, accessFlags := 26, slot := 6, constantValue := 0 }, { name := "twoToTheDoubleScaleUp", type := .double, accessFlags := 8, slot := 7, constantValue := 0 }, { name := "twoToTheDoubleScaleDown", type := .double, accessFlags := 8, slot := 8, constantValue := 0 }, { name := "$assertionsDisabled", type := .boolean, accessFlags := 4120, slot := 9, constantValue := 0 }]
  methods := #[k13m0, k13m1]
  instanceTypes := #[]
  staticTypes := #[.double, .double, .double, .double, .double, .long, .long, .double, .double, .boolean]
  resolved := Array.replicate 460 none
  statics := none }

def pool14 : Array CpInfo := pool [(2, .class_ 4), (1, u "java/lang/Object"), (0, u "<init>"), (0, u "()V"), (1, .class_ 10), (1, u "java/lang/System"), (0, u "allowSecurityManager"), (0, u "I"), (16, u "cons"), (0, u "Ljava/io/Console;"), (77, .class_ 110), (1, u "java/lang/System$CallersHolder"), (43, u "initialErrStream"), (0, u "Ljava/io/PrintStream;"), (19, u "security"), (0, u "Ljava/lang/SecurityManager;"), (31, .class_ 209), (0, u "java/lang/System$1"), (7, u "props"), (0, u "Ljava/util/Properties;"), (2, u "lineSeparator"), (0, u "Ljava/lang/String;"), (96, .class_ 321), (1, u "java/lang/System$LoggerFinder"), (5, .class_ 328), (0, u "java/lang/System$Logger"), (67, u "err"), (2, u "out"), (91, u "notSupportedJnuEncoding"), (15, u "in"), (17, u "initialIn"), (0, u "Ljava/io/InputStream;"), (35, u "bootLayer"), (0, u "Ljava/lang/ModuleLayer;"), (99, .class_ 664), (0, u "java/lang/System$2"), (9, u "NEVER"), (2, u "MAYBE"), (49, u "arraycopy"), (0, u "(Ljava/lang/Object;ILjava/lang/Object;II)V"), (72, .class_ 802), (0, u "java/lang/System$Logger$Level")] 31

def k14m0 : Method := { name := "<init>", desc := "()V", sig := { parameters := [], returnType := none }, accessFlags := 2, code := none }
def k14m1 : Method := { name := "arraycopy", desc := "(Ljava/lang/Object;ILjava/lang/Object;II)V", sig := { parameters := [(.object "java/lang/Object"), .int, (.object "java/lang/Object"), .int, .int], returnType := none }, accessFlags := 265, code := none }
/-- java/lang/System -/
def k14 : Class := { plain "java/lang/System" (some 0) with
  accessFlags := 49
  interfaces := #[]
  cf := some (fileOf pool14 8 #[.nestMembers #[319, 327, 801, 108, 663, 208]] #[{ accessFlags := 2, nameIndex := 5, descriptorIndex := 6, attributes := #[] }, { accessFlags := 265, nameIndex := 727, descriptorIndex := 728, attributes := #[] }] 49 2 #[] #[{ accessFlags := 25, nameIndex := 507, descriptorIndex := 526, attributes := #[] }, { accessFlags := 25, nameIndex := 399, descriptorIndex := 155, attributes := #[] }, { accessFlags := 25, nameIndex := 396, descriptorIndex := 155, attributes := #[] }, { accessFlags := 10, nameIndex := 525, descriptorIndex := 526, attributes := #[] }, { accessFlags := 26, nameIndex := 674, descriptorIndex := 12, attributes := #[] }, { accessFlags := 26, nameIndex := 677, descriptorIndex := 12, attributes := #[] }, { accessFlags := 10, nameIndex := 11, descriptorIndex := 12, attributes := #[] }, { accessFlags := 74, nameIndex := 175, descriptorIndex := 176, attributes := #[] }, { accessFlags := 10, nameIndex := 491, descriptorIndex := 222, attributes := #[] }, { accessFlags := 74, nameIndex := 29, descriptorIndex := 30, attributes := #[] }, { accessFlags := 74, nameIndex := 154, descriptorIndex := 155, attributes := #[] }, { accessFlags := 10, nameIndex := 217, descriptorIndex := 218, attributes := #[] }, { accessFlags := 10, nameIndex := 221, descriptorIndex := 222, attributes := #[] }, { accessFlags := 8, nameIndex := 562, descriptorIndex := 563, attributes := #[] }])
  fields := #[{ name := "in", type := (.object "java/io/InputStream"), accessFlags := 25, slot := 0, constantValue := 0 }, { name := "out", type := (.object "java/io/PrintStream"), accessFlags := 25, slot := 1, constantValue := 0 }, { name := "err", type := (.object "java/io/PrintStream"), accessFlags := 25, slot := 2, constantValue := 0 }, { name := "initialIn", type := (.object "java/io/InputStream"), accessFlags := 10, slot := 3, constantValue := 0 }, { name := "NEVER", type := .int, accessFlags := 26, slot := 4, constantValue := 0 }, { name := "MAYBE", type := .int, accessFlags := 26, slot := 5, constantValue := 0 }, { name := "allowSecurityManager", type := .int, accessFlags := 10, slot := 6, constantValue := 0 }, { name := "security", type := (.object "java/lang/SecurityManager"), accessFlags := 74, slot := 7, constantValue := 0 }, { name := "notSupportedJnuEncoding", type := (.object "java/lang/String"), accessFlags := 10, slot := 8, constantValue := 0 }, { name := "cons", type := (.object "java/io/Console"), accessFlags := 74, slot := 9, constantValue := 0 }, { name := "initialErrStream", type := (.object "java/io/PrintStream"), accessFlags := 74, slot := 10, constantValue := 0 }, { name := "props", type := (.object "java/util/Properties"), accessFlags := 10, slot := 11, constantValue := 0 }, { name := "lineSeparator", type := (.object "java/lang/String"), accessFlags := 10, slot := 12, constantValue := 0 }, { name := "bootLayer", type := (.object "java/lang/ModuleLayer"), accessFlags := 8, slot := 13, constantValue := 0 }]
  methods := #[k14m0, k14m1]
  instanceTypes := #[]
  staticTypes := #[(.object "java/io/InputStream"), (.object "java/io/PrintStream"), (.object "java/io/PrintStream"), (.object "java/io/InputStream"), .int, .int, .int, (.object "java/lang/SecurityManager"), (.object "java/lang/String"), (.object "java/io/Console"), (.object "java/io/PrintStream"), (.object "java/util/Properties"), (.object "java/lang/String"), (.object "java/lang/ModuleLayer")]
  resolved := Array.replicate 834 none
  statics := none }

def pool15 : Array CpInfo := pool [(3, .class_ 4), (0, u "java/lang/String"), (1, .class_ 8), (1, u "java/lang/Object"), (0, u "<init>"), (0, u "()V"), (0, .methodref 12 13), (0, .class_ 14), (0, .nameAndType 15 16), (0, u "java/lang/StringUTF16"), (0, u "newBytesLength"), (0, u "(I)I"), (3, .integer 1073741823), (23, .fieldref 12 45), (0, .nameAndType 46 47), (0, u "$assertionsDisabled"), (0, u "Z"), (0, .methodref 12 49), (0, .nameAndType 50 51), (0, u "length"), (0, u "([B)I"), (7, .fieldref 12 60), (0, .nameAndType 61 62), (0, u "HI_BYTE_SHIFT"), (0, u "I"), (0, .fieldref 12 64), (0, .nameAndType 65 62), (0, u "LO_BYTE_SHIFT"), (1, .methodref 12 68), (0, .nameAndType 69 70), (0, u "checkIndex"), (0, u "(I[B)V"), (0, .methodref 12 72), (0, .nameAndType 73 74), (0, u "getChar"), (0, u "([BI)C"), (24, u "(II[B)V"), (7, .methodref 12 108), (0, .nameAndType 109 110), (0, u "newBytesFor"), (0, u "(I)[B"), (0, .methodref 12 112), (0, .nameAndType 113 114), (0, u "putChar"), (0, u "([BII)V"), (0, .methodref 12 116), (0, .nameAndType 117 118), (0, u "compress"), (0, u "([CI[BII)I"), (0, .methodref 12 120), (0, .nameAndType 121 122), (0, u "toBytes"), (0, u "([CII)[B"), (17, u "inflate"), (0, u "([BI[BII)V"), (31, .methodref 12 174), (0, .nameAndType 175 99), (0, u "checkBoundsOffCount"), (85, u "coderFromArrayLen"), (0, u "([BI)B"), (18, u "(III)I"), (87, .class_ 371), (1, u "java/lang/StringUTF16$LinesSpliterator"), (20, u "charAt"), (21, .methodref 3 415), (0, .nameAndType 69 416), (0, u "(II)V"), (2, .methodref 3 420), (0, .nameAndType 175 281), (9, u "MAX_LENGTH"), (155, u "putCharSB"), (40, .class_ 628), (0, u "java/lang/StringUTF16$CodePointsSpliterator"), (0, .class_ 630), (0, u "java/lang/StringUTF16$CharsSpliterator")] 4

def k15m0 : Method := { name := "<init>", desc := "()V", sig := { parameters := [], returnType := none }, accessFlags := 0, code := none }
def k15c1 : Code := { maxStack := 1, maxLocals := 1, code := jdk_52_method_2_code, exceptionTable := #[], attributes := #[] }
def k15m1 : Method := { name := "newBytesFor", desc := "(I)[B", sig := { parameters := [.int], returnType := some (.array .byte) }, accessFlags := 9, code := some k15c1 }
def k15c2 : Code := { maxStack := 4, maxLocals := 1, code := jdk_52_method_3_code, exceptionTable := #[], attributes := #[] }
def k15m2 : Method := { name := "newBytesLength", desc := "(I)I", sig := { parameters := [.int], returnType := some .int }, accessFlags := 9, code := some k15c2 }
def k15c3 : Code := { maxStack := 4, maxLocals := 3, code := jdk_52_method_4_code, exceptionTable := #[], attributes := #[] }
def k15m3 : Method := { name := "putChar", desc := "([BII)V", sig := { parameters := [(.array .byte), .int, .int], returnType := none }, accessFlags := 8, code := some k15c3 }
def k15c4 : Code := { maxStack := 3, maxLocals := 2, code := jdk_52_method_5_code, exceptionTable := #[], attributes := #[] }
def k15m4 : Method := { name := "getChar", desc := "([BI)C", sig := { parameters := [(.array .byte), .int], returnType := some .char }, accessFlags := 8, code := some k15c4 }
def k15c5 : Code := { maxStack := 2, maxLocals := 1, code := jdk_52_method_6_code, exceptionTable := #[], attributes := #[] }
def k15m5 : Method := { name := "length", desc := "([B)I", sig := { parameters := [(.array .byte)], returnType := some .int }, accessFlags := 9, code := some k15c5 }
def k15c6 : Code := { maxStack := 4, maxLocals := 5, code := jdk_52_method_14_code, exceptionTable := #[], attributes := #[] }
def k15m6 : Method := { name := "toBytes", desc := "([CII)[B", sig := { parameters := [(.array .char), .int, .int], returnType := some (.array .byte) }, accessFlags := 9, code := some k15c6 }
def k15c7 : Code := { maxStack := 2, maxLocals := 2, code := jdk_52_method_15_code, exceptionTable := #[], attributes := #[] }
def k15m7 : Method := { name := "coderFromArrayLen", desc := "([BI)B", sig := { parameters := [(.array .byte), .int], returnType := some .byte }, accessFlags := 8, code := some k15c7 }
def k15c8 : Code := { maxStack := 5, maxLocals := 6, code := jdk_52_method_16_code, exceptionTable := #[], attributes := #[] }
def k15m8 : Method := { name := "compress", desc := "([CII)[B", sig := { parameters := [(.array .char), .int, .int], returnType := some (.array .byte) }, accessFlags := 9, code := some k15c8 }
def k15c9 : Code := { maxStack := 3, maxLocals := 7, code := jdk_52_method_21_code, exceptionTable := #[], attributes := #[] }
def k15m9 : Method := { name := "compress", desc := "([CI[BII)I", sig := { parameters := [(.array .char), .int, (.array .byte), .int, .int], returnType := some .int }, accessFlags := 9, code := some k15c9 }
def k15c10 : Code := { maxStack := 3, maxLocals := 3, code := jdk_52_method_71_code, exceptionTable := #[], attributes := #[] }
def k15m10 : Method := { name := "putCharSB", desc := "([BII)V", sig := { parameters := [(.array .byte), .int, .int], returnType := none }, accessFlags := 9, code := some k15c10 }
def k15c11 : Code := { maxStack := 2, maxLocals := 2, code := jdk_52_method_83_code, exceptionTable := #[], attributes := #[] }
def k15m11 : Method := { name := "charAt", desc := "([BI)C", sig := { parameters := [(.array .byte), .int], returnType := some .char }, accessFlags := 9, code := some k15c11 }
def k15c12 : Code := { maxStack := 4, maxLocals := 6, code := jdk_52_method_86_code, exceptionTable := #[], attributes := #[] }
def k15m12 : Method := { name := "inflate", desc := "([BI[BII)V", sig := { parameters := [(.array .byte), .int, (.array .byte), .int, .int], returnType := none }, accessFlags := 9, code := some k15c12 }
def k15c13 : Code := { maxStack := 2, maxLocals := 2, code := jdk_52_method_91_code, exceptionTable := #[], attributes := #[] }
def k15m13 : Method := { name := "checkIndex", desc := "(I[B)V", sig := { parameters := [.int, (.array .byte)], returnType := none }, accessFlags := 9, code := some k15c13 }
def k15c14 : Code := { maxStack := 3, maxLocals := 3, code := jdk_52_method_94_code, exceptionTable := #[], attributes := #[] }
def k15m14 : Method := { name := "checkBoundsOffCount", desc := "(II[B)V", sig := { parameters := [.int, .int, (.array .byte)], returnType := none }, accessFlags := 9, code := some k15c14 }
/-- java/lang/StringUTF16 -/
def k15 : Class := { plain "java/lang/StringUTF16" (some 0) with
  accessFlags := 48
  interfaces := #[]
  cf := some (fileOf pool15 12 #[.nestMembers #[627, 629, 369]] #[{ accessFlags := 0, nameIndex := 9, descriptorIndex := 10, attributes := #[] }, { accessFlags := 9, nameIndex := 109, descriptorIndex := 110, attributes := #[] }, { accessFlags := 9, nameIndex := 15, descriptorIndex := 16, attributes := #[] }, { accessFlags := 8, nameIndex := 113, descriptorIndex := 114, attributes := #[] }, { accessFlags := 8, nameIndex := 73, descriptorIndex := 74, attributes := #[] }, { accessFlags := 9, nameIndex := 50, descriptorIndex := 51, attributes := #[] }, { accessFlags := 9, nameIndex := 121, descriptorIndex := 122, attributes := #[] }, { accessFlags := 8, nameIndex := 261, descriptorIndex := 262, attributes := #[] }, { accessFlags := 9, nameIndex := 117, descriptorIndex := 122, attributes := #[] }, { accessFlags := 9, nameIndex := 117, descriptorIndex := 118, attributes := #[] }, { accessFlags := 9, nameIndex := 586, descriptorIndex := 114, attributes := #[] }, { accessFlags := 9, nameIndex := 392, descriptorIndex := 74, attributes := #[] }, { accessFlags := 9, nameIndex := 140, descriptorIndex := 141, attributes := #[] }, { accessFlags := 9, nameIndex := 69, descriptorIndex := 70, attributes := #[] }, { accessFlags := 9, nameIndex := 175, descriptorIndex := 99, attributes := #[] }] 48 6 #[] #[{ accessFlags := 26, nameIndex := 61, descriptorIndex := 62, attributes := #[] }, { accessFlags := 26, nameIndex := 65, descriptorIndex := 62, attributes := #[] }, { accessFlags := 24, nameIndex := 430, descriptorIndex := 62, attributes := #[] }, { accessFlags := 4120, nameIndex := 46, descriptorIndex := 47, attributes := #[] }])
  fields := #[{ name := "HI_BYTE_SHIFT", type := .int, accessFlags := 26, slot := 0, constantValue := 0 }, { name := "LO_BYTE_SHIFT", type := .int, accessFlags := 26, slot := 1, constantValue := 0 }, { name := "MAX_LENGTH", type := .int, accessFlags := 24, slot := 2, constantValue := 0 }, { name := "$assertionsDisabled", type := .boolean, accessFlags := 4120, slot := 3, constantValue := 0 }]
  methods := #[k15m0, k15m1, k15m2, k15m3, k15m4, k15m5, k15m6, k15m7, k15m8, k15m9, k15m10, k15m11, k15m12, k15m13, k15m14]
  instanceTypes := #[]
  staticTypes := #[.int, .int, .int, .boolean]
  resolved := Array.replicate 635 none
  statics := some 1 }

def pool16 : Array CpInfo := pool [(1, .class_ 2), (0, u "java/lang/String"), (1, .class_ 6), (1, u "java/lang/Object"), (0, u "<init>"), (0, u "()V"), (0, .methodref 1 10), (0, .nameAndType 11 12), (0, u "checkIndex"), (0, u "(II)V"), (1, .class_ 16), (1, u "java/lang/StringLatin1"), (0, u "inflate"), (2, .class_ 22), (1, u "java/lang/StringUTF16"), (3, .nameAndType 17 27), (0, u "([BI[BII)V"), (25, u "([BI)C"), (36, u "canEncode"), (14, u "(C)Z"), (15, u "$assertionsDisabled"), (0, u "Z"), (98, .class_ 223), (1, u "java/lang/StringLatin1$LinesSpliterator"), (16, .methodref 20 26), (11, u "charAt"), (137, .class_ 391), (0, u "java/lang/StringLatin1$CharsSpliterator")] 3

def k16m0 : Method := { name := "<init>", desc := "()V", sig := { parameters := [], returnType := none }, accessFlags := 0, code := none }
def k16c1 : Code := { maxStack := 2, maxLocals := 2, code := jdk_43_method_2_code, exceptionTable := #[], attributes := #[] }
def k16m1 : Method := { name := "charAt", desc := "([BI)C", sig := { parameters := [(.array .byte), .int], returnType := some .char }, accessFlags := 9, code := some k16c1 }
def k16c2 : Code := { maxStack := 2, maxLocals := 1, code := jdk_43_method_3_code, exceptionTable := #[], attributes := #[] }
def k16m2 : Method := { name := "canEncode", desc := "(C)Z", sig := { parameters := [.char], returnType := some .boolean }, accessFlags := 9, code := some k16c2 }
def k16c3 : Code := { maxStack := 5, maxLocals := 5, code := jdk_43_method_50_code, exceptionTable := #[], attributes := #[] }
def k16m3 : Method := { name := "inflate", desc := "([BI[BII)V", sig := { parameters := [(.array .byte), .int, (.array .byte), .int, .int], returnType := none }, accessFlags := 9, code := some k16c3 }
/-- java/lang/StringLatin1 -/
def k16 : Class := { plain "java/lang/StringLatin1" (some 0) with
  accessFlags := 48
  interfaces := #[]
  cf := some (fileOf pool16 14 #[.nestMembers #[390, 221]] #[{ accessFlags := 0, nameIndex := 7, descriptorIndex := 8, attributes := #[] }, { accessFlags := 9, nameIndex := 252, descriptorIndex := 53, attributes := #[] }, { accessFlags := 9, nameIndex := 90, descriptorIndex := 105, attributes := #[] }, { accessFlags := 9, nameIndex := 17, descriptorIndex := 27, attributes := #[] }] 48 4 #[] #[{ accessFlags := 4120, nameIndex := 121, descriptorIndex := 122, attributes := #[] }])
  fields := #[{ name := "$assertionsDisabled", type := .boolean, accessFlags := 4120, slot := 0, constantValue := 0 }]
  methods := #[k16m0, k16m1, k16m2, k16m3]
  instanceTypes := #[]
  staticTypes := #[.boolean]
  resolved := Array.replicate 395 none
  statics := none }

def pool17 : Array CpInfo := pool [(2, .class_ 4), (1, u "java/lang/Object"), (0, u "<init>"), (0, u "()V"), (17, .class_ 26), (1, u "jdk/internal/util/Preconditions"), (6, u "checkIndex"), (15, u "checkFromIndexSize"), (5, .class_ 56), (0, u "jdk/internal/util/Preconditions$4"), (57, .class_ 115), (0, u "jdk/internal/util/Preconditions$1"), (7, u "SIOOBE_FORMATTER"), (0, u "Ljava/util/function/BiFunction;"), (0, .class_ 126), (0, u "jdk/internal/util/Preconditions$2"), (3, u "AIOOBE_FORMATTER"), (0, .class_ 132), (0, u "jdk/internal/util/Preconditions$3"), (3, u "IOOBE_FORMATTER"), (41, u "(IILjava/util/function/BiFunction;)I"), (4, u "(IIILjava/util/function/BiFunction;)I")] 10

def k17m0 : Method := { name := "<init>", desc := "()V", sig := { parameters := [], returnType := none }, accessFlags := 1, code := none }
def k17c1 : Code := { maxStack := 3, maxLocals := 3, code := jdk_41_method_11_code, exceptionTable := #[], attributes := #[] }
def k17m1 : Method := { name := "checkIndex", desc := "(IILjava/util/function/BiFunction;)I", sig := { parameters := [.int, .int, (.object "java/util/function/BiFunction")], returnType := some .int }, accessFlags := 9, code := some k17c1 }
def k17c2 : Code := { maxStack := 4, maxLocals := 4, code := jdk_41_method_13_code, exceptionTable := #[], attributes := #[] }
def k17m2 : Method := { name := "checkFromIndexSize", desc := "(IIILjava/util/function/BiFunction;)I", sig := { parameters := [.int, .int, .int, (.object "java/util/function/BiFunction")], returnType := some .int }, accessFlags := 9, code := some k17c2 }
/-- jdk/internal/util/Preconditions -/
def k17 : Class := { plain "jdk/internal/util/Preconditions" (some 0) with
  accessFlags := 33
  interfaces := #[]
  cf := some (fileOf pool17 24 #[.nestMembers #[55, 131, 125, 114]] #[{ accessFlags := 1, nameIndex := 5, descriptorIndex := 6, attributes := #[] }, { accessFlags := 9, nameIndex := 33, descriptorIndex := 178, attributes := #[] }, { accessFlags := 9, nameIndex := 49, descriptorIndex := 183, attributes := #[] }] 33 2 #[] #[{ accessFlags := 25, nameIndex := 123, descriptorIndex := 124, attributes := #[] }, { accessFlags := 25, nameIndex := 130, descriptorIndex := 124, attributes := #[] }, { accessFlags := 25, nameIndex := 136, descriptorIndex := 124, attributes := #[] }])
  fields := #[{ name := "SIOOBE_FORMATTER", type := (.object "java/util/function/BiFunction"), accessFlags := 25, slot := 0, constantValue := 0 }, { name := "AIOOBE_FORMATTER", type := (.object "java/util/function/BiFunction"), accessFlags := 25, slot := 1, constantValue := 0 }, { name := "IOOBE_FORMATTER", type := (.object "java/util/function/BiFunction"), accessFlags := 25, slot := 2, constantValue := 0 }]
  methods := #[k17m0, k17m1, k17m2]
  instanceTypes := #[]
  staticTypes := #[(.object "java/util/function/BiFunction"), (.object "java/util/function/BiFunction"), (.object "java/util/function/BiFunction")]
  resolved := Array.replicate 194 none
  statics := some 2 }

def pool18 : Array CpInfo := pool [(1, .class_ 2), (0, u "java/lang/Cloneable"), (0, .class_ 4), (0, u "java/lang/Object")] 2

/-- java/lang/Cloneable -/
def k18 : Class := { plain "java/lang/Cloneable" (some 0) with
  accessFlags := 1537
  interfaces := #[]
  cf := some (fileOf pool18 1 #[] #[] 1537 3 #[] #[])
  fields := #[]
  methods := #[]
  instanceTypes := #[]
  staticTypes := #[]
  resolved := Array.replicate 7 none
  statics := none }

def pool19 : Array CpInfo := pool [(9, u "<init>"), (6, .class_ 18), (1, u "java/lang/Object"), (0, u "()V"), (1, .class_ 23), (1, u "jdk/internal/util/ArraysSupport"), (0, u "LOG2_ARRAY_LONG_INDEX_SCALE"), (0, u "I"), (2, u "U"), (0, u "Ljdk/internal/misc/Unsafe;"), (8, u "BIG_ENDIAN"), (0, u "Z"), (8, u "LOG2_BYTE_BIT_SIZE"), (4, u "LOG2_ARRAY_INT_INDEX_SCALE"), (54, u "JLA"), (0, u "Ljdk/internal/access/JavaLangAccess;"), (11, u "LOG2_ARRAY_BOOLEAN_INDEX_SCALE"), (9, u "LOG2_ARRAY_BYTE_INDEX_SCALE"), (5, u "LOG2_ARRAY_CHAR_INDEX_SCALE"), (5, u "LOG2_ARRAY_SHORT_INDEX_SCALE"), (18, u "LOG2_ARRAY_FLOAT_INDEX_SCALE"), (24, u "LOG2_ARRAY_DOUBLE_INDEX_SCALE"), (89, u "T_BOOLEAN"), (2, u "T_CHAR"), (1, u "T_FLOAT"), (1, u "T_DOUBLE"), (1, u "T_BYTE"), (1, u "T_SHORT"), (1, u "T_INT"), (1, u "T_LONG"), (1, u "SOFT_MAX_ARRAY_LENGTH")] 83

def k19m0 : Method := { name := "<init>", desc := "()V", sig := { parameters := [], returnType := none }, accessFlags := 2, code := none }
/-- jdk/internal/util/ArraysSupport -/
def k19 : Class := { plain "jdk/internal/util/ArraysSupport" (some 0) with
  accessFlags := 33
  interfaces := #[]
  cf := some (fileOf pool19 21 #[] #[{ accessFlags := 2, nameIndex := 9, descriptorIndex := 19, attributes := #[] }] 33 16 #[] #[{ accessFlags := 24, nameIndex := 28, descriptorIndex := 29, attributes := #[] }, { accessFlags := 26, nameIndex := 38, descriptorIndex := 39, attributes := #[] }, { accessFlags := 25, nameIndex := 121, descriptorIndex := 25, attributes := #[] }, { accessFlags := 25, nameIndex := 131, descriptorIndex := 25, attributes := #[] }, { accessFlags := 25, nameIndex := 137, descriptorIndex := 25, attributes := #[] }, { accessFlags := 25, nameIndex := 143, descriptorIndex := 25, attributes := #[] }, { accessFlags := 25, nameIndex := 53, descriptorIndex := 25, attributes := #[] }, { accessFlags := 25, nameIndex := 24, descriptorIndex := 25, attributes := #[] }, { accessFlags := 25, nameIndex := 162, descriptorIndex := 25, attributes := #[] }, { accessFlags := 25, nameIndex := 187, descriptorIndex := 25, attributes := #[] }, { accessFlags := 26, nameIndex := 48, descriptorIndex := 25, attributes := #[] }, { accessFlags := 25, nameIndex := 277, descriptorIndex := 25, attributes := #[] }, { accessFlags := 25, nameIndex := 280, descriptorIndex := 25, attributes := #[] }, { accessFlags := 25, nameIndex := 282, descriptorIndex := 25, attributes := #[] }, { accessFlags := 25, nameIndex := 284, descriptorIndex := 25, attributes := #[] }, { accessFlags := 25, nameIndex := 286, descriptorIndex := 25, attributes := #[] }, { accessFlags := 25, nameIndex := 288, descriptorIndex := 25, attributes := #[] }, { accessFlags := 25, nameIndex := 290, descriptorIndex := 25, attributes := #[] }, { accessFlags := 25, nameIndex := 292, descriptorIndex := 25, attributes := #[] }, { accessFlags := 26, nameIndex := 108, descriptorIndex := 109, attributes := #[] }, { accessFlags := 25, nameIndex := 294, descriptorIndex := 25, attributes := #[] }])
  fields := #[{ name := "U", type := (.object "jdk/internal/misc/Unsafe"), accessFlags := 24, slot := 0, constantValue := 0 }, { name := "BIG_ENDIAN", type := .boolean, accessFlags := 26, slot := 1, constantValue := 0 }, { name := "LOG2_ARRAY_BOOLEAN_INDEX_SCALE", type := .int, accessFlags := 25, slot := 2, constantValue := 0 }, { name := "LOG2_ARRAY_BYTE_INDEX_SCALE", type := .int, accessFlags := 25, slot := 3, constantValue := 0 }, { name := "LOG2_ARRAY_CHAR_INDEX_SCALE", type := .int, accessFlags := 25, slot := 4, constantValue := 0 }, { name := "LOG2_ARRAY_SHORT_INDEX_SCALE", type := .int, accessFlags := 25, slot := 5, constantValue := 0 }, { name := "LOG2_ARRAY_INT_INDEX_SCALE", type := .int, accessFlags := 25, slot := 6, constantValue := 0 }, { name := "LOG2_ARRAY_LONG_INDEX_SCALE", type := .int, accessFlags := 25, slot := 7, constantValue := 0 }, { name := "LOG2_ARRAY_FLOAT_INDEX_SCALE", type := .int, accessFlags := 25, slot := 8, constantValue := 0 }, { name := "LOG2_ARRAY_DOUBLE_INDEX_SCALE", type := .int, accessFlags := 25, slot := 9, constantValue := 0 }, { name := "LOG2_BYTE_BIT_SIZE", type := .int, accessFlags := 26, slot := 10, constantValue := 0 }, { name := "T_BOOLEAN", type := .int, accessFlags := 25, slot := 11, constantValue := 0 }, { name := "T_CHAR", type := .int, accessFlags := 25, slot := 12, constantValue := 0 }, { name := "T_FLOAT", type := .int, accessFlags := 25, slot := 13, constantValue := 0 }, { name := "T_DOUBLE", type := .int, accessFlags := 25, slot := 14, constantValue := 0 }, { name := "T_BYTE", type := .int, accessFlags := 25, slot := 15, constantValue := 0 }, { name := "T_SHORT", type := .int, accessFlags := 25, slot := 16, constantValue := 0 }, { name := "T_INT", type := .int, accessFlags := 25, slot := 17, constantValue := 0 }, { name := "T_LONG", type := .int, accessFlags := 25, slot := 18, constantValue := 0 }, { name := "JLA", type := (.object "jdk/internal/access/JavaLangAccess"), accessFlags := 26, slot := 19, constantValue := 0 }, { name := "SOFT_MAX_ARRAY_LENGTH", type := .int, accessFlags := 25, slot := 20, constantValue := 0 }]
  methods := #[k19m0]
  instanceTypes := #[]
  staticTypes := #[(.object "jdk/internal/misc/Unsafe"), .boolean, .int, .int, .int, .int, .int, .int, .int, .int, .int, .int, .int, .int, .int, .int, .int, .int, .int, (.object "jdk/internal/access/JavaLangAccess"), .int]
  resolved := Array.replicate 378 none
  statics := none }

/-- the primitive byte -/
def k20 : Class := { plain "byte" none with kind := .primitive 'B', accessFlags := 0x411 }
/-- [B -/
def k21 : Class := { plain "[B" (some 0) with kind := .array 20 .byte, interfaces := #[18, 2], accessFlags := 1041 }

/-- the primitive char -/
def k22 : Class := { plain "char" none with kind := .primitive 'C', accessFlags := 0x411 }
/-- [C -/
def k23 : Class := { plain "[C" (some 0) with kind := .array 22 .char, interfaces := #[18, 2], accessFlags := 1041 }

/-- the primitive int -/
def k24 : Class := { plain "int" none with kind := .primitive 'I', accessFlags := 0x411 }
/-- [I -/
def k25 : Class := { plain "[I" (some 0) with kind := .array 24 .int, interfaces := #[18, 2], accessFlags := 1041 }

def heap : Heap := #[{ cls := 7, slots := #[.long 0, .int 1, .null, .int 0, .null, .int 0, .int 0], vm := .statics 7 },
  { cls := 15, slots := #[.int 0, .int 8, .int 0, .int 1], vm := .statics 15 },
  { cls := 17, slots := #[.null, .null, .null], vm := .statics 17 }]
def classes : Array Class := #[k0, k1, k2, k3, k4, k5, k6, k7, k8, k9, k10, k11, k12, k13, k14, k15, k16, k17, k18, k19, k20, k21, k22, k23, k24, k25]
def interned : List (Array UInt16 × Addr) := []
def slotsUsed : Nat := 14
def theMethod : MethodId := ⟨1, 1⟩
def args0 : Array Value := #[.int 1, .int 16, .int 32, .int 48, .int 64]
def aboutOver (below : List Frame) : State where
  vm := { classes := classes, interned := interned.toArray }
  heap := heap
  slotsUsed := slotsUsed
  threads := #[{ frames := .invoking theMethod args0 :: below }]
def below0 : List Frame := [.native { method := ⟨0, 0⟩, args := #[] }]
def about1 : State := aboutOver below0
def p0 : Program := .bare "" "" ""
def e0 : Env := launch0.env 0 0 0
theorem w_frames : about1.frames = Frame.invoking theMethod args0 :: below0 := rfl
set_option maxRecDepth 65536 in
theorem w_args : argsFit about1.vm theMethod args0 = true := by decide +kernel
set_option maxRecDepth 65536 in
theorem w_heap : heapFits about1 = true := by decide +kernel
set_option maxRecDepth 65536 in
theorem w_runnable : about1.curStatus? = some .runnable := by decide +kernel
set_option maxRecDepth 65536 in
theorem w_alone : about1.alone = true := by decide +kernel
set_option maxRecDepth 65536 in
theorem w_named : about1.methodNamed? x = some theMethod := by decide +kernel
set_option maxRecDepth 65536 in
theorem w_hears : about1.hears theMethod below0 = true := by decide +kernel
set_option maxRecDepth 65536 in
theorem w_ripe : about1.ripe theMethod args0 below0 = true := by decide +kernel
theorem w_running : about1.status = .running := rfl
set_option maxRecDepth 65536 in
theorem w_room : about1.hasRoom e0.platform room_1 = true :=
  launch0.hasRoom_least _ room_1 (by decide +kernel) (by decide +kernel) (by decide +kernel) (by decide +kernel) (by decide +kernel) (by decide +kernel)
theorem allAtoms_all (ts : List Jvm.Cond) (a : Array Jvm.Value) (st : Jvm.State) : (allAtoms ts).before a st = ts.all (fun c => c.before a st) := by
  induction ts with
  | nil => rfl
  | cons c t ih =>
    show (Jvm.Cond.and c (allAtoms t)).before a st = _
    rw [Jvm.Cond.before_and, ih, List.all_cons]
def words1 : List Jvm.Cond := Jvm.Cond.code x code maxLocals ret :: tables_1
/-- a 'code' word, met by the world's own term for the bytes: nothing is compared byte by byte -/
theorem code_word {y : MethodName} {bytes : ByteArray} {mx : Nat} {rt : Option FieldType} {a : Array Value} {s : State} {m : MethodId} {meth : Method} {c : Code} (h1 : s.methodNamed? y = some m) (h2 : s.vm.method? m = some meth) (h3 : meth.code = some c) (h4 : c.code = bytes)
    (h5 : (c.maxLocals == mx && c.exceptionTable.isEmpty && decide (c.maxStack ≤ mostOperands) && decide (meth.sig.returnType = rt) && !meth.locks && decide (parseMethodDescriptor y.desc = some meth.sig)) = true) : (Jvm.Cond.code y bytes mx rt).before a s = true := by
  simp only [Bool.and_eq_true, beq_iff_eq, Bool.not_eq_true', decide_eq_true_eq] at h5
  obtain ⟨⟨⟨⟨⟨g1, g2⟩, g3⟩, g4⟩, g5⟩, g6⟩ := h5
  simp [Cond.before, Cond.holds, Cond.value, h1, h2, h3, h4, g1, g2, g3, g4, g5, g6]
def isCode : Jvm.Cond → Bool
  | .code _ _ _ _ => true
  | _ => false
theorem all_split {L : List Jvm.Cond} {P : Jvm.Cond → Bool} (h1 : L.all (fun c => isCode c || P c) = true) (h2 : ∀ c ∈ L.filter isCode, P c = true) : L.all P = true := by
  refine List.all_eq_true.mpr fun c hc => ?_
  have h := List.all_eq_true.mp h1 c hc
  rcases Bool.eq_false_or_eq_true (isCode c) with hi | hi
  · exact h2 c (List.mem_filter.mpr ⟨hc, hi⟩)
  · simpa [hi] using h
set_option maxRecDepth 65536 in
theorem w_c0 : (Jvm.Cond.code x code maxLocals ret).before args0 about1 = true := code_word (m := ⟨1, 1⟩) (meth := k1m1) (c := k1c1) (by decide +kernel) rfl rfl rfl (by decide +kernel)
set_option maxRecDepth 65536 in
theorem w_c1 : (Jvm.Cond.code ({ cls := "com/example/reevemark/reevemark/connectors/ldap/LdapEscapeDnValuePinLaw", name := "draw", desc := "(I)C" } : Jvm.MethodName) method_3_code (3 : Nat) (Option.some Jvm.ClassFile.FieldType.char)).before args0 about1 = true := code_word (m := ⟨1, 2⟩) (meth := k1m2) (c := k1c2) (by decide +kernel) rfl rfl rfl (by decide +kernel)
set_option maxRecDepth 65536 in
theorem w_c2 : (Jvm.Cond.code ({ cls := "com/example/reevemark/reevemark/connectors/ldap/LdapEscapeDnValuePinLaw", name := "make", desc := "(ICCCC)Ljava/lang/String;" } : Jvm.MethodName) method_4_code (5 : Nat) (Option.some (Jvm.ClassFile.FieldType.object "java/lang/String"))).before args0 about1 = true := code_word (m := ⟨1, 3⟩) (meth := k1m3) (c := k1c3) (by decide +kernel) rfl rfl rfl (by decide +kernel)
set_option maxRecDepth 65536 in
theorem w_c3 : (Jvm.Cond.code ({ cls := "java/lang/String", name := "<init>", desc := "([C)V" } : Jvm.MethodName) jdk_42_method_3_code (2 : Nat) (Option.none : Option Jvm.ClassFile.FieldType)).before args0 about1 = true := code_word (m := ⟨7, 1⟩) (meth := k7m1) (c := k7c1) (by decide +kernel) rfl rfl rfl (by decide +kernel)
set_option maxRecDepth 65536 in
theorem w_c4 : (Jvm.Cond.code ({ cls := "java/lang/String", name := "<init>", desc := "([CIILjava/lang/Void;)V" } : Jvm.MethodName) jdk_42_method_149_code (6 : Nat) (Option.none : Option Jvm.ClassFile.FieldType)).before args0 about1 = true := code_word (m := ⟨7, 6⟩) (meth := k7m6) (c := k7c6) (by decide +kernel) rfl rfl rfl (by decide +kernel)
set_option maxRecDepth 65536 in
theorem w_c5 : (Jvm.Cond.code ({ cls := "java/lang/Object", name := "<init>", desc := "()V" } : Jvm.MethodName) object_method_1_code (1 : Nat) (Option.none : Option Jvm.ClassFile.FieldType)).before args0 about1 = true := code_word (m := ⟨0, 0⟩) (meth := k0m0) (c := k0c0) (by decide +kernel) rfl rfl rfl (by decide +kernel)
set_option maxRecDepth 65536 in
theorem w_c6 : (Jvm.Cond.code ({ cls := "com/example/reevemark/reevemark/connectors/ldap/LdapEscape", name := "dnValue", desc := "(Ljava/lang/String;)Ljava/lang/String;" } : Jvm.MethodName) prog_3_method_2_code (5 : Nat) (Option.some (Jvm.ClassFile.FieldType.object "java/lang/String"))).before args0 about1 = true := code_word (m := ⟨8, 1⟩) (meth := k8m1) (c := k8c1) (by decide +kernel) rfl rfl rfl (by decide +kernel)
set_option maxRecDepth 65536 in
theorem w_c7 : (Jvm.Cond.code ({ cls := "java/lang/String", name := "length", desc := "()I" } : Jvm.MethodName) jdk_42_method_54_code (1 : Nat) (Option.some Jvm.ClassFile.FieldType.int)).before args0 about1 = true := code_word (m := ⟨7, 3⟩) (meth := k7m3) (c := k7c3) (by decide +kernel) rfl rfl rfl (by decide +kernel)
set_option maxRecDepth 65536 in
theorem w_c8 : (Jvm.Cond.code ({ cls := "java/lang/String", name := "coder", desc := "()B" } : Jvm.MethodName) jdk_42_method_152_code (1 : Nat) (Option.some Jvm.ClassFile.FieldType.byte)).before args0 about1 = true := code_word (m := ⟨7, 8⟩) (meth := k7m8) (c := k7c8) (by decide +kernel) rfl rfl rfl (by decide +kernel)
set_option maxRecDepth 65536 in
theorem w_c9 : (Jvm.Cond.code ({ cls := "java/lang/StringBuilder", name := "<init>", desc := "(I)V" } : Jvm.MethodName) jdk_67_method_2_code (2 : Nat) (Option.none : Option Jvm.ClassFile.FieldType)).before args0 about1 = true := code_word (m := ⟨11, 1⟩) (meth := k11m1) (c := k11c1) (by decide +kernel) rfl rfl rfl (by decide +kernel)
set_option maxRecDepth 65536 in
theorem w_c10 : (Jvm.Cond.code ({ cls := "java/lang/AbstractStringBuilder", name := "<init>", desc := "(I)V" } : Jvm.MethodName) jdk_68_method_2_code (2 : Nat) (Option.none : Option Jvm.ClassFile.FieldType)).before args0 about1 = true := code_word (m := ⟨10, 1⟩) (meth := k10m1) (c := k10c1) (by decide +kernel) rfl rfl rfl (by decide +kernel)
set_option maxRecDepth 65536 in
theorem w_c11 : (Jvm.Cond.code ({ cls := "java/lang/StringBuilder", name := "toString", desc := "()Ljava/lang/String;" } : Jvm.MethodName) jdk_67_method_42_code (1 : Nat) (Option.some (Jvm.ClassFile.FieldType.object "java/lang/String"))).before args0 about1 = true := code_word (m := ⟨11, 4⟩) (meth := k11m4) (c := k11c4) (by decide +kernel) rfl rfl rfl (by decide +kernel)
set_option maxRecDepth 65536 in
theorem w_c12 : (Jvm.Cond.code ({ cls := "java/lang/String", name := "<init>", desc := "(Ljava/lang/StringBuilder;)V" } : Jvm.MethodName) jdk_42_method_53_code (2 : Nat) (Option.none : Option Jvm.ClassFile.FieldType)).before args0 about1 = true := code_word (m := ⟨7, 2⟩) (meth := k7m2) (c := k7c2) (by decide +kernel) rfl rfl rfl (by decide +kernel)
set_option maxRecDepth 65536 in
theorem w_c13 : (Jvm.Cond.code ({ cls := "java/lang/String", name := "<init>", desc := "(Ljava/lang/AbstractStringBuilder;Ljava/lang/Void;)V" } : Jvm.MethodName) jdk_42_method_150_code (5 : Nat) (Option.none : Option Jvm.ClassFile.FieldType)).before args0 about1 = true := code_word (m := ⟨7, 7⟩) (meth := k7m7) (c := k7c7) (by decide +kernel) rfl rfl rfl (by decide +kernel)
set_option maxRecDepth 65536 in
theorem w_c14 : (Jvm.Cond.code ({ cls := "java/lang/AbstractStringBuilder", name := "getValue", desc := "()[B" } : Jvm.MethodName) jdk_68_method_64_code (1 : Nat) (Option.some (Jvm.ClassFile.FieldType.array Jvm.ClassFile.FieldType.byte))).before args0 about1 = true := code_word (m := ⟨10, 7⟩) (meth := k10m7) (c := k10c7) (by decide +kernel) rfl rfl rfl (by decide +kernel)
set_option maxRecDepth 65536 in
theorem w_c15 : (Jvm.Cond.code ({ cls := "java/lang/StringBuilder", name := "length", desc := "()I" } : Jvm.MethodName) jdk_67_method_93_code (1 : Nat) (Option.some Jvm.ClassFile.FieldType.int)).before args0 about1 = true := code_word (m := ⟨11, 5⟩) (meth := k11m5) (c := k11c5) (by decide +kernel) rfl rfl rfl (by decide +kernel)
set_option maxRecDepth 65536 in
theorem w_c16 : (Jvm.Cond.code ({ cls := "java/lang/AbstractStringBuilder", name := "length", desc := "()I" } : Jvm.MethodName) jdk_68_method_6_code (1 : Nat) (Option.some Jvm.ClassFile.FieldType.int)).before args0 about1 = true := code_word (m := ⟨10, 2⟩) (meth := k10m2) (c := k10c2) (by decide +kernel) rfl rfl rfl (by decide +kernel)
set_option maxRecDepth 65536 in
theorem w_c17 : (Jvm.Cond.code ({ cls := "java/lang/AbstractStringBuilder", name := "isLatin1", desc := "()Z" } : Jvm.MethodName) jdk_68_method_68_code (1 : Nat) (Option.some Jvm.ClassFile.FieldType.boolean)).before args0 about1 = true := code_word (m := ⟨10, 8⟩) (meth := k10m8) (c := k10c8) (by decide +kernel) rfl rfl rfl (by decide +kernel)
set_option maxRecDepth 65536 in
theorem w_c18 : (Jvm.Cond.code ({ cls := "java/util/Arrays", name := "copyOfRange", desc := "([BII)[B" } : Jvm.MethodName) jdk_65_method_132_code (3 : Nat) (Option.some (Jvm.ClassFile.FieldType.array Jvm.ClassFile.FieldType.byte))).before args0 about1 = true := code_word (m := ⟨12, 2⟩) (meth := k12m2) (c := k12c2) (by decide +kernel) rfl rfl rfl (by decide +kernel)
set_option maxRecDepth 65536 in
theorem w_c19 : (Jvm.Cond.code ({ cls := "java/util/Arrays", name := "copyOfRangeByte", desc := "([BII)[B" } : Jvm.MethodName) jdk_65_method_133_code (5 : Nat) (Option.some (Jvm.ClassFile.FieldType.array Jvm.ClassFile.FieldType.byte))).before args0 about1 = true := code_word (m := ⟨12, 3⟩) (meth := k12m3) (c := k12c3) (by decide +kernel) rfl rfl rfl (by decide +kernel)
set_option maxRecDepth 65536 in
theorem w_c20 : (Jvm.Cond.code ({ cls := "java/util/Arrays", name := "checkLength", desc := "(II)V" } : Jvm.MethodName) jdk_65_method_131_code (2 : Nat) (Option.none : Option Jvm.ClassFile.FieldType)).before args0 about1 = true := code_word (m := ⟨12, 1⟩) (meth := k12m1) (c := k12c1) (by decide +kernel) rfl rfl rfl (by decide +kernel)
set_option maxRecDepth 65536 in
theorem w_c21 : (Jvm.Cond.code ({ cls := "java/lang/Math", name := "min", desc := "(II)I" } : Jvm.MethodName) jdk_29_method_69_code (2 : Nat) (Option.some Jvm.ClassFile.FieldType.int)).before args0 about1 = true := code_word (m := ⟨13, 1⟩) (meth := k13m1) (c := k13c1) (by decide +kernel) rfl rfl rfl (by decide +kernel)
set_option maxRecDepth 65536 in
theorem w_c22 : (Jvm.Cond.code ({ cls := "java/lang/StringUTF16", name := "compress", desc := "([CII)[B" } : Jvm.MethodName) jdk_52_method_16_code (6 : Nat) (Option.some (Jvm.ClassFile.FieldType.array Jvm.ClassFile.FieldType.byte))).before args0 about1 = true := code_word (m := ⟨15, 8⟩) (meth := k15m8) (c := k15c8) (by decide +kernel) rfl rfl rfl (by decide +kernel)
set_option maxRecDepth 65536 in
theorem w_c23 : (Jvm.Cond.code ({ cls := "java/lang/StringUTF16", name := "compress", desc := "([CI[BII)I" } : Jvm.MethodName) jdk_52_method_21_code (7 : Nat) (Option.some Jvm.ClassFile.FieldType.int)).before args0 about1 = true := code_word (m := ⟨15, 9⟩) (meth := k15m9) (c := k15c9) (by decide +kernel) rfl rfl rfl (by decide +kernel)
set_option maxRecDepth 65536 in
theorem w_c24 : (Jvm.Cond.code ({ cls := "java/lang/StringUTF16", name := "coderFromArrayLen", desc := "([BI)B" } : Jvm.MethodName) jdk_52_method_15_code (2 : Nat) (Option.some Jvm.ClassFile.FieldType.byte)).before args0 about1 = true := code_word (m := ⟨15, 7⟩) (meth := k15m7) (c := k15c7) (by decide +kernel) rfl rfl rfl (by decide +kernel)
set_option maxRecDepth 65536 in
theorem w_c25 : (Jvm.Cond.code ({ cls := "java/lang/String", name := "charAt", desc := "(I)C" } : Jvm.MethodName) jdk_42_method_56_code (2 : Nat) (Option.some Jvm.ClassFile.FieldType.char)).before args0 about1 = true := code_word (m := ⟨7, 4⟩) (meth := k7m4) (c := k7c4) (by decide +kernel) rfl rfl rfl (by decide +kernel)
set_option maxRecDepth 65536 in
theorem w_c26 : (Jvm.Cond.code ({ cls := "java/lang/String", name := "isLatin1", desc := "()Z" } : Jvm.MethodName) jdk_42_method_154_code (1 : Nat) (Option.some Jvm.ClassFile.FieldType.boolean)).before args0 about1 = true := code_word (m := ⟨7, 9⟩) (meth := k7m9) (c := k7c9) (by decide +kernel) rfl rfl rfl (by decide +kernel)
set_option maxRecDepth 65536 in
theorem w_c27 : (Jvm.Cond.code ({ cls := "java/lang/StringLatin1", name := "charAt", desc := "([BI)C" } : Jvm.MethodName) jdk_43_method_2_code (2 : Nat) (Option.some Jvm.ClassFile.FieldType.char)).before args0 about1 = true := code_word (m := ⟨16, 1⟩) (meth := k16m1) (c := k16c1) (by decide +kernel) rfl rfl rfl (by decide +kernel)
set_option maxRecDepth 65536 in
theorem w_c28 : (Jvm.Cond.code ({ cls := "java/lang/String", name := "checkIndex", desc := "(II)V" } : Jvm.MethodName) jdk_42_method_155_code (2 : Nat) (Option.none : Option Jvm.ClassFile.FieldType)).before args0 about1 = true := code_word (m := ⟨7, 10⟩) (meth := k7m10) (c := k7c10) (by decide +kernel) rfl rfl rfl (by decide +kernel)
set_option maxRecDepth 65536 in
theorem w_c29 : (Jvm.Cond.code ({ cls := "jdk/internal/util/Preconditions", name := "checkIndex", desc := "(IILjava/util/function/BiFunction;)I" } : Jvm.MethodName) jdk_41_method_11_code (3 : Nat) (Option.some Jvm.ClassFile.FieldType.int)).before args0 about1 = true := code_word (m := ⟨17, 1⟩) (meth := k17m1) (c := k17c1) (by decide +kernel) rfl rfl rfl (by decide +kernel)
set_option maxRecDepth 65536 in
theorem w_c30 : (Jvm.Cond.code ({ cls := "java/lang/StringBuilder", name := "append", desc := "(C)Ljava/lang/StringBuilder;" } : Jvm.MethodName) jdk_67_method_14_code (2 : Nat) (Option.some (Jvm.ClassFile.FieldType.object "java/lang/StringBuilder"))).before args0 about1 = true := code_word (m := ⟨11, 3⟩) (meth := k11m3) (c := k11c3) (by decide +kernel) rfl rfl rfl (by decide +kernel)
set_option maxRecDepth 65536 in
theorem w_c31 : (Jvm.Cond.code ({ cls := "java/lang/AbstractStringBuilder", name := "append", desc := "(C)Ljava/lang/AbstractStringBuilder;" } : Jvm.MethodName) jdk_68_method_31_code (2 : Nat) (Option.some (Jvm.ClassFile.FieldType.object "java/lang/AbstractStringBuilder"))).before args0 about1 = true := code_word (m := ⟨10, 6⟩) (meth := k10m6) (c := k10c6) (by decide +kernel) rfl rfl rfl (by decide +kernel)
set_option maxRecDepth 65536 in
theorem w_c32 : (Jvm.Cond.code ({ cls := "java/lang/AbstractStringBuilder", name := "ensureCapacityInternal", desc := "(I)V" } : Jvm.MethodName) jdk_68_method_9_code (3 : Nat) (Option.none : Option Jvm.ClassFile.FieldType)).before args0 about1 = true := code_word (m := ⟨10, 3⟩) (meth := k10m3) (c := k10c3) (by decide +kernel) rfl rfl rfl (by decide +kernel)
set_option maxRecDepth 65536 in
theorem w_c33 : (Jvm.Cond.code ({ cls := "java/lang/StringLatin1", name := "canEncode", desc := "(C)Z" } : Jvm.MethodName) jdk_43_method_3_code (1 : Nat) (Option.some Jvm.ClassFile.FieldType.boolean)).before args0 about1 = true := code_word (m := ⟨16, 2⟩) (meth := k16m2) (c := k16c2) (by decide +kernel) rfl rfl rfl (by decide +kernel)
set_option maxRecDepth 65536 in
theorem w_c34 : (Jvm.Cond.code ({ cls := "java/lang/StringBuilder", name := "append", desc := "(Ljava/lang/String;)Ljava/lang/StringBuilder;" } : Jvm.MethodName) jdk_67_method_7_code (2 : Nat) (Option.some (Jvm.ClassFile.FieldType.object "java/lang/StringBuilder"))).before args0 about1 = true := code_word (m := ⟨11, 2⟩) (meth := k11m2) (c := k11c2) (by decide +kernel) rfl rfl rfl (by decide +kernel)
set_option maxRecDepth 65536 in
theorem w_c35 : (Jvm.Cond.code ({ cls := "java/lang/AbstractStringBuilder", name := "append", desc := "(Ljava/lang/String;)Ljava/lang/AbstractStringBuilder;" } : Jvm.MethodName) jdk_68_method_22_code (3 : Nat) (Option.some (Jvm.ClassFile.FieldType.object "java/lang/AbstractStringBuilder"))).before args0 about1 = true := code_word (m := ⟨10, 5⟩) (meth := k10m5) (c := k10c5) (by decide +kernel) rfl rfl rfl (by decide +kernel)
set_option maxRecDepth 65536 in
theorem w_c36 : (Jvm.Cond.code ({ cls := "java/lang/AbstractStringBuilder", name := "putStringAt", desc := "(ILjava/lang/String;)V" } : Jvm.MethodName) jdk_68_method_73_code (3 : Nat) (Option.none : Option Jvm.ClassFile.FieldType)).before args0 about1 = true := code_word (m := ⟨10, 10⟩) (meth := k10m10) (c := k10c10) (by decide +kernel) rfl rfl rfl (by decide +kernel)
set_option maxRecDepth 65536 in
theorem w_c37 : (Jvm.Cond.code ({ cls := "java/lang/AbstractStringBuilder", name := "inflateIfNeededFor", desc := "(Ljava/lang/String;)V" } : Jvm.MethodName) jdk_68_method_71_code (2 : Nat) (Option.none : Option Jvm.ClassFile.FieldType)).before args0 about1 = true := code_word (m := ⟨10, 9⟩) (meth := k10m9) (c := k10c9) (by decide +kernel) rfl rfl rfl (by decide +kernel)
set_option maxRecDepth 65536 in
theorem w_c38 : (Jvm.Cond.code ({ cls := "java/lang/String", name := "getBytes", desc := "([BIB)V" } : Jvm.MethodName) jdk_42_method_147_code (4 : Nat) (Option.none : Option Jvm.ClassFile.FieldType)).before args0 about1 = true := code_word (m := ⟨7, 5⟩) (meth := k7m5) (c := k7c5) (by decide +kernel) rfl rfl rfl (by decide +kernel)
set_option maxRecDepth 65536 in
theorem w_c39 : (Jvm.Cond.code ({ cls := "com/example/reevemark/reevemark/connectors/ldap/LdapEscapeDnValuePinLaw", name := "part", desc := "(Ljava/lang/String;ICZZ)Z" } : Jvm.MethodName) method_7_code (6 : Nat) (Option.some Jvm.ClassFile.FieldType.boolean)).before args0 about1 = true := code_word (m := ⟨1, 6⟩) (meth := k1m6) (c := k1c6) (by decide +kernel) rfl rfl rfl (by decide +kernel)
set_option maxRecDepth 65536 in
theorem w_c40 : (Jvm.Cond.code ({ cls := "com/example/reevemark/reevemark/connectors/ldap/LdapEscapeDnValuePinLaw", name := "need", desc := "(CZZ)I" } : Jvm.MethodName) method_6_code (3 : Nat) (Option.some Jvm.ClassFile.FieldType.int)).before args0 about1 = true := code_word (m := ⟨1, 5⟩) (meth := k1m5) (c := k1c5) (by decide +kernel) rfl rfl rfl (by decide +kernel)
set_option maxRecDepth 65536 in
theorem w_c41 : (Jvm.Cond.code ({ cls := "com/example/reevemark/reevemark/connectors/ldap/LdapEscapeDnValuePinLaw", name := "special", desc := "(C)Z" } : Jvm.MethodName) method_5_code (1 : Nat) (Option.some Jvm.ClassFile.FieldType.boolean)).before args0 about1 = true := code_word (m := ⟨1, 4⟩) (meth := k1m4) (c := k1c4) (by decide +kernel) rfl rfl rfl (by decide +kernel)
set_option maxRecDepth 65536 in
theorem w_c42 : (Jvm.Cond.code ({ cls := "java/lang/StringUTF16", name := "toBytes", desc := "([CII)[B" } : Jvm.MethodName) jdk_52_method_14_code (5 : Nat) (Option.some (Jvm.ClassFile.FieldType.array Jvm.ClassFile.FieldType.byte))).before args0 about1 = true := code_word (m := ⟨15, 6⟩) (meth := k15m6) (c := k15c6) (by decide +kernel) rfl rfl rfl (by decide +kernel)
set_option maxRecDepth 65536 in
theorem w_c43 : (Jvm.Cond.code ({ cls := "java/lang/StringUTF16", name := "newBytesFor", desc := "(I)[B" } : Jvm.MethodName) jdk_52_method_2_code (1 : Nat) (Option.some (Jvm.ClassFile.FieldType.array Jvm.ClassFile.FieldType.byte))).before args0 about1 = true := code_word (m := ⟨15, 1⟩) (meth := k15m1) (c := k15c1) (by decide +kernel) rfl rfl rfl (by decide +kernel)
set_option maxRecDepth 65536 in
theorem w_c44 : (Jvm.Cond.code ({ cls := "java/lang/StringUTF16", name := "newBytesLength", desc := "(I)I" } : Jvm.MethodName) jdk_52_method_3_code (1 : Nat) (Option.some Jvm.ClassFile.FieldType.int)).before args0 about1 = true := code_word (m := ⟨15, 2⟩) (meth := k15m2) (c := k15c2) (by decide +kernel) rfl rfl rfl (by decide +kernel)
set_option maxRecDepth 65536 in
theorem w_c45 : (Jvm.Cond.code ({ cls := "java/lang/StringUTF16", name := "putChar", desc := "([BII)V" } : Jvm.MethodName) jdk_52_method_4_code (3 : Nat) (Option.none : Option Jvm.ClassFile.FieldType)).before args0 about1 = true := code_word (m := ⟨15, 3⟩) (meth := k15m3) (c := k15c3) (by decide +kernel) rfl rfl rfl (by decide +kernel)
set_option maxRecDepth 65536 in
theorem w_c46 : (Jvm.Cond.code ({ cls := "java/lang/StringUTF16", name := "getChar", desc := "([BI)C" } : Jvm.MethodName) jdk_52_method_5_code (2 : Nat) (Option.some Jvm.ClassFile.FieldType.char)).before args0 about1 = true := code_word (m := ⟨15, 4⟩) (meth := k15m4) (c := k15c4) (by decide +kernel) rfl rfl rfl (by decide +kernel)
set_option maxRecDepth 65536 in
theorem w_c47 : (Jvm.Cond.code ({ cls := "java/lang/StringUTF16", name := "charAt", desc := "([BI)C" } : Jvm.MethodName) jdk_52_method_83_code (2 : Nat) (Option.some Jvm.ClassFile.FieldType.char)).before args0 about1 = true := code_word (m := ⟨15, 11⟩) (meth := k15m11) (c := k15c11) (by decide +kernel) rfl rfl rfl (by decide +kernel)
set_option maxRecDepth 65536 in
theorem w_c48 : (Jvm.Cond.code ({ cls := "java/lang/StringUTF16", name := "checkIndex", desc := "(I[B)V" } : Jvm.MethodName) jdk_52_method_91_code (2 : Nat) (Option.none : Option Jvm.ClassFile.FieldType)).before args0 about1 = true := code_word (m := ⟨15, 13⟩) (meth := k15m13) (c := k15c13) (by decide +kernel) rfl rfl rfl (by decide +kernel)
set_option maxRecDepth 65536 in
theorem w_c49 : (Jvm.Cond.code ({ cls := "java/lang/StringUTF16", name := "length", desc := "([B)I" } : Jvm.MethodName) jdk_52_method_6_code (1 : Nat) (Option.some Jvm.ClassFile.FieldType.int)).before args0 about1 = true := code_word (m := ⟨15, 5⟩) (meth := k15m5) (c := k15c5) (by decide +kernel) rfl rfl rfl (by decide +kernel)
set_option maxRecDepth 65536 in
theorem w_c50 : (Jvm.Cond.code ({ cls := "java/lang/AbstractStringBuilder", name := "inflate", desc := "()V" } : Jvm.MethodName) jdk_68_method_11_code (2 : Nat) (Option.none : Option Jvm.ClassFile.FieldType)).before args0 about1 = true := code_word (m := ⟨10, 4⟩) (meth := k10m4) (c := k10c4) (by decide +kernel) rfl rfl rfl (by decide +kernel)
set_option maxRecDepth 65536 in
theorem w_c51 : (Jvm.Cond.code ({ cls := "java/lang/StringLatin1", name := "inflate", desc := "([BI[BII)V" } : Jvm.MethodName) jdk_43_method_50_code (5 : Nat) (Option.none : Option Jvm.ClassFile.FieldType)).before args0 about1 = true := code_word (m := ⟨16, 3⟩) (meth := k16m3) (c := k16c3) (by decide +kernel) rfl rfl rfl (by decide +kernel)
set_option maxRecDepth 65536 in
theorem w_c52 : (Jvm.Cond.code ({ cls := "java/lang/StringUTF16", name := "inflate", desc := "([BI[BII)V" } : Jvm.MethodName) jdk_52_method_86_code (6 : Nat) (Option.none : Option Jvm.ClassFile.FieldType)).before args0 about1 = true := code_word (m := ⟨15, 12⟩) (meth := k15m12) (c := k15c12) (by decide +kernel) rfl rfl rfl (by decide +kernel)
set_option maxRecDepth 65536 in
theorem w_c53 : (Jvm.Cond.code ({ cls := "java/lang/StringUTF16", name := "checkBoundsOffCount", desc := "(II[B)V" } : Jvm.MethodName) jdk_52_method_94_code (3 : Nat) (Option.none : Option Jvm.ClassFile.FieldType)).before args0 about1 = true := code_word (m := ⟨15, 14⟩) (meth := k15m14) (c := k15c14) (by decide +kernel) rfl rfl rfl (by decide +kernel)
set_option maxRecDepth 65536 in
theorem w_c54 : (Jvm.Cond.code ({ cls := "java/lang/String", name := "checkBoundsOffCount", desc := "(III)I" } : Jvm.MethodName) jdk_42_method_157_code (3 : Nat) (Option.some Jvm.ClassFile.FieldType.int)).before args0 about1 = true := code_word (m := ⟨7, 11⟩) (meth := k7m11) (c := k7c11) (by decide +kernel) rfl rfl rfl (by decide +kernel)
set_option maxRecDepth 65536 in
theorem w_c55 : (Jvm.Cond.code ({ cls := "jdk/internal/util/Preconditions", name := "checkFromIndexSize", desc := "(IIILjava/util/function/BiFunction;)I" } : Jvm.MethodName) jdk_41_method_13_code (4 : Nat) (Option.some Jvm.ClassFile.FieldType.int)).before args0 about1 = true := code_word (m := ⟨17, 2⟩) (meth := k17m2) (c := k17c2) (by decide +kernel) rfl rfl rfl (by decide +kernel)
set_option maxRecDepth 65536 in
theorem w_c56 : (Jvm.Cond.code ({ cls := "java/lang/StringUTF16", name := "putCharSB", desc := "([BII)V" } : Jvm.MethodName) jdk_52_method_71_code (3 : Nat) (Option.none : Option Jvm.ClassFile.FieldType)).before args0 about1 = true := code_word (m := ⟨15, 10⟩) (meth := k15m10) (c := k15c10) (by decide +kernel) rfl rfl rfl (by decide +kernel)
def codes1 : List Jvm.Cond := [Jvm.Cond.code x code maxLocals ret, Jvm.Cond.code ({ cls := "com/example/reevemark/reevemark/connectors/ldap/LdapEscapeDnValuePinLaw", name := "draw", desc := "(I)C" } : Jvm.MethodName) method_3_code (3 : Nat) (Option.some Jvm.ClassFile.FieldType.char), Jvm.Cond.code ({ cls := "com/example/reevemark/reevemark/connectors/ldap/LdapEscapeDnValuePinLaw", name := "make", desc := "(ICCCC)Ljava/lang/String;" } : Jvm.MethodName) method_4_code (5 : Nat) (Option.some (Jvm.ClassFile.FieldType.object "java/lang/String")), Jvm.Cond.code ({ cls := "java/lang/String", name := "<init>", desc := "([C)V" } : Jvm.MethodName) jdk_42_method_3_code (2 : Nat) (Option.none : Option Jvm.ClassFile.FieldType), Jvm.Cond.code ({ cls := "java/lang/String", name := "<init>", desc := "([CIILjava/lang/Void;)V" } : Jvm.MethodName) jdk_42_method_149_code (6 : Nat) (Option.none : Option Jvm.ClassFile.FieldType), Jvm.Cond.code ({ cls := "java/lang/Object", name := "<init>", desc := "()V" } : Jvm.MethodName) object_method_1_code (1 : Nat) (Option.none : Option Jvm.ClassFile.FieldType), Jvm.Cond.code ({ cls := "com/example/reevemark/reevemark/connectors/ldap/LdapEscape", name := "dnValue", desc := "(Ljava/lang/String;)Ljava/lang/String;" } : Jvm.MethodName) prog_3_method_2_code (5 : Nat) (Option.some (Jvm.ClassFile.FieldType.object "java/lang/String")), Jvm.Cond.code ({ cls := "java/lang/String", name := "length", desc := "()I" } : Jvm.MethodName) jdk_42_method_54_code (1 : Nat) (Option.some Jvm.ClassFile.FieldType.int), Jvm.Cond.code ({ cls := "java/lang/String", name := "coder", desc := "()B" } : Jvm.MethodName) jdk_42_method_152_code (1 : Nat) (Option.some Jvm.ClassFile.FieldType.byte), Jvm.Cond.code ({ cls := "java/lang/StringBuilder", name := "<init>", desc := "(I)V" } : Jvm.MethodName) jdk_67_method_2_code (2 : Nat) (Option.none : Option Jvm.ClassFile.FieldType), Jvm.Cond.code ({ cls := "java/lang/AbstractStringBuilder", name := "<init>", desc := "(I)V" } : Jvm.MethodName) jdk_68_method_2_code (2 : Nat) (Option.none : Option Jvm.ClassFile.FieldType), Jvm.Cond.code ({ cls := "java/lang/StringBuilder", name := "toString", desc := "()Ljava/lang/String;" } : Jvm.MethodName) jdk_67_method_42_code (1 : Nat) (Option.some (Jvm.ClassFile.FieldType.object "java/lang/String")), Jvm.Cond.code ({ cls := "java/lang/String", name := "<init>", desc := "(Ljava/lang/StringBuilder;)V" } : Jvm.MethodName) jdk_42_method_53_code (2 : Nat) (Option.none : Option Jvm.ClassFile.FieldType), Jvm.Cond.code ({ cls := "java/lang/String", name := "<init>", desc := "(Ljava/lang/AbstractStringBuilder;Ljava/lang/Void;)V" } : Jvm.MethodName) jdk_42_method_150_code (5 : Nat) (Option.none : Option Jvm.ClassFile.FieldType), Jvm.Cond.code ({ cls := "java/lang/AbstractStringBuilder", name := "getValue", desc := "()[B" } : Jvm.MethodName) jdk_68_method_64_code (1 : Nat) (Option.some (Jvm.ClassFile.FieldType.array Jvm.ClassFile.FieldType.byte)), Jvm.Cond.code ({ cls := "java/lang/StringBuilder", name := "length", desc := "()I" } : Jvm.MethodName) jdk_67_method_93_code (1 : Nat) (Option.some Jvm.ClassFile.FieldType.int), Jvm.Cond.code ({ cls := "java/lang/AbstractStringBuilder", name := "length", desc := "()I" } : Jvm.MethodName) jdk_68_method_6_code (1 : Nat) (Option.some Jvm.ClassFile.FieldType.int), Jvm.Cond.code ({ cls := "java/lang/AbstractStringBuilder", name := "isLatin1", desc := "()Z" } : Jvm.MethodName) jdk_68_method_68_code (1 : Nat) (Option.some Jvm.ClassFile.FieldType.boolean), Jvm.Cond.code ({ cls := "java/util/Arrays", name := "copyOfRange", desc := "([BII)[B" } : Jvm.MethodName) jdk_65_method_132_code (3 : Nat) (Option.some (Jvm.ClassFile.FieldType.array Jvm.ClassFile.FieldType.byte)), Jvm.Cond.code ({ cls := "java/util/Arrays", name := "copyOfRangeByte", desc := "([BII)[B" } : Jvm.MethodName) jdk_65_method_133_code (5 : Nat) (Option.some (Jvm.ClassFile.FieldType.array Jvm.ClassFile.FieldType.byte)), Jvm.Cond.code ({ cls := "java/util/Arrays", name := "checkLength", desc := "(II)V" } : Jvm.MethodName) jdk_65_method_131_code (2 : Nat) (Option.none : Option Jvm.ClassFile.FieldType), Jvm.Cond.code ({ cls := "java/lang/Math", name := "min", desc := "(II)I" } : Jvm.MethodName) jdk_29_method_69_code (2 : Nat) (Option.some Jvm.ClassFile.FieldType.int), Jvm.Cond.code ({ cls := "java/lang/StringUTF16", name := "compress", desc := "([CII)[B" } : Jvm.MethodName) jdk_52_method_16_code (6 : Nat) (Option.some (Jvm.ClassFile.FieldType.array Jvm.ClassFile.FieldType.byte)), Jvm.Cond.code ({ cls := "java/lang/StringUTF16", name := "compress", desc := "([CI[BII)I" } : Jvm.MethodName) jdk_52_method_21_code (7 : Nat) (Option.some Jvm.ClassFile.FieldType.int), Jvm.Cond.code ({ cls := "java/lang/StringUTF16", name := "coderFromArrayLen", desc := "([BI)B" } : Jvm.MethodName) jdk_52_method_15_code (2 : Nat) (Option.some Jvm.ClassFile.FieldType.byte), Jvm.Cond.code ({ cls := "java/lang/String", name := "charAt", desc := "(I)C" } : Jvm.MethodName) jdk_42_method_56_code (2 : Nat) (Option.some Jvm.ClassFile.FieldType.char), Jvm.Cond.code ({ cls := "java/lang/String", name := "isLatin1", desc := "()Z" } : Jvm.MethodName) jdk_42_method_154_code (1 : Nat) (Option.some Jvm.ClassFile.FieldType.boolean), Jvm.Cond.code ({ cls := "java/lang/StringLatin1", name := "charAt", desc := "([BI)C" } : Jvm.MethodName) jdk_43_method_2_code (2 : Nat) (Option.some Jvm.ClassFile.FieldType.char), Jvm.Cond.code ({ cls := "java/lang/String", name := "checkIndex", desc := "(II)V" } : Jvm.MethodName) jdk_42_method_155_code (2 : Nat) (Option.none : Option Jvm.ClassFile.FieldType), Jvm.Cond.code ({ cls := "jdk/internal/util/Preconditions", name := "checkIndex", desc := "(IILjava/util/function/BiFunction;)I" } : Jvm.MethodName) jdk_41_method_11_code (3 : Nat) (Option.some Jvm.ClassFile.FieldType.int), Jvm.Cond.code ({ cls := "java/lang/StringBuilder", name := "append", desc := "(C)Ljava/lang/StringBuilder;" } : Jvm.MethodName) jdk_67_method_14_code (2 : Nat) (Option.some (Jvm.ClassFile.FieldType.object "java/lang/StringBuilder")), Jvm.Cond.code ({ cls := "java/lang/AbstractStringBuilder", name := "append", desc := "(C)Ljava/lang/AbstractStringBuilder;" } : Jvm.MethodName) jdk_68_method_31_code (2 : Nat) (Option.some (Jvm.ClassFile.FieldType.object "java/lang/AbstractStringBuilder")), Jvm.Cond.code ({ cls := "java/lang/AbstractStringBuilder", name := "ensureCapacityInternal", desc := "(I)V" } : Jvm.MethodName) jdk_68_method_9_code (3 : Nat) (Option.none : Option Jvm.ClassFile.FieldType), Jvm.Cond.code ({ cls := "java/lang/StringLatin1", name := "canEncode", desc := "(C)Z" } : Jvm.MethodName) jdk_43_method_3_code (1 : Nat) (Option.some Jvm.ClassFile.FieldType.boolean), Jvm.Cond.code ({ cls := "java/lang/StringBuilder", name := "append", desc := "(Ljava/lang/String;)Ljava/lang/StringBuilder;" } : Jvm.MethodName) jdk_67_method_7_code (2 : Nat) (Option.some (Jvm.ClassFile.FieldType.object "java/lang/StringBuilder")), Jvm.Cond.code ({ cls := "java/lang/AbstractStringBuilder", name := "append", desc := "(Ljava/lang/String;)Ljava/lang/AbstractStringBuilder;" } : Jvm.MethodName) jdk_68_method_22_code (3 : Nat) (Option.some (Jvm.ClassFile.FieldType.object "java/lang/AbstractStringBuilder")), Jvm.Cond.code ({ cls := "java/lang/AbstractStringBuilder", name := "putStringAt", desc := "(ILjava/lang/String;)V" } : Jvm.MethodName) jdk_68_method_73_code (3 : Nat) (Option.none : Option Jvm.ClassFile.FieldType), Jvm.Cond.code ({ cls := "java/lang/AbstractStringBuilder", name := "inflateIfNeededFor", desc := "(Ljava/lang/String;)V" } : Jvm.MethodName) jdk_68_method_71_code (2 : Nat) (Option.none : Option Jvm.ClassFile.FieldType), Jvm.Cond.code ({ cls := "java/lang/String", name := "getBytes", desc := "([BIB)V" } : Jvm.MethodName) jdk_42_method_147_code (4 : Nat) (Option.none : Option Jvm.ClassFile.FieldType), Jvm.Cond.code ({ cls := "com/example/reevemark/reevemark/connectors/ldap/LdapEscapeDnValuePinLaw", name := "part", desc := "(Ljava/lang/String;ICZZ)Z" } : Jvm.MethodName) method_7_code (6 : Nat) (Option.some Jvm.ClassFile.FieldType.boolean), Jvm.Cond.code ({ cls := "com/example/reevemark/reevemark/connectors/ldap/LdapEscapeDnValuePinLaw", name := "need", desc := "(CZZ)I" } : Jvm.MethodName) method_6_code (3 : Nat) (Option.some Jvm.ClassFile.FieldType.int), Jvm.Cond.code ({ cls := "com/example/reevemark/reevemark/connectors/ldap/LdapEscapeDnValuePinLaw", name := "special", desc := "(C)Z" } : Jvm.MethodName) method_5_code (1 : Nat) (Option.some Jvm.ClassFile.FieldType.boolean), Jvm.Cond.code ({ cls := "java/lang/StringUTF16", name := "toBytes", desc := "([CII)[B" } : Jvm.MethodName) jdk_52_method_14_code (5 : Nat) (Option.some (Jvm.ClassFile.FieldType.array Jvm.ClassFile.FieldType.byte)), Jvm.Cond.code ({ cls := "java/lang/StringUTF16", name := "newBytesFor", desc := "(I)[B" } : Jvm.MethodName) jdk_52_method_2_code (1 : Nat) (Option.some (Jvm.ClassFile.FieldType.array Jvm.ClassFile.FieldType.byte)), Jvm.Cond.code ({ cls := "java/lang/StringUTF16", name := "newBytesLength", desc := "(I)I" } : Jvm.MethodName) jdk_52_method_3_code (1 : Nat) (Option.some Jvm.ClassFile.FieldType.int), Jvm.Cond.code ({ cls := "java/lang/StringUTF16", name := "putChar", desc := "([BII)V" } : Jvm.MethodName) jdk_52_method_4_code (3 : Nat) (Option.none : Option Jvm.ClassFile.FieldType), Jvm.Cond.code ({ cls := "java/lang/StringUTF16", name := "getChar", desc := "([BI)C" } : Jvm.MethodName) jdk_52_method_5_code (2 : Nat) (Option.some Jvm.ClassFile.FieldType.char), Jvm.Cond.code ({ cls := "java/lang/StringUTF16", name := "charAt", desc := "([BI)C" } : Jvm.MethodName) jdk_52_method_83_code (2 : Nat) (Option.some Jvm.ClassFile.FieldType.char), Jvm.Cond.code ({ cls := "java/lang/StringUTF16", name := "checkIndex", desc := "(I[B)V" } : Jvm.MethodName) jdk_52_method_91_code (2 : Nat) (Option.none : Option Jvm.ClassFile.FieldType), Jvm.Cond.code ({ cls := "java/lang/StringUTF16", name := "length", desc := "([B)I" } : Jvm.MethodName) jdk_52_method_6_code (1 : Nat) (Option.some Jvm.ClassFile.FieldType.int), Jvm.Cond.code ({ cls := "java/lang/AbstractStringBuilder", name := "inflate", desc := "()V" } : Jvm.MethodName) jdk_68_method_11_code (2 : Nat) (Option.none : Option Jvm.ClassFile.FieldType), Jvm.Cond.code ({ cls := "java/lang/StringLatin1", name := "inflate", desc := "([BI[BII)V" } : Jvm.MethodName) jdk_43_method_50_code (5 : Nat) (Option.none : Option Jvm.ClassFile.FieldType), Jvm.Cond.code ({ cls := "java/lang/StringUTF16", name := "inflate", desc := "([BI[BII)V" } : Jvm.MethodName) jdk_52_method_86_code (6 : Nat) (Option.none : Option Jvm.ClassFile.FieldType), Jvm.Cond.code ({ cls := "java/lang/StringUTF16", name := "checkBoundsOffCount", desc := "(II[B)V" } : Jvm.MethodName) jdk_52_method_94_code (3 : Nat) (Option.none : Option Jvm.ClassFile.FieldType), Jvm.Cond.code ({ cls := "java/lang/String", name := "checkBoundsOffCount", desc := "(III)I" } : Jvm.MethodName) jdk_42_method_157_code (3 : Nat) (Option.some Jvm.ClassFile.FieldType.int), Jvm.Cond.code ({ cls := "jdk/internal/util/Preconditions", name := "checkFromIndexSize", desc := "(IIILjava/util/function/BiFunction;)I" } : Jvm.MethodName) jdk_41_method_13_code (4 : Nat) (Option.some Jvm.ClassFile.FieldType.int), Jvm.Cond.code ({ cls := "java/lang/StringUTF16", name := "putCharSB", desc := "([BII)V" } : Jvm.MethodName) jdk_52_method_71_code (3 : Nat) (Option.none : Option Jvm.ClassFile.FieldType)]
set_option maxRecDepth 65536 in
theorem codes_eq : words1.filter isCode = codes1 := rfl
theorem w_codes : ∀ c ∈ words1.filter isCode, c.before args0 about1 = true := by
  rw [codes_eq]
  intro c hc
  simp only [codes1, List.mem_cons, List.not_mem_nil, or_false] at hc
  rcases hc with rfl | rfl | rfl | rfl | rfl | rfl | rfl | rfl | rfl | rfl | rfl | rfl | rfl | rfl | rfl | rfl | rfl | rfl | rfl | rfl | rfl | rfl | rfl | rfl | rfl | rfl | rfl | rfl | rfl | rfl | rfl | rfl | rfl | rfl | rfl | rfl | rfl | rfl | rfl | rfl | rfl | rfl | rfl | rfl | rfl | rfl | rfl | rfl | rfl | rfl | rfl | rfl | rfl | rfl | rfl | rfl | rfl
  · exact w_c0
  · exact w_c1
  · exact w_c2
  · exact w_c3
  · exact w_c4
  · exact w_c5
  · exact w_c6
  · exact w_c7
  · exact w_c8
  · exact w_c9
  · exact w_c10
  · exact w_c11
  · exact w_c12
  · exact w_c13
  · exact w_c14
  · exact w_c15
  · exact w_c16
  · exact w_c17
  · exact w_c18
  · exact w_c19
  · exact w_c20
  · exact w_c21
  · exact w_c22
  · exact w_c23
  · exact w_c24
  · exact w_c25
  · exact w_c26
  · exact w_c27
  · exact w_c28
  · exact w_c29
  · exact w_c30
  · exact w_c31
  · exact w_c32
  · exact w_c33
  · exact w_c34
  · exact w_c35
  · exact w_c36
  · exact w_c37
  · exact w_c38
  · exact w_c39
  · exact w_c40
  · exact w_c41
  · exact w_c42
  · exact w_c43
  · exact w_c44
  · exact w_c45
  · exact w_c46
  · exact w_c47
  · exact w_c48
  · exact w_c49
  · exact w_c50
  · exact w_c51
  · exact w_c52
  · exact w_c53
  · exact w_c54
  · exact w_c55
  · exact w_c56
set_option maxRecDepth 65536 in
theorem w_t1 : (words1.take 24).all (fun c => isCode c || c.before args0 about1) = true := by decide +kernel
set_option maxRecDepth 65536 in
theorem w_t2 : ((words1.drop 24).take 24).all (fun c => isCode c || c.before args0 about1) = true := by decide +kernel
set_option maxRecDepth 65536 in
theorem w_t3 : (((words1.drop 24).drop 24).take 24).all (fun c => isCode c || c.before args0 about1) = true := by decide +kernel
set_option maxRecDepth 65536 in
theorem w_t4 : ((((words1.drop 24).drop 24).drop 24).take 24).all (fun c => isCode c || c.before args0 about1) = true := by decide +kernel
set_option maxRecDepth 65536 in
theorem w_t5 : (((((words1.drop 24).drop 24).drop 24).drop 24).take 24).all (fun c => isCode c || c.before args0 about1) = true := by decide +kernel
set_option maxRecDepth 65536 in
theorem w_t6 : ((((((words1.drop 24).drop 24).drop 24).drop 24).drop 24).take 24).all (fun c => isCode c || c.before args0 about1) = true := by decide +kernel
set_option maxRecDepth 65536 in
theorem w_t7 : (((((((words1.drop 24).drop 24).drop 24).drop 24).drop 24).drop 24).take 24).all (fun c => isCode c || c.before args0 about1) = true := by decide +kernel
set_option maxRecDepth 65536 in
theorem w_t8 : ((((((((words1.drop 24).drop 24).drop 24).drop 24).drop 24).drop 24).drop 24).take 24).all (fun c => isCode c || c.before args0 about1) = true := by decide +kernel
set_option maxRecDepth 65536 in
theorem w_t9 : (((((((((words1.drop 24).drop 24).drop 24).drop 24).drop 24).drop 24).drop 24).drop 24).take 24).all (fun c => isCode c || c.before args0 about1) = true := by decide +kernel
set_option maxRecDepth 65536 in
theorem w_t10 : ((((((((((words1.drop 24).drop 24).drop 24).drop 24).drop 24).drop 24).drop 24).drop 24).drop 24).take 24).all (fun c => isCode c || c.before args0 about1) = true := by decide +kernel
set_option maxRecDepth 65536 in
theorem w_t11 : (((((((((((words1.drop 24).drop 24).drop 24).drop 24).drop 24).drop 24).drop 24).drop 24).drop 24).drop 24).take 24).all (fun c => isCode c || c.before args0 about1) = true := by decide +kernel
set_option maxRecDepth 65536 in
theorem w_t12 : (((((((((((words1.drop 24).drop 24).drop 24).drop 24).drop 24).drop 24).drop 24).drop 24).drop 24).drop 24).drop 24).all (fun c => isCode c || c.before args0 about1) = true := by decide +kernel
theorem w_tables : (allAtoms (Jvm.Cond.code x code maxLocals ret :: tables_1)).before args0 about1 = true := by
  rw [allAtoms_all]
  show words1.all (fun c => c.before args0 about1) = true
  refine all_split ?_ w_codes
  rw [← List.take_append_drop 24 words1, List.all_append, w_t1, ← List.take_append_drop 24 (words1.drop 24), List.all_append, w_t2, ← List.take_append_drop 24 ((words1.drop 24).drop 24), List.all_append, w_t3, ← List.take_append_drop 24 (((words1.drop 24).drop 24).drop 24), List.all_append, w_t4, ← List.take_append_drop 24 ((((words1.drop 24).drop 24).drop 24).drop 24), List.all_append, w_t5, ← List.take_append_drop 24 (((((words1.drop 24).drop 24).drop 24).drop 24).drop 24), List.all_append, w_t6, ← List.take_append_drop 24 ((((((words1.drop 24).drop 24).drop 24).drop 24).drop 24).drop 24), List.all_append, w_t7, ← List.take_append_drop 24 (((((((words1.drop 24).drop 24).drop 24).drop 24).drop 24).drop 24).drop 24), List.all_append, w_t8, ← List.take_append_drop 24 ((((((((words1.drop 24).drop 24).drop 24).drop 24).drop 24).drop 24).drop 24).drop 24), List.all_append, w_t9, ← List.take_append_drop 24 (((((((((words1.drop 24).drop 24).drop 24).drop 24).drop 24).drop 24).drop 24).drop 24).drop 24), List.all_append, w_t10, ← List.take_append_drop 24 ((((((((((words1.drop 24).drop 24).drop 24).drop 24).drop 24).drop 24).drop 24).drop 24).drop 24).drop 24), List.all_append, w_t11, w_t12]
  rfl
set_option maxRecDepth 65536 in
theorem w_rest : rest_1_c.before args0 about1 = true := by decide +kernel
set_option maxRecDepth 65536 in
theorem w_case : (Jvm.Cond.and given_1 narrow_1).before args0 about1 = true := by decide +kernel
set_option maxRecDepth 65536 in
theorem w_consts : constsHeld consts_1 about1 := Jvm.Lit.constsHeldB_iff.mp (by decide +kernel)
theorem w_applies : (headSpec (Jvm.Cond.code x code maxLocals ret :: tables_1) room_1).applies x e0.platform about1 = true :=
  (Spec.applies_iff w_frames).mpr ⟨w_running, w_runnable, w_alone, w_named, w_hears, w_ripe, w_room, w_tables⟩
theorem atStart : AtStart classFile x code maxLocals ret World_1 tables_1 room_1 Calls_1 rest_1 Pre_1 launch0 p0 e0 about1 theMethod args0 below0 :=
  ⟨lists_1, trivial, launch0.admits_env _ _ _, launch0.least_env, fairChoices_fair.cas, fairChoices_fair.clock, w_frames, w_args, w_heap, w_applies, ⟨w_consts, trivial⟩, w_rest, w_case⟩
end start1
theorem witness_1 : WitnessClaimed_1 := ⟨start1.p0, start1.e0, start1.about1, start1.theMethod, start1.args0, start1.below0, start1.atStart⟩
end Jvm.Pilot.@@N@@
