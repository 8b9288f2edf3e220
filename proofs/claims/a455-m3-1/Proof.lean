import JvmDerived
import JvmDerived.Pilot.@@N@@Statement
import JvmDerived.Pilot.@@N@@Code
set_option linter.unusedVariables false
set_option linter.unusedSimpArgs false
namespace Jvm.Pilot.@@N@@
open Jvm Jvm.ClassFile Sem Op Lib Jvm.Free Jvm.Stand Jvm.LawKit Jvm.RoadKit Bundle Jvm.Pilot.@@N@@.Jvm.D

/-! own_K: where a walk stands, with all that its steps ask; own_Ct: a body's contract. -/
section Own
def own_Cl (p : Program) (e : Env) (below : List Frame) (G : State → Prop) : Prop := ∀ S S', (∀ t, Steps p.tables e below S' t → Steps p.tables e below S t) → G S' → G S
def own_Out (p : Program) (e : Env) (m : MethodId) (below : List Frame) (T : State) (v : Option Value) (S : State) : Prop := ∀ fs : List Frame, (∀ (f : JFrame) (acts : List Action), f.method = m → f.locked = none → f.entered = [] → (doReturn e (T.setTop f) acts v).1 = T.setFrames fs) → Steps p.tables e below S (T.setFrames fs)
def own_Fin (p : Program) (l : Launch) (e : Env) (R : Room) (s : State) (m : MethodId) (args : Array Value) (below : List Frame) (meth : Method) (c : Code) (Q : Option Value → Heap → Prop) (G : State → Prop) (Z : State) : Prop :=
  ∀ (T : State) (L : List Loc) (k n : Nat) (v : Option Value) (S : State), Stand p l e R s m args below meth c T L k n → Fr Z.heap.size L → Ext Z.heap T.heap → k ≤ R.cells → n ≤ R.slots → (meth.sig.returnType = none → v = none) → Q v T.heap → own_Out p e m below T v S → G S
def own_K (p : Program) (l : Launch) (e : Env) (R : Room) (s : State) (m : MethodId) (args : Array Value) (below : List Frame) (meth : Method) (c : Code) (bytes : ByteArray) (own nm : String) (mx : Nat) (ret : Option FieldType) (Q : Option Value → Heap → Prop) (G : State → Prop) (Z T : State) (L : List Loc) (k n : Nat) (h : Heap) : Prop :=
  Stand p l e R s m args below meth c T L k n ∧ p.tables.exec = Jvm.exec ∧ c.code = bytes ∧ c.maxLocals = mx ∧ s.vm.findClass own = some m.cls ∧ meth.name = nm ∧ meth.sig.returnType = ret ∧ Z.Warmed39 s.vm ∧ T.heap = h ∧ Fr Z.heap.size L ∧ Ext Z.heap h ∧ own_Cl p e below G ∧ own_Fin p l e R s m args below meth c Q G Z
def own_Ct (l : Launch) (Z : State) (y : MethodName) (bytes : ByteArray) (mx : Nat) (ret : Option FieldType) (ws : List Jvm.Cond) (rm : Room) (as' : Array Value) (h0 : Heap) (Q : Option Value → Heap → Prop) : Prop :=
  MetFree l y (head1 (Jvm.Cond.code y bytes mx ret :: ws) rm) (fun a U => a = as' ∧ Z.Warmed39 U.vm ∧ U.heap = h0) (fun _ _ _ _ _ => True) (fun _ U o U' => ∃ v L, o = .returned v ∧ (Fr Z.heap.size L ∧ Ext Z.heap U'.heap ∧ Q v U'.heap) ∧ FrameEnd U o U' L rm.cells rm.slots)
def own_CtK (l : Launch) (Z : State) (y : MethodName) (bytes : ByteArray) (mx : Nat) (ret : Option FieldType) (ws : List Jvm.Cond) (rm : Room) (as' : Array Value) (h0 : Heap) (Q : Option Value → Heap → Prop) : Prop :=
  MetFree l y (head1 (Jvm.Cond.code y bytes mx ret :: ws) rm) (fun a U => a = as' ∧ Z.Warmed39 U.vm ∧ U.heap = h0) (fun _ _ bl s _ => s.vm.MethodsKnown ∧ s.vm.FramesKnown bl) (fun _ U o U' => ∃ v L, o = .returned v ∧ (Fr Z.heap.size L ∧ Ext Z.heap U'.heap ∧ Q v U'.heap) ∧ FrameEnd U o U' L rm.cells rm.slots)
variable {p : Program} {l : Launch} {e : Env} {R : Room} {s : State} {m : MethodId} {args : Array Value} {below : List Frame} {meth : Method} {c : Code} {bytes : ByteArray} {own nm : String} {mx : Nat} {ret : Option FieldType} {Q : Option Value → Heap → Prop} {G : State → Prop} {Z T T' : State} {L L' : List Loc} {k n k' n' : Nat} {h h' h1 h2 : Heap} {a0 : Array Value} {pc pc' : Nat} {Ls Ls' : Array Slot} {st rest : List Value}
theorem own_K.X (K : own_K p l e R s m args below meth c bytes own nm mx ret Q G Z T L k n h) : Stand p l e R s m args below meth c T L k n := K.1
theorem own_K.here (K : own_K p l e R s m args below meth c bytes own nm mx ret Q G Z T L k n h) : At T m c below := K.1.here
theorem own_K.hx (K : own_K p l e R s m args below meth c bytes own nm mx ret Q G Z T L k n h) : p.tables.exec = Jvm.exec := K.2.1
theorem own_K.hby (K : own_K p l e R s m args below meth c bytes own nm mx ret Q G Z T L k n h) : c.code = bytes := K.2.2.1
theorem own_K.hml (K : own_K p l e R s m args below meth c bytes own nm mx ret Q G Z T L k n h) : c.maxLocals = mx := K.2.2.2.1
theorem own_K.hown (K : own_K p l e R s m args below meth c bytes own nm mx ret Q G Z T L k n h) : s.vm.findClass own = some m.cls := K.2.2.2.2.1
theorem own_K.hnm (K : own_K p l e R s m args below meth c bytes own nm mx ret Q G Z T L k n h) : meth.name = nm := K.2.2.2.2.2.1
theorem own_K.hret (K : own_K p l e R s m args below meth c bytes own nm mx ret Q G Z T L k n h) : meth.sig.returnType = ret := K.2.2.2.2.2.2.1
theorem own_K.hZ (K : own_K p l e R s m args below meth c bytes own nm mx ret Q G Z T L k n h) : Z.Warmed39 s.vm := K.2.2.2.2.2.2.2.1
theorem own_K.eh (K : own_K p l e R s m args below meth c bytes own nm mx ret Q G Z T L k n h) : T.heap = h := K.2.2.2.2.2.2.2.2.1
theorem own_K.fr (K : own_K p l e R s m args below meth c bytes own nm mx ret Q G Z T L k n h) : Fr Z.heap.size L := K.2.2.2.2.2.2.2.2.2.1
theorem own_K.O (K : own_K p l e R s m args below meth c bytes own nm mx ret Q G Z T L k n h) : Ext Z.heap h := K.2.2.2.2.2.2.2.2.2.2.1
theorem own_K.cl (K : own_K p l e R s m args below meth c bytes own nm mx ret Q G Z T L k n h) : own_Cl p e below G := K.2.2.2.2.2.2.2.2.2.2.2.1
theorem own_K.fin (K : own_K p l e R s m args below meth c bytes own nm mx ret Q G Z T L k n h) : own_Fin p l e R s m args below meth c Q G Z := K.2.2.2.2.2.2.2.2.2.2.2.2
theorem own_K.nx (K : own_K p l e R s m args below meth c bytes own nm mx ret Q G Z T L k n h) (X' : Stand p l e R s m args below meth c T' L' k' n') (e' : T'.heap = h') (N' : Fr Z.heap.size L') (O' : Ext Z.heap h') : own_K p l e R s m args below meth c bytes own nm mx ret Q G Z T' L' k' n' h' :=
  ⟨X', K.hx, K.hby, K.hml, K.hown, K.hnm, K.hret, K.hZ, e', N', O', K.cl, K.fin⟩
theorem own_K.more (K : own_K p l e R s m args below meth c bytes own nm mx ret Q G Z T L k n h) (hk : k ≤ k') (hn : n ≤ n') : own_K p l e R s m args below meth c bytes own nm mx ret Q G Z T L k' n' h :=
  K.nx (K.X.more hk hn) K.eh K.fr K.O
theorem own_cat1 {v : Value} (h : v.isRef = true) : v.category = 1 := by cases v <;> simp [Value.isRef] at h <;> rfl
/-- the heap goes on: what was written lies in cells at or above the elder heap's end -/
theorem own_ext_refl (h : Heap) : Ext h h := ⟨Nat.le_refl _, fun _ _ q => q⟩
theorem own_ext_trans (E : Ext h h1) (E' : Ext h1 h2) : Ext h h2 := ⟨Nat.le_trans E.1 E'.1, fun a c q => E'.2 a c (E.2 a c q)⟩
theorem own_ext_keep {ws : List Addr} (E : Ext h h1) (K : Keep h1 h2 ws) (q : ∀ x ∈ ws, h.size ≤ x) : Ext h h2 := ⟨Nat.le_trans E.1 K.1, fun a c r => K.2.1 a c (E.2 a c r) fun z => absurd (Array.getElem?_eq_some_iff.mp r).1 (Nat.not_lt.mpr (q a z))⟩
theorem own_ext_wr {a : Addr} {sl : Nat} {v : Value} (E : Ext h h1) (W : Wr h1 h2 a sl v) (q : h.size ≤ a) : Ext h h2 := own_ext_keep E (Keep.of_wr W) fun x hx => by cases List.mem_singleton.mp hx; exact q
theorem own_keep_ext (K : Keep h h1 []) : Ext h h1 := ⟨K.1, fun a c q => K.2.1 a c q (fun z => nomatch z)⟩
theorem own_ext_of_keep (E : Ext h h1) : Keep h h1 [] := (Keep.refl h []).ext E
/-- a body's contract, from its walk -/
theorem own_body {y : MethodName} {ws : List Jvm.Cond} {rm : Room} {as' : Array Value} {h0 : Heap} (hpl : plainFor y = true) (hef : ∀ m, entryFrame m as' mx = mkF m 0 Ls []) (O0 : Ext Z.heap h0)
    (H : ∀ (p : Program) (e : Env) (s : State) (m : MethodId) (below : List Frame) (meth : Method) (c : Code) (T : State) (G : State → Prop), own_K p l e rm s m as' below meth c bytes y.cls y.name mx ret Q G Z T [] 0 0 h0 → G (T.setTop (mkF m 0 Ls []))) :
    own_Ct l Z y bytes mx ret ws rm as' h0 Q := by
  refine MetFree.of_bodySF hpl hisR ?_
  intro p e s m args below meth c s₁ Bd hml0 hP hK
  obtain ⟨rfl, hZ, hh⟩ := hP
  have X0 : Stand p l e rm s m args below meth c s₁ [] 0 0 := Stand.of_body Bd
  have e0 : s₁.heap = h0 := by rw [← hh, Bd.state]; rfl
  have hlocks := BodyLoose.notSynchronized Bd
  have q := H p e s m below meth c s₁ (fun S => ∃ (T : State) (L : List Loc) (k n : Nat) (v : Option Value), Stand p l e rm s m args below meth c T L k n ∧ Fr Z.heap.size L ∧ Ext Z.heap T.heap ∧ k ≤ rm.cells ∧ n ≤ rm.slots ∧ (meth.sig.returnType = none → v = none) ∧ Q v T.heap ∧ own_Out p e m below T v S)
    ⟨X0, Bd.exec, Bd.bytes, hml0, findClass_of_methodNamed Bd.named, (name_of_methodNamed Bd.named Bd.method).1, Bd.returns, hZ, e0, Fr.nil _, O0, fun S S' hs ⟨T, L, k, n, v, h1, h2, h3, h4, h5, h6, h7, h8⟩ => ⟨T, L, k, n, v, h1, h2, h3, h4, h5, h6, h7, fun fs hfs => hs _ (h8 fs hfs)⟩, fun T L k n v S h1 h2 h3 h4 h5 h6 h7 h8 => ⟨T, L, k, n, v, h1, h2, h3, h4, h5, h6, h7, h8⟩⟩
  obtain ⟨T, L, k, n, v, X, N, O, hk, hn, hv, hQ, hout⟩ := q
  obtain ⟨fs, hr, hrun, hended, hW, hsame⟩ := X.leave (v := v) hv
  refine ⟨_, _, castTop (hef m) (hout fs hr), hrun, hended, _, _, rfl, ⟨N, O, hQ⟩, ⟨_, rfl⟩, hW, hsame.mono hk hn⟩
/-- the same, where a stack trace is filled in beneath -/
theorem own_bodyK {y : MethodName} {ws : List Jvm.Cond} {rm : Room} {as' : Array Value} {h0 : Heap} (hpl : plainFor y = true) (hef : ∀ m, entryFrame m as' mx = mkF m 0 Ls []) (O0 : Ext Z.heap h0)
    (H : ∀ (p : Program) (e : Env) (s : State) (m : MethodId) (below : List Frame) (meth : Method) (c : Code) (T : State) (G : State → Prop), s.vm.MethodsKnown ∧ s.vm.FramesKnown below → s.heap = h0 → own_K p l e rm s m as' below meth c bytes y.cls y.name mx ret Q G Z T [] 0 0 h0 → G (T.setTop (mkF m 0 Ls []))) :
    own_CtK l Z y bytes mx ret ws rm as' h0 Q := by
  refine MetFree.of_bodySF hpl hisR ?_
  intro p e s m args below meth c s₁ Bd hml0 hP hK
  obtain ⟨rfl, hZ, hh⟩ := hP
  have X0 : Stand p l e rm s m args below meth c s₁ [] 0 0 := Stand.of_body Bd
  have e0 : s₁.heap = h0 := by rw [← hh, Bd.state]; rfl
  have hlocks := BodyLoose.notSynchronized Bd
  have q := H p e s m below meth c s₁ (fun S => ∃ (T : State) (L : List Loc) (k n : Nat) (v : Option Value), Stand p l e rm s m args below meth c T L k n ∧ Fr Z.heap.size L ∧ Ext Z.heap T.heap ∧ k ≤ rm.cells ∧ n ≤ rm.slots ∧ (meth.sig.returnType = none → v = none) ∧ Q v T.heap ∧ own_Out p e m below T v S) hK hh
    ⟨X0, Bd.exec, Bd.bytes, hml0, findClass_of_methodNamed Bd.named, (name_of_methodNamed Bd.named Bd.method).1, Bd.returns, hZ, e0, Fr.nil _, O0, fun S S' hs ⟨T, L, k, n, v, h1, h2, h3, h4, h5, h6, h7, h8⟩ => ⟨T, L, k, n, v, h1, h2, h3, h4, h5, h6, h7, fun fs hfs => hs _ (h8 fs hfs)⟩, fun T L k n v S h1 h2 h3 h4 h5 h6 h7 h8 => ⟨T, L, k, n, v, h1, h2, h3, h4, h5, h6, h7, h8⟩⟩
  obtain ⟨T, L, k, n, v, X, N, O, hk, hn, hv, hQ, hout⟩ := q
  obtain ⟨fs, hr, hrun, hended, hW, hsame⟩ := X.leave (v := v) hv
  refine ⟨_, _, castTop (hef m) (hout fs hr), hrun, hended, _, _, rfl, ⟨N, O, hQ⟩, ⟨_, rfl⟩, hW, hsame.mono hk hn⟩

theorem own_iadd (K : own_K p l e R s m args below meth c bytes own nm mx ret Q G Z T L k n h) {x y : Int32} (hd : decode bytes pc = .ok (.iadd, 1)) (hp : pc + 1 = pc') (kk : G (T.setTop (mkF m pc' Ls (.int (x + y) :: rest)))) : G (T.setTop (mkF m pc Ls (.int y :: .int x :: rest))) := by
  subst hp
  exact K.cl _ _ (fun t q => XS.iadd K.here K.hx rfl (hb K.hby hd) rfl q) kk
theorem own_isub (K : own_K p l e R s m args below meth c bytes own nm mx ret Q G Z T L k n h) {x y : Int32} (hd : decode bytes pc = .ok (.isub, 1)) (hp : pc + 1 = pc') (kk : G (T.setTop (mkF m pc' Ls (.int (x - y) :: rest)))) : G (T.setTop (mkF m pc Ls (.int y :: .int x :: rest))) := by
  subst hp
  exact K.cl _ _ (fun t q => XS.isub K.here K.hx rfl (hb K.hby hd) rfl q) kk
theorem own_imul (K : own_K p l e R s m args below meth c bytes own nm mx ret Q G Z T L k n h) {x y : Int32} (hd : decode bytes pc = .ok (.imul, 1)) (hp : pc + 1 = pc') (kk : G (T.setTop (mkF m pc' Ls (.int (x * y) :: rest)))) : G (T.setTop (mkF m pc Ls (.int y :: .int x :: rest))) := by
  subst hp
  exact K.cl _ _ (fun t q => XS.imul K.here K.hx rfl (hb K.hby hd) rfl q) kk
theorem own_iand (K : own_K p l e R s m args below meth c bytes own nm mx ret Q G Z T L k n h) {x y : Int32} (hd : decode bytes pc = .ok (.iand, 1)) (hp : pc + 1 = pc') (kk : G (T.setTop (mkF m pc' Ls (.int (x &&& y) :: rest)))) : G (T.setTop (mkF m pc Ls (.int y :: .int x :: rest))) := by
  subst hp
  exact K.cl _ _ (fun t q => XS.iand K.here K.hx rfl (hb K.hby hd) rfl q) kk
theorem own_ior (K : own_K p l e R s m args below meth c bytes own nm mx ret Q G Z T L k n h) {x y : Int32} (hd : decode bytes pc = .ok (.ior, 1)) (hp : pc + 1 = pc') (kk : G (T.setTop (mkF m pc' Ls (.int (x ||| y) :: rest)))) : G (T.setTop (mkF m pc Ls (.int y :: .int x :: rest))) := by
  subst hp
  exact K.cl _ _ (fun t q => XS.ior K.here K.hx rfl (hb K.hby hd) rfl q) kk
theorem own_ixor (K : own_K p l e R s m args below meth c bytes own nm mx ret Q G Z T L k n h) {x y : Int32} (hd : decode bytes pc = .ok (.ixor, 1)) (hp : pc + 1 = pc') (kk : G (T.setTop (mkF m pc' Ls (.int (x ^^^ y) :: rest)))) : G (T.setTop (mkF m pc Ls (.int y :: .int x :: rest))) := by
  subst hp
  exact K.cl _ _ (fun t q => XS.ixor K.here K.hx rfl (hb K.hby hd) rfl q) kk
theorem own_ishl (K : own_K p l e R s m args below meth c bytes own nm mx ret Q G Z T L k n h) {x y : Int32} (hd : decode bytes pc = .ok (.ishl, 1)) (hp : pc + 1 = pc') (kk : G (T.setTop (mkF m pc' Ls (.int (x <<< (y &&& 31)) :: rest)))) : G (T.setTop (mkF m pc Ls (.int y :: .int x :: rest))) := by
  subst hp
  exact K.cl _ _ (fun t q => XS.ishl K.here K.hx rfl (hb K.hby hd) rfl q) kk
theorem own_ishr (K : own_K p l e R s m args below meth c bytes own nm mx ret Q G Z T L k n h) {x y : Int32} (hd : decode bytes pc = .ok (.ishr, 1)) (hp : pc + 1 = pc') (kk : G (T.setTop (mkF m pc' Ls (.int (x >>> (y &&& 31)) :: rest)))) : G (T.setTop (mkF m pc Ls (.int y :: .int x :: rest))) := by
  subst hp
  exact K.cl _ _ (fun t q => XS.ishr K.here K.hx rfl (hb K.hby hd) rfl q) kk
theorem own_iushr (K : own_K p l e R s m args below meth c bytes own nm mx ret Q G Z T L k n h) {x y : Int32} (hd : decode bytes pc = .ok (.iushr, 1)) (hp : pc + 1 = pc') (kk : G (T.setTop (mkF m pc' Ls (.int ((x.toUInt32 >>> (y &&& 31).toUInt32).toInt32) :: rest)))) : G (T.setTop (mkF m pc Ls (.int y :: .int x :: rest))) := by
  subst hp
  exact K.cl _ _ (fun t q => XS.iushr K.here K.hx rfl (hb K.hby hd) rfl q) kk
theorem own_ladd (K : own_K p l e R s m args below meth c bytes own nm mx ret Q G Z T L k n h) {x y : Int64} (hd : decode bytes pc = .ok (.ladd, 1)) (hp : pc + 1 = pc') (kk : G (T.setTop (mkF m pc' Ls (.long (x + y) :: rest)))) : G (T.setTop (mkF m pc Ls (.long y :: .long x :: rest))) := by
  subst hp
  exact K.cl _ _ (fun t q => XS.ladd K.here K.hx rfl (hb K.hby hd) rfl q) kk
theorem own_lsub (K : own_K p l e R s m args below meth c bytes own nm mx ret Q G Z T L k n h) {x y : Int64} (hd : decode bytes pc = .ok (.lsub, 1)) (hp : pc + 1 = pc') (kk : G (T.setTop (mkF m pc' Ls (.long (x - y) :: rest)))) : G (T.setTop (mkF m pc Ls (.long y :: .long x :: rest))) := by
  subst hp
  exact K.cl _ _ (fun t q => XS.lsub K.here K.hx rfl (hb K.hby hd) rfl q) kk
theorem own_lmul (K : own_K p l e R s m args below meth c bytes own nm mx ret Q G Z T L k n h) {x y : Int64} (hd : decode bytes pc = .ok (.lmul, 1)) (hp : pc + 1 = pc') (kk : G (T.setTop (mkF m pc' Ls (.long (x * y) :: rest)))) : G (T.setTop (mkF m pc Ls (.long y :: .long x :: rest))) := by
  subst hp
  exact K.cl _ _ (fun t q => XS.lmul K.here K.hx rfl (hb K.hby hd) rfl q) kk
theorem own_land (K : own_K p l e R s m args below meth c bytes own nm mx ret Q G Z T L k n h) {x y : Int64} (hd : decode bytes pc = .ok (.land, 1)) (hp : pc + 1 = pc') (kk : G (T.setTop (mkF m pc' Ls (.long (x &&& y) :: rest)))) : G (T.setTop (mkF m pc Ls (.long y :: .long x :: rest))) := by
  subst hp
  exact K.cl _ _ (fun t q => XS.land K.here K.hx rfl (hb K.hby hd) rfl q) kk
theorem own_lor (K : own_K p l e R s m args below meth c bytes own nm mx ret Q G Z T L k n h) {x y : Int64} (hd : decode bytes pc = .ok (.lor, 1)) (hp : pc + 1 = pc') (kk : G (T.setTop (mkF m pc' Ls (.long (x ||| y) :: rest)))) : G (T.setTop (mkF m pc Ls (.long y :: .long x :: rest))) := by
  subst hp
  exact K.cl _ _ (fun t q => XS.lor K.here K.hx rfl (hb K.hby hd) rfl q) kk
theorem own_lxor (K : own_K p l e R s m args below meth c bytes own nm mx ret Q G Z T L k n h) {x y : Int64} (hd : decode bytes pc = .ok (.lxor, 1)) (hp : pc + 1 = pc') (kk : G (T.setTop (mkF m pc' Ls (.long (x ^^^ y) :: rest)))) : G (T.setTop (mkF m pc Ls (.long y :: .long x :: rest))) := by
  subst hp
  exact K.cl _ _ (fun t q => XS.lxor K.here K.hx rfl (hb K.hby hd) rfl q) kk
theorem own_lshl (K : own_K p l e R s m args below meth c bytes own nm mx ret Q G Z T L k n h) {x : Int64} {y : Int32} (hd : decode bytes pc = .ok (.lshl, 1)) (hp : pc + 1 = pc') (kk : G (T.setTop (mkF m pc' Ls (.long (x <<< (y &&& 0x3f).toInt64) :: rest)))) : G (T.setTop (mkF m pc Ls (.int y :: .long x :: rest))) := by
  subst hp
  exact K.cl _ _ (fun t q => XS.lshl K.here K.hx rfl (hb K.hby hd) rfl q) kk
theorem own_lshr (K : own_K p l e R s m args below meth c bytes own nm mx ret Q G Z T L k n h) {x : Int64} {y : Int32} (hd : decode bytes pc = .ok (.lshr, 1)) (hp : pc + 1 = pc') (kk : G (T.setTop (mkF m pc' Ls (.long (x >>> (y &&& 0x3f).toInt64) :: rest)))) : G (T.setTop (mkF m pc Ls (.int y :: .long x :: rest))) := by
  subst hp
  exact K.cl _ _ (fun t q => XS.lshr K.here K.hx rfl (hb K.hby hd) rfl q) kk
theorem own_lushr (K : own_K p l e R s m args below meth c bytes own nm mx ret Q G Z T L k n h) {x : Int64} {y : Int32} (hd : decode bytes pc = .ok (.lushr, 1)) (hp : pc + 1 = pc') (kk : G (T.setTop (mkF m pc' Ls (.long ((x.toUInt64 >>> (y &&& 0x3f).toInt64.toUInt64).toInt64) :: rest)))) : G (T.setTop (mkF m pc Ls (.int y :: .long x :: rest))) := by
  subst hp
  exact K.cl _ _ (fun t q => XS.lushr K.here K.hx rfl (hb K.hby hd) rfl q) kk
theorem own_idiv (K : own_K p l e R s m args below meth c bytes own nm mx ret Q G Z T L k n h) {x y : Int32} (hd : decode bytes pc = .ok (.idiv, 1)) (hp : pc + 1 = pc') (hy : y ≠ 0) (kk : G (T.setTop (mkF m pc' Ls (.int (x / y) :: rest)))) : G (T.setTop (mkF m pc Ls (.int y :: .int x :: rest))) := by
  subst hp
  exact K.cl _ _ (fun t q => XS.idiv K.here K.hx rfl (hb K.hby hd) rfl hy q) kk
theorem own_ldiv (K : own_K p l e R s m args below meth c bytes own nm mx ret Q G Z T L k n h) {x y : Int64} (hd : decode bytes pc = .ok (.ldiv, 1)) (hp : pc + 1 = pc') (hy : y ≠ 0) (kk : G (T.setTop (mkF m pc' Ls (.long (x / y) :: rest)))) : G (T.setTop (mkF m pc Ls (.long y :: .long x :: rest))) := by
  subst hp
  exact K.cl _ _ (fun t q => XS.ldiv K.here K.hx rfl (hb K.hby hd) rfl hy q) kk
theorem own_irem (K : own_K p l e R s m args below meth c bytes own nm mx ret Q G Z T L k n h) {x y : Int32} (hd : decode bytes pc = .ok (.irem, 1)) (hp : pc + 1 = pc') (hy : y ≠ 0) (kk : G (T.setTop (mkF m pc' Ls (.int (x % y) :: rest)))) : G (T.setTop (mkF m pc Ls (.int y :: .int x :: rest))) := by
  subst hp
  exact K.cl _ _ (fun t q => iremM K.X K.hx rfl (hb K.hby hd) rfl hy q) kk
theorem own_lrem (K : own_K p l e R s m args below meth c bytes own nm mx ret Q G Z T L k n h) {x y : Int64} (hd : decode bytes pc = .ok (.lrem, 1)) (hp : pc + 1 = pc') (hy : y ≠ 0) (kk : G (T.setTop (mkF m pc' Ls (.long (x % y) :: rest)))) : G (T.setTop (mkF m pc Ls (.long y :: .long x :: rest))) := by
  subst hp
  exact K.cl _ _ (fun t q => XS.lrem K.here K.hx rfl (hb K.hby hd) rfl hy (by rw [lrem_mod]; exact q)) kk
theorem own_ineg (K : own_K p l e R s m args below meth c bytes own nm mx ret Q G Z T L k n h) {x : Int32} (hd : decode bytes pc = .ok (.ineg, 1)) (hp : pc + 1 = pc') (kk : G (T.setTop (mkF m pc' Ls (.int (-x) :: rest)))) : G (T.setTop (mkF m pc Ls (.int x :: rest))) := by
  subst hp
  exact K.cl _ _ (fun t q => XS.ineg K.here K.hx rfl (hb K.hby hd) rfl q) kk
theorem own_lneg (K : own_K p l e R s m args below meth c bytes own nm mx ret Q G Z T L k n h) {x : Int64} (hd : decode bytes pc = .ok (.lneg, 1)) (hp : pc + 1 = pc') (kk : G (T.setTop (mkF m pc' Ls (.long (-x) :: rest)))) : G (T.setTop (mkF m pc Ls (.long x :: rest))) := by
  subst hp
  exact K.cl _ _ (fun t q => XS.lneg K.here K.hx rfl (hb K.hby hd) rfl q) kk
theorem own_i2l (K : own_K p l e R s m args below meth c bytes own nm mx ret Q G Z T L k n h) {x : Int32} (hd : decode bytes pc = .ok (.i2l, 1)) (hp : pc + 1 = pc') (kk : G (T.setTop (mkF m pc' Ls (.long x.toInt64 :: rest)))) : G (T.setTop (mkF m pc Ls (.int x :: rest))) := by
  subst hp
  exact K.cl _ _ (fun t q => XS.i2l K.here K.hx rfl (hb K.hby hd) rfl q) kk
theorem own_l2i (K : own_K p l e R s m args below meth c bytes own nm mx ret Q G Z T L k n h) {x : Int64} (hd : decode bytes pc = .ok (.l2i, 1)) (hp : pc + 1 = pc') (kk : G (T.setTop (mkF m pc' Ls (.int x.toInt32 :: rest)))) : G (T.setTop (mkF m pc Ls (.long x :: rest))) := by
  subst hp
  exact K.cl _ _ (fun t q => XS.l2i K.here K.hx rfl (hb K.hby hd) rfl q) kk
theorem own_i2b (K : own_K p l e R s m args below meth c bytes own nm mx ret Q G Z T L k n h) {x : Int32} (hd : decode bytes pc = .ok (.i2b, 1)) (hp : pc + 1 = pc') (kk : G (T.setTop (mkF m pc' Ls (.int x.toInt8.toInt32 :: rest)))) : G (T.setTop (mkF m pc Ls (.int x :: rest))) := by
  subst hp
  exact K.cl _ _ (fun t q => XS.i2b K.here K.hx rfl (hb K.hby hd) rfl q) kk
theorem own_i2c (K : own_K p l e R s m args below meth c bytes own nm mx ret Q G Z T L k n h) {x : Int32} (hd : decode bytes pc = .ok (.i2c, 1)) (hp : pc + 1 = pc') (kk : G (T.setTop (mkF m pc' Ls (.int x.toUInt32.toUInt16.toUInt32.toInt32 :: rest)))) : G (T.setTop (mkF m pc Ls (.int x :: rest))) := by
  subst hp
  exact K.cl _ _ (fun t q => XS.i2c K.here K.hx rfl (hb K.hby hd) rfl q) kk
theorem own_i2s (K : own_K p l e R s m args below meth c bytes own nm mx ret Q G Z T L k n h) {x : Int32} (hd : decode bytes pc = .ok (.i2s, 1)) (hp : pc + 1 = pc') (kk : G (T.setTop (mkF m pc' Ls (.int x.toInt16.toInt32 :: rest)))) : G (T.setTop (mkF m pc Ls (.int x :: rest))) := by
  subst hp
  exact K.cl _ _ (fun t q => XS.i2s K.here K.hx rfl (hb K.hby hd) rfl q) kk
theorem own_lcmp (K : own_K p l e R s m args below meth c bytes own nm mx ret Q G Z T L k n h) {x y : Int64} (hd : decode bytes pc = .ok (.lcmp, 1)) (hp : pc + 1 = pc') (kk : G (T.setTop (mkF m pc' Ls (.int (lcmpW x y) :: rest)))) : G (T.setTop (mkF m pc Ls (.long y :: .long x :: rest))) := by
  subst hp
  exact K.cl _ _ (fun t q => XS.lcmp K.here K.hx rfl (hb K.hby hd) rfl q) kk
theorem own_pop (K : own_K p l e R s m args below meth c bytes own nm mx ret Q G Z T L k n h) {x : Value} (hd : decode bytes pc = .ok (.pop, 1)) (hp : pc + 1 = pc') (hc : x.category = 1) (kk : G (T.setTop (mkF m pc' Ls rest))) : G (T.setTop (mkF m pc Ls (x :: rest))) := by
  subst hp
  exact K.cl _ _ (fun t q => XS.pop K.here K.hx rfl (hb K.hby hd) rfl hc q) kk
theorem own_dup (K : own_K p l e R s m args below meth c bytes own nm mx ret Q G Z T L k n h) {x : Value} (hd : decode bytes pc = .ok (.dup, 1)) (hp : pc + 1 = pc') (hc : x.category = 1) (kk : G (T.setTop (mkF m pc' Ls (x :: x :: rest)))) : G (T.setTop (mkF m pc Ls (x :: rest))) := by
  subst hp
  exact K.cl _ _ (fun t q => XS.dup K.here K.hx rfl (hb K.hby hd) rfl hc q) kk
theorem own_dupX1 (K : own_K p l e R s m args below meth c bytes own nm mx ret Q G Z T L k n h) {x y : Value} (hd : decode bytes pc = .ok (.dup_x1, 1)) (hp : pc + 1 = pc') (hc : x.category = 1) (hc' : y.category = 1) (kk : G (T.setTop (mkF m pc' Ls (x :: y :: x :: rest)))) : G (T.setTop (mkF m pc Ls (x :: y :: rest))) := by
  subst hp
  exact K.cl _ _ (fun t q => XS.dupX1 K.here K.hx rfl (hb K.hby hd) rfl hc hc' q) kk
theorem own_aconstNull (K : own_K p l e R s m args below meth c bytes own nm mx ret Q G Z T L k n h)  (hd : decode bytes pc = .ok (.aconst_null, 1)) (hp : pc + 1 = pc') (kk : G (T.setTop (mkF m pc' Ls (.null :: st)))) : G (T.setTop (mkF m pc Ls st)) := by
  subst hp
  exact K.cl _ _ (fun t q => XS.aconstNull K.here K.hx rfl (hb K.hby hd)  q) kk
theorem own_iconst (K : own_K p l e R s m args below meth c bytes own nm mx ret Q G Z T L k n h) {i : Int} {v : Int32} (hd : decode bytes pc = .ok (.iconst i, 1)) (hp : pc + 1 = pc') (hv : Int32.ofInt i = v) (kk : G (T.setTop (mkF m pc' Ls (.int v :: st)))) : G (T.setTop (mkF m pc Ls st)) := by
  subst hp hv
  exact K.cl _ _ (fun t q => XS.iconst K.here K.hx rfl (hb K.hby hd) q) kk
theorem own_bipush (K : own_K p l e R s m args below meth c bytes own nm mx ret Q G Z T L k n h) {i : Int} {v : Int32} (hd : decode bytes pc = .ok (.bipush i, 2)) (hp : pc + 2 = pc') (hv : (Int8.ofInt i).toInt32 = v) (kk : G (T.setTop (mkF m pc' Ls (.int v :: st)))) : G (T.setTop (mkF m pc Ls st)) := by
  subst hp hv
  exact K.cl _ _ (fun t q => XS.bipush K.here K.hx rfl (hb K.hby hd) q) kk
theorem own_sipush (K : own_K p l e R s m args below meth c bytes own nm mx ret Q G Z T L k n h) {i : Int} {v : Int32} (hd : decode bytes pc = .ok (.sipush i, 3)) (hp : pc + 3 = pc') (hv : (Int16.ofInt i).toInt32 = v) (kk : G (T.setTop (mkF m pc' Ls (.int v :: st)))) : G (T.setTop (mkF m pc Ls st)) := by
  subst hp hv
  exact K.cl _ _ (fun t q => XS.sipush K.here K.hx rfl (hb K.hby hd) q) kk
theorem own_lconst (K : own_K p l e R s m args below meth c bytes own nm mx ret Q G Z T L k n h) {i : Fin 2} {v : Int64} (hd : decode bytes pc = .ok (.lconst i, 1)) (hp : pc + 1 = pc') (hv : Int64.ofNat i = v) (kk : G (T.setTop (mkF m pc' Ls (.long v :: st)))) : G (T.setTop (mkF m pc Ls st)) := by
  subst hp hv
  exact K.cl _ _ (fun t q => XS.lconst K.here K.hx rfl (hb K.hby hd) q) kk
theorem own_iload (K : own_K p l e R s m args below meth c bytes own nm mx ret Q G Z T L k n h) {j : Nat} {v : Int32} (hd : decode bytes pc = .ok (.iload j, 2)) (hp : pc + 2 = pc') (hl : Ls[j]? = some (.val (.int v))) (kk : G (T.setTop (mkF m pc' Ls (.int v :: st)))) : G (T.setTop (mkF m pc Ls st)) := by
  subst hp
  exact K.cl _ _ (fun t q => XS.iload K.here K.hx rfl (hb K.hby hd) hl q) kk
theorem own_iloadN (K : own_K p l e R s m args below meth c bytes own nm mx ret Q G Z T L k n h) {j : Fin 4} {v : Int32} (hd : decode bytes pc = .ok (.iload_n j, 1)) (hp : pc + 1 = pc') (hl : Ls[j.val]? = some (.val (.int v))) (kk : G (T.setTop (mkF m pc' Ls (.int v :: st)))) : G (T.setTop (mkF m pc Ls st)) := by
  subst hp
  exact K.cl _ _ (fun t q => XS.iloadN K.here K.hx rfl (hb K.hby hd) hl q) kk
theorem own_lload (K : own_K p l e R s m args below meth c bytes own nm mx ret Q G Z T L k n h) {j : Nat} {v : Int64} (hd : decode bytes pc = .ok (.lload j, 2)) (hp : pc + 2 = pc') (hl : Ls[j]? = some (.val (.long v))) (kk : G (T.setTop (mkF m pc' Ls (.long v :: st)))) : G (T.setTop (mkF m pc Ls st)) := by
  subst hp
  exact K.cl _ _ (fun t q => XS.lload K.here K.hx rfl (hb K.hby hd) hl q) kk
theorem own_lloadN (K : own_K p l e R s m args below meth c bytes own nm mx ret Q G Z T L k n h) {j : Fin 4} {v : Int64} (hd : decode bytes pc = .ok (.lload_n j, 1)) (hp : pc + 1 = pc') (hl : Ls[j.val]? = some (.val (.long v))) (kk : G (T.setTop (mkF m pc' Ls (.long v :: st)))) : G (T.setTop (mkF m pc Ls st)) := by
  subst hp
  exact K.cl _ _ (fun t q => XS.lloadN K.here K.hx rfl (hb K.hby hd) hl q) kk
theorem own_aload (K : own_K p l e R s m args below meth c bytes own nm mx ret Q G Z T L k n h) {j : Nat} {v : Value} (hd : decode bytes pc = .ok (.aload j, 2)) (hp : pc + 2 = pc') (hl : Ls[j]? = some (.val v)) (hv : v.isRef = true) (kk : G (T.setTop (mkF m pc' Ls (v :: st)))) : G (T.setTop (mkF m pc Ls st)) := by
  subst hp
  exact K.cl _ _ (fun t q => XS.aload K.here K.hx rfl (hb K.hby hd) hl hv q) kk
theorem own_aloadN (K : own_K p l e R s m args below meth c bytes own nm mx ret Q G Z T L k n h) {j : Fin 4} {v : Value} (hd : decode bytes pc = .ok (.aload_n j, 1)) (hp : pc + 1 = pc') (hl : Ls[j.val]? = some (.val v)) (hv : v.isRef = true) (kk : G (T.setTop (mkF m pc' Ls (v :: st)))) : G (T.setTop (mkF m pc Ls st)) := by
  subst hp
  exact K.cl _ _ (fun t q => XS.aloadN K.here K.hx rfl (hb K.hby hd) hl hv q) kk
theorem own_istore (K : own_K p l e R s m args below meth c bytes own nm mx ret Q G Z T L k n h) {j : Nat} {v : Int32} (hd : decode bytes pc = .ok (.istore j, 2)) (hp : pc + 2 = pc') (hl : storeLocals Ls j (.int v) = some Ls') (kk : G (T.setTop (mkF m pc' Ls' rest))) : G (T.setTop (mkF m pc Ls (.int v :: rest))) := by
  subst hp
  exact K.cl _ _ (fun t q => XS.istore K.here K.hx rfl (hb K.hby hd) rfl hl q) kk
theorem own_istoreN (K : own_K p l e R s m args below meth c bytes own nm mx ret Q G Z T L k n h) {j : Fin 4} {v : Int32} (hd : decode bytes pc = .ok (.istore_n j, 1)) (hp : pc + 1 = pc') (hl : storeLocals Ls j.val (.int v) = some Ls') (kk : G (T.setTop (mkF m pc' Ls' rest))) : G (T.setTop (mkF m pc Ls (.int v :: rest))) := by
  subst hp
  exact K.cl _ _ (fun t q => XS.istoreN K.here K.hx rfl (hb K.hby hd) rfl hl q) kk
theorem own_lstore (K : own_K p l e R s m args below meth c bytes own nm mx ret Q G Z T L k n h) {j : Nat} {v : Int64} (hd : decode bytes pc = .ok (.lstore j, 2)) (hp : pc + 2 = pc') (hl : storeLocals Ls j (.long v) = some Ls') (kk : G (T.setTop (mkF m pc' Ls' rest))) : G (T.setTop (mkF m pc Ls (.long v :: rest))) := by
  subst hp
  exact K.cl _ _ (fun t q => XS.lstore K.here K.hx rfl (hb K.hby hd) rfl hl q) kk
theorem own_lstoreN (K : own_K p l e R s m args below meth c bytes own nm mx ret Q G Z T L k n h) {j : Fin 4} {v : Int64} (hd : decode bytes pc = .ok (.lstore_n j, 1)) (hp : pc + 1 = pc') (hl : storeLocals Ls j.val (.long v) = some Ls') (kk : G (T.setTop (mkF m pc' Ls' rest))) : G (T.setTop (mkF m pc Ls (.long v :: rest))) := by
  subst hp
  exact K.cl _ _ (fun t q => XS.lstoreN K.here K.hx rfl (hb K.hby hd) rfl hl q) kk
theorem own_astore (K : own_K p l e R s m args below meth c bytes own nm mx ret Q G Z T L k n h) {j : Nat} {v : Value} (hd : decode bytes pc = .ok (.astore j, 2)) (hp : pc + 2 = pc') (hv : v.isRef = true) (hl : storeLocals Ls j v = some Ls') (kk : G (T.setTop (mkF m pc' Ls' rest))) : G (T.setTop (mkF m pc Ls (v :: rest))) := by
  subst hp
  exact K.cl _ _ (fun t q => XS.astore K.here K.hx rfl (hb K.hby hd) rfl hv hl q) kk
theorem own_astoreN (K : own_K p l e R s m args below meth c bytes own nm mx ret Q G Z T L k n h) {j : Fin 4} {v : Value} (hd : decode bytes pc = .ok (.astore_n j, 1)) (hp : pc + 1 = pc') (hv : v.isRef = true) (hl : storeLocals Ls j.val v = some Ls') (kk : G (T.setTop (mkF m pc' Ls' rest))) : G (T.setTop (mkF m pc Ls (v :: rest))) := by
  subst hp
  exact K.cl _ _ (fun t q => XS.astoreN K.here K.hx rfl (hb K.hby hd) rfl hv hl q) kk
theorem own_iinc (K : own_K p l e R s m args below meth c bytes own nm mx ret Q G Z T L k n h) {j : Nat} {cst : Int} {x v : Int32} (hd : decode bytes pc = .ok (.iinc j cst, 3)) (hp : pc + 3 = pc') (hl : Ls[j]? = some (.val (.int x))) (hl' : storeLocals Ls j (.int (x + Int32.ofInt cst)) = some Ls') (kk : G (T.setTop (mkF m pc' Ls' st))) : G (T.setTop (mkF m pc Ls st)) := by
  subst hp
  exact K.cl _ _ (fun t q => XS.iinc K.here K.hx rfl (hb K.hby hd) hl hl' q) kk
theorem own_goto (K : own_K p l e R s m args below meth c bytes own nm mx ret Q G Z T L k n h) {o : Int} (hd : decode bytes pc = .ok (.goto o, 3)) (hp : ((pc : Int) + o).toNat = pc') (ho : 0 ≤ (pc : Int) + o) (kk : G (T.setTop (mkF m pc' Ls st))) : G (T.setTop (mkF m pc Ls st)) :=
  K.cl _ _ (fun t q => XS.goto K.here K.hx rfl rfl (hb K.hby hd) ho hp q) kk
theorem own_ifYes (K : own_K p l e R s m args below meth c bytes own nm mx ret Q G Z T L k n h) {cd : ClassFile.Cond} {x : Int32} {o : Int} (hd : decode bytes pc = .ok (.ifCond cd o, 3)) (hp : ((pc : Int) + o).toNat = pc') (ho : 0 ≤ (pc : Int) + o) (hc : ifCond.holds cd x = true) (kk : G (T.setTop (mkF m pc' Ls rest))) : G (T.setTop (mkF m pc Ls (.int x :: rest))) :=
  K.cl _ _ (fun t q => XS.ifYes K.here K.hx rfl rfl (hb K.hby hd) rfl hc ho hp q) kk
theorem own_ifNo (K : own_K p l e R s m args below meth c bytes own nm mx ret Q G Z T L k n h) {cd : ClassFile.Cond} {x : Int32} {o : Int} (hd : decode bytes pc = .ok (.ifCond cd o, 3)) (hp : pc + 3 = pc') (hc : ifCond.holds cd x = false) (kk : G (T.setTop (mkF m pc' Ls rest))) : G (T.setTop (mkF m pc Ls (.int x :: rest))) := by
  subst hp
  exact K.cl _ _ (fun t q => XS.ifNo K.here K.hx rfl (hb K.hby hd) rfl hc q) kk
theorem own_icmpYes (K : own_K p l e R s m args below meth c bytes own nm mx ret Q G Z T L k n h) {cd : ClassFile.Cond} {x y : Int32} {o : Int} (hd : decode bytes pc = .ok (.if_icmp cd o, 3)) (hp : ((pc : Int) + o).toNat = pc') (ho : 0 ≤ (pc : Int) + o) (hc : if_icmp.holds cd x y = true) (kk : G (T.setTop (mkF m pc' Ls rest))) : G (T.setTop (mkF m pc Ls (.int y :: .int x :: rest))) :=
  K.cl _ _ (fun t q => XS.icmpYes K.here K.hx rfl rfl (hb K.hby hd) rfl hc ho hp q) kk
theorem own_icmpNo (K : own_K p l e R s m args below meth c bytes own nm mx ret Q G Z T L k n h) {cd : ClassFile.Cond} {x y : Int32} {o : Int} (hd : decode bytes pc = .ok (.if_icmp cd o, 3)) (hp : pc + 3 = pc') (hc : if_icmp.holds cd x y = false) (kk : G (T.setTop (mkF m pc' Ls rest))) : G (T.setTop (mkF m pc Ls (.int y :: .int x :: rest))) := by
  subst hp
  exact K.cl _ _ (fun t q => XS.icmpNo K.here K.hx rfl (hb K.hby hd) rfl hc q) kk
theorem own_ifnullYes (K : own_K p l e R s m args below meth c bytes own nm mx ret Q G Z T L k n h) {o : Int} (hd : decode bytes pc = .ok (.ifnull o, 3)) (hp : ((pc : Int) + o).toNat = pc') (ho : 0 ≤ (pc : Int) + o) (kk : G (T.setTop (mkF m pc' Ls rest))) : G (T.setTop (mkF m pc Ls (.null :: rest))) :=
  K.cl _ _ (fun t q => XS.ifnullYes K.here K.hx rfl rfl (hb K.hby hd) rfl ho hp q) kk
theorem own_ifnullNo (K : own_K p l e R s m args below meth c bytes own nm mx ret Q G Z T L k n h) {o : Int} {b : Addr} (hd : decode bytes pc = .ok (.ifnull o, 3)) (hp : pc + 3 = pc') (kk : G (T.setTop (mkF m pc' Ls rest))) : G (T.setTop (mkF m pc Ls (.ref b :: rest))) := by
  subst hp
  exact K.cl _ _ (fun t q => XS.ifnullNo K.here K.hx rfl (hb K.hby hd) rfl q) kk
theorem own_ifnonnullYes (K : own_K p l e R s m args below meth c bytes own nm mx ret Q G Z T L k n h) {o : Int} {b : Addr} (hd : decode bytes pc = .ok (.ifnonnull o, 3)) (hp : ((pc : Int) + o).toNat = pc') (ho : 0 ≤ (pc : Int) + o) (kk : G (T.setTop (mkF m pc' Ls rest))) : G (T.setTop (mkF m pc Ls (.ref b :: rest))) :=
  K.cl _ _ (fun t q => XS.ifnonnullYes K.here K.hx rfl rfl (hb K.hby hd) rfl ho hp q) kk
theorem own_ifnonnullNo (K : own_K p l e R s m args below meth c bytes own nm mx ret Q G Z T L k n h) {o : Int} (hd : decode bytes pc = .ok (.ifnonnull o, 3)) (hp : pc + 3 = pc') (kk : G (T.setTop (mkF m pc' Ls rest))) : G (T.setTop (mkF m pc Ls (.null :: rest))) := by
  subst hp
  exact K.cl _ _ (fun t q => XS.ifnonnullNo K.here K.hx rfl (hb K.hby hd) rfl q) kk
theorem own_acmp (K : own_K p l e R s m args below meth c bytes own nm mx ret Q G Z T L k n h) {cd : ACond} {x y : Value} {o : Int} {same : Bool} (hd : decode bytes pc = .ok (.if_acmp cd o, 3)) (h1 : x.isRef = true) (h2 : y.isRef = true) (hq : decide (x = y) = same) (ho : 0 ≤ (pc : Int) + o) (hp : pc' = if acV cd same = true then ((pc : Int) + o).toNat else pc + 3) (kk : G (T.setTop (mkF m pc' Ls rest))) : G (T.setTop (mkF m pc Ls (y :: x :: rest))) :=
  K.cl _ _ (fun t q => RoadKit.acmp K.X K.hx rfl h1 h2 rfl (hb K.hby hd) rfl hq ho hp q) kk
theorem own_getF (K : own_K p l e R s m args below meth c bytes own nm mx ret Q G Z T L k n h) {R0 O nf d host : String} {index : Nat} {a : Addr} {v : Value} (w : (Cond.fieldLink own index R0 nf d).before a0 Z = true ∨ (Cond.fieldLinkNest own index R0 nf d host).before a0 Z = true) (via : Via Z R0 O nf d) (F : Fld Z h a O nf d v) (hd : decode bytes pc = .ok (.getfield index, 3)) (hp : pc + 3 = pc') (kk : ∀ T', own_K p l e R s m args below meth c bytes own nm mx ret Q G Z T' L k n h → G (T'.setTop (mkF m pc' Ls (v :: rest)))) : G (T.setTop (mkF m pc Ls (.ref a :: rest))) := by
  subst hp
  obtain ⟨T', X', e', st'⟩ := getF K.X K.hx K.hZ K.hown w via K.eh F (g := mkF m pc Ls (.ref a :: rest)) rfl rfl (hb K.hby hd)
  exact K.cl _ _ st' (kk T' (K.nx X' e' K.fr K.O))
theorem own_getS (K : own_K p l e R s m args below meth c bytes own nm mx ret Q G Z T L k n h) {R0 O nf d : String} {index : Nat} {v : Value} (w : (Cond.fieldLink own index R0 nf d).before a0 Z = true) (via : Via Z R0 O nf d) (F : Sta Z h O nf d v) (hd : decode bytes pc = .ok (.getstatic index, 3)) (hp : pc + 3 = pc') (kk : ∀ T', own_K p l e R s m args below meth c bytes own nm mx ret Q G Z T' L k n h → G (T'.setTop (mkF m pc' Ls (v :: st)))) : G (T.setTop (mkF m pc Ls st)) := by
  subst hp
  obtain ⟨T', X', e', st'⟩ := getS (host := "") K.X K.hx K.hZ K.hown w via K.eh F (g := mkF m pc Ls st) rfl (hb K.hby hd)
  exact K.cl _ _ st' (kk T' (K.nx X' e' K.fr K.O))
theorem own_putF (K : own_K p l e R s m args below meth c bytes own nm mx ret Q G Z T L k n h) {R0 O nf d host C : String} {index kk0 : Nat} {ty : FieldType} {a : Addr} {v old : Value} (w : (Cond.fieldLink own index R0 nf d).before a0 Z = true ∨ (Cond.fieldLinkNest own index R0 nf d host).before a0 Z = true) (via : Via Z R0 O nf d) (F : Fld Z h a O nf d old) (E : Exa Z h a C) (Ly : (Cond.lays C O nf d).before a0 Z = true ∨ ((Cond.laysFinal C O nf d).before a0 Z = true ∧ own = O ∧ nm = "<init>")) (wi : (Cond.instantiable C kk0).before a0 Z = true) (hty : parseFieldDescriptor d = some ty) (hn : narrow ty v = v) (hf : fits ty v = true) (ha : Z.heap.size ≤ a) (hd : decode bytes pc = .ok (.putfield index, 3)) (hp : pc + 3 = pc') (kk : ∀ T' h', own_K p l e R s m args below meth c bytes own nm mx ret Q G Z T' (L ++ [⟨a, RoadKit.slotOf Z O nf d⟩]) k n h' → Wr h h' a (RoadKit.slotOf Z O nf d) v → G (T'.setTop (mkF m pc' Ls rest))) : G (T.setTop (mkF m pc Ls (v :: .ref a :: rest))) := by
  subst hp
  obtain ⟨T', h', X', e', W', st'⟩ := putF K.X K.hx K.hZ K.hown w via K.eh F E (Ly.imp id fun q => ⟨q.1, q.2.1, K.hnm.trans q.2.2⟩) wi hty hn hf (g := mkF m pc Ls (v :: .ref a :: rest)) rfl rfl (hb K.hby hd)
  exact K.cl _ _ st' (kk T' h' (K.nx X' e' (Fr.snoc X' K.fr ha) (own_ext_wr K.O W' ha)) W')
theorem own_putFN (K : own_K p l e R s m args below meth c bytes own nm mx ret Q G Z T L k n h) {R0 O nf d C : String} {index kk0 : Nat} {ty : FieldType} {a : Addr} {v v' old : Value} (w : (Cond.fieldLink own index R0 nf d).before a0 Z = true) (via : Via Z R0 O nf d) (F : Fld Z h a O nf d old) (E : Exa Z h a C) (Ly : (Cond.lays C O nf d).before a0 Z = true ∨ ((Cond.laysFinal C O nf d).before a0 Z = true ∧ own = O ∧ nm = "<init>")) (wi : (Cond.instantiable C kk0).before a0 Z = true) (hty : parseFieldDescriptor d = some ty) (hn : narrow ty v = v') (hf : fits ty v' = true) (ha : Z.heap.size ≤ a) (hd : decode bytes pc = .ok (.putfield index, 3)) (hp : pc + 3 = pc') (kk : ∀ T' h', own_K p l e R s m args below meth c bytes own nm mx ret Q G Z T' (L ++ [⟨a, RoadKit.slotOf Z O nf d⟩]) k n h' → Wr h h' a (RoadKit.slotOf Z O nf d) v' → G (T'.setTop (mkF m pc' Ls rest))) : G (T.setTop (mkF m pc Ls (v :: .ref a :: rest))) := by
  subst hp
  obtain ⟨T', h', X', e', W', st'⟩ := putFN K.X K.hx K.hZ K.hown w via K.eh F E (Ly.imp id fun q => ⟨q.1, q.2.1, K.hnm.trans q.2.2⟩) wi hty hn hf (g := mkF m pc Ls (v :: .ref a :: rest)) rfl rfl (hb K.hby hd)
  exact K.cl _ _ st' (kk T' h' (K.nx X' e' (Fr.snoc X' K.fr ha) (own_ext_wr K.O W' ha)) W')
theorem own_newO (K : own_K p l e R s m args below meth c bytes own nm mx ret Q G Z T L k n h) {C : String} {index j : Nat} (w : (Cond.classLink own index C).before a0 Z = true) (wi : (Cond.instantiable C j).before a0 Z = true) (wz : (Cond.initialized C).before a0 Z = true) (hd : decode bytes pc = .ok (.new index, 3)) (hc : k + 1 ≤ R.cells) (hl : n + j ≤ R.slots) (hp : pc + 3 = pc') (kk : ∀ T' h' (a : Addr), own_K p l e R s m args below meth c bytes own nm mx ret Q G Z T' L (k + 1) (n + j) h' → a = h.size → Ext h h' → Exa Z h' a C → (∀ {O nf d : String} {ty : FieldType}, Laid Z a0 C O nf d → parseFieldDescriptor d = some ty → Fld Z h' a O nf d (defaultValue ty)) → Unt h' a → G (T'.setTop (mkF m pc' Ls (.ref a :: st)))) : G (T.setTop (mkF m pc Ls st)) := by
  subst hp
  obtain ⟨T', h', X', e', E', A', D', U', st'⟩ := newO K.X K.hx K.hZ K.hown w wi wz K.eh (g := mkF m pc Ls st) rfl (hb K.hby hd) hc hl
  exact K.cl _ _ st' (kk T' h' h.size (K.nx X' e' K.fr (own_ext_trans K.O E')) rfl E' A' D' U')
theorem own_newP (K : own_K p l e R s m args below meth c bytes own nm mx ret Q G Z T L k n h) {aty : ArrayType} {z : Int32} {cap : Nat} (w : (Cond.arrayClass (newarray.typeOf aty)).before a0 Z = true) (hd : decode bytes pc = .ok (.newarray aty, 2)) (hz : ¬ z < 0) (hcap : z.toNatClampNeg ≤ cap) (hcb : cap * 8 ≤ 536870912) (hc : k + 1 ≤ R.cells) (hl : n + cap ≤ R.slots) (hp : pc + 2 = pc') (kk : ∀ T' h' (a : Addr) (cA : ClassId), own_K p l e R s m args below meth c bytes own nm mx ret Q G Z T' L (k + 1) (n + cap) h' → a = h.size → Ext h h' → Arv Z h' a cA (newarray.typeOf aty) z [] (defaultValue (newarray.typeOf aty)) → G (T'.setTop (mkF m pc' Ls (.ref a :: rest)))) : G (T.setTop (mkF m pc Ls (.int z :: rest))) := by
  subst hp
  obtain ⟨T', h', cA, X', e', E', A', st'⟩ := newP K.X K.hx K.hZ w K.eh (g := mkF m pc Ls (.int z :: rest)) rfl (hb K.hby hd) rfl hz hcap hcb hc hl
  exact K.cl _ _ st' (kk T' h' h.size cA (K.nx X' e' K.fr (own_ext_trans K.O E')) rfl E' (Arv.new A' hz))
theorem own_newR (K : own_K p l e R s m args below meth c bytes own nm mx ret Q G Z T L k n h) {C : String} {index : Nat} {z : Int32} {cap : Nat} (w1 : (Cond.classLink own index C).before a0 Z = true) (w2 : (Cond.arrayOver (.object C)).before a0 Z = true) (hd : decode bytes pc = .ok (.anewarray index, 3)) (hz : ¬ z < 0) (hcap : z.toNatClampNeg ≤ cap) (hcb : cap * 8 ≤ 536870912) (hc : k + 1 ≤ R.cells) (hl : n + cap ≤ R.slots) (hp : pc + 3 = pc') (kk : ∀ T' h' (a : Addr) (cA : ClassId), own_K p l e R s m args below meth c bytes own nm mx ret Q G Z T' L (k + 1) (n + cap) h' → a = h.size → Ext h h' → Arv Z h' a cA (.object C) z [] .null → Ovr Z cA C → G (T'.setTop (mkF m pc' Ls (.ref a :: rest)))) : G (T.setTop (mkF m pc Ls (.int z :: rest))) := by
  subst hp
  obtain ⟨T', h', cA, X', e', E', A', O', st'⟩ := newR K.X K.hx K.hZ K.hown w1 w2 K.eh (g := mkF m pc Ls (.int z :: rest)) rfl (hb K.hby hd) rfl hz hcap hcb hc hl
  exact K.cl _ _ st' (kk T' h' h.size cA (K.nx X' e' K.fr (own_ext_trans K.O E')) rfl E' (Arv.new A' hz) O')
theorem own_castY (K : own_K p l e R s m args below meth c bytes own nm mx ret Q G Z T L k n h) {Kc : String} {index : Nat} {a : Addr} (w : (Cond.classLink own index Kc).before a0 Z = true) (F : Ins Z h a Kc true) (hd : decode bytes pc = .ok (.checkcast index, 3)) (hp : pc + 3 = pc') (kk : ∀ T', own_K p l e R s m args below meth c bytes own nm mx ret Q G Z T' L k n h → G (T'.setTop (mkF m pc' Ls (.ref a :: rest)))) : G (T.setTop (mkF m pc Ls (.ref a :: rest))) := by
  subst hp
  obtain ⟨T', X', e', st'⟩ := castY K.X K.hx K.hZ K.hown w K.eh F (g := mkF m pc Ls (.ref a :: rest)) rfl rfl (hb K.hby hd)
  exact K.cl _ _ st' (kk T' (K.nx X' e' K.fr K.O))
theorem own_instY (K : own_K p l e R s m args below meth c bytes own nm mx ret Q G Z T L k n h) {Kc : String} {index : Nat} {a : Addr} (w : (Cond.classLink own index Kc).before a0 Z = true) (F : Ins Z h a Kc true) (hd : decode bytes pc = .ok (.instanceof index, 3)) (hp : pc + 3 = pc') (kk : ∀ T', own_K p l e R s m args below meth c bytes own nm mx ret Q G Z T' L k n h → G (T'.setTop (mkF m pc' Ls (.int 1 :: rest)))) : G (T.setTop (mkF m pc Ls (.ref a :: rest))) := by
  subst hp
  obtain ⟨T', X', e', st'⟩ := instY K.X K.hx K.hZ K.hown w K.eh F (g := mkF m pc Ls (.ref a :: rest)) rfl rfl (hb K.hby hd)
  exact K.cl _ _ st' (kk T' (K.nx X' e' K.fr K.O))
theorem own_castNull (K : own_K p l e R s m args below meth c bytes own nm mx ret Q G Z T L k n h) {index : Nat} (hd : decode bytes pc = .ok (.checkcast index, 3)) (hp : pc + 3 = pc') (kk : G (T.setTop (mkF m pc' Ls (.null :: rest)))) : G (T.setTop (mkF m pc Ls (.null :: rest))) := by
  subst hp
  exact K.cl _ _ (K.X.checkcastNull K.hx (g := mkF m pc Ls (.null :: rest)) rfl rfl (hb K.hby hd)) kk
theorem own_ldcInt (K : own_K p l e R s m args below meth c bytes own nm mx ret Q G Z T L k n h) {index : Nat} {v : Int32} (w : (Cond.constant own index v).before a0 Z = true) (hd : decode bytes pc = .ok (.ldc index, 2)) (hp : pc + 2 = pc') (kk : G (T.setTop (mkF m pc' Ls (.int v :: st)))) : G (T.setTop (mkF m pc Ls st)) := by
  subst hp
  exact K.cl _ _ (K.X.ldcInt K.hx K.hown (mvT K.hZ w) (g := mkF m pc Ls st) rfl (hb K.hby hd)) kk
theorem own_ldcwInt (K : own_K p l e R s m args below meth c bytes own nm mx ret Q G Z T L k n h) {index : Nat} {v : Int32} (w : (Cond.constant own index v).before a0 Z = true) (hd : decode bytes pc = .ok (.ldc_w index, 3)) (hp : pc + 3 = pc') (kk : G (T.setTop (mkF m pc' Ls (.int v :: st)))) : G (T.setTop (mkF m pc Ls st)) := by
  subst hp
  exact K.cl _ _ (K.X.ldcwInt K.hx K.hown (mvT K.hZ w) (g := mkF m pc Ls st) rfl (hb K.hby hd)) kk
theorem own_ldc2Long (K : own_K p l e R s m args below meth c bytes own nm mx ret Q G Z T L k n h) {index : Nat} {v : Int64} (w : (Cond.constantLong own index v).before a0 Z = true) (hd : decode bytes pc = .ok (.ldc2_w index, 3)) (hp : pc + 3 = pc') (kk : G (T.setTop (mkF m pc' Ls (.long v :: st)))) : G (T.setTop (mkF m pc Ls st)) := by
  subst hp
  exact K.cl _ _ (K.X.ldc2Long K.hx K.hown (mvT K.hZ w) (g := mkF m pc Ls st) rfl (hb K.hby hd)) kk
theorem own_inb {z j : Int32} {cl : Cell} (S : cl.slots.size = z.toNatClampNeg) (q : ¬ j < 0 ∧ j < z) : ¬ (j < 0 ∨ cl.slots.size ≤ j.toNatClampNeg) := inb_of S q
theorem own_at {z j : Int32} {cl : Cell} {vs : List Value} {dv v : Value} (S : cl.slots.size = z.toNatClampNeg) (H : Has cl vs dv) (q : ¬ j < 0 ∧ j < z) (hv : vs.getD j.toNatClampNeg dv = v) : cl.slots[j.toNatClampNeg]? = some v := by
  have h1 := inb_of S q
  rw [← hv]; exact H _ (by omega)
theorem own_iaload (K : own_K p l e R s m args below meth c bytes own nm mx ret Q G Z T L k n h) {a : Addr} {kA : ClassId} {z j : Int32} {vs : List Value} {dv : Value} {x : Int32} (V : Arv Z h a kA .int z vs dv) (hj : ¬ j < 0 ∧ j < z) (hv : vs.getD j.toNatClampNeg dv = .int x) (hd : decode bytes pc = .ok (.iaload, 1)) (hp : pc + 1 = pc') (kk : G (T.setTop (mkF m pc' Ls (.int x :: rest)))) : G (T.setTop (mkF m pc Ls (.int j :: .ref a :: rest))) := by
  subst hp
  obtain ⟨cl, A, -, S, -, H, -⟩ := V
  exact K.cl _ _ (K.X.iaload K.hx (j := j) (v := .int x) (by rw [K.eh]; exact A.1) (State.isArrayOf_alike K.hZ.alike A.2.1) A.2.2 (own_inb S hj) (own_at S H hj hv) (g := mkF m pc Ls (.int j :: .ref a :: rest)) rfl rfl (hb K.hby hd)) kk
theorem own_caload (K : own_K p l e R s m args below meth c bytes own nm mx ret Q G Z T L k n h) {a : Addr} {kA : ClassId} {z j : Int32} {vs : List Value} {dv : Value} {x : Int32} (V : Arv Z h a kA .char z vs dv) (hj : ¬ j < 0 ∧ j < z) (hv : vs.getD j.toNatClampNeg dv = .int x) (hd : decode bytes pc = .ok (.caload, 1)) (hp : pc + 1 = pc') (kk : G (T.setTop (mkF m pc' Ls (.int x :: rest)))) : G (T.setTop (mkF m pc Ls (.int j :: .ref a :: rest))) := by
  subst hp
  obtain ⟨cl, A, -, S, -, H, -⟩ := V
  exact K.cl _ _ (K.X.caload K.hx (j := j) (v := .int x) (by rw [K.eh]; exact A.1) (State.isArrayOf_alike K.hZ.alike A.2.1) A.2.2 (own_inb S hj) (own_at S H hj hv) (g := mkF m pc Ls (.int j :: .ref a :: rest)) rfl rfl (hb K.hby hd)) kk
theorem own_baload (K : own_K p l e R s m args below meth c bytes own nm mx ret Q G Z T L k n h) {a : Addr} {kA : ClassId} {z j : Int32} {vs : List Value} {dv : Value} {x : Int32} (V : Arv Z h a kA .byte z vs dv) (hj : ¬ j < 0 ∧ j < z) (hv : vs.getD j.toNatClampNeg dv = .int x) (hd : decode bytes pc = .ok (.baload, 1)) (hp : pc + 1 = pc') (kk : G (T.setTop (mkF m pc' Ls (.int x :: rest)))) : G (T.setTop (mkF m pc Ls (.int j :: .ref a :: rest))) := by
  subst hp
  obtain ⟨cl, A, -, S, -, H, -⟩ := V
  exact K.cl _ _ (K.X.baloadBytes K.hx (j := j) (v := .int x) (by rw [K.eh]; exact A.1) (State.isArrayOf_alike K.hZ.alike A.2.1) A.2.2 (own_inb S hj) (own_at S H hj hv) (g := mkF m pc Ls (.int j :: .ref a :: rest)) rfl rfl (hb K.hby hd)) kk
theorem own_laload (K : own_K p l e R s m args below meth c bytes own nm mx ret Q G Z T L k n h) {a : Addr} {kA : ClassId} {z j : Int32} {vs : List Value} {dv : Value} {x : Int64} (V : Arv Z h a kA .long z vs dv) (hj : ¬ j < 0 ∧ j < z) (hv : vs.getD j.toNatClampNeg dv = .long x) (hd : decode bytes pc = .ok (.laload, 1)) (hp : pc + 1 = pc') (kk : G (T.setTop (mkF m pc' Ls (.long x :: rest)))) : G (T.setTop (mkF m pc Ls (.int j :: .ref a :: rest))) := by
  subst hp
  obtain ⟨cl, A, -, S, -, H, -⟩ := V
  exact K.cl _ _ (K.X.laload K.hx (j := j) (v := .long x) (by rw [K.eh]; exact A.1) (State.isArrayOf_alike K.hZ.alike A.2.1) A.2.2 (own_inb S hj) (own_at S H hj hv) (g := mkF m pc Ls (.int j :: .ref a :: rest)) rfl rfl (hb K.hby hd)) kk
theorem own_aaload (K : own_K p l e R s m args below meth c bytes own nm mx ret Q G Z T L k n h) {a : Addr} {kA : ClassId} {ty : FieldType} {z j : Int32} {vs : List Value} {dv v : Value} (V : Arv Z h a kA ty z vs dv) (hty : ty.isReference = true) (hj : ¬ j < 0 ∧ j < z) (hv : vs.getD j.toNatClampNeg dv = v) (hr : v.isRef = true) (hd : decode bytes pc = .ok (.aaload, 1)) (hp : pc + 1 = pc') (kk : G (T.setTop (mkF m pc' Ls (v :: rest)))) : G (T.setTop (mkF m pc Ls (.int j :: .ref a :: rest))) := by
  subst hp
  obtain ⟨cl, A, -, S, -, H, -⟩ := V
  exact K.cl _ _ (K.X.aaload K.hx (j := j) (v := v) (by rw [K.eh]; exact A.1) (State.isArrayOf_alike K.hZ.alike A.2.1) hty A.2.2 (own_inb S hj) (own_at S H hj hv) (g := mkF m pc Ls (.int j :: .ref a :: rest)) rfl rfl (hb K.hby hd)) kk
theorem own_arraylength (K : own_K p l e R s m args below meth c bytes own nm mx ret Q G Z T L k n h) {a : Addr} {kA : ClassId} {ty : FieldType} {z : Int32} {vs : List Value} {dv : Value} (V : Arv Z h a kA ty z vs dv) (hd : decode bytes pc = .ok (.arraylength, 1)) (hp : pc + 1 = pc') (kk : G (T.setTop (mkF m pc' Ls (.int z :: rest)))) : G (T.setTop (mkF m pc Ls (.ref a :: rest))) := by
  subst hp
  obtain ⟨cl, A, -, S, hz, H, -⟩ := V
  refine K.cl _ _ (K.X.arraylength K.hx (by rw [K.eh]; exact A.1) (State.isArrayOf_alike K.hZ.alike A.2.1) (g := mkF m pc Ls (.ref a :: rest)) rfl rfl (hb K.hby hd)) ?_
  rw [len_of S hz]; exact kk
theorem own_castore (K : own_K p l e R s m args below meth c bytes own nm mx ret Q G Z T L k n h) {a : Addr} {kA : ClassId} {z j x x' : Int32} {vs : List Value} {dv : Value} (V : Arv Z h a kA .char z vs dv) (hj : ¬ j < 0 ∧ j < z) (i : Nat) (hi : j.toNatClampNeg = i) (hl : i < vs.length) (hx' : nar .char x = x') (ha : Z.heap.size ≤ a) (hd : decode bytes pc = .ok (.castore, 1)) (hp : pc + 1 = pc')
    (kk : ∀ T' h', own_K p l e R s m args below meth c bytes own nm mx ret Q G Z T' (L ++ [⟨a, i⟩]) k n h' → Wr h h' a i (.int x') → Arv Z h' a kA .char z (vs.set i (.int x')) dv → G (T'.setTop (mkF m pc' Ls rest))) : G (T.setTop (mkF m pc Ls (.int x :: .int j :: .ref a :: rest))) := by
  subst hp hx' hi
  obtain ⟨cl, A, q1, S, hz, H, Gf⟩ := V
  obtain ⟨T', h', X', e', W', st'⟩ := stC K.X K.hx K.hZ K.eh A (j := j) (own_inb S hj) (g := mkF m pc Ls (.int x :: .int j :: .ref a :: rest)) rfl rfl (hb K.hby hd)
  exact K.cl _ _ st' (kk T' h' (K.nx X' e' (Fr.snoc X' K.fr ha) (own_ext_wr K.O W' ha)) W' (Arv.set A q1 S hz H Gf (fits_nar_char _) W' _ rfl hl))
theorem own_bastore (K : own_K p l e R s m args below meth c bytes own nm mx ret Q G Z T L k n h) {a : Addr} {kA : ClassId} {z j x x' : Int32} {vs : List Value} {dv : Value} (V : Arv Z h a kA .byte z vs dv) (hj : ¬ j < 0 ∧ j < z) (i : Nat) (hi : j.toNatClampNeg = i) (hl : i < vs.length) (hx' : nar .byte x = x') (ha : Z.heap.size ≤ a) (hd : decode bytes pc = .ok (.bastore, 1)) (hp : pc + 1 = pc')
    (kk : ∀ T' h', own_K p l e R s m args below meth c bytes own nm mx ret Q G Z T' (L ++ [⟨a, i⟩]) k n h' → Wr h h' a i (.int x') → Arv Z h' a kA .byte z (vs.set i (.int x')) dv → G (T'.setTop (mkF m pc' Ls rest))) : G (T.setTop (mkF m pc Ls (.int x :: .int j :: .ref a :: rest))) := by
  subst hp hx' hi
  obtain ⟨cl, A, q1, S, hz, H, Gf⟩ := V
  obtain ⟨T', h', X', e', W', st'⟩ := stB K.X K.hx K.hZ K.eh A (j := j) (own_inb S hj) (g := mkF m pc Ls (.int x :: .int j :: .ref a :: rest)) rfl rfl (hb K.hby hd)
  exact K.cl _ _ st' (kk T' h' (K.nx X' e' (Fr.snoc X' K.fr ha) (own_ext_wr K.O W' ha)) W' (Arv.set A q1 S hz H Gf (fits_nar_byte _) W' _ rfl hl))
theorem own_zastore (K : own_K p l e R s m args below meth c bytes own nm mx ret Q G Z T L k n h) {a : Addr} {kA : ClassId} {z j x x' : Int32} {vs : List Value} {dv : Value} (V : Arv Z h a kA .boolean z vs dv) (hj : ¬ j < 0 ∧ j < z) (i : Nat) (hi : j.toNatClampNeg = i) (hl : i < vs.length) (hx' : nar .boolean x = x') (ha : Z.heap.size ≤ a) (hd : decode bytes pc = .ok (.bastore, 1)) (hp : pc + 1 = pc')
    (kk : ∀ T' h', own_K p l e R s m args below meth c bytes own nm mx ret Q G Z T' (L ++ [⟨a, i⟩]) k n h' → Wr h h' a i (.int x') → Arv Z h' a kA .boolean z (vs.set i (.int x')) dv → G (T'.setTop (mkF m pc' Ls rest))) : G (T.setTop (mkF m pc Ls (.int x :: .int j :: .ref a :: rest))) := by
  subst hp hx' hi
  obtain ⟨cl, A, q1, S, hz, H, Gf⟩ := V
  obtain ⟨T', h', X', e', W', st'⟩ := stZ K.X K.hx K.hZ K.eh A (j := j) (own_inb S hj) (g := mkF m pc Ls (.int x :: .int j :: .ref a :: rest)) rfl rfl (hb K.hby hd)
  exact K.cl _ _ st' (kk T' h' (K.nx X' e' (Fr.snoc X' K.fr ha) (own_ext_wr K.O W' ha)) W' (Arv.set A q1 S hz H Gf (fits_nar_bool _) W' _ rfl hl))
theorem own_aastore (K : own_K p l e R s m args below meth c bytes own nm mx ret Q G Z T L k n h) {a : Addr} {kA : ClassId} {ty : FieldType} {z j : Int32} {v : Value} {vs : List Value} {dv : Value} (V : Arv Z h a kA ty z vs dv) (hty : ty.isReference = true) (hf : fits ty v = true) (F : Sto Z h a v) (hj : ¬ j < 0 ∧ j < z) (i : Nat) (hi : j.toNatClampNeg = i) (hl : i < vs.length) (ha : Z.heap.size ≤ a) (hd : decode bytes pc = .ok (.aastore, 1)) (hp : pc + 1 = pc')
    (kk : ∀ T' h', own_K p l e R s m args below meth c bytes own nm mx ret Q G Z T' (L ++ [⟨a, i⟩]) k n h' → Wr h h' a i v → Arv Z h' a kA ty z (vs.set i v) dv → G (T'.setTop (mkF m pc' Ls rest))) : G (T.setTop (mkF m pc Ls (v :: .int j :: .ref a :: rest))) := by
  subst hp hi
  obtain ⟨cl, A, q1, S, hz, H, Gf⟩ := V
  obtain ⟨T', h', X', e', W', st'⟩ := stR K.X K.hx K.hZ K.eh A (j := j) (own_inb S hj) hty F (g := mkF m pc Ls (v :: .int j :: .ref a :: rest)) rfl rfl (hb K.hby hd)
  exact K.cl _ _ st' (kk T' h' (K.nx X' e' (Fr.snoc X' K.fr ha) (own_ext_wr K.O W' ha)) W' (Arv.set A q1 S hz H Gf hf W' _ rfl hl))
theorem own_initO (K : own_K p l e R s m args below meth c bytes own nm mx ret Q G Z T L k n h) {idx : Nat} {a : Addr} {W : Nat} (w1 : (Cond.methodLink own idx Lib.objectInit).before a0 Z = true) (w2 : (Cond.instanceMethod Lib.objectInit).before a0 Z = true) (w3 : (Cond.code Lib.objectInit ⟨#[0xb1]⟩ 1 none).before a0 Z = true) (hsz : Ls.size = mx) (hW : (rest.map fun v => v.category).sum = W) (hf : 1 ≤ R.frames) (hl : W + 12 ≤ R.locals) (hd : decode bytes pc = .ok (.invokespecial idx, 3)) (hp : pc + 3 = pc')
    (kk : ∀ T', own_K p l e R s m args below meth c bytes own nm mx ret Q G Z T' L k n h → G (T'.setTop (mkF m pc' Ls rest))) : G (T.setTop (mkF m pc Ls (.ref a :: rest))) := by
  subst hp
  obtain ⟨T', X', e', st'⟩ := initO K.X K.hx K.hZ K.hown w1 w2 w3 K.eh (g := mkF m pc Ls (.ref a :: rest)) rfl (by rw [K.hml]; exact hsz) rfl (hb K.hby hd) hf (W := W) (by show 2 * 0 + _ ≤ _; rw [hW]; omega) hl
  exact K.cl _ _ st' (kk T' (K.nx X' e' K.fr K.O))
theorem own_callS (K : own_K p l e R s m args below meth c bytes own nm mx ret Q G Z T L k n h) {index W mx' : Nat} {y : MethodName} {bytes' : ByteArray} {ret' : Option FieldType} {rm : Room} {ps : List FieldType} {rr : Option FieldType} {Qc : Option Value → Heap → Prop} {argsL : List Value} (wl : (Cond.methodLink own index y).before a0 Z = true) (ws : (Cond.static y).before a0 Z = true) (C : own_Ct l Z y bytes' mx' ret' [] rm argsL.toArray h Qc) (hcd : (Cond.code y bytes' mx' ret').before a0 Z = true) (hin : (Cond.initialized (y).cls).before a0 Z = true) (hy : y.cls ≠ "java/lang/invoke/MethodHandle" ∧ y.cls ≠ "java/lang/invoke/VarHandle")  (hstk : st = (argsL.reverse ++ rest)) (hpd : parseMethodDescriptor y.desc = some ⟨ps, rr⟩) (hal : argsL.length = ps.length) (hsz : Ls.size = mx) (hW : (rest.map fun v => v.category).sum = W) (hrf : rm.frames + 1 ≤ R.frames) (hrl : W + (mx' + 11) + rm.locals ≤ R.locals) (hrc : k + rm.cells ≤ R.cells) (hrs : n + rm.slots ≤ R.slots) (hd : decode bytes pc = .ok (.invokestatic index, 3)) (hp : pc + 3 = pc')
    (kk : ∀ T' h' L' v, own_K p l e R s m args below meth c bytes own nm mx ret Q G Z T' (L ++ L') (k + rm.cells) (n + rm.slots) h' → Qc v h' → G (T'.setTop (mkF m pc' Ls (v.toList ++ rest)))) : G (T.setTop (mkF m pc Ls st)) := by
  subst hp hstk
  obtain ⟨v, _, ⟨T', L1, k1, n1⟩, -, X', ⟨L', hQ, l1, l2, l3⟩, st'⟩ := Jvm.LawKit.callS K.X K.hx (y := y) K.hown (mvT K.hZ wl) (mvT K.hZ ws) (mvT K.hZ hin) (mvT K.hZ hcd) hy (backOf (W := W) (Q := fun v h L => Fr Z.heap.size L ∧ Ext Z.heap h ∧ Qc v h) C K.hZ hcd hin hrf hrl) (g := mkF m pc Ls (argsL.reverse ++ rest)) rfl (by rw [K.hml]; exact hsz) (argsL := argsL) (rest := rest) (fun sig q => by rw [hpd] at q; cases q; exact hal) rfl (by show 2 * 0 + _ ≤ _; rw [hW]; omega) (hb K.hby hd) (fun _ _ => ⟨rfl, K.eh, hrc, hrs⟩)
  dsimp only [Pt.U, Pt.locs, Pt.cells, Pt.slots] at X' l1 l2 l3 st' hQ
  subst l1 l2 l3
  obtain ⟨hN, hO, hq⟩ := hQ
  exact K.cl _ _ (fun t q => st' t q) (kk T' T'.heap L' v (K.nx X' rfl (Fr.app K.fr hN) hO) hq)
theorem own_callI (K : own_K p l e R s m args below meth c bytes own nm mx ret Q G Z T L k n h) {index W mx' : Nat} {y : MethodName} {bytes' : ByteArray} {rm : Room} {ps : List FieldType} {rr : Option FieldType} {Qc : Option Value → Heap → Prop} {argsL : List Value} {a : Addr} (wl : (Cond.methodLink own index y).before a0 Z = true) (wi : (Cond.instanceMethod y).before a0 Z = true) (C : own_Ct l Z y bytes' mx' none [] rm (.ref a :: argsL).toArray h Qc) (hcd : (Cond.code y bytes' mx' none).before a0 Z = true) (hin : (Cond.initialized (y).cls).before a0 Z = true) (hy : y.cls ≠ "java/lang/invoke/MethodHandle" ∧ y.cls ≠ "java/lang/invoke/VarHandle") (hy1 : y.name = "<init>")  (hstk : st = (argsL.reverse ++ .ref a :: rest)) (hpd : parseMethodDescriptor y.desc = some ⟨ps, rr⟩) (hal : argsL.length = ps.length) (hsz : Ls.size = mx) (hW : (rest.map fun v => v.category).sum = W) (hrf : rm.frames + 1 ≤ R.frames) (hrl : W + (mx' + 11) + rm.locals ≤ R.locals) (hrc : k + rm.cells ≤ R.cells) (hrs : n + rm.slots ≤ R.slots) (hd : decode bytes pc = .ok (.invokespecial index, 3)) (hp : pc + 3 = pc')
    (kk : ∀ T' h' L' v, own_K p l e R s m args below meth c bytes own nm mx ret Q G Z T' (L ++ L') (k + rm.cells) (n + rm.slots) h' → Qc v h' → G (T'.setTop (mkF m pc' Ls (v.toList ++ rest)))) : G (T.setTop (mkF m pc Ls st)) := by
  subst hp hstk
  obtain ⟨v, _, ⟨T', L1, k1, n1⟩, -, X', ⟨L', hQ, l1, l2, l3⟩, st'⟩ := K.X.specialBack K.hx (y := y) hy1 K.hown (mvT K.hZ wl) (mvT K.hZ wi) (mvT K.hZ hcd) hy (backOf (W := W) (Q := fun v h L => Fr Z.heap.size L ∧ Ext Z.heap h ∧ Qc v h) C K.hZ hcd hin hrf hrl) (g := mkF m pc Ls (argsL.reverse ++ .ref a :: rest)) rfl (by rw [K.hml]; exact hsz) (Steps.refl _) (a := a) (argsL := argsL) (rest := rest) (fun sig q => by rw [hpd] at q; cases q; exact hal) rfl (by show 2 * 0 + _ ≤ _; rw [hW]; omega) (hb K.hby hd) (fun _ _ => ⟨rfl, K.eh, hrc, hrs⟩)
  dsimp only [Pt.U, Pt.locs, Pt.cells, Pt.slots] at X' l1 l2 l3 st' hQ
  subst l1 l2 l3
  obtain ⟨hN, hO, hq⟩ := hQ
  exact K.cl _ _ (fun t q => st'.trans q) (kk T' T'.heap L' v (K.nx X' rfl (Fr.app K.fr hN) hO) hq)
theorem own_callV (K : own_K p l e R s m args below meth c bytes own nm mx ret Q G Z T L k n h) {index W mx' : Nat} {y : MethodName} {bytes' : ByteArray} {ret' : Option FieldType} {rm : Room} {ps : List FieldType} {rr : Option FieldType} {Qc : Option Value → Heap → Prop} {argsL : List Value} {a : Addr} {Cc : String} {x0 : MethodName} (wl : (Cond.methodLink own index x0).before a0 Z = true) (wd : (Cond.declares x0).before a0 Z = true) (hnf : ∀ {s : State}, Z.Warmed39 s.vm → NotFace s x0) (wsel : (Cond.selects Cc x0 y).before a0 Z = true) (wi : (Cond.instanceMethod y).before a0 Z = true) (C : own_Ct l Z y bytes' mx' ret' [] rm (.ref a :: argsL).toArray h Qc) (hcd : (Cond.code y bytes' mx' ret').before a0 Z = true) (hin : (Cond.initialized (y).cls).before a0 Z = true) (hy : x0.cls ≠ "java/lang/invoke/MethodHandle" ∧ x0.cls ≠ "java/lang/invoke/VarHandle") (E : Exa Z h a Cc)  (hstk : st = (argsL.reverse ++ .ref a :: rest)) (hpd : parseMethodDescriptor x0.desc = some ⟨ps, rr⟩) (hal : argsL.length = ps.length) (hsz : Ls.size = mx) (hW : (rest.map fun v => v.category).sum = W) (hrf : rm.frames + 1 ≤ R.frames) (hrl : W + (mx' + 11) + rm.locals ≤ R.locals) (hrc : k + rm.cells ≤ R.cells) (hrs : n + rm.slots ≤ R.slots) (hd : decode bytes pc = .ok (.invokevirtual index, 3)) (hp : pc + 3 = pc')
    (kk : ∀ T' h' L' v, own_K p l e R s m args below meth c bytes own nm mx ret Q G Z T' (L ++ L') (k + rm.cells) (n + rm.slots) h' → Qc v h' → G (T'.setTop (mkF m pc' Ls (v.toList ++ rest)))) : G (T.setTop (mkF m pc Ls st)) := by
  subst hp hstk
  obtain ⟨v, _, ⟨T', L1, k1, n1⟩, -, X', ⟨L', hQ, l1, l2, l3⟩, st'⟩ := (isOf K.hZ K.eh E).elim fun cB q => q.elim fun kB q => K.X.virtualBack K.hx (y := x0) (z := y) K.hown (mvT K.hZ wl) (mvT K.hZ wd) (hnf K.hZ) (mvT K.hZ wsel) (mvT K.hZ wi) hy (backOf (W := W) (Q := fun v h L => Fr Z.heap.size L ∧ Ext Z.heap h ∧ Qc v h) C K.hZ hcd hin hrf hrl) q.1 q.2.2 (g := mkF m pc Ls (argsL.reverse ++ .ref a :: rest)) rfl (by rw [K.hml]; exact hsz) (Steps.refl _) (argsL := argsL) (rest := rest) (fun sig q => by rw [hpd] at q; cases q; exact hal) rfl (by show 2 * 0 + _ ≤ _; rw [hW]; omega) (hb K.hby hd) (fun _ _ => ⟨rfl, K.eh, hrc, hrs⟩)
  dsimp only [Pt.U, Pt.locs, Pt.cells, Pt.slots] at X' l1 l2 l3 st' hQ
  subst l1 l2 l3
  obtain ⟨hN, hO, hq⟩ := hQ
  exact K.cl _ _ (fun t q => st'.trans q) (kk T' T'.heap L' v (K.nx X' rfl (Fr.app K.fr hN) hO) hq)
theorem own_callVU (K : own_K p l e R s m args below meth c bytes own nm mx ret Q G Z T L k n h) {index W mx' : Nat} {y : MethodName} {bytes' : ByteArray} {ret' : Option FieldType} {rm : Room} {ps : List FieldType} {rr : Option FieldType} {Qc : Option Value → Heap → Prop} {argsL : List Value} {a : Addr} {Cc owner : String} {x0 : MethodName} (wl : (Cond.methodLink own index x0).before a0 Z = true) (wsm : (Cond.sameMethod x0.cls owner x0.name x0.desc).before a0 Z = true) (wd : (Cond.declares ⟨owner, x0.name, x0.desc⟩).before a0 Z = true) (wsel : (Cond.selects Cc x0 y).before a0 Z = true) (wi : (Cond.instanceMethod y).before a0 Z = true) (C : own_Ct l Z y bytes' mx' ret' [] rm (.ref a :: argsL).toArray h Qc) (hcd : (Cond.code y bytes' mx' ret').before a0 Z = true) (hin : (Cond.initialized (y).cls).before a0 Z = true) (hy : owner ≠ "java/lang/invoke/MethodHandle" ∧ owner ≠ "java/lang/invoke/VarHandle") (E : Exa Z h a Cc)  (hstk : st = (argsL.reverse ++ .ref a :: rest)) (hpd : parseMethodDescriptor x0.desc = some ⟨ps, rr⟩) (hal : argsL.length = ps.length) (hsz : Ls.size = mx) (hW : (rest.map fun v => v.category).sum = W) (hrf : rm.frames + 1 ≤ R.frames) (hrl : W + (mx' + 11) + rm.locals ≤ R.locals) (hrc : k + rm.cells ≤ R.cells) (hrs : n + rm.slots ≤ R.slots) (hd : decode bytes pc = .ok (.invokevirtual index, 3)) (hp : pc + 3 = pc')
    (kk : ∀ T' h' L' v, own_K p l e R s m args below meth c bytes own nm mx ret Q G Z T' (L ++ L') (k + rm.cells) (n + rm.slots) h' → Qc v h' → G (T'.setTop (mkF m pc' Ls (v.toList ++ rest)))) : G (T.setTop (mkF m pc Ls st)) := by
  subst hp hstk
  obtain ⟨v, _, ⟨T', L1, k1, n1⟩, -, X', ⟨L', hQ, l1, l2, l3⟩, st'⟩ := (isOf K.hZ K.eh E).elim fun cB q => q.elim fun kB q => K.X.virtualBackUp K.hx (x := x0) (y := y) K.hown (mvT K.hZ wl) (mvT K.hZ wsm) (mvT K.hZ wd) hy (mvT K.hZ wsel) (mvT K.hZ wi) (backOf (W := W) (Q := fun v h L => Fr Z.heap.size L ∧ Ext Z.heap h ∧ Qc v h) C K.hZ hcd hin hrf hrl) q.1 q.2.2 (g := mkF m pc Ls (argsL.reverse ++ .ref a :: rest)) rfl (by rw [K.hml]; exact hsz) (Steps.refl _) (argsL := argsL) (rest := rest) (fun sig q => by rw [hpd] at q; cases q; exact hal) rfl (by show 2 * 0 + _ ≤ _; rw [hW]; omega) (hb K.hby hd) (fun _ _ => ⟨rfl, K.eh, hrc, hrs⟩)
  dsimp only [Pt.U, Pt.locs, Pt.cells, Pt.slots] at X' l1 l2 l3 st' hQ
  subst l1 l2 l3
  obtain ⟨hN, hO, hq⟩ := hQ
  exact K.cl _ _ (fun t q => st'.trans q) (kk T' T'.heap L' v (K.nx X' rfl (Fr.app K.fr hN) hO) hq)
theorem own_callF (K : own_K p l e R s m args below meth c bytes own nm mx ret Q G Z T L k n h) {index W mx' : Nat} {y : MethodName} {bytes' : ByteArray} {ret' : Option FieldType} {rm : Room} {ps : List FieldType} {rr : Option FieldType} {Qc : Option Value → Heap → Prop} {argsL : List Value} {cnt : Nat} {a : Addr} {Cc : String} {x0 : MethodName} (wl : (Cond.methodLink own index x0).before a0 Z = true) (wd : (Cond.declares x0).before a0 Z = true) (wf : ∀ {s : State} {args : Array Value}, Z.Warmed39 s.vm → (Cond.interfaceMethod x0.cls x0.cls x0.name x0.desc).before args s = true) (wsel : (Cond.selects Cc x0 y).before a0 Z = true) (wi : (Cond.instanceMethod y).before a0 Z = true) (wp : (Cond.publicMethod y).before a0 Z = true) (wu : (Cond.unhidden Cc x0.name x0.desc).before a0 Z = true) (wc : (Cond.castable Cc x0.cls).before a0 Z = true) (C : own_Ct l Z y bytes' mx' ret' [] rm (.ref a :: argsL).toArray h Qc) (hcd : (Cond.code y bytes' mx' ret').before a0 Z = true) (hin : (Cond.initialized (y).cls).before a0 Z = true) (hy : x0.cls ≠ "java/lang/invoke/MethodHandle" ∧ x0.cls ≠ "java/lang/invoke/VarHandle") (E : Exa Z h a Cc)  (hstk : st = (argsL.reverse ++ .ref a :: rest)) (hpd : parseMethodDescriptor x0.desc = some ⟨ps, rr⟩) (hal : argsL.length = ps.length) (hsz : Ls.size = mx) (hW : (rest.map fun v => v.category).sum = W) (hrf : rm.frames + 1 ≤ R.frames) (hrl : W + (mx' + 11) + rm.locals ≤ R.locals) (hrc : k + rm.cells ≤ R.cells) (hrs : n + rm.slots ≤ R.slots) (hd : decode bytes pc = .ok (.invokeinterface index cnt, 5)) (hp : pc + 5 = pc')
    (kk : ∀ T' h' L' v, own_K p l e R s m args below meth c bytes own nm mx ret Q G Z T' (L ++ L') (k + rm.cells) (n + rm.slots) h' → Qc v h' → G (T'.setTop (mkF m pc' Ls (v.toList ++ rest)))) : G (T.setTop (mkF m pc Ls st)) := by
  subst hp hstk
  obtain ⟨v, _, ⟨T', L1, k1, n1⟩, -, X', ⟨L', hQ, l1, l2, l3⟩, st'⟩ := (isOf K.hZ K.eh E).elim fun cB q => q.elim fun kB q => K.X.interfaceBack K.hx (xi := x0) (y := y) K.hown (mvT K.hZ wl) (mvT K.hZ wd) (wf K.hZ) (mvT K.hZ wsel) (mvT K.hZ wi) (mvT K.hZ wp) (mvT K.hZ wu) (mvT K.hZ wc) hy (backOf (W := W) (Q := fun v h L => Fr Z.heap.size L ∧ Ext Z.heap h ∧ Qc v h) C K.hZ hcd hin hrf hrl) q.1 q.2.1 q.2.2 (g := mkF m pc Ls (argsL.reverse ++ .ref a :: rest)) rfl (by rw [K.hml]; exact hsz) (Steps.refl _) (argsL := argsL) (rest := rest) (fun sig q => by rw [hpd] at q; cases q; exact hal) rfl (by show 2 * 0 + _ ≤ _; rw [hW]; omega) (hb K.hby hd) (fun _ _ => ⟨rfl, K.eh, hrc, hrs⟩)
  dsimp only [Pt.U, Pt.locs, Pt.cells, Pt.slots] at X' l1 l2 l3 st' hQ
  subst l1 l2 l3
  obtain ⟨hN, hO, hq⟩ := hQ
  exact K.cl _ _ (fun t q => st'.trans q) (kk T' T'.heap L' v (K.nx X' rfl (Fr.app K.fr hN) hO) hq)
theorem own_callP (K : own_K p l e R s m args below meth c bytes own nm mx ret Q G Z T L k n h) {index W mx' : Nat} {y : MethodName} {bytes' : ByteArray} {ret' : Option FieldType} {rm : Room} {ps : List FieldType} {rr : Option FieldType} {Qc : Option Value → Heap → Prop} {argsL : List Value} {a : Addr} {Cc : String} (wl : (Cond.methodLink own index y).before a0 Z = true) (wi : (Cond.instanceMethod y).before a0 Z = true) (wsel : (Cond.selects y.cls y y).before a0 Z = true) (wp : (Cond.privateMethod y).before a0 Z = true) (C : own_Ct l Z y bytes' mx' ret' [] rm (.ref a :: argsL).toArray h Qc) (hcd : (Cond.code y bytes' mx' ret').before a0 Z = true) (hin : (Cond.initialized (y).cls).before a0 Z = true) (hy : y.cls ≠ "java/lang/invoke/MethodHandle" ∧ y.cls ≠ "java/lang/invoke/VarHandle") (E : Exa Z h a Cc)  (hstk : st = (argsL.reverse ++ .ref a :: rest)) (hpd : parseMethodDescriptor y.desc = some ⟨ps, rr⟩) (hal : argsL.length = ps.length) (hsz : Ls.size = mx) (hW : (rest.map fun v => v.category).sum = W) (hrf : rm.frames + 1 ≤ R.frames) (hrl : W + (mx' + 11) + rm.locals ≤ R.locals) (hrc : k + rm.cells ≤ R.cells) (hrs : n + rm.slots ≤ R.slots) (hd : decode bytes pc = .ok (.invokevirtual index, 3)) (hp : pc + 3 = pc')
    (kk : ∀ T' h' L' v, own_K p l e R s m args below meth c bytes own nm mx ret Q G Z T' (L ++ L') (k + rm.cells) (n + rm.slots) h' → Qc v h' → G (T'.setTop (mkF m pc' Ls (v.toList ++ rest)))) : G (T.setTop (mkF m pc Ls st)) := by
  subst hp hstk
  obtain ⟨v, _, ⟨T', L1, k1, n1⟩, -, X', ⟨L', hQ, l1, l2, l3⟩, st'⟩ := E.cell.elim fun cq q => K.X.privateBack K.hx (y := y) K.hown (mvT K.hZ wl) (mvT K.hZ wi) (mvT K.hZ wsel) (Cond.privateMethod_at (mvP K.hZ wp (args := #[]))) (mvT K.hZ hcd) hy (backOf (W := W) (Q := fun v h L => Fr Z.heap.size L ∧ Ext Z.heap h ∧ Qc v h) C K.hZ hcd hin hrf hrl) (g := mkF m pc Ls (argsL.reverse ++ .ref a :: rest)) rfl (by rw [K.hml]; exact hsz) (Steps.refl _) (a := a) (by rw [K.eh]; exact q.1) q.2 (argsL := argsL) (rest := rest) (fun sig q => by rw [hpd] at q; cases q; exact hal) rfl (by show 2 * 0 + _ ≤ _; rw [hW]; omega) (hb K.hby hd) (fun _ _ => ⟨rfl, K.eh, hrc, hrs⟩)
  dsimp only [Pt.U, Pt.locs, Pt.cells, Pt.slots] at X' l1 l2 l3 st' hQ
  subst l1 l2 l3
  obtain ⟨hN, hO, hq⟩ := hQ
  exact K.cl _ _ (fun t q => st'.trans q) (kk T' T'.heap L' v (K.nx X' rfl (Fr.app K.fr hN) hO) hq)
theorem own_callSup (K : own_K p l e R s m args below meth c bytes own nm mx ret Q G Z T L k n h) {index W mx' : Nat} {y : MethodName} {bytes' : ByteArray} {ret' : Option FieldType} {rm : Room} {ps : List FieldType} {rr : Option FieldType} {Qc : Option Value → Heap → Prop} {argsL : List Value} {a : Addr} {Cc : String} (wl : (Cond.methodLink own index y).before a0 Z = true) (wsm : (Cond.sameMethod y.cls y.cls y.name y.desc).before a0 Z = true) (wi : (Cond.instanceMethod y).before a0 Z = true) (wsup : (Cond.superclass own y.cls).before a0 Z = true) (C : own_Ct l Z y bytes' mx' ret' [] rm (.ref a :: argsL).toArray h Qc) (hcd : (Cond.code y bytes' mx' ret').before a0 Z = true) (hin : (Cond.initialized (y).cls).before a0 Z = true) (hy : y.name ≠ "<init>") (E : Exa Z h a Cc)  (hstk : st = (argsL.reverse ++ .ref a :: rest)) (hpd : parseMethodDescriptor y.desc = some ⟨ps, rr⟩) (hal : argsL.length = ps.length) (hsz : Ls.size = mx) (hW : (rest.map fun v => v.category).sum = W) (hrf : rm.frames + 1 ≤ R.frames) (hrl : W + (mx' + 11) + rm.locals ≤ R.locals) (hrc : k + rm.cells ≤ R.cells) (hrs : n + rm.slots ≤ R.slots) (hd : decode bytes pc = .ok (.invokespecial index, 3)) (hp : pc + 3 = pc')
    (kk : ∀ T' h' L' v, own_K p l e R s m args below meth c bytes own nm mx ret Q G Z T' (L ++ L') (k + rm.cells) (n + rm.slots) h' → Qc v h' → G (T'.setTop (mkF m pc' Ls (v.toList ++ rest)))) : G (T.setTop (mkF m pc Ls st)) := by
  subst hp hstk
  obtain ⟨v, _, ⟨T', L1, k1, n1⟩, -, X', ⟨L', hQ, l1, l2, l3⟩, st'⟩ := RoadKit.superBack K.X K.hx K.hZ (y := y) K.hown wl wsm wi wsup hy (backOf (W := W) (Q := fun v h L => Fr Z.heap.size L ∧ Ext Z.heap h ∧ Qc v h) C K.hZ hcd hin hrf hrl) K.eh (Ins.self E) (g := mkF m pc Ls (argsL.reverse ++ .ref a :: rest)) rfl (by rw [K.hml]; exact hsz) hcd (argsL := argsL) (rest := rest) (fun sig q => by rw [hpd] at q; cases q; exact hal) rfl (by show 2 * 0 + _ ≤ _; rw [hW]; omega) (hb K.hby hd) (fun _ _ => ⟨rfl, K.eh, hrc, hrs⟩)
  dsimp only [Pt.U, Pt.locs, Pt.cells, Pt.slots] at X' l1 l2 l3 st' hQ
  subst l1 l2 l3
  obtain ⟨hN, hO, hq⟩ := hQ
  exact K.cl _ _ (fun t q => st'.trans q) (kk T' T'.heap L' v (K.nx X' rfl (Fr.app K.fr hN) hO) hq)
theorem own_callSK (K : own_K p l e R s m args below meth c bytes own nm mx ret Q G Z T L k n h) {index W mx' : Nat} {y : MethodName} {bytes' : ByteArray} {ret' : Option FieldType} {rm : Room} {ps : List FieldType} {rr : Option FieldType} {Qc : Option Value → Heap → Prop} {argsL : List Value} (hkn : s.vm.MethodsKnown ∧ s.vm.FramesKnown below) (wl : (Cond.methodLink own index y).before a0 Z = true) (ws : (Cond.static y).before a0 Z = true) (C : own_CtK l Z y bytes' mx' ret' [] rm argsL.toArray h Qc) (hcd : (Cond.code y bytes' mx' ret').before a0 Z = true) (hin : (Cond.initialized (y).cls).before a0 Z = true) (hy : y.cls ≠ "java/lang/invoke/MethodHandle" ∧ y.cls ≠ "java/lang/invoke/VarHandle")  (hstk : st = (argsL.reverse ++ rest)) (hpd : parseMethodDescriptor y.desc = some ⟨ps, rr⟩) (hal : argsL.length = ps.length) (hsz : Ls.size = mx) (hW : (rest.map fun v => v.category).sum = W) (hrf : rm.frames + 1 ≤ R.frames) (hrl : W + (mx' + 11) + rm.locals ≤ R.locals) (hrc : k + rm.cells ≤ R.cells) (hrs : n + rm.slots ≤ R.slots) (hd : decode bytes pc = .ok (.invokestatic index, 3)) (hp : pc + 3 = pc')
    (kk : ∀ T' h' L' v, own_K p l e R s m args below meth c bytes own nm mx ret Q G Z T' (L ++ L') (k + rm.cells) (n + rm.slots) h' → Qc v h' → G (T'.setTop (mkF m pc' Ls (v.toList ++ rest)))) : G (T.setTop (mkF m pc Ls st)) := by
  subst hp hstk
  obtain ⟨v, _, ⟨T', L1, k1, n1⟩, -, X', ⟨L', hQ, l1, l2, l3⟩, st'⟩ := Jvm.LawKit.callS K.X K.hx (y := y) K.hown (mvT K.hZ wl) (mvT K.hZ ws) (mvT K.hZ hin) (mvT K.hZ hcd) hy (backOfKL (W := W) (Q := fun v h L => Fr Z.heap.size L ∧ Ext Z.heap h ∧ Qc v h) C K.hZ hcd hin hrf hrl hkn.1 hkn.2) (g := mkF m pc Ls (argsL.reverse ++ rest)) rfl (by rw [K.hml]; exact hsz) (argsL := argsL) (rest := rest) (fun sig q => by rw [hpd] at q; cases q; exact hal) rfl (by show 2 * 0 + _ ≤ _; rw [hW]; omega) (hb K.hby hd) (fun _ _ => ⟨rfl, K.eh, hrc, hrs⟩)
  dsimp only [Pt.U, Pt.locs, Pt.cells, Pt.slots] at X' l1 l2 l3 st' hQ
  subst l1 l2 l3
  obtain ⟨hN, hO, hq⟩ := hQ
  exact K.cl _ _ (fun t q => st' t q) (kk T' T'.heap L' v (K.nx X' rfl (Fr.app K.fr hN) hO) hq)
theorem own_callIK (K : own_K p l e R s m args below meth c bytes own nm mx ret Q G Z T L k n h) {index W mx' : Nat} {y : MethodName} {bytes' : ByteArray} {rm : Room} {ps : List FieldType} {rr : Option FieldType} {Qc : Option Value → Heap → Prop} {argsL : List Value} (hkn : s.vm.MethodsKnown ∧ s.vm.FramesKnown below) {a : Addr} (wl : (Cond.methodLink own index y).before a0 Z = true) (wi : (Cond.instanceMethod y).before a0 Z = true) (C : own_CtK l Z y bytes' mx' none [] rm (.ref a :: argsL).toArray h Qc) (hcd : (Cond.code y bytes' mx' none).before a0 Z = true) (hin : (Cond.initialized (y).cls).before a0 Z = true) (hy : y.cls ≠ "java/lang/invoke/MethodHandle" ∧ y.cls ≠ "java/lang/invoke/VarHandle") (hy1 : y.name = "<init>")  (hstk : st = (argsL.reverse ++ .ref a :: rest)) (hpd : parseMethodDescriptor y.desc = some ⟨ps, rr⟩) (hal : argsL.length = ps.length) (hsz : Ls.size = mx) (hW : (rest.map fun v => v.category).sum = W) (hrf : rm.frames + 1 ≤ R.frames) (hrl : W + (mx' + 11) + rm.locals ≤ R.locals) (hrc : k + rm.cells ≤ R.cells) (hrs : n + rm.slots ≤ R.slots) (hd : decode bytes pc = .ok (.invokespecial index, 3)) (hp : pc + 3 = pc')
    (kk : ∀ T' h' L' v, own_K p l e R s m args below meth c bytes own nm mx ret Q G Z T' (L ++ L') (k + rm.cells) (n + rm.slots) h' → Qc v h' → G (T'.setTop (mkF m pc' Ls (v.toList ++ rest)))) : G (T.setTop (mkF m pc Ls st)) := by
  subst hp hstk
  obtain ⟨v, _, ⟨T', L1, k1, n1⟩, -, X', ⟨L', hQ, l1, l2, l3⟩, st'⟩ := K.X.specialBack K.hx (y := y) hy1 K.hown (mvT K.hZ wl) (mvT K.hZ wi) (mvT K.hZ hcd) hy (backOfKL (W := W) (Q := fun v h L => Fr Z.heap.size L ∧ Ext Z.heap h ∧ Qc v h) C K.hZ hcd hin hrf hrl hkn.1 hkn.2) (g := mkF m pc Ls (argsL.reverse ++ .ref a :: rest)) rfl (by rw [K.hml]; exact hsz) (Steps.refl _) (a := a) (argsL := argsL) (rest := rest) (fun sig q => by rw [hpd] at q; cases q; exact hal) rfl (by show 2 * 0 + _ ≤ _; rw [hW]; omega) (hb K.hby hd) (fun _ _ => ⟨rfl, K.eh, hrc, hrs⟩)
  dsimp only [Pt.U, Pt.locs, Pt.cells, Pt.slots] at X' l1 l2 l3 st' hQ
  subst l1 l2 l3
  obtain ⟨hN, hO, hq⟩ := hQ
  exact K.cl _ _ (fun t q => st'.trans q) (kk T' T'.heap L' v (K.nx X' rfl (Fr.app K.fr hN) hO) hq)
theorem own_excL1 (K : own_K p l e R s m args below meth c bytes own nm mx ret Q G Z T L k n h) (hkn : s.vm.MethodsKnown ∧ s.vm.FramesKnown below) (hl : l.stackTraces = true) {rc : String} {links : List Jvm.Free.Exc.Link} {ic j W : Nat} {a : Addr} {msg : Value} (hok : Jvm.Free.Exc.linksOk 1 links = true) (w1 : (Cond.methodLink own ic (Jvm.Free.Exc.ctor 1 (Jvm.Free.Exc.headName links))).before a0 Z = true) (w2 : (Cond.instanceMethod (Jvm.Free.Exc.ctor 1 (Jvm.Free.Exc.headName links))).before a0 Z = true) (wT : (Jvm.Free.Exc.chainTab 1 rc links).before a0 Z = true) (wi : (Cond.instantiable rc j).before a0 Z = true) (r : ∀ d ∈ twoRefs, d.before a0 Z = true) (hT0 : ThS Z s.heap) (E : Exa Z h a rc) (N : Unt h a) (B : Fld Z h a "java/lang/Throwable" "backtrace" "Ljava/lang/Object;" .null) (B2 : Fld Z h a "java/lang/Throwable" "detailMessage" "Ljava/lang/String;" .null) (hmsg : msg.isRef = true) (ha : Z.heap.size ≤ a) (hsz : Ls.size = mx) (hW : (rest.map fun v => v.category).sum = W) (hf : 4 + links.length ≤ R.frames) (hlo : W + (56 + 14 * links.length) ≤ R.locals) (hc : k + 1 ≤ R.cells) (hsl : n + 2752 ≤ R.slots) (hd : decode bytes pc = .ok (.invokespecial ic, 3)) (hp : pc + 3 = pc')
    (kk : ∀ T' h', own_K p l e R s m args below meth c bytes own nm mx ret Q G Z T' (L ++ sixLocs Z a) (k + 1) (n + 2752) h' → Kp Z h h' a → Exa Z h' a rc → Unt h' a → Fld Z h' a "java/lang/Throwable" "detailMessage" "Ljava/lang/String;" msg → G (T'.setTop (mkF m pc' Ls rest))) : G (T.setTop (mkF m pc Ls (msg :: .ref a :: rest))) := by
  subst hp
  obtain ⟨T', h', X', e', Kp', E', U', F', -, -, st'⟩ := excL1 K.X K.hx hl K.hZ K.hown (links := links) hok w1 w2 wT wi r hT0 (ThS.start.ext K.O) hkn.1 hkn.2 K.eh E N B B2 hmsg (g := mkF m pc Ls (msg :: .ref a :: rest)) rfl (by rw [K.hml]; exact hsz) (rest := rest) rfl (hb K.hby hd) hf (by show 2 * 0 + _ + _ ≤ _; rw [hW]; omega) hc hsl
  exact K.cl _ _ st' (kk T' h' (K.nx X' e' (Fr.six K.fr ha) (own_ext_keep K.O (keep_of_kp Kp') (fun x hx => by cases List.mem_singleton.mp hx; exact ha))) Kp' E' U' F')
theorem own_retI (K : own_K p l e R s m args below meth c bytes own nm mx ret Q G Z T L k n h) {z : Int32} (hd : decode bytes pc = .ok (.ireturn, 1)) (hr : ret = some .int) (hc : k ≤ R.cells) (hn : n ≤ R.slots) (hq : Q (some (.int z)) h) : G (T.setTop (mkF m pc Ls (.int z :: rest))) :=
  K.fin T L k n (some (.int z)) _ K.X K.fr (by rw [K.eh]; exact K.O) hc hn (fun q => by rw [K.hret, hr] at q; cases q) (by rw [K.eh]; exact hq) (fun fs hfs => retOut K.X K.hx (K.hret.trans hr) rfl (Or.inl ⟨rfl, Or.inl rfl, _, rfl⟩) (hb K.hby hd) hfs)
theorem own_retJ (K : own_K p l e R s m args below meth c bytes own nm mx ret Q G Z T L k n h) {z : Int64} (hd : decode bytes pc = .ok (.lreturn, 1)) (hr : ret = some .long) (hc : k ≤ R.cells) (hn : n ≤ R.slots) (hq : Q (some (.long z)) h) : G (T.setTop (mkF m pc Ls (.long z :: rest))) :=
  K.fin T L k n (some (.long z)) _ K.X K.fr (by rw [K.eh]; exact K.O) hc hn (fun q => by rw [K.hret, hr] at q; cases q) (by rw [K.eh]; exact hq) (fun fs hfs => retOut K.X K.hx (K.hret.trans hr) rfl (Or.inr (Or.inl ⟨rfl, rfl, _, rfl⟩)) (hb K.hby hd) hfs)
theorem own_retA (K : own_K p l e R s m args below meth c bytes own nm mx ret Q G Z T L k n h) {w : Value} {t : FieldType} (hd : decode bytes pc = .ok (.areturn, 1)) (hr : ret = some t) (ht : t.isReference = true) (hw : w.isRef = true) (hnw : narrow t w = w) (hc : k ≤ R.cells) (hn : n ≤ R.slots) (hq : Q (some (w)) h) : G (T.setTop (mkF m pc Ls (w :: rest))) :=
  K.fin T L k n (some (w)) _ K.X K.fr (by rw [K.eh]; exact K.O) hc hn (fun q => by rw [K.hret, hr] at q; cases q) (by rw [K.eh]; exact hq) (fun fs hfs => retOut K.X K.hx (K.hret.trans hr) hnw (Or.inr (Or.inr (Or.inr (Or.inr ⟨rfl, ht, hw⟩)))) (hb K.hby hd) hfs)
theorem own_retN (K : own_K p l e R s m args below meth c bytes own nm mx ret Q G Z T L k n h) {z z' : Int32} {t : FieldType} (hd : decode bytes pc = .ok (.ireturn, 1)) (hr : ret = some t) (ht : t = .boolean ∨ t = .byte ∨ t = .char ∨ t = .short) (hz : nar t z = z') (hc : k ≤ R.cells) (hn : n ≤ R.slots) (hq : Q (some (.int z')) h) : G (T.setTop (mkF m pc Ls (.int z :: rest))) := by
  subst hz
  exact K.fin T L k n (some (.int (nar t z))) _ K.X K.fr (by rw [K.eh]; exact K.O) hc hn (fun q => by rw [K.hret, hr] at q; cases q) (by rw [K.eh]; exact hq) (fun fs hfs => retN K.X K.hx (K.hret.trans hr) ht (hb K.hby hd) hfs)
theorem own_ret0 (K : own_K p l e R s m args below meth c bytes own nm mx ret Q G Z T L k n h) (hd : decode bytes pc = .ok (.return_, 1)) (hr : ret = none) (hc : k ≤ R.cells) (hn : n ≤ R.slots) (hq : Q none h) : G (T.setTop (mkF m pc Ls [])) :=
  K.fin T L k n none _ K.X K.fr (by rw [K.eh]; exact K.O) hc hn (fun _ => rfl) (by rw [K.eh]; exact hq) (fun fs hfs => K.X.returnOut K.hx (K.hret.trans hr) (hb K.hby hd) hfs)
end Own
section OwnNum
theorem own_lt {i n : Nat} (h : i < n) (hn : n < 2147483648) : Int32.ofNat i < Int32.ofNat n := by
  rw [Int32.lt_iff_toInt_lt, Int32.toInt_ofNat_of_lt (by omega), Int32.toInt_ofNat_of_lt (by omega)]
  omega
theorem own_nlt {i n : Nat} (h : n ≤ i) (hn : i < 2147483648) : ¬ Int32.ofNat i < Int32.ofNat n := by
  rw [Int32.lt_iff_toInt_lt, Int32.toInt_ofNat_of_lt (by omega), Int32.toInt_ofNat_of_lt (by omega)]
  omega
theorem own_nn {i : Nat} (h : i < 2147483648) : ¬ Int32.ofNat i < 0 := by
  rw [Int32.lt_iff_toInt_lt, Int32.toInt_ofNat_of_lt (by omega)]
  show ¬ (i : Int) < 0
  omega
theorem own_clamp {i : Nat} (h : i < 2147483648) : (Int32.ofNat i).toNatClampNeg = i := by
  rw [Int32.toNatClampNeg, Int32.toInt_ofNat_of_lt (by omega)]; rfl
theorem own_one (i : Nat) : Int32.ofNat i + (1 : Int32) = Int32.ofNat (i + 1) := (Int32.ofNat_add i 1).symm
theorem own_ofNat_inj {i n : Nat} (hi : i < 2147483648) (hn : n < 2147483648) (h : Int32.ofNat i = Int32.ofNat n) : i = n := by
  have := congrArg Int32.toInt h
  rw [Int32.toInt_ofNat_of_lt (by omega), Int32.toInt_ofNat_of_lt (by omega)] at this; omega
theorem own_i2c255 (x : Int32) : ¬ (x &&& (255 : Int32)).toUInt32.toUInt16.toUInt32.toInt32 < 0 ∧ (x &&& (255 : Int32)).toUInt32.toUInt16.toUInt32.toInt32 < 256 := by
  have h1 := c_mask x 255 8 (by decide) (by decide)
  have h2 := c_i2c (x &&& 255)
  rw [Int32.lt_iff_toInt_lt, Int32.lt_iff_toInt_lt]
  rw [show (0 : Int32).toInt = 0 from rfl, show (256 : Int32).toInt = 256 from rfl]
  omega
theorem own_nar_char {x : Int32} (h : ¬ x < 0 ∧ x < 65536) : nar .char x = x := by
  have h2 := c_i2c x
  rw [Int32.lt_iff_toInt_lt, Int32.lt_iff_toInt_lt, show (0 : Int32).toInt = 0 from rfl, show (65536 : Int32).toInt = 65536 from rfl] at h
  apply Int32.toInt_inj.mp
  show (x.toUInt32.toUInt16.toUInt32.toInt32).toInt = _
  omega
theorem own_lt_trans {x a b : Int32} (h : x < a) (h2 : a ≤ b) : x < b := by
  rw [Int32.lt_iff_toInt_lt] at *; rw [Int32.le_iff_toInt_le] at h2; omega
theorem own_nar_char8 {x : Int32} (h : ¬ x < 0 ∧ x < 256) : nar .char x = x := own_nar_char ⟨h.1, own_lt_trans h.2 (by decide)⟩
theorem own_n255 {x : Int32} (h : ¬ x < 0 ∧ x < 256) : ¬ (255 : Int32) < x := by
  obtain ⟨h1, h2⟩ := h
  rw [Int32.lt_iff_toInt_lt] at *; rw [show (256 : Int32).toInt = 256 from rfl] at h2; rw [show (255 : Int32).toInt = 255 from rfl]; omega
theorem own_nar_byte (x : Int32) : nar .byte x.toInt8.toInt32 = x.toInt8.toInt32 := by
  show (x.toInt8.toInt32).toInt8.toInt32 = _
  simp
theorem own_shr0 (x : Int32) : x >>> ((0 : Int32) &&& 31) = x := by
  have := c_ishr x 0 0 (by decide)
  apply Int32.toInt_inj.mp
  rw [this]; simp
end OwnNum
section OwnStr
/-- the bytes that a Latin-1 String keeps of its chars -/
def own_by (cs : List Int32) : List Value := cs.map fun c => Value.int c.toInt8.toInt32
theorem own_by_len (cs : List Int32) : (own_by cs).length = cs.length := by simp [own_by]
/-- a String of these chars, none above 255 -/
def own_Str (Z : State) (h : Heap) (a : Addr) (cs : List Int32) : Prop := Exa Z h a "java/lang/String" ∧ Fld Z h a "java/lang/String" "coder" "B" (.int 0) ∧ ∃ (b : Addr) (kb : ClassId), Fld Z h a "java/lang/String" "value" "[B" (.ref b) ∧ Arv Z h b kb .byte (Int32.ofNat cs.length) (own_by cs) (.int 0)
variable {Z : State} {h h' : Heap} {a : Addr} {cs : List Int32}
theorem own_Str.ext (S : own_Str Z h a cs) (E : Ext h h') : own_Str Z h' a cs := by
  obtain ⟨h1, h2, b, kb, h3, h4⟩ := S
  exact ⟨h1.ext E, h2.ext E, b, kb, h3.ext E, h4.ext E⟩
theorem own_Str.exa (S : own_Str Z h a cs) : Exa Z h a "java/lang/String" := S.1
theorem own_fill {cs : List Int32} {i : Nat} (hi : i < cs.length) : ((own_by (cs.take i)) ++ List.replicate (cs.length - i) (Value.int 0)).set i (.int (cs[i]).toInt8.toInt32) = (own_by (cs.take (i + 1))) ++ List.replicate (cs.length - (i + 1)) (Value.int 0) := by
  have hl : (own_by (cs.take i)).length = i := by rw [own_by_len, List.length_take]; omega
  rw [List.set_append_right _ _ (by omega), hl, Nat.sub_self, show cs.length - i = (cs.length - (i + 1)) + 1 by omega, List.replicate_succ, List.set_cons_zero]
  have e : own_by (cs.take (i + 1)) = own_by (cs.take i) ++ [.int (cs[i]).toInt8.toInt32] := by
    unfold own_by; rw [List.map_take, List.map_take, List.take_add_one, List.getElem?_map, List.getElem?_eq_getElem hi]; rfl
  rw [e, List.append_assoc, List.singleton_append]
end OwnStr
section OwnNum3
theorem own_ch_lt {x : Int32} (h : ¬ x < 0 ∧ x < 65536) : 0 ≤ x.toInt ∧ x.toInt < 65536 := by
  rw [Int32.lt_iff_toInt_lt, Int32.lt_iff_toInt_lt, show (0 : Int32).toInt = 0 from rfl, show (65536 : Int32).toInt = 65536 from rfl] at h; omega
theorem own_lo_lt {x : Int32} (h : ¬ x < 0 ∧ x < 256) : 0 ≤ x.toInt ∧ x.toInt < 256 := by
  rw [Int32.lt_iff_toInt_lt, Int32.lt_iff_toInt_lt, show (0 : Int32).toInt = 0 from rfl, show (256 : Int32).toInt = 256 from rfl] at h; omega
theorem own_lo_ch {x : Int32} (h : ¬ x < 0 ∧ x < 256) : ¬ x < 0 ∧ x < 65536 := ⟨h.1, own_lt_trans h.2 (by decide)⟩
theorem own_g255 {x : Int32} (h : ¬ x < 256) : (255 : Int32) < x := by
  rw [Int32.lt_iff_toInt_lt] at *; rw [show (256 : Int32).toInt = 256 from rfl] at h; rw [show (255 : Int32).toInt = 255 from rfl]; omega
/-- a Latin-1 byte, read -/
theorem own_rd1 {x : Int32} (h : ¬ x < 0 ∧ x < 256) : x.toInt8.toInt32 &&& 255 = x := by
  have h1 := c_mask x.toInt8.toInt32 255 8 (by decide) (by decide)
  have h2 := c_i2b x
  have h3 := own_lo_lt h
  apply Int32.toInt_inj.mp
  omega
theorem own_i2c_id {x : Int32} (h : ¬ x < 0 ∧ x < 65536) : x.toUInt32.toUInt16.toUInt32.toInt32 = x := by
  have h2 := c_i2c x
  have h3 := own_ch_lt h
  apply Int32.toInt_inj.mp
  omega
/-- the two bytes of a char -/
def own_b0 (x : Int32) : Int32 := (x >>> ((0 : Int32) &&& 31)).toInt8.toInt32
def own_b1 (x : Int32) : Int32 := (x >>> ((8 : Int32) &&& 31)).toInt8.toInt32
theorem own_rd2 {x : Int32} (h : ¬ x < 0 ∧ x < 65536) : nar .char (((own_b0 x &&& 255) <<< ((0 : Int32) &&& 31)) ||| ((own_b1 x &&& 255) <<< ((8 : Int32) &&& 31))).toUInt32.toUInt16.toUInt32.toInt32 = x := by
  have h3 := own_ch_lt h
  have a1 := c_ishr x 0 0 (by decide)
  have a2 := c_ishr x 8 8 (by decide)
  have b1 := c_i2b (x >>> ((0 : Int32) &&& 31))
  have b2 := c_i2b (x >>> ((8 : Int32) &&& 31))
  have m1 := c_mask (own_b0 x) 255 8 (by decide) (by decide)
  have m2 := c_mask (own_b1 x) 255 8 (by decide) (by decide)
  have s1 := c_ishl (own_b0 x &&& 255) 0 0 (by decide)
  have s2 := c_ishl (own_b1 x &&& 255) 8 8 (by decide)
  have r1 : ∀ y : Int32, -2147483648 ≤ y.toInt ∧ y.toInt < 2147483648 := fun y => ⟨Int32.le_toInt y, Int32.toInt_lt y⟩
  have r2 := r1 ((own_b0 x &&& 255) <<< ((0 : Int32) &&& 31))
  have r3 := r1 ((own_b1 x &&& 255) <<< ((8 : Int32) &&& 31))
  have e0 : own_b0 x = (x >>> ((0 : Int32) &&& 31)).toInt8.toInt32 := rfl
  have e1 : own_b1 x = (x >>> ((8 : Int32) &&& 31)).toInt8.toInt32 := rfl
  rw [← e0] at b1; rw [← e1] at b2
  have o := c_or' ((own_b0 x &&& 255) <<< ((0 : Int32) &&& 31)) ((own_b1 x &&& 255) <<< ((8 : Int32) &&& 31)) 8 (by decide) 256 rfl (by omega) (by omega) (by omega)
  generalize ((own_b0 x &&& 255) <<< ((0 : Int32) &&& 31)) ||| ((own_b1 x &&& 255) <<< ((8 : Int32) &&& 31)) = y at o
  have q := c_i2c y
  have r4 := r1 y
  have q2 := c_i2c y.toUInt32.toUInt16.toUInt32.toInt32
  apply Int32.toInt_inj.mp
  show (y.toUInt32.toUInt16.toUInt32.toInt32.toUInt32.toUInt16.toUInt32.toInt32).toInt = _
  omega
theorem own_nar_b0 (x : Int32) : nar .byte (own_b0 x) = own_b0 x := own_nar_byte _
theorem own_nar_b1 (x : Int32) : nar .byte (own_b1 x) = own_b1 x := own_nar_byte _
theorem own_shl1 {i : Nat} (h : i < 1073741824) : Int32.ofNat i <<< ((1 : Int32) &&& 31) = Int32.ofNat (2 * i) := by
  have := c_ishl (Int32.ofNat i) 1 1 (by decide)
  have r1 : ∀ y : Int32, -2147483648 ≤ y.toInt ∧ y.toInt < 2147483648 := fun y => ⟨Int32.le_toInt y, Int32.toInt_lt y⟩
  have r := r1 (Int32.ofNat i <<< ((1 : Int32) &&& 31))
  rw [Int32.toInt_ofNat_of_lt (by omega)] at this
  apply Int32.toInt_inj.mp
  rw [Int32.toInt_ofNat_of_lt (by omega)]
  omega
theorem own_shl0 (x : Int32) : x <<< ((0 : Int32) &&& 31) = x := by
  have := c_ishl x 0 0 (by decide)
  have r1 : ∀ y : Int32, -2147483648 ≤ y.toInt ∧ y.toInt < 2147483648 := fun y => ⟨Int32.le_toInt y, Int32.toInt_lt y⟩
  have r := r1 (x <<< ((0 : Int32) &&& 31))
  have r2 := r1 x
  apply Int32.toInt_inj.mp
  omega
theorem own_shr1 {i : Nat} (h : i < 1073741824) : Int32.ofNat (2 * i) >>> ((1 : Int32) &&& 31) = Int32.ofNat i := by
  have := c_ishr (Int32.ofNat (2 * i)) 1 1 (by decide)
  rw [Int32.toInt_ofNat_of_lt (by omega)] at this
  apply Int32.toInt_inj.mp
  rw [Int32.toInt_ofNat_of_lt (by omega)]
  omega
theorem own_addN (i j : Nat) : Int32.ofNat i + Int32.ofNat j = Int32.ofNat (i + j) := (Int32.ofNat_add i j).symm
theorem own_subN {i j : Nat} (h : j ≤ i) : Int32.ofNat i - Int32.ofNat j = Int32.ofNat (i - j) := by
  obtain ⟨k, rfl⟩ := Nat.exists_eq_add_of_le h
  rw [← own_addN, Nat.add_sub_cancel_left, Int32.add_comm, Int32.add_sub_cancel]
theorem own_orNN {i j : Nat} (hi : i < 2147483648) (hj : j < 2147483648) : ¬ (Int32.ofNat i ||| Int32.ofNat j) < 0 := by
  have := (c_orS (Int32.ofNat i) (Int32.ofNat j)).1
  rw [Int32.toInt_ofNat_of_lt (by omega), Int32.toInt_ofNat_of_lt (by omega)] at this
  rw [Int32.lt_iff_toInt_lt, show (0 : Int32).toInt = 0 from rfl]
  omega
theorem own_orNN3 {i j k : Nat} (hi : i < 2147483648) (hj : j < 2147483648) (hk : k < 2147483648) : ¬ (Int32.ofNat i ||| Int32.ofNat j ||| Int32.ofNat k) < 0 := by
  have h1 := own_orNN hi hj
  have := (c_orS (Int32.ofNat i ||| Int32.ofNat j) (Int32.ofNat k)).1
  rw [Int32.lt_iff_toInt_lt, show (0 : Int32).toInt = 0 from rfl] at h1
  rw [Int32.toInt_ofNat_of_lt (by omega)] at this
  rw [Int32.lt_iff_toInt_lt, show (0 : Int32).toInt = 0 from rfl]
  omega
theorem own_ne0 {i : Nat} (h : 0 < i) (hn : i < 2147483648) : ¬ Int32.ofNat i = 0 := fun q => by have := own_ofNat_inj hn (by decide : 0 < 2147483648) q; omega
end OwnNum3
section OwnStr3
/-- the bytes of a UTF-16 String's chars -/
def own_by2 : List Int32 → List Value
  | [] => []
  | c :: cs => .int (own_b0 c) :: .int (own_b1 c) :: own_by2 cs
theorem own_by2_len : ∀ cs : List Int32, (own_by2 cs).length = 2 * cs.length
  | [] => rfl
  | c :: cs => by simp only [own_by2, List.length_cons, own_by2_len cs]; omega
theorem own_by2_app : ∀ cs ds : List Int32, own_by2 (cs ++ ds) = own_by2 cs ++ own_by2 ds
  | [], ds => rfl
  | c :: cs, ds => by simp only [own_by2, List.cons_append, own_by2_app cs ds]
theorem own_by_app (cs ds : List Int32) : own_by (cs ++ ds) = own_by cs ++ own_by ds := by simp [own_by]
theorem own_by2_get : ∀ (cs : List Int32) (i : Nat) (h : i < cs.length), (own_by2 cs).getD (2 * i) (.int 0) = .int (own_b0 cs[i]) ∧ (own_by2 cs).getD (2 * i + 1) (.int 0) = .int (own_b1 cs[i])
  | c :: cs, 0, _ => ⟨rfl, rfl⟩
  | c :: cs, i + 1, h => by
    have := own_by2_get cs i (by simpa using h)
    rw [show 2 * (i + 1) = (2 * i) + 1 + 1 by omega]
    exact this
theorem own_by_get (cs : List Int32) (i : Nat) (h : i < cs.length) : (own_by cs).getD i (.int 0) = .int (cs[i]).toInt8.toInt32 := by
  simp [own_by, h]
/-- coder, bytes and how many, by whether the String is UTF-16 -/
def own_cd (u : Bool) : Int32 := cond u 1 0
def own_bs (u : Bool) (cs : List Int32) : List Value := cond u (own_by2 cs) (own_by cs)
def own_bn (u : Bool) (n : Nat) : Nat := cond u (2 * n) n
theorem own_bs_len (u : Bool) (cs : List Int32) : (own_bs u cs).length = own_bn u cs.length := by cases u; exact own_by_len cs; exact own_by2_len cs
theorem own_bs_app (u : Bool) (cs ds : List Int32) : own_bs u (cs ++ ds) = own_bs u cs ++ own_bs u ds := by cases u; exact own_by_app cs ds; exact own_by2_app cs ds
theorem own_bn_le (u : Bool) {n m : Nat} (h : n ≤ m) : own_bn u n ≤ own_bn u m := by cases u <;> simp only [own_bn, cond] <;> omega
theorem own_bn_2 (u : Bool) (n : Nat) : own_bn u n ≤ 2 * n := by cases u <;> simp only [own_bn, cond] <;> omega
/-- each is a char; no char of a Latin-1 one is above 255 -/
def own_ok (u : Bool) (cs : List Int32) : Prop := ∀ c ∈ cs, ¬ c < 0 ∧ c < cond u 65536 256
/-- a String of these chars -/
def own_StrG (Z : State) (h : Heap) (a : Addr) (u : Bool) (cs : List Int32) : Prop := Exa Z h a "java/lang/String" ∧ Fld Z h a "java/lang/String" "coder" "B" (.int (own_cd u)) ∧ ∃ (b : Addr) (kb : ClassId), Fld Z h a "java/lang/String" "value" "[B" (.ref b) ∧ Arv Z h b kb .byte (Int32.ofNat (own_bn u cs.length)) (own_bs u cs) (.int 0)
variable {Z : State} {h h' : Heap} {a : Addr} {cs : List Int32} {u : Bool}
theorem own_StrG.ext (S : own_StrG Z h a u cs) (E : Ext h h') : own_StrG Z h' a u cs := by
  obtain ⟨h1, h2, b, kb, h3, h4⟩ := S
  exact ⟨h1.ext E, h2.ext E, b, kb, h3.ext E, h4.ext E⟩
theorem own_StrG.exa (S : own_StrG Z h a u cs) : Exa Z h a "java/lang/String" := S.1
theorem own_set_end (vs : List Value) (x d : Value) : (vs ++ List.replicate 1 d).set vs.length x = vs ++ [x] := by
  rw [List.set_append_right _ _ (Nat.le_refl _), Nat.sub_self]; rfl
theorem own_set_end2 (vs : List Value) (x y d : Value) : ((vs ++ List.replicate 2 d).set vs.length x).set (vs.length + 1) y = vs ++ [x, y] := by
  rw [List.set_append_right _ _ (Nat.le_refl _), Nat.sub_self, List.set_append_right _ _ (by omega), Nat.add_sub_cancel_left]; rfl
end OwnStr3
section OwnStep3
theorem own_nfS {args : Array Value} {s : State} {C : String} {y1 y2 y : MethodName} (hsel : (Cond.selects C y1 y2).before args s = true) (hc : y2.cls = y.cls) : NotFace s y := fun r0 h0 => by
  obtain ⟨c, r, m, -, -, q3, -, mk, q4, q5⟩ := Cond.selects_spec hsel
  have e1 := findClass_of_methodNamed q3
  have e2 := findClass_of_methodNamed h0
  rw [hc, e2] at e1
  rw [← Option.some.inj e1] at q4
  exact ⟨mk, q4, q5⟩
theorem own_sameSelf {args : Array Value} {s : State} {y : MethodName} (hi : (Cond.instanceMethod y).before args s = true) (hn : NotFace s y) (hx : y.cls ≠ "java/lang/invoke/MethodHandle" ∧ y.cls ≠ "java/lang/invoke/VarHandle") : (Cond.sameMethod y.cls y.cls y.name y.desc).before args s = true := by
  obtain ⟨mk, methM, hnamed, hmethM, -, -⟩ := Cond.instanceMethod_spec hi
  obtain ⟨kr, q1, q2⟩ := hn mk hnamed
  have hf := State.methodFound?_of_named hnamed hx
  have hc := findClass_of_methodNamed hnamed
  have hnamed' : s.methodNamed? ⟨y.cls, y.name, y.desc⟩ = some mk := hnamed
  simp [Cond.before, Cond.holds, Cond.value, hf, hc, hnamed', q1, q2]
theorem own_selfSel {args : Array Value} {s : State} {y : MethodName} (hi : (Cond.instanceMethod y).before args s = true) (hp : (Cond.privateMethod y).before args s = true) (hn : NotFace s y) (hx : y.cls ≠ "java/lang/invoke/MethodHandle" ∧ y.cls ≠ "java/lang/invoke/VarHandle") : (Cond.selects y.cls y y).before args s = true := by
  obtain ⟨mk, methM, hnamed, hmethM, -, -⟩ := Cond.instanceMethod_spec hi
  obtain ⟨kr, q1, q2⟩ := hn mk hnamed
  have hf := State.methodFound?_of_named hnamed hx
  have hc := findClass_of_methodNamed hnamed
  have hs : selectMethod {} s.vm mk.cls mk = .method mk := selectMethod_private hmethM (Cond.privateMethod_at hp mk methM hnamed hmethM)
  simp [Cond.before, Cond.holds, Cond.value, hf, hc, hnamed, q1, q2, hs]
variable {p : Program} {l : Launch} {e : Env} {R : Room} {s : State} {m : MethodId} {args : Array Value} {below : List Frame} {meth : Method} {c : Code} {bytes : ByteArray} {own nm : String} {mx : Nat} {ret : Option FieldType} {Q : Option Value → Heap → Prop} {G : State → Prop} {Z T T' : State} {L L' : List Loc} {k n k' n' : Nat} {h h' h1 h2 : Heap} {a0 : Array Value} {pc pc' : Nat} {Ls Ls' : Array Slot} {st rest : List Value}
theorem own_lookup (K : own_K p l e R s m args below meth c bytes own nm mx ret Q G Z T L k n h) {df off : Int} {ps : Array (Int × Int)} {ln : Nat} {i : Int32} (hd : decode bytes pc = .ok (.lookupswitch df ps, ln)) (hso : (ps.toList.zip ps.toList.tail).all (fun q => decide (q.1.1 < q.2.1)) = true) (ho : lookupswitch.offset ps.toList df i.toInt = off) (h0 : 0 ≤ (pc : Int) + off) (hp : ((pc : Int) + off).toNat = pc') (kk : G (T.setTop (mkF m pc' Ls rest))) : G (T.setTop (mkF m pc Ls (.int i :: rest))) := by
  subst hp ho
  refine K.cl _ _ (fun t q => ?_) kk
  have hh := K.here
  have hd' : decode c.code pc = .ok (.lookupswitch df ps, ln) := by rw [K.hby]; exact hd
  have hz : 0 ≤ ((mkF m pc Ls (.int i :: rest)).pc : Int) + lookupswitch.offset ps.toList df i.toInt := h0
  jvm_step hh [hh.top, K.hx, hd', lookupswitch.wp_chain, hz, mkF]
  exact ⟨fun a b a1 b1 hm => of_decide_eq_true (List.all_eq_true.mp hso _ hm), q⟩
theorem own_arraycopy (K : own_K p l e R s m args below meth c bytes own nm mx ret Q G Z T L k n h) {index W : Nat} (w1 : (Cond.methodLink own index Jvm.Stand.acN).before a0 Z = true) (w2 : (Cond.native Jvm.Stand.acN).before a0 Z = true) (w3 : (Cond.static Jvm.Stand.acN).before a0 Z = true) (w4 : (Cond.initialized "java/lang/System").before a0 Z = true)
    {a b : Addr} {ka kb : ClassId} {z z' : Int32} {vs vd us : List Value} {dv dd : Value} {sp dp nn : Nat} (A : Arv Z h a ka .byte z vs dv) (B : Arv Z h b kb .byte z' vd dd) (hsp : sp < 2147483648) (hdp : dp < 2147483648) (hnn : nn < 2147483648) (h4 : sp + nn ≤ z.toNatClampNeg) (h5 : dp + nn ≤ z'.toNatClampNeg) (hus : (List.range nn).map (fun i => vs.getD (sp + i) dv) = us) (hl : dp + nn ≤ vd.length) (gb : Z.heap.size ≤ b) (hsz : Ls.size = mx) (hW : (rest.map fun v => v.category).sum = W) (hf : 1 ≤ R.frames) (hlo : W + (nativeFrameWords "java/lang/System" "arraycopy" 5 + 11) ≤ R.locals) (hd : decode bytes pc = .ok (.invokestatic index, 3)) (hp : pc + 3 = pc')
    (kk : ∀ T' h' L', own_K p l e R s m args below meth c bytes own nm mx ret Q G Z T' L' k n h' → Keep h h' [b] → Arv Z h' b kb .byte z' (vd.take dp ++ us ++ vd.drop (dp + nn)) dd → G (T'.setTop (mkF m pc' Ls rest))) : G (T.setTop (mkF m pc Ls (.int (Int32.ofNat nn) :: .int (Int32.ofNat dp) :: .ref b :: .int (Int32.ofNat sp) :: .ref a :: rest))) := by
  subst hp hus
  obtain ⟨T', h', L', X', e', N', Kp, V, st'⟩ := cpA K.X K.hx K.hZ K.hown w1 w2 w3 w4 K.eh A B (sp := Int32.ofNat sp) (dp := Int32.ofNat dp) (nn := Int32.ofNat nn) (us := (List.range nn).map fun i => vs.getD (sp + i) dv) (Or.inl ⟨rfl, rfl⟩) (own_nn hsp) (own_nn hdp) (own_nn hnn) (by rw [own_clamp hsp, own_clamp hnn]; exact h4) (by rw [own_clamp hdp, own_clamp hnn]; exact h5) (by rw [own_clamp hsp, own_clamp hnn]) (by rw [own_clamp hdp, own_clamp hnn]; exact hl) K.fr gb (g := mkF m pc Ls (.int (Int32.ofNat nn) :: .int (Int32.ofNat dp) :: .ref b :: .int (Int32.ofNat sp) :: .ref a :: rest)) rfl (by rw [K.hml]; exact hsz) (rest := rest) rfl (hb K.hby hd) hf (W := W) (by show 2 * 0 + _ ≤ _; rw [hW]; omega) hlo
  rw [own_clamp hdp, own_clamp hnn] at V
  exact K.cl _ _ st' (kk T' h' L' (K.nx X' e' N' (own_ext_keep K.O Kp (fun x hx => by cases List.mem_singleton.mp hx; exact gb))) Kp V)
end OwnStep3
section OwnAc
theorem own_ext_of_keep' {h h1 : Heap} (E : Ext h h1) (ws : List Addr) : Keep h h1 ws := (Keep.refl h ws).ext E
theorem own_acw : nativeFrameWords "java/lang/System" "arraycopy" 5 + 11 ≤ 40 := by decide +kernel
end OwnAc
section OwnSta
theorem own_staR {a0 : Array Value} {Z : State} {C F D : String} (q : (Jvm.Cond.isRef (.static C F D)).before a0 Z = true) (w1 : (Cond.initializedFor C F D).before a0 Z = true) : ∃ u, Sta Z Z.heap C F D u ∧ u.isRef = true := by
  obtain ⟨u, e, r⟩ := isR_v (Cond.before_iff.mp q)
  exact ⟨u, Sta.start e (Or.inl w1), r⟩
theorem own_staI {a0 : Array Value} {Z : State} {C F D : String} {v : Int32} (q : (Jvm.Cond.eq (.static C F D) (.int v)).before a0 Z = true) (w1 : (Cond.initializedFor C F D).before a0 Z = true) : Sta Z Z.heap C F D (.int v) := by
  exact Sta.start (eqv_i (Term.int_eval v) (Cond.before_iff.mp q)) (Or.inl w1)
end OwnSta

section OwnW
open Jvm.Free.SB Jvm.Free.SBG
/-- a wide contract: kc: the constants' invariant is handed on at the end; kn: known frames are asked -/
def own_CtW (l : Launch) (Z : State) (EL : List (String × Nat)) (kc kn : Bool) (y : MethodName) (bytes : ByteArray) (mx : Nat) (ret : Option FieldType) (ws : List Jvm.Cond) (rm : Room) (as' : Array Value) (h0 : Heap) (Q : Option Value → Heap → Prop) : Prop :=
  MetFree l y (head1 (Jvm.Cond.code y bytes mx ret :: ws) rm) (fun a U => a = as' ∧ Z.Warmed39 U.vm ∧ U.heap = h0 ∧ CHv Z EL U.vm h0) (fun _ _ bl s _ => kn = true → s.vm.MethodsKnown ∧ s.vm.FramesKnown bl) (fun _ U o U' => ∃ v L, o = .returned v ∧ (Fr Z.heap.size L ∧ Ext Z.heap U'.heap ∧ Q v U'.heap) ∧ (kc = true → CHr Z EL U.vm U.heap U'.vm U'.heap) ∧ ReturnedEndW U o U' L rm.cells rm.slots)
/-- what the body's end asks where the tables stand at vm -/
def own_QW (Z : State) (EL : List (String × Nat)) (kc : Bool) (vm0 : Vm) (h0 : Heap) (vm : Vm) (k1 : Nat) (Q : Option Value → Heap → Prop) : Option Value → Heap → Prop := fun v h => (Q v h ∧ k1 ≤ h.size) ∧ (kc = true → CHr Z EL vm0 h0 vm h)
def own_FW (p : Program) (l : Launch) (e : Env) (R : Room) (s : State) (m : MethodId) (args : Array Value) (below : List Frame) (meth : Method) (c : Code) (Q : Option Value → Heap → Prop) (G : State → Prop) (Z : State) (EL : List (String × Nat)) (kc : Bool) (vm0 : Vm) (h0 : Heap) : Prop :=
  ∀ (vm : Vm) (k1 : Nat), s.Since vm k1 → Z.Warmed39 vm → own_Fin p l e R (s.setVm vm) m args below meth c (own_QW Z EL kc vm0 h0 vm k1 Q) G Z
/-- where a walk that may intern stands -/
def own_KW (p : Program) (l : Launch) (e : Env) (R : Room) (s : State) (m : MethodId) (args : Array Value) (below : List Frame) (meth : Method) (c : Code) (bytes : ByteArray) (own nm : String) (mx : Nat) (ret : Option FieldType) (Q : Option Value → Heap → Prop) (G : State → Prop) (Z : State) (EL : List (String × Nat)) (kc : Bool) (vm0 : Vm) (h0 : Heap) (vm : Vm) (k1 : Nat) (T : State) (L : List Loc) (k n : Nat) (h : Heap) : Prop :=
  own_K p l e R (s.setVm vm) m args below meth c bytes own nm mx ret (own_QW Z EL kc vm0 h0 vm k1 Q) G Z T L k n h ∧ own_FW p l e R s m args below meth c Q G Z EL kc vm0 h0 ∧ s.Since vm k1 ∧ k1 ≤ h.size ∧ CHr Z EL vm0 h0 vm h
variable {p : Program} {l : Launch} {e : Env} {R : Room} {s : State} {m : MethodId} {args : Array Value} {below : List Frame} {meth : Method} {c : Code} {bytes : ByteArray} {own nm : String} {mx : Nat} {ret : Option FieldType} {Q : Option Value → Heap → Prop} {G : State → Prop} {Z T T' : State} {L L' : List Loc} {k n k' n' : Nat} {h h' h0 h1 h2 : Heap} {a0 : Array Value} {pc pc' : Nat} {Ls Ls' : Array Slot} {st rest : List Value} {EL : List (String × Nat)} {kc : Bool} {vm0 vm vm' : Vm} {k1 : Nat}
theorem own_KW.K (W : own_KW p l e R s m args below meth c bytes own nm mx ret Q G Z EL kc vm0 h0 vm k1 T L k n h) : own_K p l e R (s.setVm vm) m args below meth c bytes own nm mx ret (own_QW Z EL kc vm0 h0 vm k1 Q) G Z T L k n h := W.1
theorem own_KW.F (W : own_KW p l e R s m args below meth c bytes own nm mx ret Q G Z EL kc vm0 h0 vm k1 T L k n h) : own_FW p l e R s m args below meth c Q G Z EL kc vm0 h0 := W.2.1
theorem own_KW.S (W : own_KW p l e R s m args below meth c bytes own nm mx ret Q G Z EL kc vm0 h0 vm k1 T L k n h) : s.Since vm k1 := W.2.2.1
theorem own_KW.le (W : own_KW p l e R s m args below meth c bytes own nm mx ret Q G Z EL kc vm0 h0 vm k1 T L k n h) : k1 ≤ h.size := W.2.2.2.1
theorem own_KW.C (W : own_KW p l e R s m args below meth c bytes own nm mx ret Q G Z EL kc vm0 h0 vm k1 T L k n h) : CHr Z EL vm0 h0 vm h := W.2.2.2.2
theorem own_KW.hZ (W : own_KW p l e R s m args below meth c bytes own nm mx ret Q G Z EL kc vm0 h0 vm k1 T L k n h) : Z.Warmed39 vm := W.1.hZ
/-- narrow steps behind: the heap has gone on as the constants' invariant allows -/
theorem own_KW.nx (W : own_KW p l e R s m args below meth c bytes own nm mx ret Q G Z EL kc vm0 h0 vm k1 T L k n h) (K' : own_K p l e R (s.setVm vm) m args below meth c bytes own nm mx ret (own_QW Z EL kc vm0 h0 vm k1 Q) G Z T' L' k' n' h') (C' : CHr Z EL vm h vm h') : own_KW p l e R s m args below meth c bytes own nm mx ret Q G Z EL kc vm0 h0 vm k1 T' L' k' n' h' :=
  ⟨K', W.F, W.S, Nat.le_trans W.le C'.2.1, W.C.trans C'⟩
theorem own_KW.same (W : own_KW p l e R s m args below meth c bytes own nm mx ret Q G Z EL kc vm0 h0 vm k1 T L k n h) (K' : own_K p l e R (s.setVm vm) m args below meth c bytes own nm mx ret (own_QW Z EL kc vm0 h0 vm k1 Q) G Z T' L' k' n' h) : own_KW p l e R s m args below meth c bytes own nm mx ret Q G Z EL kc vm0 h0 vm k1 T' L' k' n' h := W.nx K' (CHr.refl W.C.1)
theorem own_KW.ext (W : own_KW p l e R s m args below meth c bytes own nm mx ret Q G Z EL kc vm0 h0 vm k1 T L k n h) (K' : own_K p l e R (s.setVm vm) m args below meth c bytes own nm mx ret (own_QW Z EL kc vm0 h0 vm k1 Q) G Z T' L' k' n' h') (E : Ext h h') : own_KW p l e R s m args below meth c bytes own nm mx ret Q G Z EL kc vm0 h0 vm k1 T' L' k' n' h' := W.nx K' (CHr.ext E W.C.1)
theorem own_KW.wr (W : own_KW p l e R s m args below meth c bytes own nm mx ret Q G Z EL kc vm0 h0 vm k1 T L k n h) (K' : own_K p l e R (s.setVm vm) m args below meth c bytes own nm mx ret (own_QW Z EL kc vm0 h0 vm k1 Q) G Z T' L' k' n' h') {a : Addr} {sl : Nat} {v : Value} (X : Wr h h' a sl v) (S : Safe Z EL vm h a) : own_KW p l e R s m args below meth c bytes own nm mx ret Q G Z EL kc vm0 h0 vm k1 T' L' k' n' h' := W.nx K' (CHr.wr X S W.C.1)
theorem own_KW.keep (W : own_KW p l e R s m args below meth c bytes own nm mx ret Q G Z EL kc vm0 h0 vm k1 T L k n h) (K' : own_K p l e R (s.setVm vm) m args below meth c bytes own nm mx ret (own_QW Z EL kc vm0 h0 vm k1 Q) G Z T' L' k' n' h') {ws : List Addr} (X : Keep h h' ws) (S : ∀ x ∈ ws, Safe Z EL vm h x) : own_KW p l e R s m args below meth c bytes own nm mx ret Q G Z EL kc vm0 h0 vm k1 T' L' k' n' h' := W.nx K' (CHr.keep X S W.C.1)
theorem own_bodyW {y : MethodName} {ws : List Jvm.Cond} {rm : Room} {as' : Array Value} {kn : Bool} (hEL : EW Z a0 EL) (hpl : plainFor y = true) (hef : ∀ m, entryFrame m as' mx = mkF m 0 Ls []) (O0 : Ext Z.heap h0)
    (H : ∀ (p : Program) (e : Env) (s : State) (m : MethodId) (below : List Frame) (meth : Method) (c : Code) (T : State) (G : State → Prop), (kn = true → s.vm.MethodsKnown ∧ s.vm.FramesKnown below) → s.heap = h0 → own_KW p l e rm s m as' below meth c bytes y.cls y.name mx ret Q G Z EL kc s.vm h0 s.vm 0 T [] 0 0 h0 → G (T.setTop (mkF m 0 Ls []))) :
    own_CtW l Z EL kc kn y bytes mx ret ws rm as' h0 Q := by
  refine MetFree.of_bodySF hpl hisR ?_
  intro p e s m args below meth c s₁ Bd hml0 hP hK
  obtain ⟨rfl, hZ, hh, hC⟩ := hP
  have X0 : Stand p l e rm s m args below meth c s₁ [] 0 0 := Stand.of_body Bd
  have e0 : s₁.heap = h0 := by rw [← hh, Bd.state]; rfl
  have hlocks := BodyLoose.notSynchronized Bd
  have hS0 : s.Since s.vm 0 := (State.WarmedH.refl s).since 0
  have q := H p e s m below meth c s₁ (fun S => ∃ (vm : Vm) (k1 : Nat) (T : State) (L : List Loc) (k n : Nat) (v : Option Value), s.Since vm k1 ∧ Z.Warmed39 vm ∧ Stand p l e rm (s.setVm vm) m args below meth c T L k n ∧ Fr Z.heap.size L ∧ Ext Z.heap T.heap ∧ k ≤ rm.cells ∧ n ≤ rm.slots ∧ (meth.sig.returnType = none → v = none) ∧ own_QW Z EL kc s.vm h0 vm k1 Q v T.heap ∧ own_Out p e m below T v S) hK hh
    ⟨⟨X0, Bd.exec, Bd.bytes, hml0, findClass_of_methodNamed Bd.named, (name_of_methodNamed Bd.named Bd.method).1, Bd.returns, hZ, e0, Fr.nil _, O0, fun S S' hs ⟨vmx, k1, T, L, k, n, v, g1, g2, g3, g4, g5, g6, g7, g8, g9, g10⟩ => ⟨vmx, k1, T, L, k, n, v, g1, g2, g3, g4, g5, g6, g7, g8, g9, fun fs hfs => hs _ (g10 fs hfs)⟩, fun T L k n v S g1 g2 g3 g4 g5 g6 g7 g8 => ⟨s.vm, 0, T, L, k, n, v, hS0, hZ, g1, g2, g3, g4, g5, g6, g7, g8⟩⟩,
      fun vmx k1 hS hZ' T L k n v S g1 g2 g3 g4 g5 g6 g7 g8 => ⟨vmx, k1, T, L, k, n, v, hS, hZ', g1, g2, g3, g4, g5, g6, g7, g8⟩, hS0, Nat.zero_le _, CHr.refl hC⟩
  obtain ⟨vmx, k1, T, L, k, n, v, hS, hZ', X, N, O, hk, hn, hv, ⟨⟨hQ, hle⟩, hCH⟩, hout⟩ := q
  obtain ⟨fs, hr, hrun, hended, hend⟩ := X.leaveW hS hle (v := v) hv
  refine ⟨_, _, castTop (hef m) (hout fs hr), hrun, hended, _, _, rfl, ⟨N, O, hQ⟩, fun q => ?_, hend.1, hend.2.1, hend.2.2.1, hend.2.2.2.mono hk hn⟩
  have hC1 := hCH q
  have := CHv.at (h := T.heap) X hZ' hEL hC1.1
  rw [hh]
  exact hC1.trans this
/-- ldc of any String constant, unread -/
theorem own_ldcO (W : own_KW p l e R s m args below meth c bytes own nm mx ret Q G Z EL kc vm0 h0 vm k1 T L k n h) (hEL : EW Z a0 EL) {text : String} {index nn : Nat} (w : (Cond.stringLink own index text).before a0 Z = true) (wS : ∀ a ∈ Bundle.stringAtoms, a.before a0 Z = true) (hn : 4 * text.toList.length ≤ nn) (hbig : nn ≤ 536870912) (hc : k + 2 ≤ R.cells) (hl : n + (nn + 4) ≤ R.slots) (hd : decode bytes pc = .ok (.ldc index, 2)) (hp : pc + 2 = pc')
    (kk : ∀ T' h' k1' (a : Addr), own_KW p l e R s m args below meth c bytes own nm mx ret Q G Z EL kc vm0 h0 T'.vm k1' T' L (k + 2) (n + (nn + 4)) h' → Ext h h' → CHr Z EL vm h T'.vm h' → G (T'.setTop (mkF m pc' Ls (.ref a :: st)))) : G (T.setTop (mkF m pc Ls st)) := by
  subst hp
  obtain ⟨a, T', h', k1', X', e', E', S', le', hZ', hown', C', -, st'⟩ := ldcOH W.K.X W.K.hx W.hZ W.K.hown w wS W.K.eh W.S W.le hEL W.C.1 (g := mkF m pc Ls st) rfl (hb W.K.hby hd) hn hbig hc hl
  exact W.K.cl _ _ st' (kk T' h' k1' a ⟨⟨X', W.K.hx, W.K.hby, W.K.hml, hown', W.K.hnm, W.K.hret, hZ', e', W.K.fr, own_ext_trans W.K.O E', W.K.cl, W.F _ _ S' hZ'⟩, W.F, S', le', W.C.trans C'⟩ E' C')
/-- ldc of a constant of EL, its text read -/
theorem own_ldcC (W : own_KW p l e R s m args below meth c bytes own nm mx ret Q G Z EL kc vm0 h0 vm k1 T L k n h) (hEL : EW Z a0 EL) {text : String} {index nn : Nat} (hmem : (own, index) ∈ EL) (w : (Cond.stringLink own index text).before a0 Z = true) (wS : ∀ a ∈ Bundle.stringAtoms, a.before a0 Z = true) {vs : List Value} {z : Int32} (ht : (∀ c ∈ text.toList, c.toNat < 256) ∧ text.toList.map (fun c => Value.int (Jvm.Lit.byteI c.toNat.toUInt16)) = vs) (hz : ¬ z < 0) (hlv : z.toNatClampNeg = vs.length) (hn : 4 * text.toList.length ≤ nn) (hbig : nn ≤ 536870912) (hc : k + 2 ≤ R.cells) (hl : n + (nn + 4) ≤ R.slots) (hd : decode bytes pc = .ok (.ldc index, 2)) (hp : pc + 2 = pc')
    (kk : ∀ T' h' k1' (a b : Addr) (kb : ClassId), own_KW p l e R s m args below meth c bytes own nm mx ret Q G Z EL kc vm0 h0 T'.vm k1' T' L (k + 2) (n + (nn + 4)) h' → Ext h h' → CHr Z EL vm h T'.vm h' → Exa Z h' a "java/lang/String" → Fld Z h' a "java/lang/String" "coder" "B" (.int 0) → Fld Z h' a "java/lang/String" "value" "[B" (.ref b) → Arv Z h' b kb .byte z vs (.int 0) → (∀ x, Safe Z EL T'.vm h' x → x ≠ a ∧ x ≠ b) → G (T'.setTop (mkF m pc' Ls (.ref a :: st)))) : G (T.setTop (mkF m pc Ls st)) := by
  subst hp
  obtain ⟨a, T', h', k1', b, kb, X', e', E', S', le', hZ', hown', A1, A2, A3, A4, -, -, C', -, sf, st'⟩ := ldcCH W.K.X W.K.hx W.hZ W.K.hown w wS W.K.eh W.S W.le hEL hmem W.C.1 ht hz hlv (g := mkF m pc Ls st) rfl (hb W.K.hby hd) hn hbig hc hl
  exact W.K.cl _ _ st' (kk T' h' k1' a b kb ⟨⟨X', W.K.hx, W.K.hby, W.K.hml, hown', W.K.hnm, W.K.hret, hZ', e', W.K.fr, own_ext_trans W.K.O E', W.K.cl, W.F _ _ S' hZ'⟩, W.F, S', le', W.C.trans C'⟩ E' C' A1 A2 A3 A4 sf)
theorem own_backW {y : MethodName} {bytes' : ByteArray} {mx' : Nat} {ret' : Option FieldType} {rm : Room} {len Wd : Nat} {as' : Array Value} {Qc : Option Value → Heap → Prop} {kn : Bool} (C : own_CtW l Z EL true kn y bytes' mx' ret' [] rm as' h Qc) (hZ : Z.Warmed39 vm) (wc : (Cond.code y bytes' mx' ret').before a0 Z = true) (wz : (Cond.initialized y.cls).before a0 Z = true) (hf : rm.frames + 1 ≤ R.frames) (hl : Wd + (mx' + 11) + rm.locals ≤ R.locals) (hEL : EW Z a0 EL) (H : CHv Z EL vm h) (hkn : kn = true → vm.MethodsKnown ∧ vm.FramesKnown below) :
    BackS l R p e below (s.setVm vm) args y len Wd (fun A a => a = as' ∧ A.U.heap = h ∧ A.cells + rm.cells ≤ R.cells ∧ A.slots + rm.slots ≤ R.slots)
      (fun A _ v B => ∃ L, (Fr Z.heap.size L ∧ Ext Z.heap B.U.heap ∧ Qc v B.U.heap) ∧ B.locs = A.locs ++ L ∧ B.cells = A.cells + rm.cells ∧ B.slots = A.slots + rm.slots ∧ CHr Z EL vm h B.U.vm B.U.heap) := by
  cases kn with
  | false =>
    refine backOfSH (Q := fun v h L => Fr Z.heap.size L ∧ Ext Z.heap h ∧ Qc v h) (fun p e q1 q2 q3 s m args below q4 q5 q6 _ => ?_) hZ wc wz hf hl hEL H
    obtain ⟨n, o, z1, z2, z3, v, L, z4, z5, z6, z7⟩ := C p e q1 q2 q3 s m args below q4 q5 q6 (fun q => nomatch q)
    exact ⟨n, o, z1, z2, z3, v, L, z4, z5, z6 rfl, z7⟩
  | true =>
    refine backOfSKH (Q := fun v h L => Fr Z.heap.size L ∧ Ext Z.heap h ∧ Qc v h) (fun p e q1 q2 q3 s m args below q4 q5 q6 q7 => ?_) hZ wc wz hf hl hEL H (hkn rfl).1 (hkn rfl).2
    obtain ⟨n, o, z1, z2, z3, v, L, z4, z5, z6, z7⟩ := C p e q1 q2 q3 s m args below q4 q5 q6 (fun _ => q7)
    exact ⟨n, o, z1, z2, z3, v, L, z4, z5, z6 rfl, z7⟩

theorem own_callSW (W : own_KW p l e R s m args below meth c bytes own nm mx ret Q G Z EL kc vm0 h0 vm k1 T L k n h) (hEL : EW Z a0 EL) {index Wd mx' : Nat} {kn : Bool} {y : MethodName} {bytes' : ByteArray} {ret' : Option FieldType} {rm : Room} {ps : List FieldType} {rr : Option FieldType} {Qc : Option Value → Heap → Prop} {argsL : List Value} (hkn : kn = true → vm.MethodsKnown ∧ vm.FramesKnown below) (wl : (Cond.methodLink own index y).before a0 Z = true) (ws : (Cond.static y).before a0 Z = true) (C : own_CtW l Z EL true kn y bytes' mx' ret' [] rm argsL.toArray h Qc) (hcd : (Cond.code y bytes' mx' ret').before a0 Z = true) (hin : (Cond.initialized y.cls).before a0 Z = true) (hy : y.cls ≠ "java/lang/invoke/MethodHandle" ∧ y.cls ≠ "java/lang/invoke/VarHandle") (hstk : st = (argsL.reverse ++ rest)) (hpd : parseMethodDescriptor y.desc = some ⟨ps, rr⟩) (hal : argsL.length = ps.length) (hsz : Ls.size = mx) (hW : (rest.map fun v => v.category).sum = Wd) (hrf : rm.frames + 1 ≤ R.frames) (hrl : Wd + (mx' + 11) + rm.locals ≤ R.locals) (hrc : k + rm.cells ≤ R.cells) (hrs : n + rm.slots ≤ R.slots) (hd : decode bytes pc = .ok (.invokestatic index, 3)) (hp : pc + 3 = pc')
    (kk : ∀ T' h' L' v k1', own_KW p l e R s m args below meth c bytes own nm mx ret Q G Z EL kc vm0 h0 T'.vm k1' T' (L ++ L') (k + rm.cells) (n + rm.slots) h' → CHr Z EL vm h T'.vm h' → Qc v h' → G (T'.setTop (mkF m pc' Ls (v.toList ++ rest)))) : G (T.setTop (mkF m pc Ls st)) := by
  subst hp hstk
  obtain ⟨v, _, ⟨T', L1, k2, n2⟩, -, X', S', gr, ⟨L', hQ, l1, l2, l3, C'⟩, st'⟩ := callSS W.K.X W.K.hx (y := y) W.K.hown (mvT W.K.hZ wl) (mvT W.K.hZ ws) (mvT W.K.hZ hin) (mvT W.K.hZ hcd) hy (own_backW (Wd := Wd) C W.hZ hcd hin hrf hrl hEL W.C.1 hkn) (g := mkF m pc Ls (argsL.reverse ++ rest)) rfl (by rw [W.K.hml]; exact hsz) (argsL := argsL) (rest := rest) (fun sig q => by rw [hpd] at q; cases q; exact hal) rfl (by show 2 * 0 + _ ≤ _; rw [hW]; omega) (hb W.K.hby hd) (fun _ _ => ⟨rfl, W.K.eh, hrc, hrs⟩)
  dsimp only [Pt.U, Pt.locs, Pt.cells, Pt.slots] at X' S' gr l1 l2 l3 st' hQ C'
  subst l1 l2 l3
  obtain ⟨hN, hO, hq⟩ := hQ
  have hZ' : Z.Warmed39 T'.vm := State.Warmed39.trans (t := s.setVm vm) W.hZ S'.1
  have S2 : s.Since T'.vm T'.heap.size := W.S.trans S' (Nat.le_trans W.le (by rw [← W.K.eh]; exact gr))
  have hown' : (s.setVm T'.vm).vm.findClass own = some m.cls := (S'.1.alike.findClass _ _).trans W.K.hown
  exact W.K.cl _ _ (fun t q => st'.trans q) (kk T' T'.heap L' v T'.heap.size ⟨⟨X', W.K.hx, W.K.hby, W.K.hml, hown', W.K.hnm, W.K.hret, hZ', rfl, Fr.app W.K.fr hN, hO, W.K.cl, W.F _ _ S2 hZ'⟩, W.F, S2, Nat.le_refl _, W.C.trans C'⟩ C' hq)
theorem own_callIW (W : own_KW p l e R s m args below meth c bytes own nm mx ret Q G Z EL kc vm0 h0 vm k1 T L k n h) (hEL : EW Z a0 EL) {index Wd mx' : Nat} {kn : Bool} {y : MethodName} {bytes' : ByteArray} {rm : Room} {ps : List FieldType} {rr : Option FieldType} {Qc : Option Value → Heap → Prop} {argsL : List Value} (hkn : kn = true → vm.MethodsKnown ∧ vm.FramesKnown below) {a : Addr} (wl : (Cond.methodLink own index y).before a0 Z = true) (wi : (Cond.instanceMethod y).before a0 Z = true) (C : own_CtW l Z EL true kn y bytes' mx' none [] rm (.ref a :: argsL).toArray h Qc) (hcd : (Cond.code y bytes' mx' none).before a0 Z = true) (hin : (Cond.initialized y.cls).before a0 Z = true) (hy : y.cls ≠ "java/lang/invoke/MethodHandle" ∧ y.cls ≠ "java/lang/invoke/VarHandle") (hy1 : y.name = "<init>") (hstk : st = (argsL.reverse ++ .ref a :: rest)) (hpd : parseMethodDescriptor y.desc = some ⟨ps, rr⟩) (hal : argsL.length = ps.length) (hsz : Ls.size = mx) (hW : (rest.map fun v => v.category).sum = Wd) (hrf : rm.frames + 1 ≤ R.frames) (hrl : Wd + (mx' + 11) + rm.locals ≤ R.locals) (hrc : k + rm.cells ≤ R.cells) (hrs : n + rm.slots ≤ R.slots) (hd : decode bytes pc = .ok (.invokespecial index, 3)) (hp : pc + 3 = pc')
    (kk : ∀ T' h' L' v k1', own_KW p l e R s m args below meth c bytes own nm mx ret Q G Z EL kc vm0 h0 T'.vm k1' T' (L ++ L') (k + rm.cells) (n + rm.slots) h' → CHr Z EL vm h T'.vm h' → Qc v h' → G (T'.setTop (mkF m pc' Ls (v.toList ++ rest)))) : G (T.setTop (mkF m pc Ls st)) := by
  subst hp hstk
  obtain ⟨v, _, ⟨T', L1, k2, n2⟩, -, X', S', gr, ⟨L', hQ, l1, l2, l3, C'⟩, st'⟩ := W.K.X.specialBackS W.K.hx (y := y) hy1 W.K.hown (mvT W.K.hZ wl) (mvT W.K.hZ wi) (mvT W.K.hZ hcd) hy (own_backW (Wd := Wd) C W.hZ hcd hin hrf hrl hEL W.C.1 hkn) (g := mkF m pc Ls (argsL.reverse ++ .ref a :: rest)) rfl (by rw [W.K.hml]; exact hsz) (Steps.refl _) (a := a) (argsL := argsL) (rest := rest) (fun sig q => by rw [hpd] at q; cases q; exact hal) rfl (by show 2 * 0 + _ ≤ _; rw [hW]; omega) (hb W.K.hby hd) (fun _ _ => ⟨rfl, W.K.eh, hrc, hrs⟩)
  dsimp only [Pt.U, Pt.locs, Pt.cells, Pt.slots] at X' S' gr l1 l2 l3 st' hQ C'
  subst l1 l2 l3
  obtain ⟨hN, hO, hq⟩ := hQ
  have hZ' : Z.Warmed39 T'.vm := State.Warmed39.trans (t := s.setVm vm) W.hZ S'.1
  have S2 : s.Since T'.vm T'.heap.size := W.S.trans S' (Nat.le_trans W.le (by rw [← W.K.eh]; exact gr))
  have hown' : (s.setVm T'.vm).vm.findClass own = some m.cls := (S'.1.alike.findClass _ _).trans W.K.hown
  exact W.K.cl _ _ (fun t q => st'.trans q) (kk T' T'.heap L' v T'.heap.size ⟨⟨X', W.K.hx, W.K.hby, W.K.hml, hown', W.K.hnm, W.K.hret, hZ', rfl, Fr.app W.K.fr hN, hO, W.K.cl, W.F _ _ S2 hZ'⟩, W.F, S2, Nat.le_refl _, W.C.trans C'⟩ C' hq)
theorem own_callVW (W : own_KW p l e R s m args below meth c bytes own nm mx ret Q G Z EL kc vm0 h0 vm k1 T L k n h) (hEL : EW Z a0 EL) {index Wd mx' : Nat} {kn : Bool} {y : MethodName} {bytes' : ByteArray} {ret' : Option FieldType} {rm : Room} {ps : List FieldType} {rr : Option FieldType} {Qc : Option Value → Heap → Prop} {argsL : List Value} (hkn : kn = true → vm.MethodsKnown ∧ vm.FramesKnown below) {a : Addr} {Cc : String} {x0 : MethodName} (wl : (Cond.methodLink own index x0).before a0 Z = true) (wd : (Cond.declares x0).before a0 Z = true) (hnf : ∀ {s : State}, Z.Warmed39 s.vm → NotFace s x0) (wsel : (Cond.selects Cc x0 y).before a0 Z = true) (wi : (Cond.instanceMethod y).before a0 Z = true) (C : own_CtW l Z EL true kn y bytes' mx' ret' [] rm (.ref a :: argsL).toArray h Qc) (hcd : (Cond.code y bytes' mx' ret').before a0 Z = true) (hin : (Cond.initialized y.cls).before a0 Z = true) (hy : x0.cls ≠ "java/lang/invoke/MethodHandle" ∧ x0.cls ≠ "java/lang/invoke/VarHandle") (E : Exa Z h a Cc) (hstk : st = (argsL.reverse ++ .ref a :: rest)) (hpd : parseMethodDescriptor x0.desc = some ⟨ps, rr⟩) (hal : argsL.length = ps.length) (hsz : Ls.size = mx) (hW : (rest.map fun v => v.category).sum = Wd) (hrf : rm.frames + 1 ≤ R.frames) (hrl : Wd + (mx' + 11) + rm.locals ≤ R.locals) (hrc : k + rm.cells ≤ R.cells) (hrs : n + rm.slots ≤ R.slots) (hd : decode bytes pc = .ok (.invokevirtual index, 3)) (hp : pc + 3 = pc')
    (kk : ∀ T' h' L' v k1', own_KW p l e R s m args below meth c bytes own nm mx ret Q G Z EL kc vm0 h0 T'.vm k1' T' (L ++ L') (k + rm.cells) (n + rm.slots) h' → CHr Z EL vm h T'.vm h' → Qc v h' → G (T'.setTop (mkF m pc' Ls (v.toList ++ rest)))) : G (T.setTop (mkF m pc Ls st)) := by
  subst hp hstk
  obtain ⟨v, _, ⟨T', L1, k2, n2⟩, -, X', S', gr, ⟨L', hQ, l1, l2, l3, C'⟩, st'⟩ := (isOf W.K.hZ W.K.eh E).elim fun cB q => q.elim fun kB q => W.K.X.virtualBackS W.K.hx (y := x0) (z := y) W.K.hown (mvT W.K.hZ wl) (mvT W.K.hZ wd) (hnf W.K.hZ) (mvT W.K.hZ wsel) (mvT W.K.hZ wi) hy (own_backW (Wd := Wd) C W.hZ hcd hin hrf hrl hEL W.C.1 hkn) q.1 q.2.2 (g := mkF m pc Ls (argsL.reverse ++ .ref a :: rest)) rfl (by rw [W.K.hml]; exact hsz) (Steps.refl _) (argsL := argsL) (rest := rest) (fun sig q => by rw [hpd] at q; cases q; exact hal) rfl (by show 2 * 0 + _ ≤ _; rw [hW]; omega) (hb W.K.hby hd) (fun _ _ => ⟨rfl, W.K.eh, hrc, hrs⟩)
  dsimp only [Pt.U, Pt.locs, Pt.cells, Pt.slots] at X' S' gr l1 l2 l3 st' hQ C'
  subst l1 l2 l3
  obtain ⟨hN, hO, hq⟩ := hQ
  have hZ' : Z.Warmed39 T'.vm := State.Warmed39.trans (t := s.setVm vm) W.hZ S'.1
  have S2 : s.Since T'.vm T'.heap.size := W.S.trans S' (Nat.le_trans W.le (by rw [← W.K.eh]; exact gr))
  have hown' : (s.setVm T'.vm).vm.findClass own = some m.cls := (S'.1.alike.findClass _ _).trans W.K.hown
  exact W.K.cl _ _ (fun t q => st'.trans q) (kk T' T'.heap L' v T'.heap.size ⟨⟨X', W.K.hx, W.K.hby, W.K.hml, hown', W.K.hnm, W.K.hret, hZ', rfl, Fr.app W.K.fr hN, hO, W.K.cl, W.F _ _ S2 hZ'⟩, W.F, S2, Nat.le_refl _, W.C.trans C'⟩ C' hq)
end OwnW
section OwnSafe
open Jvm.Free.SB Jvm.Free.SBG
/-- a String whose value is null is no booked one -/
theorem own_safe_null {Z : State} {EL : List (String × Nat)} {vm : Vm} {h : Heap} {x : Addr} (hal : Z.vm.Alike vm) (E : Exa Z h x "java/lang/String") (F : Fld Z h x "java/lang/String" "value" "[B" .null) : Safe Z EL vm h x := fun B => by
  obtain ⟨p, -, u, a, -, q, -, G, rfl | rfl⟩ := B
  · obtain ⟨cell, cf, k, i, f, e1, e2, -, -, -, -, e7⟩ := F
    cases (show h[q.sa]? = some q.sC from G.ha).symm.trans e1
    obtain ⟨cS, ⟨⟨-, -, -, ⟨c1, k1, i1, f1, -⟩, -, -, -, v1, -⟩, -⟩, -⟩ := G
    obtain ⟨k3, e3, -⟩ := State.fieldFound?_setVm (s := ({ Z with heap := h } : State)) hal e2
    have e4 := (show (Wst Z vm h).fieldFound? _ _ _ = _ from e3).symm.trans f1
    simp only [Option.some.injEq, Prod.mk.injEq] at e4
    rw [← e4.2.2.2, e7] at v1
    cases v1
  · obtain ⟨cell, k, e1, e2, e3, -, -⟩ := E
    cases (show h[q.sd]? = some q.SA from G.hd).symm.trans e1
    obtain ⟨cS, -, -, f, -⟩ := G
    have f' : vm.findClass "[B" = some q.SA.cls := f
    rw [hal.findClass] at f'
    obtain ⟨k1, q1, q2⟩ := Vm.findClass_spec f'
    obtain ⟨k2, q3, q4⟩ := Vm.findClass_spec e2
    cases q1.symm.trans q3
    exact absurd (q2.symm.trans q4) (by decide)
end OwnSafe
/-- what the escape makes of a char -/
def own_escC (c : Int32) : List Int32 := if c = 42 then [92, 50, 97] else if c = 40 then [92, 50, 56] else if c = 41 then [92, 50, 57] else if c = 92 then [92, 53, 99] else if c = 0 then [92, 48, 48] else [c]
def own_esc (cs : List Int32) : List Int32 := cs.flatMap own_escC
/-- is a char above 255 among them? -/
def own_ub (cs : List Int32) : Bool := cs.any fun c => !decide (c < 256)
def own_chs (cs : List Int32) : Prop := ∀ c ∈ cs, ¬ c < 0 ∧ c < 65536
theorem own_escC_len (c : Int32) : (own_escC c).length ≤ 3 := by unfold own_escC; split <;> (try split) <;> (try split) <;> (try split) <;> (try split) <;> simp
theorem own_esc_len : ∀ cs : List Int32, (own_esc cs).length ≤ 3 * cs.length
  | [] => Nat.le_refl _
  | c :: cs => by
    have h1 := own_escC_len c
    have h2 := own_esc_len cs
    unfold own_esc at *
    rw [List.flatMap_cons, List.length_append, List.length_cons]; omega
theorem own_esc_take {cs : List Int32} {i : Nat} (h : i < cs.length) : own_esc (cs.take (i + 1)) = own_esc (cs.take i) ++ own_escC cs[i] := by
  unfold own_esc
  rw [List.take_add_one, List.getElem?_eq_getElem h, List.flatMap_append]; simp
theorem own_ub_take {cs : List Int32} {i : Nat} (h : i < cs.length) : own_ub (cs.take (i + 1)) = (own_ub (cs.take i) || !decide (cs[i] < 256)) := by
  unfold own_ub
  rw [List.take_add_one, List.getElem?_eq_getElem h, List.any_append]; simp
theorem own_ub_ok {cs : List Int32} (h : own_chs cs) : own_ok (own_ub cs) cs := fun c hc => by
  refine ⟨(h c hc).1, ?_⟩
  cases hu : own_ub cs
  · have := List.any_eq_false.mp hu c hc
    simpa using this
  · exact (h c hc).2
theorem own_ub_bad {cs : List Int32} (h : own_ub cs = true) : ∃ q, ∃ hq : q < cs.length, ¬ cs[q] < 256 := by
  obtain ⟨c, hc, h1⟩ := List.any_eq_true.mp h
  obtain ⟨q, hq, rfl⟩ := List.getElem_of_mem hc
  exact ⟨q, hq, by simpa using h1⟩
theorem own_escC_ok (c : Int32) : (own_escC c = [c]) ∨ (∀ d ∈ own_escC c, ¬ d < 0 ∧ d < 256) := by
  unfold own_escC
  split
  · right; intro d hd; revert d; decide
  · split
    · right; intro d hd; revert d; decide
    · split
      · right; intro d hd; revert d; decide
      · split
        · right; intro d hd; revert d; decide
        · split
          · right; intro d hd; revert d; decide
          · left; rfl
theorem own_esc_ok {cs : List Int32} (h : own_chs cs) : own_ok (own_ub cs) (own_esc cs) := fun d hd => by
  obtain ⟨c, hc, h1⟩ := List.mem_flatMap.mp hd
  rcases own_escC_ok c with q | q
  · rw [q] at h1; cases List.mem_singleton.mp h1; exact own_ub_ok h d hc
  · have := q d h1
    cases own_ub cs
    · exact this
    · exact own_lo_ch this
theorem own_chs_take {cs : List Int32} (h : own_chs cs) (i : Nat) : own_chs (cs.take i) := fun c hc => h c (List.mem_of_mem_take hc)
theorem own_add8 (i : Nat) : Int32.ofNat i + (8 : Int32) = Int32.ofNat (i + 8) := own_addN i 8
theorem own_and3 (x : Int32) : x &&& 3 = 0 ∨ x &&& 3 = 1 ∨ x &&& 3 = 2 ∨ x &&& 3 = 3 := by
  have h := c_mask x 3 2 (by decide) (by decide)
  have : (x &&& 3).toInt = 0 ∨ (x &&& 3).toInt = 1 ∨ (x &&& 3).toInt = 2 ∨ (x &&& 3).toInt = 3 := by omega
  rcases this with q | q | q | q
  · exact Or.inl (Int32.toInt_inj.mp q)
  · exact Or.inr (Or.inl (Int32.toInt_inj.mp q))
  · exact Or.inr (Or.inr (Or.inl (Int32.toInt_inj.mp q)))
  · exact Or.inr (Or.inr (Or.inr (Int32.toInt_inj.mp q)))
theorem own_sw (c : Int32) (h1 : ¬ c = 0) (h2 : ¬ c = 40) (h3 : ¬ c = 41) (h4 : ¬ c = 42) (h5 : ¬ c = 92) : lookupswitch.offset [(0, 92), (40, 62), (41, 72), (42, 52), (92, 82)] 102 c.toInt = 102 := by
  have e : ∀ d : Int32, ¬ c = d → ¬ d.toInt = c.toInt := fun d q r => q (Int32.toInt_inj.mp r.symm)
  rw [lookupswitch.offset_cons, if_neg (show ¬ (0 : Int) = c.toInt from e 0 h1), lookupswitch.offset_cons, if_neg (show ¬ (40 : Int) = c.toInt from e 40 h2), lookupswitch.offset_cons, if_neg (show ¬ (41 : Int) = c.toInt from e 41 h3), lookupswitch.offset_cons, if_neg (show ¬ (42 : Int) = c.toInt from e 42 h4), lookupswitch.offset_cons, if_neg (show ¬ (92 : Int) = c.toInt from e 92 h5), lookupswitch.offset_nil]
theorem d_jdk_42_m152_0 : decode jdk_42_method_152_code 0 = .ok (.getstatic 38, 3) := by decide +kernel
theorem wd43 {a0 : Array Value} {Z : State} (hw : ∀ d ∈ tables_1, d.before a0 Z = true) : (Jvm.Cond.fieldLink "java/lang/String" (38 : Nat) "java/lang/String" "COMPACT_STRINGS" "Z").before a0 Z = true := hw _ (List.mem_of_getElem? (i := 43) rfl)
theorem d_jdk_42_m152_3 : decode jdk_42_method_152_code 3 = .ok (.ifCond .eq 10, 3) := by decide +kernel
theorem d_jdk_42_m152_6 : decode jdk_42_method_152_code 6 = .ok (.aload_n 0, 1) := by decide +kernel
theorem wd25 {a0 : Array Value} {Z : State} (hw : ∀ d ∈ tables_1, d.before a0 Z = true) : (Jvm.Cond.fieldLink "java/lang/String" (15 : Nat) "java/lang/String" "coder" "B").before a0 Z = true := hw _ (List.mem_of_getElem? (i := 25) rfl)
theorem d_jdk_42_m152_7 : decode jdk_42_method_152_code 7 = .ok (.getfield 15, 3) := by decide +kernel
theorem d_jdk_42_m152_10 : decode jdk_42_method_152_code 10 = .ok (.goto 4, 3) := by decide +kernel
theorem d_jdk_42_m152_14 : decode jdk_42_method_152_code 14 = .ok (.ireturn, 1) := by decide +kernel
theorem st0 {a0 : Array Value} {Z : State} (hs : ∀ d ∈ jdkStatics_1, d.before a0 Z = true) : (Jvm.Cond.initializedFor "java/lang/String" "COMPACT_STRINGS" "Z").before a0 Z = true := hs _ (List.mem_of_getElem? (i := 0) rfl)
theorem st1 {a0 : Array Value} {Z : State} (hs : ∀ d ∈ jdkStatics_1, d.before a0 Z = true) : (Jvm.Cond.isInt (Jvm.Term.static "java/lang/String" "COMPACT_STRINGS" "Z")).before a0 Z = true := hs _ (List.mem_of_getElem? (i := 1) rfl)
theorem st2 {a0 : Array Value} {Z : State} (hs : ∀ d ∈ jdkStatics_1, d.before a0 Z = true) : (Jvm.Cond.not (Jvm.Cond.eq (Jvm.Term.static "java/lang/String" "COMPACT_STRINGS" "Z") (Jvm.Term.int (0 : Int32)))).before a0 Z = true := hs _ (List.mem_of_getElem? (i := 2) rfl)
theorem own_compact {a0 : Array Value} {Z : State} (hs : ∀ d ∈ jdkStatics_1, d.before a0 Z = true) : ∃ zc : Int32, Sta Z Z.heap "java/lang/String" "COMPACT_STRINGS" "Z" (.int zc) ∧ ¬ zc = 0 := by
  obtain ⟨i, e⟩ := is_v (Cond.before_iff.mp (st1 hs))
  exact ⟨i, Sta.start e (Or.inl (st0 hs)), gotF (Cond.eq_ints e (Term.int_eval (0))) (not_v (Cond.before_iff.mp (st2 hs)))⟩
theorem pn_java_lang_String : plainName "java/lang/String" = true := by first | (simp [plainName, overriddenIn]; done) | decide +kernel
set_option maxRecDepth 65536 in
set_option maxHeartbeats 40000000 in
theorem rm_coder {l : Launch} {Z : State} {a0 : Array Value} (hw : ∀ d ∈ tables_1, d.before a0 Z = true) (hs : ∀ d ∈ jdkStatics_1, d.before a0 Z = true) {x : Addr} {u : Bool} {cs : List Int32} {h0 : Heap} (O0 : Ext Z.heap h0) (S : own_StrG Z h0 x u cs) (hlen : cs.length ≤ 4000) :
    own_Ct l Z (⟨"java/lang/String", "coder", "()B"⟩ : MethodName) jdk_42_method_152_code 1 (some .byte) [] ({ frames := 0, locals := 0, cells := 0, slots := 0 } : Room) #[(.ref x)] h0 (fun v h => v = some (.int (own_cd u)) ∧ h = h0) := by
  obtain ⟨zc, SC, hzc⟩ := own_compact hs
  obtain ⟨E, Fc, b, kb, Fv, V⟩ := S
  refine own_body (Ls := #[.val (.ref x)]) (plainFor_of_name pn_java_lang_String) (fun m => by first | (simp [entryFrame, mkF, argsToLocals, Value.category]; done) | rfl) O0 ?_
  intro p e s m below meth c T0 G K0
  refine own_getS K0 (wd43 hw) Via.refl (SC.ext K0.O) d_jdk_42_m152_0 rfl ?_
  intro T1 K1
  refine own_ifNo K1 d_jdk_42_m152_3 rfl ((if0 _ _).trans (feq hzc).1) ?_
  refine own_aloadN K1 d_jdk_42_m152_6 rfl rfl rfl ?_
  refine own_getF K1 (host := "") (Or.inl (wd25 hw)) Via.refl Fc d_jdk_42_m152_7 rfl ?_
  intro T2 K2
  refine own_goto K2 d_jdk_42_m152_10 (pc' := 14) (by decide) (by decide) ?_
  exact own_retN K2 (z' := own_cd u) d_jdk_42_m152_14 rfl (by simp) (by cases u <;> decide) (by decide) (by decide) ⟨rfl, rfl⟩
theorem own_lenS (u : Bool) {n : Nat} (h : n ≤ 4000) : Int32.ofNat (own_bn u n) >>> (own_cd u &&& 31) = Int32.ofNat n := by
  cases u
  · exact own_shr0 _
  · exact own_shr1 (by omega)
theorem d_jdk_42_m54_0 : decode jdk_42_method_54_code 0 = .ok (.aload_n 0, 1) := by decide +kernel
theorem wd24 {a0 : Array Value} {Z : State} (hw : ∀ d ∈ tables_1, d.before a0 Z = true) : (Jvm.Cond.fieldLink "java/lang/String" (9 : Nat) "java/lang/String" "value" "[B").before a0 Z = true := hw _ (List.mem_of_getElem? (i := 24) rfl)
theorem d_jdk_42_m54_1 : decode jdk_42_method_54_code 1 = .ok (.getfield 9, 3) := by decide +kernel
theorem d_jdk_42_m54_4 : decode jdk_42_method_54_code 4 = .ok (.arraylength, 1) := by decide +kernel
theorem d_jdk_42_m54_5 : decode jdk_42_method_54_code 5 = .ok (.aload_n 0, 1) := by decide +kernel
theorem d_jdk_42_m54_6 : decode jdk_42_method_54_code 6 = .ok (.invokevirtual 335, 3) := by decide +kernel
theorem wd42 {a0 : Array Value} {Z : State} (hw : ∀ d ∈ tables_1, d.before a0 Z = true) : (Jvm.Cond.code ({ cls := "java/lang/String", name := "coder", desc := "()B" } : Jvm.MethodName) jdk_42_method_152_code (1 : Nat) (Option.some Jvm.ClassFile.FieldType.byte)).before a0 Z = true := hw _ (List.mem_of_getElem? (i := 42) rfl)
theorem wd6 {a0 : Array Value} {Z : State} (hw : ∀ d ∈ tables_1, d.before a0 Z = true) : (Jvm.Cond.initialized "java/lang/String").before a0 Z = true := hw _ (List.mem_of_getElem? (i := 6) rfl)
theorem pd_2829B : parseMethodDescriptor "()B" = some ⟨[], some .byte⟩ := by decide +kernel
theorem wd36 {a0 : Array Value} {Z : State} (hw : ∀ d ∈ tables_1, d.before a0 Z = true) : (Jvm.Cond.selects "java/lang/String" ({ cls := "java/lang/String", name := "length", desc := "()I" } : Jvm.MethodName) ({ cls := "java/lang/String", name := "length", desc := "()I" } : Jvm.MethodName)).before a0 Z = true := hw _ (List.mem_of_getElem? (i := 36) rfl)
theorem wd38 {a0 : Array Value} {Z : State} (hw : ∀ d ∈ tables_1, d.before a0 Z = true) : (Jvm.Cond.methodLink "java/lang/String" (335 : Nat) ({ cls := "java/lang/String", name := "coder", desc := "()B" } : Jvm.MethodName)).before a0 Z = true := hw _ (List.mem_of_getElem? (i := 38) rfl)
theorem wd39 {a0 : Array Value} {Z : State} (hw : ∀ d ∈ tables_1, d.before a0 Z = true) : (Jvm.Cond.declares ({ cls := "java/lang/String", name := "coder", desc := "()B" } : Jvm.MethodName)).before a0 Z = true := hw _ (List.mem_of_getElem? (i := 39) rfl)
theorem wd41 {a0 : Array Value} {Z : State} (hw : ∀ d ∈ tables_1, d.before a0 Z = true) : (Jvm.Cond.selects "java/lang/String" ({ cls := "java/lang/String", name := "coder", desc := "()B" } : Jvm.MethodName) ({ cls := "java/lang/String", name := "coder", desc := "()B" } : Jvm.MethodName)).before a0 Z = true := hw _ (List.mem_of_getElem? (i := 41) rfl)
theorem wd40 {a0 : Array Value} {Z : State} (hw : ∀ d ∈ tables_1, d.before a0 Z = true) : (Jvm.Cond.instanceMethod ({ cls := "java/lang/String", name := "coder", desc := "()B" } : Jvm.MethodName)).before a0 Z = true := hw _ (List.mem_of_getElem? (i := 40) rfl)
theorem d_jdk_42_m54_9 : decode jdk_42_method_54_code 9 = .ok (.ishr, 1) := by decide +kernel
theorem d_jdk_42_m54_10 : decode jdk_42_method_54_code 10 = .ok (.ireturn, 1) := by decide +kernel
set_option maxRecDepth 65536 in
set_option maxHeartbeats 40000000 in
theorem rm_lengthS {l : Launch} {Z : State} {a0 : Array Value} (hw : ∀ d ∈ tables_1, d.before a0 Z = true) (hs : ∀ d ∈ jdkStatics_1, d.before a0 Z = true) {x : Addr} {u : Bool} {cs : List Int32} {h0 : Heap} (O0 : Ext Z.heap h0) (S : own_StrG Z h0 x u cs) (hlen : cs.length ≤ 4000) :
    own_Ct l Z (⟨"java/lang/String", "length", "()I"⟩ : MethodName) jdk_42_method_54_code 1 (some .int) [] ({ frames := 1, locals := 13, cells := 0, slots := 0 } : Room) #[(.ref x)] h0 (fun v h => v = some (.int (Int32.ofNat cs.length)) ∧ h = h0) := by
  have S' := S
  obtain ⟨E, Fc, b, kb, Fv, V⟩ := S'
  refine own_body (Ls := #[.val (.ref x)]) (plainFor_of_name pn_java_lang_String) (fun m => by first | (simp [entryFrame, mkF, argsToLocals, Value.category]; done) | rfl) O0 ?_
  intro p e s m below meth c T0 G K0
  refine own_aloadN K0 d_jdk_42_m54_0 rfl rfl rfl ?_
  refine own_getF K0 (host := "") (Or.inl (wd24 hw)) Via.refl Fv d_jdk_42_m54_1 rfl ?_
  intro T3 K3
  refine own_arraylength K3 V d_jdk_42_m54_4 rfl ?_
  refine own_aloadN K3 d_jdk_42_m54_5 rfl rfl rfl ?_
  refine own_callV K3 (a := x) (x0 := (⟨"java/lang/String", "coder", "()B"⟩ : MethodName)) (wd38 hw) (wd39 hw) (fun q => own_nfS (args := #[]) (mvT q (wd36 hw)) rfl) (wd41 hw) (wd40 hw) (rm_coder hw hs K3.O S hlen) (wd42 hw) (wd6 hw) (by decide) S.exa (argsL := []) (rest := [(.int (Int32.ofNat (own_bn u cs.length)))]) rfl pd_2829B rfl rfl (W := 1) rfl (by decide) (by decide) (by decide) (by decide) d_jdk_42_m54_6 rfl ?_
  intro T4 h4 L4 v4 K4 q4
  obtain ⟨rfl, e4⟩ := q4
  have f4 := e4.symm
  subst f4
  show G (T4.setTop (mkF m 9 #[.val (.ref x)] [(.int (own_cd u)), (.int (Int32.ofNat (own_bn u cs.length)))]))
  refine own_ishr K4 d_jdk_42_m54_9 rfl ?_
  exact own_retI K4 d_jdk_42_m54_10 rfl (by decide) (by decide) ⟨by rw [own_lenS u hlen], rfl⟩
theorem d_jdk_42_m154_0 : decode jdk_42_method_154_code 0 = .ok (.getstatic 38, 3) := by decide +kernel
theorem d_jdk_42_m154_3 : decode jdk_42_method_154_code 3 = .ok (.ifCond .eq 14, 3) := by decide +kernel
theorem d_jdk_42_m154_6 : decode jdk_42_method_154_code 6 = .ok (.aload_n 0, 1) := by decide +kernel
theorem d_jdk_42_m154_7 : decode jdk_42_method_154_code 7 = .ok (.getfield 15, 3) := by decide +kernel
theorem d_jdk_42_m154_10 : decode jdk_42_method_154_code 10 = .ok (.ifCond .ne 7, 3) := by decide +kernel
theorem d_jdk_42_m154_13 : decode jdk_42_method_154_code 13 = .ok (.iconst 1, 1) := by decide +kernel
theorem d_jdk_42_m154_14 : decode jdk_42_method_154_code 14 = .ok (.goto 4, 3) := by decide +kernel
theorem d_jdk_42_m154_18 : decode jdk_42_method_154_code 18 = .ok (.ireturn, 1) := by decide +kernel
theorem d_jdk_42_m154_17 : decode jdk_42_method_154_code 17 = .ok (.iconst 0, 1) := by decide +kernel
set_option maxRecDepth 65536 in
set_option maxHeartbeats 40000000 in
theorem rm_isLatin1 {l : Launch} {Z : State} {a0 : Array Value} (hw : ∀ d ∈ tables_1, d.before a0 Z = true) (hs : ∀ d ∈ jdkStatics_1, d.before a0 Z = true) {x : Addr} {u : Bool} {cs : List Int32} {h0 : Heap} (O0 : Ext Z.heap h0) (S : own_StrG Z h0 x u cs) (hlen : cs.length ≤ 4000) :
    own_Ct l Z (⟨"java/lang/String", "isLatin1", "()Z"⟩ : MethodName) jdk_42_method_154_code 1 (some .boolean) [] ({ frames := 0, locals := 0, cells := 0, slots := 0 } : Room) #[(.ref x)] h0 (fun v h => v = some (.int (cond u 0 1)) ∧ h = h0) := by
  obtain ⟨zc, SC, hzc⟩ := own_compact hs
  obtain ⟨E, Fc, b, kb, Fv, V⟩ := S
  refine own_body (Ls := #[.val (.ref x)]) (plainFor_of_name pn_java_lang_String) (fun m => by first | (simp [entryFrame, mkF, argsToLocals, Value.category]; done) | rfl) O0 ?_
  intro p e s m below meth c T0 G K0
  refine own_getS K0 (wd43 hw) Via.refl (SC.ext K0.O) d_jdk_42_m154_0 rfl ?_
  intro T5 K5
  refine own_ifNo K5 d_jdk_42_m154_3 rfl ((if0 _ _).trans (feq hzc).1) ?_
  refine own_aloadN K5 d_jdk_42_m154_6 rfl rfl rfl ?_
  refine own_getF K5 (host := "") (Or.inl (wd25 hw)) Via.refl Fc d_jdk_42_m154_7 rfl ?_
  intro T6 K6
  cases u with
  | false =>
    refine own_ifNo K6 d_jdk_42_m154_10 rfl ((if0 _ _).trans (teq rfl).2) ?_
    refine own_iconst K6 (v := (1 : Int32)) d_jdk_42_m154_13 rfl rfl ?_
    refine own_goto K6 d_jdk_42_m154_14 (pc' := 18) (by decide) (by decide) ?_
    exact own_retN K6 (z' := (1 : Int32)) d_jdk_42_m154_18 rfl (by simp) (by decide) (by decide) (by decide) ⟨rfl, rfl⟩
  | true =>
    refine own_ifYes K6 d_jdk_42_m154_10 (pc' := 17) (by decide) (by decide) ((if0 _ _).trans (feq (by decide)).2) ?_
    refine own_iconst K6 (v := (0 : Int32)) d_jdk_42_m154_17 rfl rfl ?_
    exact own_retN K6 (z' := (0 : Int32)) d_jdk_42_m154_18 rfl (by simp) (by decide) (by decide) (by decide) ⟨rfl, rfl⟩
theorem d_jdk_41_m11_0 : decode jdk_41_method_11_code 0 = .ok (.iload_n 0, 1) := by decide +kernel
theorem d_jdk_41_m11_1 : decode jdk_41_method_11_code 1 = .ok (.ifCond .lt 8, 3) := by decide +kernel
theorem d_jdk_41_m11_4 : decode jdk_41_method_11_code 4 = .ok (.iload_n 0, 1) := by decide +kernel
theorem d_jdk_41_m11_5 : decode jdk_41_method_11_code 5 = .ok (.iload_n 1, 1) := by decide +kernel
theorem d_jdk_41_m11_6 : decode jdk_41_method_11_code 6 = .ok (.if_icmp .lt 10, 3) := by decide +kernel
theorem d_jdk_41_m11_16 : decode jdk_41_method_11_code 16 = .ok (.iload_n 0, 1) := by decide +kernel
theorem d_jdk_41_m11_17 : decode jdk_41_method_11_code 17 = .ok (.ireturn, 1) := by decide +kernel
theorem pn_jdk_internal_util_Preconditions : plainName "jdk/internal/util/Preconditions" = true := by first | (simp [plainName, overriddenIn]; done) | decide +kernel
set_option maxRecDepth 65536 in
set_option maxHeartbeats 40000000 in
theorem rm_checkIndexP {l : Launch} {Z : State} {a0 : Array Value} (hw : ∀ d ∈ tables_1, d.before a0 Z = true) (hs : ∀ d ∈ jdkStatics_1, d.before a0 Z = true) {i : Nat} {nn : Nat} {fm : Value} {h0 : Heap} (O0 : Ext Z.heap h0) (hfm : fm.isRef = true) (hi : i < nn) (hn : nn ≤ 8000) :
    own_Ct l Z (⟨"jdk/internal/util/Preconditions", "checkIndex", "(IILjava/util/function/BiFunction;)I"⟩ : MethodName) jdk_41_method_11_code 3 (some .int) [] ({ frames := 0, locals := 0, cells := 0, slots := 0 } : Room) #[(.int (Int32.ofNat i)), (.int (Int32.ofNat nn)), fm] h0 (fun v h => v = some (.int (Int32.ofNat i)) ∧ h = h0) := by
  refine own_body (Ls := #[.val (.int (Int32.ofNat i)), .val (.int (Int32.ofNat nn)), .val fm]) (plainFor_of_name pn_jdk_internal_util_Preconditions) (fun m => by first | (simp [entryFrame, mkF, argsToLocals, Value.category]; done) | rfl | (revert hfm; cases fm <;> intro hfm <;> first | (simp [Value.isRef] at hfm; done) | (simp [entryFrame, mkF, argsToLocals, Value.category]; done))) O0 ?_
  intro p e s m below meth c T0 G K0
  refine own_iloadN K0 d_jdk_41_m11_0 rfl rfl ?_
  refine own_ifNo K0 d_jdk_41_m11_1 rfl ((if0 _ _).trans (flt (own_nn (by omega))).1) ?_
  refine own_iloadN K0 d_jdk_41_m11_4 rfl rfl ?_
  refine own_iloadN K0 d_jdk_41_m11_5 rfl rfl ?_
  refine own_icmpYes K0 d_jdk_41_m11_6 (pc' := 16) (by decide) (by decide) (tlt (own_lt hi (by omega))).1 ?_
  refine own_iloadN K0 d_jdk_41_m11_16 rfl rfl ?_
  exact own_retI K0 d_jdk_41_m11_17 rfl (by decide) (by decide) ⟨rfl, rfl⟩
theorem d_jdk_42_m155_0 : decode jdk_42_method_155_code 0 = .ok (.iload_n 0, 1) := by decide +kernel
theorem d_jdk_42_m155_1 : decode jdk_42_method_155_code 1 = .ok (.iload_n 1, 1) := by decide +kernel
theorem d_jdk_42_m155_2 : decode jdk_42_method_155_code 2 = .ok (.getstatic 1053, 3) := by decide +kernel
theorem wd150 {a0 : Array Value} {Z : State} (hw : ∀ d ∈ tables_1, d.before a0 Z = true) : (Jvm.Cond.fieldLink "java/lang/String" (1053 : Nat) "jdk/internal/util/Preconditions" "SIOOBE_FORMATTER" "Ljava/util/function/BiFunction;").before a0 Z = true := hw _ (List.mem_of_getElem? (i := 150) rfl)
theorem d_jdk_42_m155_5 : decode jdk_42_method_155_code 5 = .ok (.invokestatic 1059, 3) := by decide +kernel
theorem wd154 {a0 : Array Value} {Z : State} (hw : ∀ d ∈ tables_1, d.before a0 Z = true) : (Jvm.Cond.code ({ cls := "jdk/internal/util/Preconditions", name := "checkIndex", desc := "(IILjava/util/function/BiFunction;)I" } : Jvm.MethodName) jdk_41_method_11_code (3 : Nat) (Option.some Jvm.ClassFile.FieldType.int)).before a0 Z = true := hw _ (List.mem_of_getElem? (i := 154) rfl)
theorem wd151 {a0 : Array Value} {Z : State} (hw : ∀ d ∈ tables_1, d.before a0 Z = true) : (Jvm.Cond.initialized "jdk/internal/util/Preconditions").before a0 Z = true := hw _ (List.mem_of_getElem? (i := 151) rfl)
theorem pd_28IILjava2futil2ffunction2fBiFunction3b29I : parseMethodDescriptor "(IILjava/util/function/BiFunction;)I" = some ⟨[.int, .int, (.object "java/util/function/BiFunction")], some .int⟩ := by decide +kernel
theorem wd152 {a0 : Array Value} {Z : State} (hw : ∀ d ∈ tables_1, d.before a0 Z = true) : (Jvm.Cond.methodLink "java/lang/String" (1059 : Nat) ({ cls := "jdk/internal/util/Preconditions", name := "checkIndex", desc := "(IILjava/util/function/BiFunction;)I" } : Jvm.MethodName)).before a0 Z = true := hw _ (List.mem_of_getElem? (i := 152) rfl)
theorem wd153 {a0 : Array Value} {Z : State} (hw : ∀ d ∈ tables_1, d.before a0 Z = true) : (Jvm.Cond.static ({ cls := "jdk/internal/util/Preconditions", name := "checkIndex", desc := "(IILjava/util/function/BiFunction;)I" } : Jvm.MethodName)).before a0 Z = true := hw _ (List.mem_of_getElem? (i := 153) rfl)
theorem d_jdk_42_m155_8 : decode jdk_42_method_155_code 8 = .ok (.pop, 1) := by decide +kernel
theorem d_jdk_42_m155_9 : decode jdk_42_method_155_code 9 = .ok (.return_, 1) := by decide +kernel
theorem st8 {a0 : Array Value} {Z : State} (hs : ∀ d ∈ jdkStatics_1, d.before a0 Z = true) : (Jvm.Cond.isRef (Jvm.Term.static "jdk/internal/util/Preconditions" "SIOOBE_FORMATTER" "Ljava/util/function/BiFunction;")).before a0 Z = true := hs _ (List.mem_of_getElem? (i := 8) rfl)
theorem st7 {a0 : Array Value} {Z : State} (hs : ∀ d ∈ jdkStatics_1, d.before a0 Z = true) : (Jvm.Cond.initializedFor "jdk/internal/util/Preconditions" "SIOOBE_FORMATTER" "Ljava/util/function/BiFunction;").before a0 Z = true := hs _ (List.mem_of_getElem? (i := 7) rfl)
theorem own_fmt {a0 : Array Value} {Z : State} (hs : ∀ d ∈ jdkStatics_1, d.before a0 Z = true) : ∃ fm, Sta Z Z.heap "jdk/internal/util/Preconditions" "SIOOBE_FORMATTER" "Ljava/util/function/BiFunction;" fm ∧ fm.isRef = true :=
  own_staR (st8 hs) (st7 hs)
set_option maxRecDepth 65536 in
set_option maxHeartbeats 40000000 in
theorem rm_checkIndexS {l : Launch} {Z : State} {a0 : Array Value} (hw : ∀ d ∈ tables_1, d.before a0 Z = true) (hs : ∀ d ∈ jdkStatics_1, d.before a0 Z = true) {i : Nat} {nn : Nat} {h0 : Heap} (O0 : Ext Z.heap h0) (hi : i < nn) (hn : nn ≤ 8000) :
    own_Ct l Z (⟨"java/lang/String", "checkIndex", "(II)V"⟩ : MethodName) jdk_42_method_155_code 2 none [] ({ frames := 1, locals := 14, cells := 0, slots := 0 } : Room) #[(.int (Int32.ofNat i)), (.int (Int32.ofNat nn))] h0 (fun v h => v = none ∧ h = h0) := by
  obtain ⟨fm, SFm, hfm⟩ := own_fmt hs
  refine own_body (Ls := #[.val (.int (Int32.ofNat i)), .val (.int (Int32.ofNat nn))]) (plainFor_of_name pn_java_lang_String) (fun m => by first | (simp [entryFrame, mkF, argsToLocals, Value.category]; done) | rfl) O0 ?_
  intro p e s m below meth c T0 G K0
  refine own_iloadN K0 d_jdk_42_m155_0 rfl rfl ?_
  refine own_iloadN K0 d_jdk_42_m155_1 rfl rfl ?_
  refine own_getS K0 (wd150 hw) Via.refl (SFm.ext K0.O) d_jdk_42_m155_2 rfl ?_
  intro T7 K7
  refine own_callS K7 (wd152 hw) (wd153 hw) (rm_checkIndexP hw hs K7.O hfm hi hn) (wd154 hw) (wd151 hw) (by decide) (argsL := [(.int (Int32.ofNat i)), (.int (Int32.ofNat nn)), fm]) (rest := []) rfl pd_28IILjava2futil2ffunction2fBiFunction3b29I rfl rfl (W := 0) rfl (by decide) (by decide) (by decide) (by decide) d_jdk_42_m155_5 rfl ?_
  intro T8 h8 L8 v8 K8 q8
  obtain ⟨rfl, e8⟩ := q8
  have f8 := e8.symm
  subst f8
  show G (T8.setTop (mkF m 8 #[.val (.int (Int32.ofNat i)), .val (.int (Int32.ofNat nn))] [(.int (Int32.ofNat i))]))
  refine own_pop K8 d_jdk_42_m155_8 rfl rfl ?_
  exact own_ret0 K8 d_jdk_42_m155_9 rfl (by decide) (by decide) ⟨rfl, rfl⟩
theorem d_jdk_43_m2_0 : decode jdk_43_method_2_code 0 = .ok (.iload_n 1, 1) := by decide +kernel
theorem d_jdk_43_m2_1 : decode jdk_43_method_2_code 1 = .ok (.aload_n 0, 1) := by decide +kernel
theorem d_jdk_43_m2_2 : decode jdk_43_method_2_code 2 = .ok (.arraylength, 1) := by decide +kernel
theorem d_jdk_43_m2_3 : decode jdk_43_method_2_code 3 = .ok (.invokestatic 9, 3) := by decide +kernel
theorem wd149 {a0 : Array Value} {Z : State} (hw : ∀ d ∈ tables_1, d.before a0 Z = true) : (Jvm.Cond.code ({ cls := "java/lang/String", name := "checkIndex", desc := "(II)V" } : Jvm.MethodName) jdk_42_method_155_code (2 : Nat) (Option.none : Option Jvm.ClassFile.FieldType)).before a0 Z = true := hw _ (List.mem_of_getElem? (i := 149) rfl)
theorem pd_28II29V : parseMethodDescriptor "(II)V" = some ⟨[.int, .int], none⟩ := by decide +kernel
theorem wd147 {a0 : Array Value} {Z : State} (hw : ∀ d ∈ tables_1, d.before a0 Z = true) : (Jvm.Cond.methodLink "java/lang/StringLatin1" (9 : Nat) ({ cls := "java/lang/String", name := "checkIndex", desc := "(II)V" } : Jvm.MethodName)).before a0 Z = true := hw _ (List.mem_of_getElem? (i := 147) rfl)
theorem wd148 {a0 : Array Value} {Z : State} (hw : ∀ d ∈ tables_1, d.before a0 Z = true) : (Jvm.Cond.static ({ cls := "java/lang/String", name := "checkIndex", desc := "(II)V" } : Jvm.MethodName)).before a0 Z = true := hw _ (List.mem_of_getElem? (i := 148) rfl)
theorem d_jdk_43_m2_6 : decode jdk_43_method_2_code 6 = .ok (.aload_n 0, 1) := by decide +kernel
theorem d_jdk_43_m2_7 : decode jdk_43_method_2_code 7 = .ok (.iload_n 1, 1) := by decide +kernel
theorem d_jdk_43_m2_8 : decode jdk_43_method_2_code 8 = .ok (.baload, 1) := by decide +kernel
theorem d_jdk_43_m2_9 : decode jdk_43_method_2_code 9 = .ok (.sipush 255, 3) := by decide +kernel
theorem d_jdk_43_m2_12 : decode jdk_43_method_2_code 12 = .ok (.iand, 1) := by decide +kernel
theorem d_jdk_43_m2_13 : decode jdk_43_method_2_code 13 = .ok (.i2c, 1) := by decide +kernel
theorem d_jdk_43_m2_14 : decode jdk_43_method_2_code 14 = .ok (.ireturn, 1) := by decide +kernel
theorem pn_java_lang_StringLatin1 : plainName "java/lang/StringLatin1" = true := by first | (simp [plainName, overriddenIn]; done) | decide +kernel
set_option maxRecDepth 65536 in
set_option maxHeartbeats 40000000 in
theorem rm_charAt1 {l : Launch} {Z : State} {a0 : Array Value} (hw : ∀ d ∈ tables_1, d.before a0 Z = true) (hs : ∀ d ∈ jdkStatics_1, d.before a0 Z = true) {b : Addr} {kb : ClassId} {cs : List Int32} {i : Nat} {h0 : Heap} (O0 : Ext Z.heap h0) (V : Arv Z h0 b kb .byte (Int32.ofNat cs.length) (own_by cs) (.int 0)) (hlen : cs.length ≤ 4000) (hok : own_ok false cs) (hi : i < cs.length) :
    own_Ct l Z (⟨"java/lang/StringLatin1", "charAt", "([BI)C"⟩ : MethodName) jdk_43_method_2_code 2 (some .char) [] ({ frames := 2, locals := 27, cells := 0, slots := 0 } : Room) #[(.ref b), (.int (Int32.ofNat i))] h0 (fun v h => v = some (.int cs[i]) ∧ h = h0) := by
  refine own_body (Ls := #[.val (.ref b), .val (.int (Int32.ofNat i))]) (plainFor_of_name pn_java_lang_StringLatin1) (fun m => by first | (simp [entryFrame, mkF, argsToLocals, Value.category]; done) | rfl) O0 ?_
  intro p e s m below meth c T0 G K0
  refine own_iloadN K0 d_jdk_43_m2_0 rfl rfl ?_
  refine own_aloadN K0 d_jdk_43_m2_1 rfl rfl rfl ?_
  refine own_arraylength K0 V d_jdk_43_m2_2 rfl ?_
  refine own_callS K0 (wd147 hw) (wd148 hw) (rm_checkIndexS hw hs K0.O hi (by omega)) (wd149 hw) (wd6 hw) (by decide) (argsL := [(.int (Int32.ofNat i)), (.int (Int32.ofNat cs.length))]) (rest := []) rfl pd_28II29V rfl rfl (W := 0) rfl (by decide) (by decide) (by decide) (by decide) d_jdk_43_m2_3 rfl ?_
  intro T9 h9 L9 v9 K9 q9
  obtain ⟨rfl, e9⟩ := q9
  have f9 := e9.symm
  subst f9
  show G (T9.setTop (mkF m 6 #[.val (.ref b), .val (.int (Int32.ofNat i))] []))
  refine own_aloadN K9 d_jdk_43_m2_6 rfl rfl rfl ?_
  refine own_iloadN K9 d_jdk_43_m2_7 rfl rfl ?_
  refine own_baload K9 (x := (cs[i]).toInt8.toInt32) V ⟨own_nn (by omega), own_lt hi (by omega)⟩ (by rw [own_clamp (by omega)]; exact own_by_get cs i hi) d_jdk_43_m2_8 rfl ?_
  refine own_sipush K9 (v := (255 : Int32)) d_jdk_43_m2_9 rfl rfl ?_
  refine own_iand K9 d_jdk_43_m2_12 rfl ?_
  refine own_i2c K9 d_jdk_43_m2_13 rfl ?_
  exact own_retN K9 (z' := cs[i]) d_jdk_43_m2_14 rfl (by simp) (by rw [own_rd1 (hok _ (List.getElem_mem hi)), own_i2c_id (own_lo_ch (hok _ (List.getElem_mem hi)))]; exact own_nar_char8 (hok _ (List.getElem_mem hi))) (by decide) (by decide) ⟨rfl, rfl⟩
theorem d_jdk_52_m6_0 : decode jdk_52_method_6_code 0 = .ok (.aload_n 0, 1) := by decide +kernel
theorem d_jdk_52_m6_1 : decode jdk_52_method_6_code 1 = .ok (.arraylength, 1) := by decide +kernel
theorem d_jdk_52_m6_2 : decode jdk_52_method_6_code 2 = .ok (.iconst 1, 1) := by decide +kernel
theorem d_jdk_52_m6_3 : decode jdk_52_method_6_code 3 = .ok (.ishr, 1) := by decide +kernel
theorem d_jdk_52_m6_4 : decode jdk_52_method_6_code 4 = .ok (.ireturn, 1) := by decide +kernel
theorem pn_java_lang_StringUTF16 : plainName "java/lang/StringUTF16" = true := by first | (simp [plainName, overriddenIn]; done) | decide +kernel
set_option maxRecDepth 65536 in
set_option maxHeartbeats 40000000 in
theorem rm_lengthU {l : Launch} {Z : State} {a0 : Array Value} (hw : ∀ d ∈ tables_1, d.before a0 Z = true) (hs : ∀ d ∈ jdkStatics_1, d.before a0 Z = true) {b : Addr} {kb : ClassId} {vs : List Value} {nn : Nat} {h0 : Heap} (O0 : Ext Z.heap h0) (V : Arv Z h0 b kb .byte (Int32.ofNat (2 * nn)) vs (.int 0)) (hn : nn ≤ 8000) :
    own_Ct l Z (⟨"java/lang/StringUTF16", "length", "([B)I"⟩ : MethodName) jdk_52_method_6_code 1 (some .int) [] ({ frames := 0, locals := 0, cells := 0, slots := 0 } : Room) #[(.ref b)] h0 (fun v h => v = some (.int (Int32.ofNat nn)) ∧ h = h0) := by
  refine own_body (Ls := #[.val (.ref b)]) (plainFor_of_name pn_java_lang_StringUTF16) (fun m => by first | (simp [entryFrame, mkF, argsToLocals, Value.category]; done) | rfl) O0 ?_
  intro p e s m below meth c T0 G K0
  refine own_aloadN K0 d_jdk_52_m6_0 rfl rfl rfl ?_
  refine own_arraylength K0 V d_jdk_52_m6_1 rfl ?_
  refine own_iconst K0 (v := (1 : Int32)) d_jdk_52_m6_2 rfl rfl ?_
  refine own_ishr K0 d_jdk_52_m6_3 rfl ?_
  exact own_retI K0 d_jdk_52_m6_4 rfl (by decide) (by decide) ⟨by rw [own_shr1 (by omega)], rfl⟩
theorem d_jdk_52_m91_0 : decode jdk_52_method_91_code 0 = .ok (.iload_n 0, 1) := by decide +kernel
theorem d_jdk_52_m91_1 : decode jdk_52_method_91_code 1 = .ok (.aload_n 1, 1) := by decide +kernel
theorem d_jdk_52_m91_2 : decode jdk_52_method_91_code 2 = .ok (.invokestatic 48, 3) := by decide +kernel
theorem wd230 {a0 : Array Value} {Z : State} (hw : ∀ d ∈ tables_1, d.before a0 Z = true) : (Jvm.Cond.code ({ cls := "java/lang/StringUTF16", name := "length", desc := "([B)I" } : Jvm.MethodName) jdk_52_method_6_code (1 : Nat) (Option.some Jvm.ClassFile.FieldType.int)).before a0 Z = true := hw _ (List.mem_of_getElem? (i := 230) rfl)
theorem wd116 {a0 : Array Value} {Z : State} (hw : ∀ d ∈ tables_1, d.before a0 Z = true) : (Jvm.Cond.initialized "java/lang/StringUTF16").before a0 Z = true := hw _ (List.mem_of_getElem? (i := 116) rfl)
theorem pd_285bB29I : parseMethodDescriptor "([B)I" = some ⟨[(.array .byte)], some .int⟩ := by decide +kernel
theorem wd228 {a0 : Array Value} {Z : State} (hw : ∀ d ∈ tables_1, d.before a0 Z = true) : (Jvm.Cond.methodLink "java/lang/StringUTF16" (48 : Nat) ({ cls := "java/lang/StringUTF16", name := "length", desc := "([B)I" } : Jvm.MethodName)).before a0 Z = true := hw _ (List.mem_of_getElem? (i := 228) rfl)
theorem wd229 {a0 : Array Value} {Z : State} (hw : ∀ d ∈ tables_1, d.before a0 Z = true) : (Jvm.Cond.static ({ cls := "java/lang/StringUTF16", name := "length", desc := "([B)I" } : Jvm.MethodName)).before a0 Z = true := hw _ (List.mem_of_getElem? (i := 229) rfl)
theorem d_jdk_52_m91_5 : decode jdk_52_method_91_code 5 = .ok (.invokestatic 414, 3) := by decide +kernel
theorem wd231 {a0 : Array Value} {Z : State} (hw : ∀ d ∈ tables_1, d.before a0 Z = true) : (Jvm.Cond.methodLink "java/lang/StringUTF16" (414 : Nat) ({ cls := "java/lang/String", name := "checkIndex", desc := "(II)V" } : Jvm.MethodName)).before a0 Z = true := hw _ (List.mem_of_getElem? (i := 231) rfl)
theorem d_jdk_52_m91_8 : decode jdk_52_method_91_code 8 = .ok (.return_, 1) := by decide +kernel
set_option maxRecDepth 65536 in
set_option maxHeartbeats 40000000 in
theorem rm_checkIndexU {l : Launch} {Z : State} {a0 : Array Value} (hw : ∀ d ∈ tables_1, d.before a0 Z = true) (hs : ∀ d ∈ jdkStatics_1, d.before a0 Z = true) {b : Addr} {kb : ClassId} {vs : List Value} {nn : Nat} {i : Nat} {h0 : Heap} (O0 : Ext Z.heap h0) (V : Arv Z h0 b kb .byte (Int32.ofNat (2 * nn)) vs (.int 0)) (hn : nn ≤ 8000) (hi : i < nn) :
    own_Ct l Z (⟨"java/lang/StringUTF16", "checkIndex", "(I[B)V"⟩ : MethodName) jdk_52_method_91_code 2 none [] ({ frames := 2, locals := 27, cells := 0, slots := 0 } : Room) #[(.int (Int32.ofNat i)), (.ref b)] h0 (fun v h => v = none ∧ h = h0) := by
  refine own_body (Ls := #[.val (.int (Int32.ofNat i)), .val (.ref b)]) (plainFor_of_name pn_java_lang_StringUTF16) (fun m => by first | (simp [entryFrame, mkF, argsToLocals, Value.category]; done) | rfl) O0 ?_
  intro p e s m below meth c T0 G K0
  refine own_iloadN K0 d_jdk_52_m91_0 rfl rfl ?_
  refine own_aloadN K0 d_jdk_52_m91_1 rfl rfl rfl ?_
  refine own_callS K0 (wd228 hw) (wd229 hw) (rm_lengthU hw hs K0.O V hn) (wd230 hw) (wd116 hw) (by decide) (argsL := [(.ref b)]) (rest := [(.int (Int32.ofNat i))]) rfl pd_285bB29I rfl rfl (W := 1) rfl (by decide) (by decide) (by decide) (by decide) d_jdk_52_m91_2 rfl ?_
  intro T10 h10 L10 v10 K10 q10
  obtain ⟨rfl, e10⟩ := q10
  have f10 := e10.symm
  subst f10
  show G (T10.setTop (mkF m 5 #[.val (.int (Int32.ofNat i)), .val (.ref b)] [(.int (Int32.ofNat nn)), (.int (Int32.ofNat i))]))
  refine own_callS K10 (wd231 hw) (wd148 hw) (rm_checkIndexS hw hs K10.O hi hn) (wd149 hw) (wd6 hw) (by decide) (argsL := [(.int (Int32.ofNat i)), (.int (Int32.ofNat nn))]) (rest := []) rfl pd_28II29V rfl rfl (W := 0) rfl (by decide) (by decide) (by decide) (by decide) d_jdk_52_m91_5 rfl ?_
  intro T11 h11 L11 v11 K11 q11
  obtain ⟨rfl, e11⟩ := q11
  have f11 := e11.symm
  subst f11
  show G (T11.setTop (mkF m 8 #[.val (.int (Int32.ofNat i)), .val (.ref b)] []))
  exact own_ret0 K11 d_jdk_52_m91_8 rfl (by decide) (by decide) ⟨rfl, rfl⟩
theorem st12 {a0 : Array Value} {Z : State} (hs : ∀ d ∈ jdkStatics_1, d.before a0 Z = true) : (Jvm.Cond.eq (Jvm.Term.static "java/lang/StringUTF16" "$assertionsDisabled" "Z") (Jvm.Term.int (1 : Int32))).before a0 Z = true := hs _ (List.mem_of_getElem? (i := 12) rfl)
theorem st11 {a0 : Array Value} {Z : State} (hs : ∀ d ∈ jdkStatics_1, d.before a0 Z = true) : (Jvm.Cond.initializedFor "java/lang/StringUTF16" "$assertionsDisabled" "Z").before a0 Z = true := hs _ (List.mem_of_getElem? (i := 11) rfl)
theorem own_sta_assertionsDisabled {a0 : Array Value} {Z : State} (hs : ∀ d ∈ jdkStatics_1, d.before a0 Z = true) : Sta Z Z.heap "java/lang/StringUTF16" "$assertionsDisabled" "Z" (.int 1) :=
  own_staI (st12 hs) (st11 hs)
theorem d_jdk_52_m5_0 : decode jdk_52_method_5_code 0 = .ok (.getstatic 44, 3) := by decide +kernel
theorem wd216 {a0 : Array Value} {Z : State} (hw : ∀ d ∈ tables_1, d.before a0 Z = true) : (Jvm.Cond.fieldLink "java/lang/StringUTF16" (44 : Nat) "java/lang/StringUTF16" "$assertionsDisabled" "Z").before a0 Z = true := hw _ (List.mem_of_getElem? (i := 216) rfl)
theorem d_jdk_52_m5_3 : decode jdk_52_method_5_code 3 = .ok (.ifCond .ne 25, 3) := by decide +kernel
theorem d_jdk_52_m5_28 : decode jdk_52_method_5_code 28 = .ok (.iload_n 1, 1) := by decide +kernel
theorem d_jdk_52_m5_29 : decode jdk_52_method_5_code 29 = .ok (.iconst 1, 1) := by decide +kernel
theorem d_jdk_52_m5_30 : decode jdk_52_method_5_code 30 = .ok (.ishl, 1) := by decide +kernel
theorem d_jdk_52_m5_31 : decode jdk_52_method_5_code 31 = .ok (.istore_n 1, 1) := by decide +kernel
theorem d_jdk_52_m5_32 : decode jdk_52_method_5_code 32 = .ok (.aload_n 0, 1) := by decide +kernel
theorem d_jdk_52_m5_33 : decode jdk_52_method_5_code 33 = .ok (.iload_n 1, 1) := by decide +kernel
theorem d_jdk_52_m5_34 : decode jdk_52_method_5_code 34 = .ok (.iinc 1 1, 3) := by decide +kernel
theorem d_jdk_52_m5_37 : decode jdk_52_method_5_code 37 = .ok (.baload, 1) := by decide +kernel
theorem d_jdk_52_m5_38 : decode jdk_52_method_5_code 38 = .ok (.sipush 255, 3) := by decide +kernel
theorem d_jdk_52_m5_41 : decode jdk_52_method_5_code 41 = .ok (.iand, 1) := by decide +kernel
theorem st15 {a0 : Array Value} {Z : State} (hs : ∀ d ∈ jdkStatics_1, d.before a0 Z = true) : (Jvm.Cond.eq (Jvm.Term.static "java/lang/StringUTF16" "HI_BYTE_SHIFT" "I") (Jvm.Term.int (0 : Int32))).before a0 Z = true := hs _ (List.mem_of_getElem? (i := 15) rfl)
theorem st14 {a0 : Array Value} {Z : State} (hs : ∀ d ∈ jdkStatics_1, d.before a0 Z = true) : (Jvm.Cond.initializedFor "java/lang/StringUTF16" "HI_BYTE_SHIFT" "I").before a0 Z = true := hs _ (List.mem_of_getElem? (i := 14) rfl)
theorem own_sta_HI_BYTE_SHIFT {a0 : Array Value} {Z : State} (hs : ∀ d ∈ jdkStatics_1, d.before a0 Z = true) : Sta Z Z.heap "java/lang/StringUTF16" "HI_BYTE_SHIFT" "I" (.int 0) :=
  own_staI (st15 hs) (st14 hs)
theorem d_jdk_52_m5_42 : decode jdk_52_method_5_code 42 = .ok (.getstatic 59, 3) := by decide +kernel
theorem wd217 {a0 : Array Value} {Z : State} (hw : ∀ d ∈ tables_1, d.before a0 Z = true) : (Jvm.Cond.fieldLink "java/lang/StringUTF16" (59 : Nat) "java/lang/StringUTF16" "HI_BYTE_SHIFT" "I").before a0 Z = true := hw _ (List.mem_of_getElem? (i := 217) rfl)
theorem d_jdk_52_m5_45 : decode jdk_52_method_5_code 45 = .ok (.ishl, 1) := by decide +kernel
theorem d_jdk_52_m5_46 : decode jdk_52_method_5_code 46 = .ok (.aload_n 0, 1) := by decide +kernel
theorem d_jdk_52_m5_47 : decode jdk_52_method_5_code 47 = .ok (.iload_n 1, 1) := by decide +kernel
theorem d_jdk_52_m5_48 : decode jdk_52_method_5_code 48 = .ok (.baload, 1) := by decide +kernel
theorem d_jdk_52_m5_49 : decode jdk_52_method_5_code 49 = .ok (.sipush 255, 3) := by decide +kernel
theorem d_jdk_52_m5_52 : decode jdk_52_method_5_code 52 = .ok (.iand, 1) := by decide +kernel
theorem st18 {a0 : Array Value} {Z : State} (hs : ∀ d ∈ jdkStatics_1, d.before a0 Z = true) : (Jvm.Cond.eq (Jvm.Term.static "java/lang/StringUTF16" "LO_BYTE_SHIFT" "I") (Jvm.Term.int (8 : Int32))).before a0 Z = true := hs _ (List.mem_of_getElem? (i := 18) rfl)
theorem st17 {a0 : Array Value} {Z : State} (hs : ∀ d ∈ jdkStatics_1, d.before a0 Z = true) : (Jvm.Cond.initializedFor "java/lang/StringUTF16" "LO_BYTE_SHIFT" "I").before a0 Z = true := hs _ (List.mem_of_getElem? (i := 17) rfl)
theorem own_sta_LO_BYTE_SHIFT {a0 : Array Value} {Z : State} (hs : ∀ d ∈ jdkStatics_1, d.before a0 Z = true) : Sta Z Z.heap "java/lang/StringUTF16" "LO_BYTE_SHIFT" "I" (.int 8) :=
  own_staI (st18 hs) (st17 hs)
theorem d_jdk_52_m5_53 : decode jdk_52_method_5_code 53 = .ok (.getstatic 63, 3) := by decide +kernel
theorem wd218 {a0 : Array Value} {Z : State} (hw : ∀ d ∈ tables_1, d.before a0 Z = true) : (Jvm.Cond.fieldLink "java/lang/StringUTF16" (63 : Nat) "java/lang/StringUTF16" "LO_BYTE_SHIFT" "I").before a0 Z = true := hw _ (List.mem_of_getElem? (i := 218) rfl)
theorem d_jdk_52_m5_56 : decode jdk_52_method_5_code 56 = .ok (.ishl, 1) := by decide +kernel
theorem d_jdk_52_m5_57 : decode jdk_52_method_5_code 57 = .ok (.ior, 1) := by decide +kernel
theorem d_jdk_52_m5_58 : decode jdk_52_method_5_code 58 = .ok (.i2c, 1) := by decide +kernel
theorem d_jdk_52_m5_59 : decode jdk_52_method_5_code 59 = .ok (.ireturn, 1) := by decide +kernel
set_option maxRecDepth 65536 in
set_option maxHeartbeats 40000000 in
theorem rm_getChar {l : Launch} {Z : State} {a0 : Array Value} (hw : ∀ d ∈ tables_1, d.before a0 Z = true) (hs : ∀ d ∈ jdkStatics_1, d.before a0 Z = true) {b : Addr} {kb : ClassId} {cs : List Int32} {nn : Nat} {i : Nat} {h0 : Heap} (O0 : Ext Z.heap h0) (V : Arv Z h0 b kb .byte (Int32.ofNat (2 * nn)) (own_by2 cs) (.int 0)) (hn : cs.length ≤ nn ∧ nn ≤ 8000) (hok : own_ok true cs) (hi : i < cs.length) :
    own_Ct l Z (⟨"java/lang/StringUTF16", "getChar", "([BI)C"⟩ : MethodName) jdk_52_method_5_code 2 (some .char) [] ({ frames := 0, locals := 0, cells := 0, slots := 0 } : Room) #[(.ref b), (.int (Int32.ofNat i))] h0 (fun v h => v = some (.int cs[i]) ∧ h = h0) := by
  refine own_body (Ls := #[.val (.ref b), .val (.int (Int32.ofNat i))]) (plainFor_of_name pn_java_lang_StringUTF16) (fun m => by first | (simp [entryFrame, mkF, argsToLocals, Value.category]; done) | rfl) O0 ?_
  intro p e s m below meth c T0 G K0
  refine own_getS K0 (wd216 hw) Via.refl ((own_sta_assertionsDisabled hs).ext K0.O) d_jdk_52_m5_0 rfl ?_
  intro T12 K12
  refine own_ifYes K12 d_jdk_52_m5_3 (pc' := 28) (by decide) (by decide) ((if0 _ _).trans (feq (by decide)).2) ?_
  refine own_iloadN K12 d_jdk_52_m5_28 rfl rfl ?_
  refine own_iconst K12 (v := (1 : Int32)) d_jdk_52_m5_29 rfl rfl ?_
  refine own_ishl K12 d_jdk_52_m5_30 rfl ?_
  refine own_istoreN K12 (Ls' := #[.val (.ref b), .val (.int ((Int32.ofNat i) <<< ((1 : Int32) &&& 31)))]) d_jdk_52_m5_31 rfl rfl ?_
  refine own_aloadN K12 d_jdk_52_m5_32 rfl rfl rfl ?_
  refine own_iloadN K12 d_jdk_52_m5_33 rfl rfl ?_
  refine own_iinc K12 (Ls' := #[.val (.ref b), .val (.int (((Int32.ofNat i) <<< ((1 : Int32) &&& 31)) + (1 : Int32)))]) (x := ((Int32.ofNat i) <<< ((1 : Int32) &&& 31))) (v := ((Int32.ofNat i) <<< ((1 : Int32) &&& 31))) d_jdk_52_m5_34 rfl rfl rfl ?_
  rw [own_shl1 (by omega), own_one]
  refine own_baload K12 (x := (own_b0 cs[i])) V ⟨own_nn (by omega), own_lt (by omega) (by omega)⟩ (by rw [own_clamp (by omega)]; exact (own_by2_get cs i hi).1) d_jdk_52_m5_37 rfl ?_
  refine own_sipush K12 (v := (255 : Int32)) d_jdk_52_m5_38 rfl rfl ?_
  refine own_iand K12 d_jdk_52_m5_41 rfl ?_
  refine own_getS K12 (wd217 hw) Via.refl ((own_sta_HI_BYTE_SHIFT hs).ext K12.O) d_jdk_52_m5_42 rfl ?_
  intro T13 K13
  refine own_ishl K13 d_jdk_52_m5_45 rfl ?_
  refine own_aloadN K13 d_jdk_52_m5_46 rfl rfl rfl ?_
  refine own_iloadN K13 d_jdk_52_m5_47 rfl rfl ?_
  refine own_baload K13 (x := (own_b1 cs[i])) V ⟨own_nn (by omega), own_lt (by omega) (by omega)⟩ (by rw [own_clamp (by omega)]; exact (own_by2_get cs i hi).2) d_jdk_52_m5_48 rfl ?_
  refine own_sipush K13 (v := (255 : Int32)) d_jdk_52_m5_49 rfl rfl ?_
  refine own_iand K13 d_jdk_52_m5_52 rfl ?_
  refine own_getS K13 (wd218 hw) Via.refl ((own_sta_LO_BYTE_SHIFT hs).ext K13.O) d_jdk_52_m5_53 rfl ?_
  intro T14 K14
  refine own_ishl K14 d_jdk_52_m5_56 rfl ?_
  refine own_ior K14 d_jdk_52_m5_57 rfl ?_
  refine own_i2c K14 d_jdk_52_m5_58 rfl ?_
  exact own_retN K14 (z' := cs[i]) d_jdk_52_m5_59 rfl (by simp) (own_rd2 (hok _ (List.getElem_mem hi))) (by decide) (by decide) ⟨rfl, rfl⟩
theorem d_jdk_52_m83_0 : decode jdk_52_method_83_code 0 = .ok (.iload_n 1, 1) := by decide +kernel
theorem d_jdk_52_m83_1 : decode jdk_52_method_83_code 1 = .ok (.aload_n 0, 1) := by decide +kernel
theorem d_jdk_52_m83_2 : decode jdk_52_method_83_code 2 = .ok (.invokestatic 67, 3) := by decide +kernel
theorem wd227 {a0 : Array Value} {Z : State} (hw : ∀ d ∈ tables_1, d.before a0 Z = true) : (Jvm.Cond.code ({ cls := "java/lang/StringUTF16", name := "checkIndex", desc := "(I[B)V" } : Jvm.MethodName) jdk_52_method_91_code (2 : Nat) (Option.none : Option Jvm.ClassFile.FieldType)).before a0 Z = true := hw _ (List.mem_of_getElem? (i := 227) rfl)
theorem pd_28I5bB29V : parseMethodDescriptor "(I[B)V" = some ⟨[.int, (.array .byte)], none⟩ := by decide +kernel
theorem wd225 {a0 : Array Value} {Z : State} (hw : ∀ d ∈ tables_1, d.before a0 Z = true) : (Jvm.Cond.methodLink "java/lang/StringUTF16" (67 : Nat) ({ cls := "java/lang/StringUTF16", name := "checkIndex", desc := "(I[B)V" } : Jvm.MethodName)).before a0 Z = true := hw _ (List.mem_of_getElem? (i := 225) rfl)
theorem wd226 {a0 : Array Value} {Z : State} (hw : ∀ d ∈ tables_1, d.before a0 Z = true) : (Jvm.Cond.static ({ cls := "java/lang/StringUTF16", name := "checkIndex", desc := "(I[B)V" } : Jvm.MethodName)).before a0 Z = true := hw _ (List.mem_of_getElem? (i := 226) rfl)
theorem d_jdk_52_m83_5 : decode jdk_52_method_83_code 5 = .ok (.aload_n 0, 1) := by decide +kernel
theorem d_jdk_52_m83_6 : decode jdk_52_method_83_code 6 = .ok (.iload_n 1, 1) := by decide +kernel
theorem d_jdk_52_m83_7 : decode jdk_52_method_83_code 7 = .ok (.invokestatic 71, 3) := by decide +kernel
theorem wd221 {a0 : Array Value} {Z : State} (hw : ∀ d ∈ tables_1, d.before a0 Z = true) : (Jvm.Cond.code ({ cls := "java/lang/StringUTF16", name := "getChar", desc := "([BI)C" } : Jvm.MethodName) jdk_52_method_5_code (2 : Nat) (Option.some Jvm.ClassFile.FieldType.char)).before a0 Z = true := hw _ (List.mem_of_getElem? (i := 221) rfl)
theorem pd_285bBI29C : parseMethodDescriptor "([BI)C" = some ⟨[(.array .byte), .int], some .char⟩ := by decide +kernel
theorem wd219 {a0 : Array Value} {Z : State} (hw : ∀ d ∈ tables_1, d.before a0 Z = true) : (Jvm.Cond.methodLink "java/lang/StringUTF16" (71 : Nat) ({ cls := "java/lang/StringUTF16", name := "getChar", desc := "([BI)C" } : Jvm.MethodName)).before a0 Z = true := hw _ (List.mem_of_getElem? (i := 219) rfl)
theorem wd220 {a0 : Array Value} {Z : State} (hw : ∀ d ∈ tables_1, d.before a0 Z = true) : (Jvm.Cond.static ({ cls := "java/lang/StringUTF16", name := "getChar", desc := "([BI)C" } : Jvm.MethodName)).before a0 Z = true := hw _ (List.mem_of_getElem? (i := 220) rfl)
theorem d_jdk_52_m83_10 : decode jdk_52_method_83_code 10 = .ok (.ireturn, 1) := by decide +kernel
set_option maxRecDepth 65536 in
set_option maxHeartbeats 40000000 in
theorem rm_charAtU {l : Launch} {Z : State} {a0 : Array Value} (hw : ∀ d ∈ tables_1, d.before a0 Z = true) (hs : ∀ d ∈ jdkStatics_1, d.before a0 Z = true) {b : Addr} {kb : ClassId} {cs : List Int32} {i : Nat} {h0 : Heap} (O0 : Ext Z.heap h0) (V : Arv Z h0 b kb .byte (Int32.ofNat (2 * cs.length)) (own_by2 cs) (.int 0)) (hlen : cs.length ≤ 4000) (hok : own_ok true cs) (hi : i < cs.length) :
    own_Ct l Z (⟨"java/lang/StringUTF16", "charAt", "([BI)C"⟩ : MethodName) jdk_52_method_83_code 2 (some .char) [] ({ frames := 3, locals := 40, cells := 0, slots := 0 } : Room) #[(.ref b), (.int (Int32.ofNat i))] h0 (fun v h => v = some (.int cs[i]) ∧ h = h0) := by
  refine own_body (Ls := #[.val (.ref b), .val (.int (Int32.ofNat i))]) (plainFor_of_name pn_java_lang_StringUTF16) (fun m => by first | (simp [entryFrame, mkF, argsToLocals, Value.category]; done) | rfl) O0 ?_
  intro p e s m below meth c T0 G K0
  refine own_iloadN K0 d_jdk_52_m83_0 rfl rfl ?_
  refine own_aloadN K0 d_jdk_52_m83_1 rfl rfl rfl ?_
  refine own_callS K0 (wd225 hw) (wd226 hw) (rm_checkIndexU hw hs K0.O V (by omega) hi) (wd227 hw) (wd116 hw) (by decide) (argsL := [(.int (Int32.ofNat i)), (.ref b)]) (rest := []) rfl pd_28I5bB29V rfl rfl (W := 0) rfl (by decide) (by decide) (by decide) (by decide) d_jdk_52_m83_2 rfl ?_
  intro T15 h15 L15 v15 K15 q15
  obtain ⟨rfl, e15⟩ := q15
  have f15 := e15.symm
  subst f15
  show G (T15.setTop (mkF m 5 #[.val (.ref b), .val (.int (Int32.ofNat i))] []))
  refine own_aloadN K15 d_jdk_52_m83_5 rfl rfl rfl ?_
  refine own_iloadN K15 d_jdk_52_m83_6 rfl rfl ?_
  refine own_callS K15 (wd219 hw) (wd220 hw) (rm_getChar hw hs K15.O V ⟨Nat.le_refl _, by omega⟩ hok hi) (wd221 hw) (wd116 hw) (by decide) (argsL := [(.ref b), (.int (Int32.ofNat i))]) (rest := []) rfl pd_285bBI29C rfl rfl (W := 0) rfl (by decide) (by decide) (by decide) (by decide) d_jdk_52_m83_7 rfl ?_
  intro T16 h16 L16 v16 K16 q16
  obtain ⟨rfl, e16⟩ := q16
  have f16 := e16.symm
  subst f16
  show G (T16.setTop (mkF m 10 #[.val (.ref b), .val (.int (Int32.ofNat i))] [(.int cs[i])]))
  exact own_retN K16 (z' := cs[i]) d_jdk_52_m83_10 rfl (by simp) (own_nar_char (hok _ (List.getElem_mem hi))) (by decide) (by decide) ⟨rfl, rfl⟩
theorem d_jdk_42_m56_0 : decode jdk_42_method_56_code 0 = .ok (.aload_n 0, 1) := by decide +kernel
theorem d_jdk_42_m56_1 : decode jdk_42_method_56_code 1 = .ok (.invokevirtual 492, 3) := by decide +kernel
theorem wd142 {a0 : Array Value} {Z : State} (hw : ∀ d ∈ tables_1, d.before a0 Z = true) : (Jvm.Cond.code ({ cls := "java/lang/String", name := "isLatin1", desc := "()Z" } : Jvm.MethodName) jdk_42_method_154_code (1 : Nat) (Option.some Jvm.ClassFile.FieldType.boolean)).before a0 Z = true := hw _ (List.mem_of_getElem? (i := 142) rfl)
theorem pd_2829Z : parseMethodDescriptor "()Z" = some ⟨[], some .boolean⟩ := by decide +kernel
theorem wd138 {a0 : Array Value} {Z : State} (hw : ∀ d ∈ tables_1, d.before a0 Z = true) : (Jvm.Cond.methodLink "java/lang/String" (492 : Nat) ({ cls := "java/lang/String", name := "isLatin1", desc := "()Z" } : Jvm.MethodName)).before a0 Z = true := hw _ (List.mem_of_getElem? (i := 138) rfl)
theorem wd139 {a0 : Array Value} {Z : State} (hw : ∀ d ∈ tables_1, d.before a0 Z = true) : (Jvm.Cond.declares ({ cls := "java/lang/String", name := "isLatin1", desc := "()Z" } : Jvm.MethodName)).before a0 Z = true := hw _ (List.mem_of_getElem? (i := 139) rfl)
theorem wd141 {a0 : Array Value} {Z : State} (hw : ∀ d ∈ tables_1, d.before a0 Z = true) : (Jvm.Cond.selects "java/lang/String" ({ cls := "java/lang/String", name := "isLatin1", desc := "()Z" } : Jvm.MethodName) ({ cls := "java/lang/String", name := "isLatin1", desc := "()Z" } : Jvm.MethodName)).before a0 Z = true := hw _ (List.mem_of_getElem? (i := 141) rfl)
theorem wd140 {a0 : Array Value} {Z : State} (hw : ∀ d ∈ tables_1, d.before a0 Z = true) : (Jvm.Cond.instanceMethod ({ cls := "java/lang/String", name := "isLatin1", desc := "()Z" } : Jvm.MethodName)).before a0 Z = true := hw _ (List.mem_of_getElem? (i := 140) rfl)
theorem d_jdk_42_m56_4 : decode jdk_42_method_56_code 4 = .ok (.ifCond .eq 12, 3) := by decide +kernel
theorem d_jdk_42_m56_7 : decode jdk_42_method_56_code 7 = .ok (.aload_n 0, 1) := by decide +kernel
theorem d_jdk_42_m56_8 : decode jdk_42_method_56_code 8 = .ok (.getfield 9, 3) := by decide +kernel
theorem d_jdk_42_m56_11 : decode jdk_42_method_56_code 11 = .ok (.iload_n 1, 1) := by decide +kernel
theorem d_jdk_42_m56_12 : decode jdk_42_method_56_code 12 = .ok (.invokestatic 495, 3) := by decide +kernel
theorem wd146 {a0 : Array Value} {Z : State} (hw : ∀ d ∈ tables_1, d.before a0 Z = true) : (Jvm.Cond.code ({ cls := "java/lang/StringLatin1", name := "charAt", desc := "([BI)C" } : Jvm.MethodName) jdk_43_method_2_code (2 : Nat) (Option.some Jvm.ClassFile.FieldType.char)).before a0 Z = true := hw _ (List.mem_of_getElem? (i := 146) rfl)
theorem wd145 {a0 : Array Value} {Z : State} (hw : ∀ d ∈ tables_1, d.before a0 Z = true) : (Jvm.Cond.initialized "java/lang/StringLatin1").before a0 Z = true := hw _ (List.mem_of_getElem? (i := 145) rfl)
theorem wd143 {a0 : Array Value} {Z : State} (hw : ∀ d ∈ tables_1, d.before a0 Z = true) : (Jvm.Cond.methodLink "java/lang/String" (495 : Nat) ({ cls := "java/lang/StringLatin1", name := "charAt", desc := "([BI)C" } : Jvm.MethodName)).before a0 Z = true := hw _ (List.mem_of_getElem? (i := 143) rfl)
theorem wd144 {a0 : Array Value} {Z : State} (hw : ∀ d ∈ tables_1, d.before a0 Z = true) : (Jvm.Cond.static ({ cls := "java/lang/StringLatin1", name := "charAt", desc := "([BI)C" } : Jvm.MethodName)).before a0 Z = true := hw _ (List.mem_of_getElem? (i := 144) rfl)
theorem d_jdk_42_m56_15 : decode jdk_42_method_56_code 15 = .ok (.ireturn, 1) := by decide +kernel
theorem d_jdk_42_m56_16 : decode jdk_42_method_56_code 16 = .ok (.aload_n 0, 1) := by decide +kernel
theorem d_jdk_42_m56_17 : decode jdk_42_method_56_code 17 = .ok (.getfield 9, 3) := by decide +kernel
theorem d_jdk_42_m56_20 : decode jdk_42_method_56_code 20 = .ok (.iload_n 1, 1) := by decide +kernel
theorem d_jdk_42_m56_21 : decode jdk_42_method_56_code 21 = .ok (.invokestatic 498, 3) := by decide +kernel
theorem wd224 {a0 : Array Value} {Z : State} (hw : ∀ d ∈ tables_1, d.before a0 Z = true) : (Jvm.Cond.code ({ cls := "java/lang/StringUTF16", name := "charAt", desc := "([BI)C" } : Jvm.MethodName) jdk_52_method_83_code (2 : Nat) (Option.some Jvm.ClassFile.FieldType.char)).before a0 Z = true := hw _ (List.mem_of_getElem? (i := 224) rfl)
theorem wd222 {a0 : Array Value} {Z : State} (hw : ∀ d ∈ tables_1, d.before a0 Z = true) : (Jvm.Cond.methodLink "java/lang/String" (498 : Nat) ({ cls := "java/lang/StringUTF16", name := "charAt", desc := "([BI)C" } : Jvm.MethodName)).before a0 Z = true := hw _ (List.mem_of_getElem? (i := 222) rfl)
theorem wd223 {a0 : Array Value} {Z : State} (hw : ∀ d ∈ tables_1, d.before a0 Z = true) : (Jvm.Cond.static ({ cls := "java/lang/StringUTF16", name := "charAt", desc := "([BI)C" } : Jvm.MethodName)).before a0 Z = true := hw _ (List.mem_of_getElem? (i := 223) rfl)
theorem d_jdk_42_m56_24 : decode jdk_42_method_56_code 24 = .ok (.ireturn, 1) := by decide +kernel
set_option maxRecDepth 65536 in
set_option maxHeartbeats 40000000 in
theorem rm_charAt {l : Launch} {Z : State} {a0 : Array Value} (hw : ∀ d ∈ tables_1, d.before a0 Z = true) (hs : ∀ d ∈ jdkStatics_1, d.before a0 Z = true) {x : Addr} {u : Bool} {cs : List Int32} {i : Nat} {h0 : Heap} (O0 : Ext Z.heap h0) (S : own_StrG Z h0 x u cs) (hlen : cs.length ≤ 4000) (hok : own_ok u cs) (hi : i < cs.length) :
    own_Ct l Z (⟨"java/lang/String", "charAt", "(I)C"⟩ : MethodName) jdk_42_method_56_code 2 (some .char) [] ({ frames := 4, locals := 53, cells := 0, slots := 0 } : Room) #[(.ref x), (.int (Int32.ofNat i))] h0 (fun v h => v = some (.int cs[i]) ∧ h = h0) := by
  have S' := S
  obtain ⟨E, Fc, b, kb, Fv, V⟩ := S'
  refine own_body (Ls := #[.val (.ref x), .val (.int (Int32.ofNat i))]) (plainFor_of_name pn_java_lang_String) (fun m => by first | (simp [entryFrame, mkF, argsToLocals, Value.category]; done) | rfl) O0 ?_
  intro p e s m below meth c T0 G K0
  refine own_aloadN K0 d_jdk_42_m56_0 rfl rfl rfl ?_
  refine own_callV K0 (a := x) (x0 := (⟨"java/lang/String", "isLatin1", "()Z"⟩ : MethodName)) (wd138 hw) (wd139 hw) (fun q => own_nfS (args := #[]) (mvT q (wd36 hw)) rfl) (wd141 hw) (wd140 hw) (rm_isLatin1 hw hs K0.O S hlen) (wd142 hw) (wd6 hw) (by decide) S.exa (argsL := []) (rest := []) rfl pd_2829Z rfl rfl (W := 0) rfl (by decide) (by decide) (by decide) (by decide) d_jdk_42_m56_1 rfl ?_
  intro T17 h17 L17 v17 K17 q17
  obtain ⟨rfl, e17⟩ := q17
  have f17 := e17.symm
  subst f17
  show G (T17.setTop (mkF m 4 #[.val (.ref x), .val (.int (Int32.ofNat i))] [(.int (cond u 0 1))]))
  cases u with
  | false =>
    refine own_ifNo K17 d_jdk_42_m56_4 rfl ((if0 _ _).trans (feq (by decide)).1) ?_
    refine own_aloadN K17 d_jdk_42_m56_7 rfl rfl rfl ?_
    refine own_getF K17 (host := "") (Or.inl (wd24 hw)) Via.refl Fv d_jdk_42_m56_8 rfl ?_
    intro T18 K18
    refine own_iloadN K18 d_jdk_42_m56_11 rfl rfl ?_
    refine own_callS K18 (wd143 hw) (wd144 hw) (rm_charAt1 hw hs K18.O V hlen hok hi) (wd146 hw) (wd145 hw) (by decide) (argsL := [(.ref b), (.int (Int32.ofNat i))]) (rest := []) rfl pd_285bBI29C rfl rfl (W := 0) rfl (by decide) (by decide) (by decide) (by decide) d_jdk_42_m56_12 rfl ?_
    intro T19 h19 L19 v19 K19 q19
    obtain ⟨rfl, e19⟩ := q19
    have f19 := e19.symm
    subst f19
    show G (T19.setTop (mkF m 15 #[.val (.ref x), .val (.int (Int32.ofNat i))] [(.int cs[i])]))
    exact own_retN K19 (z' := cs[i]) d_jdk_42_m56_15 rfl (by simp) (own_nar_char8 (hok _ (List.getElem_mem hi))) (by decide) (by decide) ⟨rfl, rfl⟩
  | true =>
    refine own_ifYes K17 d_jdk_42_m56_4 (pc' := 16) (by decide) (by decide) ((if0 _ _).trans (teq rfl).1) ?_
    refine own_aloadN K17 d_jdk_42_m56_16 rfl rfl rfl ?_
    refine own_getF K17 (host := "") (Or.inl (wd24 hw)) Via.refl Fv d_jdk_42_m56_17 rfl ?_
    intro T20 K20
    refine own_iloadN K20 d_jdk_42_m56_20 rfl rfl ?_
    refine own_callS K20 (wd222 hw) (wd223 hw) (rm_charAtU hw hs K20.O V hlen hok hi) (wd224 hw) (wd116 hw) (by decide) (argsL := [(.ref b), (.int (Int32.ofNat i))]) (rest := []) rfl pd_285bBI29C rfl rfl (W := 0) rfl (by decide) (by decide) (by decide) (by decide) d_jdk_42_m56_21 rfl ?_
    intro T21 h21 L21 v21 K21 q21
    obtain ⟨rfl, e21⟩ := q21
    have f21 := e21.symm
    subst f21
    show G (T21.setTop (mkF m 24 #[.val (.ref x), .val (.int (Int32.ofNat i))] [(.int cs[i])]))
    exact own_retN K21 (z' := cs[i]) d_jdk_42_m56_24 rfl (by simp) (own_nar_char (hok _ (List.getElem_mem hi))) (by decide) (by decide) ⟨rfl, rfl⟩
/-- a StringBuilder: its coder, its count n, the chars that stand in its array b, room for N chars -/
def own_SB (Z : State) (h : Heap) (a : Addr) (u : Bool) (n : Nat) (cs : List Int32) (b : Addr) (kb : ClassId) (N : Nat) : Prop :=
  Exa Z h a "java/lang/StringBuilder" ∧ Fld Z h a "java/lang/AbstractStringBuilder" "value" "[B" (.ref b) ∧ Fld Z h a "java/lang/AbstractStringBuilder" "coder" "B" (.int (own_cd u)) ∧ Fld Z h a "java/lang/AbstractStringBuilder" "count" "I" (.int (Int32.ofNat n)) ∧ Fld Z h a "java/lang/AbstractStringBuilder" "maybeLatin1" "Z" (.int 0) ∧ Arv Z h b kb .byte (Int32.ofNat (own_bn u N)) (own_bs u cs) (.int 0) ∧ a ≠ b ∧ Z.heap.size ≤ a ∧ Z.heap.size ≤ b ∧ cs.length ≤ N ∧ N ≤ 2000 ∧ n ≤ cs.length
theorem own_SB.ext {Z : State} {h h' : Heap} {a : Addr} {u : Bool} {n : Nat} {cs : List Int32} {b : Addr} {kb : ClassId} {N : Nat} (B : own_SB Z h a u n cs b kb N) (E : Ext h h') : own_SB Z h' a u n cs b kb N := by
  obtain ⟨E0, F0, F1, F2, F3, V, r⟩ := B
  exact ⟨E0.ext E, F0.ext E, F1.ext E, F2.ext E, F3.ext E, V.ext E, r⟩
theorem own_SB.exa {Z : State} {h : Heap} {a : Addr} {u : Bool} {n : Nat} {cs : List Int32} {b : Addr} {kb : ClassId} {N : Nat} (B : own_SB Z h a u n cs b kb N) : Exa Z h a "java/lang/StringBuilder" := B.1
theorem own_SB.lt {Z : State} {h : Heap} {a : Addr} {u : Bool} {n : Nat} {cs : List Int32} {b : Addr} {kb : ClassId} {N : Nat} (B : own_SB Z h a u n cs b kb N) : a < h.size ∧ b < h.size := by
  obtain ⟨E0, F0, F1, F2, F3, V, r⟩ := B
  exact ⟨E0.lt, V.lt⟩
theorem own_nosub {i j : Nat} (h : i ≤ j) (hj : j < 1000000) : ¬ 0 < Int32.ofNat i - Int32.ofNat j := by
  have h1 := c_isub (Int32.ofNat i) (Int32.ofNat j)
  have h3 : ∀ y : Int32, -2147483648 ≤ y.toInt ∧ y.toInt < 2147483648 := fun y => ⟨Int32.le_toInt y, Int32.toInt_lt y⟩
  have h4 := h3 (Int32.ofNat i - Int32.ofNat j)
  rw [Int32.toInt_ofNat_of_lt (by omega), Int32.toInt_ofNat_of_lt (by omega)] at h1
  rw [Int32.lt_iff_toInt_lt, show (0 : Int32).toInt = 0 from rfl]; omega
theorem own_shrU (u : Bool) {n : Nat} (h : n ≤ 4000) : Int32.ofNat (own_bn u n) >>> (own_cd u &&& 31) = Int32.ofNat n := by
  cases u
  · exact own_shr0 _
  · exact own_shr1 (by omega)
theorem own_shlU (u : Bool) {n : Nat} (h : n ≤ 4000) : Int32.ofNat n <<< (own_cd u &&& 31) = Int32.ofNat (own_bn u n) := by
  cases u
  · exact own_shl0 _
  · exact own_shl1 (by omega)
theorem own_acp (vs us : List Value) (d : Value) (n : Nat) : (vs ++ List.replicate n d).take vs.length ++ us ++ (vs ++ List.replicate n d).drop (vs.length + n) = vs ++ us := by
  rw [List.take_left' rfl, List.drop_eq_nil_of_le (by simp), List.append_nil]
theorem own_rng (vs : List Value) (d : Value) (n : Nat) (h : n = vs.length) : (List.range n).map (fun i => vs.getD (0 + i) d) = vs := by
  subst h
  apply List.ext_getElem
  · simp
  · intro i h1 h2
    simp at h1
    simp [h1]
theorem d_jdk_68_m2_0 : decode jdk_68_method_2_code 0 = .ok (.aload_n 0, 1) := by decide +kernel
theorem d_jdk_68_m2_1 : decode jdk_68_method_2_code 1 = .ok (.invokespecial 3, 3) := by decide +kernel
theorem wd53 {a0 : Array Value} {Z : State} (hw : ∀ d ∈ tables_1, d.before a0 Z = true) : (Jvm.Cond.methodLink "java/lang/AbstractStringBuilder" (3 : Nat) ({ cls := "java/lang/Object", name := "<init>", desc := "()V" } : Jvm.MethodName)).before a0 Z = true := hw _ (List.mem_of_getElem? (i := 53) rfl)
theorem wd16 {a0 : Array Value} {Z : State} (hw : ∀ d ∈ tables_1, d.before a0 Z = true) : (Jvm.Cond.instanceMethod ({ cls := "java/lang/Object", name := "<init>", desc := "()V" } : Jvm.MethodName)).before a0 Z = true := hw _ (List.mem_of_getElem? (i := 16) rfl)
theorem wd17 {a0 : Array Value} {Z : State} (hw : ∀ d ∈ tables_1, d.before a0 Z = true) : (Jvm.Cond.code ({ cls := "java/lang/Object", name := "<init>", desc := "()V" } : Jvm.MethodName) object_method_1_code (1 : Nat) (Option.none : Option Jvm.ClassFile.FieldType)).before a0 Z = true := hw _ (List.mem_of_getElem? (i := 17) rfl)
theorem d_jdk_68_m2_4 : decode jdk_68_method_2_code 4 = .ok (.getstatic 18, 3) := by decide +kernel
theorem wd54 {a0 : Array Value} {Z : State} (hw : ∀ d ∈ tables_1, d.before a0 Z = true) : (Jvm.Cond.fieldLink "java/lang/AbstractStringBuilder" (18 : Nat) "java/lang/String" "COMPACT_STRINGS" "Z").before a0 Z = true := hw _ (List.mem_of_getElem? (i := 54) rfl)
theorem d_jdk_68_m2_7 : decode jdk_68_method_2_code 7 = .ok (.ifCond .eq 18, 3) := by decide +kernel
theorem d_jdk_68_m2_10 : decode jdk_68_method_2_code 10 = .ok (.aload_n 0, 1) := by decide +kernel
theorem d_jdk_68_m2_11 : decode jdk_68_method_2_code 11 = .ok (.iload_n 1, 1) := by decide +kernel
theorem d_jdk_68_m2_12 : decode jdk_68_method_2_code 12 = .ok (.newarray .byte, 2) := by decide +kernel
theorem wd19 {a0 : Array Value} {Z : State} (hw : ∀ d ∈ tables_1, d.before a0 Z = true) : (Jvm.Cond.arrayClass Jvm.ClassFile.FieldType.byte).before a0 Z = true := hw _ (List.mem_of_getElem? (i := 19) rfl)
theorem wd55 {a0 : Array Value} {Z : State} (hw : ∀ d ∈ tables_1, d.before a0 Z = true) : (Jvm.Cond.fieldLink "java/lang/AbstractStringBuilder" (15 : Nat) "java/lang/AbstractStringBuilder" "value" "[B").before a0 Z = true := hw _ (List.mem_of_getElem? (i := 55) rfl)
theorem wd56 {a0 : Array Value} {Z : State} (hw : ∀ d ∈ tables_1, d.before a0 Z = true) : (Jvm.Cond.lays "java/lang/StringBuilder" "java/lang/AbstractStringBuilder" "value" "[B").before a0 Z = true := hw _ (List.mem_of_getElem? (i := 56) rfl)
theorem d_jdk_68_m2_14 : decode jdk_68_method_2_code 14 = .ok (.putfield 15, 3) := by decide +kernel
theorem wd31 {a0 : Array Value} {Z : State} (hw : ∀ d ∈ tables_1, d.before a0 Z = true) : (Jvm.Cond.instantiable "java/lang/StringBuilder" (4 : Nat)).before a0 Z = true := hw _ (List.mem_of_getElem? (i := 31) rfl)
theorem wd58 {a0 : Array Value} {Z : State} (hw : ∀ d ∈ tables_1, d.before a0 Z = true) : (Jvm.Cond.lays "java/lang/StringBuilder" "java/lang/AbstractStringBuilder" "coder" "B").before a0 Z = true := hw _ (List.mem_of_getElem? (i := 58) rfl)
theorem wd86 {a0 : Array Value} {Z : State} (hw : ∀ d ∈ tables_1, d.before a0 Z = true) : (Jvm.Cond.lays "java/lang/StringBuilder" "java/lang/AbstractStringBuilder" "count" "I").before a0 Z = true := hw _ (List.mem_of_getElem? (i := 86) rfl)
theorem wd259 {a0 : Array Value} {Z : State} (hw : ∀ d ∈ tables_1, d.before a0 Z = true) : (Jvm.Cond.lays "java/lang/StringBuilder" "java/lang/AbstractStringBuilder" "maybeLatin1" "Z").before a0 Z = true := hw _ (List.mem_of_getElem? (i := 259) rfl)
theorem d_jdk_68_m2_17 : decode jdk_68_method_2_code 17 = .ok (.aload_n 0, 1) := by decide +kernel
theorem d_jdk_68_m2_18 : decode jdk_68_method_2_code 18 = .ok (.iconst 0, 1) := by decide +kernel
theorem wd57 {a0 : Array Value} {Z : State} (hw : ∀ d ∈ tables_1, d.before a0 Z = true) : (Jvm.Cond.fieldLink "java/lang/AbstractStringBuilder" (22 : Nat) "java/lang/AbstractStringBuilder" "coder" "B").before a0 Z = true := hw _ (List.mem_of_getElem? (i := 57) rfl)
theorem d_jdk_68_m2_19 : decode jdk_68_method_2_code 19 = .ok (.putfield 22, 3) := by decide +kernel
theorem d_jdk_68_m2_22 : decode jdk_68_method_2_code 22 = .ok (.goto 16, 3) := by decide +kernel
theorem d_jdk_68_m2_38 : decode jdk_68_method_2_code 38 = .ok (.return_, 1) := by decide +kernel
theorem pn_java_lang_AbstractStringBuilder : plainName "java/lang/AbstractStringBuilder" = true := by first | (simp [plainName, overriddenIn]; done) | decide +kernel
set_option maxRecDepth 65536 in
set_option maxHeartbeats 40000000 in
theorem rm_asbInit {l : Launch} {Z : State} {a0 : Array Value} (hw : ∀ d ∈ tables_1, d.before a0 Z = true) (hs : ∀ d ∈ jdkStatics_1, d.before a0 Z = true) {x : Addr} {cap : Nat} {h0 : Heap} (O0 : Ext Z.heap h0) (E : Exa Z h0 x "java/lang/StringBuilder") (Fvalue : Fld Z h0 x "java/lang/AbstractStringBuilder" "value" "[B" .null) (Fcoder : Fld Z h0 x "java/lang/AbstractStringBuilder" "coder" "B" (.int 0)) (Fcount : Fld Z h0 x "java/lang/AbstractStringBuilder" "count" "I" (.int 0)) (FmaybeLatin1 : Fld Z h0 x "java/lang/AbstractStringBuilder" "maybeLatin1" "Z" (.int 0)) (gx : Z.heap.size ≤ x) (hcap2 : cap ≤ 2000) :
    own_Ct l Z (⟨"java/lang/AbstractStringBuilder", "<init>", "(I)V"⟩ : MethodName) jdk_68_method_2_code 2 none [] ({ frames := 1, locals := 12, cells := 1, slots := 0 + cap } : Room) #[(.ref x), (.int (Int32.ofNat cap))] h0 (fun v h => v = none ∧ Keep h0 h [x] ∧ ∃ (b : Addr) (kb : ClassId), h0.size ≤ b ∧ own_SB Z h x false 0 [] b kb cap) := by
  obtain ⟨zc, SC, hzc⟩ := own_compact hs
  refine own_body (Ls := #[.val (.ref x), .val (.int (Int32.ofNat cap))]) (plainFor_of_name pn_java_lang_AbstractStringBuilder) (fun m => by first | (simp [entryFrame, mkF, argsToLocals, Value.category]; done) | rfl) O0 ?_
  intro p e s m below meth c T0 G K0
  refine own_aloadN K0 d_jdk_68_m2_0 rfl rfl rfl ?_
  refine own_initO K0 (W := 0) (wd53 hw) (wd16 hw) (wd17 hw) rfl rfl (by first | decide | (dsimp only; omega)) (by first | decide | (dsimp only; omega)) d_jdk_68_m2_1 rfl ?_
  intro T22 K22
  refine own_getS K22 (wd54 hw) Via.refl (SC.ext K22.O) d_jdk_68_m2_4 rfl ?_
  intro T23 K23
  refine own_ifNo K23 d_jdk_68_m2_7 rfl ((if0 _ _).trans (feq hzc).1) ?_
  refine own_aloadN K23 d_jdk_68_m2_10 rfl rfl rfl ?_
  refine own_iloadN K23 d_jdk_68_m2_11 rfl rfl ?_
  refine own_newP K23 (aty := .byte) (wd19 hw) d_jdk_68_m2_12 (own_nn (by omega)) (cap := cap) (by rw [own_clamp (by omega)]; exact Nat.le_refl _) (by omega) (by first | decide | (dsimp only; omega)) (by first | decide | (dsimp only; omega)) rfl ?_
  intro T24 h24 a24 c24 K24 g24 E24 V24
  have hab : x ≠ a24 := Nat.ne_of_lt (Nat.lt_of_lt_of_le E.lt (Nat.le_of_eq g24.symm))
  have gb : Z.heap.size ≤ a24 := by rw [g24]; exact K0.O.1
  have Xvalue := Fvalue.ext E24
  have Xcoder := Fcoder.ext E24
  have Xcount := Fcount.ext E24
  have XmaybeLatin1 := FmaybeLatin1.ext E24
  have XE := E.ext E24
  refine own_putF K24 (host := "") (Or.inl (wd55 hw)) Via.refl Xvalue XE (Or.inl (wd56 hw)) (wd31 hw) (ty := (.array .byte)) (by decide) rfl rfl gx d_jdk_68_m2_14 rfl ?_
  intro T25 h25 K25 W25
  have value_26 := Xvalue.same W25
  have coder_26 := Xcoder.other W25 (Or.inr (slot_ne (Or.inl (wd58 hw)) (Or.inl (wd56 hw)) (by decide) (t := .byte) (t' := (.array .byte)) (by decide) (by decide)))
  have count_26 := Xcount.other W25 (Or.inr (slot_ne (Or.inl (wd86 hw)) (Or.inl (wd56 hw)) (by decide) (t := .int) (t' := (.array .byte)) (by decide) (by decide)))
  have maybeLatin1_26 := XmaybeLatin1.other W25 (Or.inr (slot_ne (Or.inl (wd259 hw)) (Or.inl (wd56 hw)) (by decide) (t := .boolean) (t' := (.array .byte)) (by decide) (by decide)))
  have E_26 := XE.wr W25
  have V_26 := V24.other W25 (Ne.symm hab)
  refine own_aloadN K25 d_jdk_68_m2_17 rfl rfl rfl ?_
  refine own_iconst K25 (v := (0 : Int32)) d_jdk_68_m2_18 rfl rfl ?_
  refine own_putFN K25 (wd57 hw) Via.refl coder_26 E_26 (Or.inl (wd58 hw)) (wd31 hw) (ty := .byte) (v' := .int 0) (by decide) rfl rfl gx d_jdk_68_m2_19 rfl ?_
  intro T27 h27 K27 W27
  have value_28 := value_26.other W27 (Or.inr (slot_ne (Or.inl (wd56 hw)) (Or.inl (wd58 hw)) (by decide) (t := (.array .byte)) (t' := .byte) (by decide) (by decide)))
  have coder_28 := coder_26.same W27
  have count_28 := count_26.other W27 (Or.inr (slot_ne (Or.inl (wd86 hw)) (Or.inl (wd58 hw)) (by decide) (t := .int) (t' := .byte) (by decide) (by decide)))
  have maybeLatin1_28 := maybeLatin1_26.other W27 (Or.inr (slot_ne (Or.inl (wd259 hw)) (Or.inl (wd58 hw)) (by decide) (t := .boolean) (t' := .byte) (by decide) (by decide)))
  have E_28 := E_26.wr W27
  have V_28 := V_26.other W27 (Ne.symm hab)
  refine own_goto K27 d_jdk_68_m2_22 (pc' := 38) (by decide) (by decide) ?_
  exact own_ret0 K27 d_jdk_68_m2_38 rfl (by first | decide | (dsimp only; omega)) (by first | decide | (dsimp only; omega)) ⟨rfl, (((Keep.refl h0 [x]).ext E24).wr W25 (Or.inl (List.mem_singleton.mpr rfl))).wr W27 (Or.inl (List.mem_singleton.mpr rfl)), a24, c24, Nat.le_of_eq g24.symm, ⟨E_28, value_28, coder_28, count_28, maybeLatin1_28, V_28, hab, gx, gb, Nat.zero_le _, hcap2, Nat.le_refl _⟩⟩
theorem d_jdk_67_m2_0 : decode jdk_67_method_2_code 0 = .ok (.aload_n 0, 1) := by decide +kernel
theorem d_jdk_67_m2_1 : decode jdk_67_method_2_code 1 = .ok (.iload_n 1, 1) := by decide +kernel
theorem d_jdk_67_m2_2 : decode jdk_67_method_2_code 2 = .ok (.invokespecial 1, 3) := by decide +kernel
theorem wd52 {a0 : Array Value} {Z : State} (hw : ∀ d ∈ tables_1, d.before a0 Z = true) : (Jvm.Cond.code ({ cls := "java/lang/AbstractStringBuilder", name := "<init>", desc := "(I)V" } : Jvm.MethodName) jdk_68_method_2_code (2 : Nat) (Option.none : Option Jvm.ClassFile.FieldType)).before a0 Z = true := hw _ (List.mem_of_getElem? (i := 52) rfl)
theorem wd51 {a0 : Array Value} {Z : State} (hw : ∀ d ∈ tables_1, d.before a0 Z = true) : (Jvm.Cond.initialized "java/lang/AbstractStringBuilder").before a0 Z = true := hw _ (List.mem_of_getElem? (i := 51) rfl)
theorem pd_28I29V : parseMethodDescriptor "(I)V" = some ⟨[.int], none⟩ := by decide +kernel
theorem wd47 {a0 : Array Value} {Z : State} (hw : ∀ d ∈ tables_1, d.before a0 Z = true) : (Jvm.Cond.methodLink "java/lang/StringBuilder" (1 : Nat) ({ cls := "java/lang/AbstractStringBuilder", name := "<init>", desc := "(I)V" } : Jvm.MethodName)).before a0 Z = true := hw _ (List.mem_of_getElem? (i := 47) rfl)
theorem wd48 {a0 : Array Value} {Z : State} (hw : ∀ d ∈ tables_1, d.before a0 Z = true) : (Jvm.Cond.instanceMethod ({ cls := "java/lang/AbstractStringBuilder", name := "<init>", desc := "(I)V" } : Jvm.MethodName)).before a0 Z = true := hw _ (List.mem_of_getElem? (i := 48) rfl)
theorem d_jdk_67_m2_5 : decode jdk_67_method_2_code 5 = .ok (.return_, 1) := by decide +kernel
theorem pn_java_lang_StringBuilder : plainName "java/lang/StringBuilder" = true := by first | (simp [plainName, overriddenIn]; done) | decide +kernel
set_option maxRecDepth 65536 in
set_option maxHeartbeats 40000000 in
theorem rm_sbInit {l : Launch} {Z : State} {a0 : Array Value} (hw : ∀ d ∈ tables_1, d.before a0 Z = true) (hs : ∀ d ∈ jdkStatics_1, d.before a0 Z = true) {x : Addr} {cap : Nat} {h0 : Heap} (O0 : Ext Z.heap h0) (E : Exa Z h0 x "java/lang/StringBuilder") (Fvalue : Fld Z h0 x "java/lang/AbstractStringBuilder" "value" "[B" .null) (Fcoder : Fld Z h0 x "java/lang/AbstractStringBuilder" "coder" "B" (.int 0)) (Fcount : Fld Z h0 x "java/lang/AbstractStringBuilder" "count" "I" (.int 0)) (FmaybeLatin1 : Fld Z h0 x "java/lang/AbstractStringBuilder" "maybeLatin1" "Z" (.int 0)) (gx : Z.heap.size ≤ x) (hcap2 : cap ≤ 2000) :
    own_Ct l Z (⟨"java/lang/StringBuilder", "<init>", "(I)V"⟩ : MethodName) jdk_67_method_2_code 2 none [] ({ frames := 2, locals := 25, cells := 1, slots := 0 + 0 + cap } : Room) #[(.ref x), (.int (Int32.ofNat cap))] h0 (fun v h => v = none ∧ Keep h0 h [x] ∧ ∃ (b : Addr) (kb : ClassId), h0.size ≤ b ∧ own_SB Z h x false 0 [] b kb cap) := by
  refine own_body (Ls := #[.val (.ref x), .val (.int (Int32.ofNat cap))]) (plainFor_of_name pn_java_lang_StringBuilder) (fun m => by first | (simp [entryFrame, mkF, argsToLocals, Value.category]; done) | rfl) O0 ?_
  intro p e s m below meth c T0 G K0
  refine own_aloadN K0 d_jdk_67_m2_0 rfl rfl rfl ?_
  refine own_iloadN K0 d_jdk_67_m2_1 rfl rfl ?_
  refine own_callI K0 (a := x) (wd47 hw) (wd48 hw) (rm_asbInit hw hs (cap := cap) K0.O E Fvalue Fcoder Fcount FmaybeLatin1 gx hcap2) (wd52 hw) (wd51 hw) (by decide) rfl (argsL := [(.int (Int32.ofNat cap))]) (rest := []) rfl pd_28I29V rfl rfl (W := 0) rfl (by first | decide | (dsimp only; omega)) (by first | decide | (dsimp only; omega)) (by first | decide | (dsimp only; omega)) (by first | decide | (dsimp only; omega)) d_jdk_67_m2_2 rfl ?_
  intro T29 h29 L29 v29 K29 q29
  obtain ⟨rfl, Kp29, q29⟩ := q29
  show G (T29.setTop (mkF m 5 #[.val (.ref x), .val (.int (Int32.ofNat cap))] []))
  exact own_ret0 K29 d_jdk_67_m2_5 rfl (by first | decide | (dsimp only; omega)) (by first | decide | (dsimp only; omega)) ⟨rfl, Kp29, q29⟩
theorem d_jdk_68_m9_0 : decode jdk_68_method_9_code 0 = .ok (.aload_n 0, 1) := by decide +kernel
theorem d_jdk_68_m9_1 : decode jdk_68_method_9_code 1 = .ok (.getfield 15, 3) := by decide +kernel
theorem d_jdk_68_m9_4 : decode jdk_68_method_9_code 4 = .ok (.arraylength, 1) := by decide +kernel
theorem d_jdk_68_m9_5 : decode jdk_68_method_9_code 5 = .ok (.aload_n 0, 1) := by decide +kernel
theorem d_jdk_68_m9_6 : decode jdk_68_method_9_code 6 = .ok (.getfield 22, 3) := by decide +kernel
theorem d_jdk_68_m9_9 : decode jdk_68_method_9_code 9 = .ok (.ishr, 1) := by decide +kernel
theorem d_jdk_68_m9_10 : decode jdk_68_method_9_code 10 = .ok (.istore_n 2, 1) := by decide +kernel
theorem d_jdk_68_m9_11 : decode jdk_68_method_9_code 11 = .ok (.iload_n 1, 1) := by decide +kernel
theorem d_jdk_68_m9_12 : decode jdk_68_method_9_code 12 = .ok (.iload_n 2, 1) := by decide +kernel
theorem d_jdk_68_m9_13 : decode jdk_68_method_9_code 13 = .ok (.isub, 1) := by decide +kernel
theorem d_jdk_68_m9_14 : decode jdk_68_method_9_code 14 = .ok (.ifCond .le 24, 3) := by decide +kernel
theorem d_jdk_68_m9_38 : decode jdk_68_method_9_code 38 = .ok (.return_, 1) := by decide +kernel
set_option maxRecDepth 65536 in
set_option maxHeartbeats 40000000 in
theorem rm_ensure {l : Launch} {Z : State} {a0 : Array Value} (hw : ∀ d ∈ tables_1, d.before a0 Z = true) (hs : ∀ d ∈ jdkStatics_1, d.before a0 Z = true) {x : Addr} {u : Bool} {cs : List Int32} {b : Addr} {kb : ClassId} {N : Nat} {mm : Nat} {h0 : Heap} (O0 : Ext Z.heap h0) (B : own_SB Z h0 x u cs.length cs b kb N) (hm : mm ≤ N) :
    own_Ct l Z (⟨"java/lang/AbstractStringBuilder", "ensureCapacityInternal", "(I)V"⟩ : MethodName) jdk_68_method_9_code 3 none [] ({ frames := 0, locals := 0, cells := 0, slots := 0 } : Room) #[(.ref x), (.int (Int32.ofNat mm))] h0 (fun v h => v = none ∧ h = h0) := by
  obtain ⟨BE, Bvalue, Bcoder, Bcount, BmaybeLatin1, BV, hab, ga, gb, hcN, hN, hnc⟩ := B
  refine own_body (Ls := #[.val (.ref x), .val (.int (Int32.ofNat mm)), .unset]) (plainFor_of_name pn_java_lang_AbstractStringBuilder) (fun m => by first | (simp [entryFrame, mkF, argsToLocals, Value.category]; done) | rfl) O0 ?_
  intro p e s m below meth c T0 G K0
  refine own_aloadN K0 d_jdk_68_m9_0 rfl rfl rfl ?_
  refine own_getF K0 (host := "") (Or.inl (wd55 hw)) Via.refl Bvalue d_jdk_68_m9_1 rfl ?_
  intro T30 K30
  refine own_arraylength K30 BV d_jdk_68_m9_4 rfl ?_
  refine own_aloadN K30 d_jdk_68_m9_5 rfl rfl rfl ?_
  refine own_getF K30 (host := "") (Or.inl (wd57 hw)) Via.refl Bcoder d_jdk_68_m9_6 rfl ?_
  intro T31 K31
  refine own_ishr K31 d_jdk_68_m9_9 rfl ?_
  rw [own_shrU u (by omega)]
  refine own_istoreN K31 (Ls' := #[.val (.ref x), .val (.int (Int32.ofNat mm)), .val (.int (Int32.ofNat N))]) d_jdk_68_m9_10 rfl rfl ?_
  refine own_iloadN K31 d_jdk_68_m9_11 rfl rfl ?_
  refine own_iloadN K31 d_jdk_68_m9_12 rfl rfl ?_
  refine own_isub K31 d_jdk_68_m9_13 rfl ?_
  refine own_ifYes K31 d_jdk_68_m9_14 (pc' := 38) (by decide) (by decide) ((if0 _ _).trans (flt (own_nosub hm (by omega))).2.2.2) ?_
  exact own_ret0 K31 d_jdk_68_m9_38 rfl (by decide) (by decide) ⟨rfl, rfl⟩
theorem d_jdk_68_m68_0 : decode jdk_68_method_68_code 0 = .ok (.getstatic 18, 3) := by decide +kernel
theorem d_jdk_68_m68_3 : decode jdk_68_method_68_code 3 = .ok (.ifCond .eq 14, 3) := by decide +kernel
theorem d_jdk_68_m68_6 : decode jdk_68_method_68_code 6 = .ok (.aload_n 0, 1) := by decide +kernel
theorem d_jdk_68_m68_7 : decode jdk_68_method_68_code 7 = .ok (.getfield 22, 3) := by decide +kernel
theorem d_jdk_68_m68_10 : decode jdk_68_method_68_code 10 = .ok (.ifCond .ne 7, 3) := by decide +kernel
theorem d_jdk_68_m68_13 : decode jdk_68_method_68_code 13 = .ok (.iconst 1, 1) := by decide +kernel
theorem d_jdk_68_m68_14 : decode jdk_68_method_68_code 14 = .ok (.goto 4, 3) := by decide +kernel
theorem d_jdk_68_m68_18 : decode jdk_68_method_68_code 18 = .ok (.ireturn, 1) := by decide +kernel
theorem d_jdk_68_m68_17 : decode jdk_68_method_68_code 17 = .ok (.iconst 0, 1) := by decide +kernel
set_option maxRecDepth 65536 in
set_option maxHeartbeats 40000000 in
theorem rm_isLatin1B {l : Launch} {Z : State} {a0 : Array Value} (hw : ∀ d ∈ tables_1, d.before a0 Z = true) (hs : ∀ d ∈ jdkStatics_1, d.before a0 Z = true) {x : Addr} {u : Bool} {h0 : Heap} (O0 : Ext Z.heap h0) (F : Fld Z h0 x "java/lang/AbstractStringBuilder" "coder" "B" (.int (own_cd u))) :
    own_Ct l Z (⟨"java/lang/AbstractStringBuilder", "isLatin1", "()Z"⟩ : MethodName) jdk_68_method_68_code 1 (some .boolean) [] ({ frames := 0, locals := 0, cells := 0, slots := 0 } : Room) #[(.ref x)] h0 (fun v h => v = some (.int (cond u 0 1)) ∧ h = h0) := by
  obtain ⟨zc, SC, hzc⟩ := own_compact hs
  refine own_body (Ls := #[.val (.ref x)]) (plainFor_of_name pn_java_lang_AbstractStringBuilder) (fun m => by first | (simp [entryFrame, mkF, argsToLocals, Value.category]; done) | rfl) O0 ?_
  intro p e s m below meth c T0 G K0
  refine own_getS K0 (wd54 hw) Via.refl (SC.ext K0.O) d_jdk_68_m68_0 rfl ?_
  intro T32 K32
  refine own_ifNo K32 d_jdk_68_m68_3 rfl ((if0 _ _).trans (feq hzc).1) ?_
  refine own_aloadN K32 d_jdk_68_m68_6 rfl rfl rfl ?_
  refine own_getF K32 (host := "") (Or.inl (wd57 hw)) Via.refl F d_jdk_68_m68_7 rfl ?_
  intro T33 K33
  cases u with
  | false =>
    refine own_ifNo K33 d_jdk_68_m68_10 rfl ((if0 _ _).trans (teq rfl).2) ?_
    refine own_iconst K33 (v := (1 : Int32)) d_jdk_68_m68_13 rfl rfl ?_
    refine own_goto K33 d_jdk_68_m68_14 (pc' := 18) (by decide) (by decide) ?_
    exact own_retN K33 (z' := (1 : Int32)) d_jdk_68_m68_18 rfl (by simp) (by decide) (by decide) (by decide) ⟨rfl, rfl⟩
  | true =>
    refine own_ifYes K33 d_jdk_68_m68_10 (pc' := 17) (by decide) (by decide) ((if0 _ _).trans (feq (by decide)).2) ?_
    refine own_iconst K33 (v := (0 : Int32)) d_jdk_68_m68_17 rfl rfl ?_
    exact own_retN K33 (z' := (0 : Int32)) d_jdk_68_m68_18 rfl (by simp) (by decide) (by decide) (by decide) ⟨rfl, rfl⟩
theorem d_jdk_52_m3_0 : decode jdk_52_method_3_code 0 = .ok (.iload_n 0, 1) := by decide +kernel
theorem d_jdk_52_m3_1 : decode jdk_52_method_3_code 1 = .ok (.ifCond .ge 11, 3) := by decide +kernel
theorem d_jdk_52_m3_12 : decode jdk_52_method_3_code 12 = .ok (.iload_n 0, 1) := by decide +kernel
theorem wd212 {a0 : Array Value} {Z : State} (hw : ∀ d ∈ tables_1, d.before a0 Z = true) : (Jvm.Cond.constant "java/lang/StringUTF16" (20 : Nat) (1073741823 : Int32)).before a0 Z = true := hw _ (List.mem_of_getElem? (i := 212) rfl)
theorem d_jdk_52_m3_13 : decode jdk_52_method_3_code 13 = .ok (.ldc 20, 2) := by decide +kernel
theorem d_jdk_52_m3_15 : decode jdk_52_method_3_code 15 = .ok (.if_icmp .lt 40, 3) := by decide +kernel
theorem d_jdk_52_m3_55 : decode jdk_52_method_3_code 55 = .ok (.iload_n 0, 1) := by decide +kernel
theorem d_jdk_52_m3_56 : decode jdk_52_method_3_code 56 = .ok (.iconst 1, 1) := by decide +kernel
theorem d_jdk_52_m3_57 : decode jdk_52_method_3_code 57 = .ok (.ishl, 1) := by decide +kernel
theorem d_jdk_52_m3_58 : decode jdk_52_method_3_code 58 = .ok (.ireturn, 1) := by decide +kernel
set_option maxRecDepth 65536 in
set_option maxHeartbeats 40000000 in
theorem rm_newBytesLength {l : Launch} {Z : State} {a0 : Array Value} (hw : ∀ d ∈ tables_1, d.before a0 Z = true) (hs : ∀ d ∈ jdkStatics_1, d.before a0 Z = true) {nn : Nat} {h0 : Heap} (O0 : Ext Z.heap h0) (hn : nn ≤ 8000) :
    own_Ct l Z (⟨"java/lang/StringUTF16", "newBytesLength", "(I)I"⟩ : MethodName) jdk_52_method_3_code 1 (some .int) [] ({ frames := 0, locals := 0, cells := 0, slots := 0 } : Room) #[(.int (Int32.ofNat nn))] h0 (fun v h => v = some (.int (Int32.ofNat (2 * nn))) ∧ h = h0) := by
  refine own_body (Ls := #[.val (.int (Int32.ofNat nn))]) (plainFor_of_name pn_java_lang_StringUTF16) (fun m => by first | (simp [entryFrame, mkF, argsToLocals, Value.category]; done) | rfl) O0 ?_
  intro p e s m below meth c T0 G K0
  refine own_iloadN K0 d_jdk_52_m3_0 rfl rfl ?_
  refine own_ifYes K0 d_jdk_52_m3_1 (pc' := 12) (by decide) (by decide) ((if0 _ _).trans (flt (own_nn (by omega))).2.1) ?_
  refine own_iloadN K0 d_jdk_52_m3_12 rfl rfl ?_
  refine own_ldcInt K0 (wd212 hw) d_jdk_52_m3_13 rfl ?_
  refine own_icmpYes K0 d_jdk_52_m3_15 (pc' := 55) (by decide) (by decide) (tlt (own_lt (n := 1073741823) (by omega) (by decide))).1 ?_
  refine own_iloadN K0 d_jdk_52_m3_55 rfl rfl ?_
  refine own_iconst K0 (v := (1 : Int32)) d_jdk_52_m3_56 rfl rfl ?_
  refine own_ishl K0 d_jdk_52_m3_57 rfl ?_
  exact own_retI K0 d_jdk_52_m3_58 rfl (by decide) (by decide) ⟨by rw [own_shl1 (by omega)], rfl⟩
theorem d_jdk_52_m2_0 : decode jdk_52_method_2_code 0 = .ok (.iload_n 0, 1) := by decide +kernel
theorem d_jdk_52_m2_1 : decode jdk_52_method_2_code 1 = .ok (.invokestatic 11, 3) := by decide +kernel
theorem wd211 {a0 : Array Value} {Z : State} (hw : ∀ d ∈ tables_1, d.before a0 Z = true) : (Jvm.Cond.code ({ cls := "java/lang/StringUTF16", name := "newBytesLength", desc := "(I)I" } : Jvm.MethodName) jdk_52_method_3_code (1 : Nat) (Option.some Jvm.ClassFile.FieldType.int)).before a0 Z = true := hw _ (List.mem_of_getElem? (i := 211) rfl)
theorem pd_28I29I : parseMethodDescriptor "(I)I" = some ⟨[.int], some .int⟩ := by decide +kernel
theorem wd209 {a0 : Array Value} {Z : State} (hw : ∀ d ∈ tables_1, d.before a0 Z = true) : (Jvm.Cond.methodLink "java/lang/StringUTF16" (11 : Nat) ({ cls := "java/lang/StringUTF16", name := "newBytesLength", desc := "(I)I" } : Jvm.MethodName)).before a0 Z = true := hw _ (List.mem_of_getElem? (i := 209) rfl)
theorem wd210 {a0 : Array Value} {Z : State} (hw : ∀ d ∈ tables_1, d.before a0 Z = true) : (Jvm.Cond.static ({ cls := "java/lang/StringUTF16", name := "newBytesLength", desc := "(I)I" } : Jvm.MethodName)).before a0 Z = true := hw _ (List.mem_of_getElem? (i := 210) rfl)
theorem d_jdk_52_m2_4 : decode jdk_52_method_2_code 4 = .ok (.newarray .byte, 2) := by decide +kernel
theorem d_jdk_52_m2_6 : decode jdk_52_method_2_code 6 = .ok (.areturn, 1) := by decide +kernel
set_option maxRecDepth 65536 in
set_option maxHeartbeats 40000000 in
theorem rm_newBytesFor {l : Launch} {Z : State} {a0 : Array Value} (hw : ∀ d ∈ tables_1, d.before a0 Z = true) (hs : ∀ d ∈ jdkStatics_1, d.before a0 Z = true) {nn : Nat} {cap : Nat} {h0 : Heap} (O0 : Ext Z.heap h0) (hn : nn ≤ 8000) (hcap : 2 * nn ≤ cap) (hcap2 : cap ≤ 20000) :
    own_Ct l Z (⟨"java/lang/StringUTF16", "newBytesFor", "(I)[B"⟩ : MethodName) jdk_52_method_2_code 1 (some (.array .byte)) [] ({ frames := 1, locals := 12, cells := 1, slots := 0 + cap } : Room) #[(.int (Int32.ofNat nn))] h0 (fun v h => ∃ (b : Addr) (kb : ClassId), v = some (.ref b) ∧ b = h0.size ∧ Ext h0 h ∧ Arv Z h b kb .byte (Int32.ofNat (2 * nn)) [] (.int 0)) := by
  refine own_body (Ls := #[.val (.int (Int32.ofNat nn))]) (plainFor_of_name pn_java_lang_StringUTF16) (fun m => by first | (simp [entryFrame, mkF, argsToLocals, Value.category]; done) | rfl) O0 ?_
  intro p e s m below meth c T0 G K0
  refine own_iloadN K0 d_jdk_52_m2_0 rfl rfl ?_
  refine own_callS K0 (wd209 hw) (wd210 hw) (rm_newBytesLength hw hs K0.O hn) (wd211 hw) (wd116 hw) (by decide) (argsL := [(.int (Int32.ofNat nn))]) (rest := []) rfl pd_28I29I rfl rfl (W := 0) rfl (by first | decide | (dsimp only; omega)) (by first | decide | (dsimp only; omega)) (by first | decide | (dsimp only; omega)) (by first | decide | (dsimp only; omega)) d_jdk_52_m2_1 rfl ?_
  intro T34 h34 L34 v34 K34 q34
  obtain ⟨rfl, e34⟩ := q34
  have f34 := e34.symm
  subst f34
  show G (T34.setTop (mkF m 4 #[.val (.int (Int32.ofNat nn))] [(.int (Int32.ofNat (2 * nn)))]))
  refine own_newP K34 (aty := .byte) (wd19 hw) d_jdk_52_m2_4 (own_nn (by omega)) (cap := cap) (by rw [own_clamp (by omega)]; exact hcap) (by omega) (by first | decide | (dsimp only; omega)) (by first | decide | (dsimp only; omega)) rfl ?_
  intro T35 h35 a35 c35 K35 g35 E35 V35
  exact own_retA K35 d_jdk_52_m2_6 rfl rfl rfl rfl (by first | decide | (dsimp only; omega)) (by first | decide | (dsimp only; omega)) ⟨a35, c35, rfl, g35, E35, V35⟩
theorem d_jdk_52_m4_0 : decode jdk_52_method_4_code 0 = .ok (.getstatic 44, 3) := by decide +kernel
theorem d_jdk_52_m4_3 : decode jdk_52_method_4_code 3 = .ok (.ifCond .ne 25, 3) := by decide +kernel
theorem d_jdk_52_m4_28 : decode jdk_52_method_4_code 28 = .ok (.iload_n 1, 1) := by decide +kernel
theorem d_jdk_52_m4_29 : decode jdk_52_method_4_code 29 = .ok (.iconst 1, 1) := by decide +kernel
theorem d_jdk_52_m4_30 : decode jdk_52_method_4_code 30 = .ok (.ishl, 1) := by decide +kernel
theorem d_jdk_52_m4_31 : decode jdk_52_method_4_code 31 = .ok (.istore_n 1, 1) := by decide +kernel
theorem d_jdk_52_m4_32 : decode jdk_52_method_4_code 32 = .ok (.aload_n 0, 1) := by decide +kernel
theorem d_jdk_52_m4_33 : decode jdk_52_method_4_code 33 = .ok (.iload_n 1, 1) := by decide +kernel
theorem d_jdk_52_m4_34 : decode jdk_52_method_4_code 34 = .ok (.iinc 1 1, 3) := by decide +kernel
theorem d_jdk_52_m4_37 : decode jdk_52_method_4_code 37 = .ok (.iload_n 2, 1) := by decide +kernel
theorem d_jdk_52_m4_38 : decode jdk_52_method_4_code 38 = .ok (.getstatic 59, 3) := by decide +kernel
theorem d_jdk_52_m4_41 : decode jdk_52_method_4_code 41 = .ok (.ishr, 1) := by decide +kernel
theorem d_jdk_52_m4_42 : decode jdk_52_method_4_code 42 = .ok (.i2b, 1) := by decide +kernel
theorem d_jdk_52_m4_43 : decode jdk_52_method_4_code 43 = .ok (.bastore, 1) := by decide +kernel
theorem d_jdk_52_m4_44 : decode jdk_52_method_4_code 44 = .ok (.aload_n 0, 1) := by decide +kernel
theorem d_jdk_52_m4_45 : decode jdk_52_method_4_code 45 = .ok (.iload_n 1, 1) := by decide +kernel
theorem d_jdk_52_m4_46 : decode jdk_52_method_4_code 46 = .ok (.iload_n 2, 1) := by decide +kernel
theorem d_jdk_52_m4_47 : decode jdk_52_method_4_code 47 = .ok (.getstatic 63, 3) := by decide +kernel
theorem d_jdk_52_m4_50 : decode jdk_52_method_4_code 50 = .ok (.ishr, 1) := by decide +kernel
theorem d_jdk_52_m4_51 : decode jdk_52_method_4_code 51 = .ok (.i2b, 1) := by decide +kernel
theorem d_jdk_52_m4_52 : decode jdk_52_method_4_code 52 = .ok (.bastore, 1) := by decide +kernel
theorem d_jdk_52_m4_53 : decode jdk_52_method_4_code 53 = .ok (.return_, 1) := by decide +kernel
set_option maxRecDepth 65536 in
set_option maxHeartbeats 40000000 in
theorem rm_putChar {l : Launch} {Z : State} {a0 : Array Value} (hw : ∀ d ∈ tables_1, d.before a0 Z = true) (hs : ∀ d ∈ jdkStatics_1, d.before a0 Z = true) {b : Addr} {kb : ClassId} {cs : List Int32} {nn : Nat} {y : Int32} {h0 : Heap} (O0 : Ext Z.heap h0) (V : Arv Z h0 b kb .byte (Int32.ofNat (2 * nn)) (own_by2 cs) (.int 0)) (hn : cs.length < nn ∧ nn ≤ 8000) (gb : Z.heap.size ≤ b) :
    own_Ct l Z (⟨"java/lang/StringUTF16", "putChar", "([BII)V"⟩ : MethodName) jdk_52_method_4_code 3 none [] ({ frames := 0, locals := 0, cells := 0, slots := 0 } : Room) #[(.ref b), (.int (Int32.ofNat cs.length)), (.int y)] h0 (fun v h => v = none ∧ Keep h0 h [b] ∧ Arv Z h b kb .byte (Int32.ofNat (2 * nn)) (own_by2 (cs ++ [y])) (.int 0)) := by
  refine own_body (Ls := #[.val (.ref b), .val (.int (Int32.ofNat cs.length)), .val (.int y)]) (plainFor_of_name pn_java_lang_StringUTF16) (fun m => by first | (simp [entryFrame, mkF, argsToLocals, Value.category]; done) | rfl) O0 ?_
  intro p e s m below meth c T0 G K0
  refine own_getS K0 (wd216 hw) Via.refl ((own_sta_assertionsDisabled hs).ext K0.O) d_jdk_52_m4_0 rfl ?_
  intro T36 K36
  refine own_ifYes K36 d_jdk_52_m4_3 (pc' := 28) (by decide) (by decide) ((if0 _ _).trans (feq (by decide)).2) ?_
  refine own_iloadN K36 d_jdk_52_m4_28 rfl rfl ?_
  refine own_iconst K36 (v := (1 : Int32)) d_jdk_52_m4_29 rfl rfl ?_
  refine own_ishl K36 d_jdk_52_m4_30 rfl ?_
  refine own_istoreN K36 (Ls' := #[.val (.ref b), .val (.int ((Int32.ofNat cs.length) <<< ((1 : Int32) &&& 31))), .val (.int y)]) d_jdk_52_m4_31 rfl rfl ?_
  rw [own_shl1 (by omega)]
  refine own_aloadN K36 d_jdk_52_m4_32 rfl rfl rfl ?_
  refine own_iloadN K36 d_jdk_52_m4_33 rfl rfl ?_
  refine own_iinc K36 (Ls' := #[.val (.ref b), .val (.int ((Int32.ofNat (2 * cs.length)) + (1 : Int32))), .val (.int y)]) (x := (Int32.ofNat (2 * cs.length))) (v := (Int32.ofNat (2 * cs.length))) d_jdk_52_m4_34 rfl rfl rfl ?_
  refine own_iloadN K36 d_jdk_52_m4_37 rfl rfl ?_
  refine own_getS K36 (wd217 hw) Via.refl ((own_sta_HI_BYTE_SHIFT hs).ext K36.O) d_jdk_52_m4_38 rfl ?_
  intro T37 K37
  refine own_ishr K37 d_jdk_52_m4_41 rfl ?_
  refine own_i2b K37 d_jdk_52_m4_42 rfl ?_
  rw [own_one]
  refine own_bastore K37 (V.pad (pad_rep _ _ 2)) ⟨own_nn (by omega), own_lt (by omega) (by omega)⟩ (2 * cs.length) (own_clamp (by omega)) (by rw [List.length_append, own_by2_len, List.length_replicate]; omega) (x' := (own_b0 y)) (own_nar_b0 y) gb d_jdk_52_m4_43 rfl ?_
  intro T38 h38 K38 W38 V38
  refine own_aloadN K38 d_jdk_52_m4_44 rfl rfl rfl ?_
  refine own_iloadN K38 d_jdk_52_m4_45 rfl rfl ?_
  refine own_iloadN K38 d_jdk_52_m4_46 rfl rfl ?_
  refine own_getS K38 (wd218 hw) Via.refl ((own_sta_LO_BYTE_SHIFT hs).ext K38.O) d_jdk_52_m4_47 rfl ?_
  intro T39 K39
  refine own_ishr K39 d_jdk_52_m4_50 rfl ?_
  refine own_i2b K39 d_jdk_52_m4_51 rfl ?_
  refine own_bastore K39 V38 ⟨own_nn (by omega), own_lt (by omega) (by omega)⟩ (2 * cs.length + 1) (own_clamp (by omega)) (by rw [List.length_set, List.length_append, own_by2_len, List.length_replicate]; omega) (x' := (own_b1 y)) (own_nar_b1 y) gb d_jdk_52_m4_52 rfl ?_
  intro T40 h40 K40 W40 V40
  exact own_ret0 K40 d_jdk_52_m4_53 rfl (by decide) (by decide) ⟨rfl, (Keep.of_wr W38).wr W40 (Or.inl (List.mem_singleton.mpr rfl)), by have q := V40; rw [← own_by2_len, own_set_end2] at q; rw [own_by2_app]; exact q⟩
theorem d_jdk_41_m13_0 : decode jdk_41_method_13_code 0 = .ok (.iload_n 2, 1) := by decide +kernel
theorem d_jdk_41_m13_1 : decode jdk_41_method_13_code 1 = .ok (.iload_n 0, 1) := by decide +kernel
theorem d_jdk_41_m13_2 : decode jdk_41_method_13_code 2 = .ok (.ior, 1) := by decide +kernel
theorem d_jdk_41_m13_3 : decode jdk_41_method_13_code 3 = .ok (.iload_n 1, 1) := by decide +kernel
theorem d_jdk_41_m13_4 : decode jdk_41_method_13_code 4 = .ok (.ior, 1) := by decide +kernel
theorem d_jdk_41_m13_5 : decode jdk_41_method_13_code 5 = .ok (.ifCond .lt 10, 3) := by decide +kernel
theorem d_jdk_41_m13_8 : decode jdk_41_method_13_code 8 = .ok (.iload_n 1, 1) := by decide +kernel
theorem d_jdk_41_m13_9 : decode jdk_41_method_13_code 9 = .ok (.iload_n 2, 1) := by decide +kernel
theorem d_jdk_41_m13_10 : decode jdk_41_method_13_code 10 = .ok (.iload_n 0, 1) := by decide +kernel
theorem d_jdk_41_m13_11 : decode jdk_41_method_13_code 11 = .ok (.isub, 1) := by decide +kernel
theorem d_jdk_41_m13_12 : decode jdk_41_method_13_code 12 = .ok (.if_icmp .le 11, 3) := by decide +kernel
theorem d_jdk_41_m13_23 : decode jdk_41_method_13_code 23 = .ok (.iload_n 0, 1) := by decide +kernel
theorem d_jdk_41_m13_24 : decode jdk_41_method_13_code 24 = .ok (.ireturn, 1) := by decide +kernel
set_option maxRecDepth 65536 in
set_option maxHeartbeats 40000000 in
theorem rm_checkFIS {l : Launch} {Z : State} {a0 : Array Value} (hw : ∀ d ∈ tables_1, d.before a0 Z = true) (hs : ∀ d ∈ jdkStatics_1, d.before a0 Z = true) {i : Nat} {k : Nat} {nn : Nat} {fm : Value} {h0 : Heap} (O0 : Ext Z.heap h0) (hfm : fm.isRef = true) (hi : i + k ≤ nn) (hn : nn ≤ 8000) :
    own_Ct l Z (⟨"jdk/internal/util/Preconditions", "checkFromIndexSize", "(IIILjava/util/function/BiFunction;)I"⟩ : MethodName) jdk_41_method_13_code 4 (some .int) [] ({ frames := 0, locals := 0, cells := 0, slots := 0 } : Room) #[(.int (Int32.ofNat i)), (.int (Int32.ofNat k)), (.int (Int32.ofNat nn)), fm] h0 (fun v h => v = some (.int (Int32.ofNat i)) ∧ h = h0) := by
  refine own_body (Ls := #[.val (.int (Int32.ofNat i)), .val (.int (Int32.ofNat k)), .val (.int (Int32.ofNat nn)), .val fm]) (plainFor_of_name pn_jdk_internal_util_Preconditions) (fun m => by first | (simp [entryFrame, mkF, argsToLocals, Value.category]; done) | rfl | (revert hfm; cases fm <;> intro hfm <;> first | (simp [Value.isRef] at hfm; done) | (simp [entryFrame, mkF, argsToLocals, Value.category]; done))) O0 ?_
  intro p e s m below meth c T0 G K0
  refine own_iloadN K0 d_jdk_41_m13_0 rfl rfl ?_
  refine own_iloadN K0 d_jdk_41_m13_1 rfl rfl ?_
  refine own_ior K0 d_jdk_41_m13_2 rfl ?_
  refine own_iloadN K0 d_jdk_41_m13_3 rfl rfl ?_
  refine own_ior K0 d_jdk_41_m13_4 rfl ?_
  refine own_ifNo K0 d_jdk_41_m13_5 rfl ((if0 _ _).trans (flt (own_orNN3 (by omega) (by omega) (by omega))).1) ?_
  refine own_iloadN K0 d_jdk_41_m13_8 rfl rfl ?_
  refine own_iloadN K0 d_jdk_41_m13_9 rfl rfl ?_
  refine own_iloadN K0 d_jdk_41_m13_10 rfl rfl ?_
  refine own_isub K0 d_jdk_41_m13_11 rfl ?_
  refine own_icmpYes K0 d_jdk_41_m13_12 (pc' := 23) (by decide) (by decide) (flt (by rw [own_subN (by omega)]; exact own_nlt (by omega) (by omega))).2.2.2 ?_
  refine own_iloadN K0 d_jdk_41_m13_23 rfl rfl ?_
  exact own_retI K0 d_jdk_41_m13_24 rfl (by decide) (by decide) ⟨rfl, rfl⟩
theorem d_jdk_42_m157_0 : decode jdk_42_method_157_code 0 = .ok (.iload_n 0, 1) := by decide +kernel
theorem d_jdk_42_m157_1 : decode jdk_42_method_157_code 1 = .ok (.iload_n 1, 1) := by decide +kernel
theorem d_jdk_42_m157_2 : decode jdk_42_method_157_code 2 = .ok (.iload_n 2, 1) := by decide +kernel
theorem d_jdk_42_m157_3 : decode jdk_42_method_157_code 3 = .ok (.getstatic 1053, 3) := by decide +kernel
theorem d_jdk_42_m157_6 : decode jdk_42_method_157_code 6 = .ok (.invokestatic 1065, 3) := by decide +kernel
theorem wd252 {a0 : Array Value} {Z : State} (hw : ∀ d ∈ tables_1, d.before a0 Z = true) : (Jvm.Cond.code ({ cls := "jdk/internal/util/Preconditions", name := "checkFromIndexSize", desc := "(IIILjava/util/function/BiFunction;)I" } : Jvm.MethodName) jdk_41_method_13_code (4 : Nat) (Option.some Jvm.ClassFile.FieldType.int)).before a0 Z = true := hw _ (List.mem_of_getElem? (i := 252) rfl)
theorem pd_28IIILjava2futil2ffunction2fBiFunction3b29I : parseMethodDescriptor "(IIILjava/util/function/BiFunction;)I" = some ⟨[.int, .int, .int, (.object "java/util/function/BiFunction")], some .int⟩ := by decide +kernel
theorem wd250 {a0 : Array Value} {Z : State} (hw : ∀ d ∈ tables_1, d.before a0 Z = true) : (Jvm.Cond.methodLink "java/lang/String" (1065 : Nat) ({ cls := "jdk/internal/util/Preconditions", name := "checkFromIndexSize", desc := "(IIILjava/util/function/BiFunction;)I" } : Jvm.MethodName)).before a0 Z = true := hw _ (List.mem_of_getElem? (i := 250) rfl)
theorem wd251 {a0 : Array Value} {Z : State} (hw : ∀ d ∈ tables_1, d.before a0 Z = true) : (Jvm.Cond.static ({ cls := "jdk/internal/util/Preconditions", name := "checkFromIndexSize", desc := "(IIILjava/util/function/BiFunction;)I" } : Jvm.MethodName)).before a0 Z = true := hw _ (List.mem_of_getElem? (i := 251) rfl)
theorem d_jdk_42_m157_9 : decode jdk_42_method_157_code 9 = .ok (.ireturn, 1) := by decide +kernel
set_option maxRecDepth 65536 in
set_option maxHeartbeats 40000000 in
theorem rm_checkBOC {l : Launch} {Z : State} {a0 : Array Value} (hw : ∀ d ∈ tables_1, d.before a0 Z = true) (hs : ∀ d ∈ jdkStatics_1, d.before a0 Z = true) {i : Nat} {k : Nat} {nn : Nat} {h0 : Heap} (O0 : Ext Z.heap h0) (hi : i + k ≤ nn) (hn : nn ≤ 8000) :
    own_Ct l Z (⟨"java/lang/String", "checkBoundsOffCount", "(III)I"⟩ : MethodName) jdk_42_method_157_code 3 (some .int) [] ({ frames := 1, locals := 15, cells := 0, slots := 0 } : Room) #[(.int (Int32.ofNat i)), (.int (Int32.ofNat k)), (.int (Int32.ofNat nn))] h0 (fun v h => v = some (.int (Int32.ofNat i)) ∧ h = h0) := by
  obtain ⟨fm, SFm, hfm⟩ := own_fmt hs
  refine own_body (Ls := #[.val (.int (Int32.ofNat i)), .val (.int (Int32.ofNat k)), .val (.int (Int32.ofNat nn))]) (plainFor_of_name pn_java_lang_String) (fun m => by first | (simp [entryFrame, mkF, argsToLocals, Value.category]; done) | rfl) O0 ?_
  intro p e s m below meth c T0 G K0
  refine own_iloadN K0 d_jdk_42_m157_0 rfl rfl ?_
  refine own_iloadN K0 d_jdk_42_m157_1 rfl rfl ?_
  refine own_iloadN K0 d_jdk_42_m157_2 rfl rfl ?_
  refine own_getS K0 (wd150 hw) Via.refl (SFm.ext K0.O) d_jdk_42_m157_3 rfl ?_
  intro T41 K41
  refine own_callS K41 (wd250 hw) (wd251 hw) (rm_checkFIS hw hs K41.O hfm hi hn) (wd252 hw) (wd151 hw) (by decide) (argsL := [(.int (Int32.ofNat i)), (.int (Int32.ofNat k)), (.int (Int32.ofNat nn)), fm]) (rest := []) rfl pd_28IIILjava2futil2ffunction2fBiFunction3b29I rfl rfl (W := 0) rfl (by decide) (by decide) (by decide) (by decide) d_jdk_42_m157_6 rfl ?_
  intro T42 h42 L42 v42 K42 q42
  obtain ⟨rfl, e42⟩ := q42
  have f42 := e42.symm
  subst f42
  show G (T42.setTop (mkF m 9 #[.val (.int (Int32.ofNat i)), .val (.int (Int32.ofNat k)), .val (.int (Int32.ofNat nn))] [(.int (Int32.ofNat i))]))
  exact own_retI K42 d_jdk_42_m157_9 rfl (by decide) (by decide) ⟨rfl, rfl⟩
theorem d_jdk_52_m94_0 : decode jdk_52_method_94_code 0 = .ok (.iload_n 0, 1) := by decide +kernel
theorem d_jdk_52_m94_1 : decode jdk_52_method_94_code 1 = .ok (.iload_n 1, 1) := by decide +kernel
theorem d_jdk_52_m94_2 : decode jdk_52_method_94_code 2 = .ok (.aload_n 2, 1) := by decide +kernel
theorem d_jdk_52_m94_3 : decode jdk_52_method_94_code 3 = .ok (.invokestatic 48, 3) := by decide +kernel
theorem d_jdk_52_m94_6 : decode jdk_52_method_94_code 6 = .ok (.invokestatic 419, 3) := by decide +kernel
theorem wd249 {a0 : Array Value} {Z : State} (hw : ∀ d ∈ tables_1, d.before a0 Z = true) : (Jvm.Cond.code ({ cls := "java/lang/String", name := "checkBoundsOffCount", desc := "(III)I" } : Jvm.MethodName) jdk_42_method_157_code (3 : Nat) (Option.some Jvm.ClassFile.FieldType.int)).before a0 Z = true := hw _ (List.mem_of_getElem? (i := 249) rfl)
theorem pd_28III29I : parseMethodDescriptor "(III)I" = some ⟨[.int, .int, .int], some .int⟩ := by decide +kernel
theorem wd247 {a0 : Array Value} {Z : State} (hw : ∀ d ∈ tables_1, d.before a0 Z = true) : (Jvm.Cond.methodLink "java/lang/StringUTF16" (419 : Nat) ({ cls := "java/lang/String", name := "checkBoundsOffCount", desc := "(III)I" } : Jvm.MethodName)).before a0 Z = true := hw _ (List.mem_of_getElem? (i := 247) rfl)
theorem wd248 {a0 : Array Value} {Z : State} (hw : ∀ d ∈ tables_1, d.before a0 Z = true) : (Jvm.Cond.static ({ cls := "java/lang/String", name := "checkBoundsOffCount", desc := "(III)I" } : Jvm.MethodName)).before a0 Z = true := hw _ (List.mem_of_getElem? (i := 248) rfl)
theorem d_jdk_52_m94_9 : decode jdk_52_method_94_code 9 = .ok (.pop, 1) := by decide +kernel
theorem d_jdk_52_m94_10 : decode jdk_52_method_94_code 10 = .ok (.return_, 1) := by decide +kernel
set_option maxRecDepth 65536 in
set_option maxHeartbeats 40000000 in
theorem rm_checkBOCU {l : Launch} {Z : State} {a0 : Array Value} (hw : ∀ d ∈ tables_1, d.before a0 Z = true) (hs : ∀ d ∈ jdkStatics_1, d.before a0 Z = true) {i : Nat} {k : Nat} {b : Addr} {kb : ClassId} {vs : List Value} {nn : Nat} {h0 : Heap} (O0 : Ext Z.heap h0) (V : Arv Z h0 b kb .byte (Int32.ofNat (2 * nn)) vs (.int 0)) (hi : i + k ≤ nn) (hn : nn ≤ 8000) :
    own_Ct l Z (⟨"java/lang/StringUTF16", "checkBoundsOffCount", "(II[B)V"⟩ : MethodName) jdk_52_method_94_code 3 none [] ({ frames := 2, locals := 29, cells := 0, slots := 0 } : Room) #[(.int (Int32.ofNat i)), (.int (Int32.ofNat k)), (.ref b)] h0 (fun v h => v = none ∧ h = h0) := by
  refine own_body (Ls := #[.val (.int (Int32.ofNat i)), .val (.int (Int32.ofNat k)), .val (.ref b)]) (plainFor_of_name pn_java_lang_StringUTF16) (fun m => by first | (simp [entryFrame, mkF, argsToLocals, Value.category]; done) | rfl) O0 ?_
  intro p e s m below meth c T0 G K0
  refine own_iloadN K0 d_jdk_52_m94_0 rfl rfl ?_
  refine own_iloadN K0 d_jdk_52_m94_1 rfl rfl ?_
  refine own_aloadN K0 d_jdk_52_m94_2 rfl rfl rfl ?_
  refine own_callS K0 (wd228 hw) (wd229 hw) (rm_lengthU hw hs K0.O V hn) (wd230 hw) (wd116 hw) (by decide) (argsL := [(.ref b)]) (rest := [(.int (Int32.ofNat k)), (.int (Int32.ofNat i))]) rfl pd_285bB29I rfl rfl (W := 2) rfl (by decide) (by decide) (by decide) (by decide) d_jdk_52_m94_3 rfl ?_
  intro T43 h43 L43 v43 K43 q43
  obtain ⟨rfl, e43⟩ := q43
  have f43 := e43.symm
  subst f43
  show G (T43.setTop (mkF m 6 #[.val (.int (Int32.ofNat i)), .val (.int (Int32.ofNat k)), .val (.ref b)] [(.int (Int32.ofNat nn)), (.int (Int32.ofNat k)), (.int (Int32.ofNat i))]))
  refine own_callS K43 (wd247 hw) (wd248 hw) (rm_checkBOC hw hs K43.O hi hn) (wd249 hw) (wd6 hw) (by decide) (argsL := [(.int (Int32.ofNat i)), (.int (Int32.ofNat k)), (.int (Int32.ofNat nn))]) (rest := []) rfl pd_28III29I rfl rfl (W := 0) rfl (by decide) (by decide) (by decide) (by decide) d_jdk_52_m94_6 rfl ?_
  intro T44 h44 L44 v44 K44 q44
  obtain ⟨rfl, e44⟩ := q44
  have f44 := e44.symm
  subst f44
  show G (T44.setTop (mkF m 9 #[.val (.int (Int32.ofNat i)), .val (.int (Int32.ofNat k)), .val (.ref b)] [(.int (Int32.ofNat i))]))
  refine own_pop K44 d_jdk_52_m94_9 rfl rfl ?_
  exact own_ret0 K44 d_jdk_52_m94_10 rfl (by decide) (by decide) ⟨rfl, rfl⟩
theorem d_jdk_52_m86_10 : decode jdk_52_method_86_code 10 = .ok (.iload 5, 2) := by decide +kernel
theorem d_jdk_52_m86_12 : decode jdk_52_method_86_code 12 = .ok (.iload 4, 2) := by decide +kernel
theorem d_jdk_52_m86_14 : decode jdk_52_method_86_code 14 = .ok (.if_icmp .ge 27, 3) := by decide +kernel
theorem d_jdk_52_m86_17 : decode jdk_52_method_86_code 17 = .ok (.aload_n 2, 1) := by decide +kernel
theorem d_jdk_52_m86_18 : decode jdk_52_method_86_code 18 = .ok (.iload_n 3, 1) := by decide +kernel
theorem d_jdk_52_m86_19 : decode jdk_52_method_86_code 19 = .ok (.iinc 3 1, 3) := by decide +kernel
theorem d_jdk_52_m86_22 : decode jdk_52_method_86_code 22 = .ok (.aload_n 0, 1) := by decide +kernel
theorem d_jdk_52_m86_23 : decode jdk_52_method_86_code 23 = .ok (.iload_n 1, 1) := by decide +kernel
theorem d_jdk_52_m86_24 : decode jdk_52_method_86_code 24 = .ok (.iinc 1 1, 3) := by decide +kernel
theorem d_jdk_52_m86_27 : decode jdk_52_method_86_code 27 = .ok (.baload, 1) := by decide +kernel
theorem d_jdk_52_m86_28 : decode jdk_52_method_86_code 28 = .ok (.sipush 255, 3) := by decide +kernel
theorem d_jdk_52_m86_31 : decode jdk_52_method_86_code 31 = .ok (.iand, 1) := by decide +kernel
theorem d_jdk_52_m86_32 : decode jdk_52_method_86_code 32 = .ok (.invokestatic 111, 3) := by decide +kernel
theorem wd215 {a0 : Array Value} {Z : State} (hw : ∀ d ∈ tables_1, d.before a0 Z = true) : (Jvm.Cond.code ({ cls := "java/lang/StringUTF16", name := "putChar", desc := "([BII)V" } : Jvm.MethodName) jdk_52_method_4_code (3 : Nat) (Option.none : Option Jvm.ClassFile.FieldType)).before a0 Z = true := hw _ (List.mem_of_getElem? (i := 215) rfl)
theorem pd_285bBII29V : parseMethodDescriptor "([BII)V" = some ⟨[(.array .byte), .int, .int], none⟩ := by decide +kernel
theorem wd213 {a0 : Array Value} {Z : State} (hw : ∀ d ∈ tables_1, d.before a0 Z = true) : (Jvm.Cond.methodLink "java/lang/StringUTF16" (111 : Nat) ({ cls := "java/lang/StringUTF16", name := "putChar", desc := "([BII)V" } : Jvm.MethodName)).before a0 Z = true := hw _ (List.mem_of_getElem? (i := 213) rfl)
theorem wd214 {a0 : Array Value} {Z : State} (hw : ∀ d ∈ tables_1, d.before a0 Z = true) : (Jvm.Cond.static ({ cls := "java/lang/StringUTF16", name := "putChar", desc := "([BII)V" } : Jvm.MethodName)).before a0 Z = true := hw _ (List.mem_of_getElem? (i := 214) rfl)
theorem d_jdk_52_m86_35 : decode jdk_52_method_86_code 35 = .ok (.iinc 5 1, 3) := by decide +kernel
theorem d_jdk_52_m86_38 : decode jdk_52_method_86_code 38 = .ok (.goto (-28), 3) := by decide +kernel
section Lp
variable {p : Program} {l : Launch} {e : Env} {R : Room} {s : State} {m : MethodId} {args : Array Value} {below : List Frame} {meth : Method} {c : Code} {nm : String} {ret : Option FieldType} {Q : Option Value → Heap → Prop} {G : State → Prop} {Z T : State} {L : List Loc} {k n : Nat} {h h0 : Heap} {a0 : Array Value}
set_option maxRecDepth 65536 in
set_option maxHeartbeats 40000000 in
theorem lp_inflate (hw : ∀ d ∈ tables_1, d.before a0 Z = true) (hs : ∀ d ∈ jdkStatics_1, d.before a0 Z = true) (hRf : 1 ≤ R.frames) (hRl : 40 ≤ R.locals) (hRc : k ≤ R.cells) (hRs : n ≤ R.slots) {a : Addr} {ka : ClassId} {ds : List Int32} {M : Nat} {b : Addr} {kb : ClassId} {cs : List Int32} {nn : Nat} (A : Arv Z h0 a ka .byte (Int32.ofNat M) (own_by ds) (.int 0)) (hM : ds.length ≤ M ∧ M ≤ 8000) (hab : a ∉ [b]) (gb : Z.heap.size ≤ b) (hok : own_ok false ds) (hnn : cs.length + ds.length ≤ nn ∧ nn ≤ 8000)
    (ex : ∀ (T' : State) (L' : List Loc) (h' : Heap), own_K p l e R s m args below meth c jdk_52_method_86_code "java/lang/StringUTF16" nm 6 ret Q G Z T' L' k n h' → Keep h0 h' [b] ∧ Arv Z h' b kb .byte (Int32.ofNat (2 * nn)) (own_by2 (cs ++ ds)) (.int 0) → ∀ (x1 x3 x5 : Int32), G (T'.setTop (mkF m 41 #[.val (.ref a), .val (.int x1), .val (.ref b), .val (.int x3), .val (.int (Int32.ofNat ds.length)), .val (.int x5)] [])))
    (j : Nat) : ∀ (i : Nat), i + j = ds.length → ∀ {T : State} {L : List Loc} {h : Heap} , own_K p l e R s m args below meth c jdk_52_method_86_code "java/lang/StringUTF16" nm 6 ret Q G Z T L k n h → Keep h0 h [b] → Arv Z h b kb .byte (Int32.ofNat (2 * nn)) (own_by2 (cs ++ ds.take i)) (.int 0) → G (T.setTop (mkF m 10 #[.val (.ref a), .val (.int (Int32.ofNat i)), .val (.ref b), .val (.int (Int32.ofNat (cs.length + i))), .val (.int (Int32.ofNat ds.length)), .val (.int (Int32.ofNat i))] [])) := by
  induction j with
  | zero =>
    intro i hij T L h  K Kp V 
    refine own_iload K d_jdk_52_m86_10 rfl rfl ?_
    refine own_iload K d_jdk_52_m86_12 rfl rfl ?_
    refine own_icmpYes K d_jdk_52_m86_14 (pc' := 41) (by decide) (by decide) (flt (own_nlt (by omega) (by omega))).2.1 ?_
    exact ex _ _ _ K ⟨Kp, by rw [List.take_of_length_le (by omega)] at V; exact V⟩ _ _ _
  | succ j ih =>
    intro i hij T L h  K Kp V 
    have hin : i < ds.length := by omega
    refine own_iload K d_jdk_52_m86_10 rfl rfl ?_
    refine own_iload K d_jdk_52_m86_12 rfl rfl ?_
    refine own_icmpNo K d_jdk_52_m86_14 rfl (tlt (own_lt hin (by omega))).2.1 ?_
    refine own_aloadN K d_jdk_52_m86_17 rfl rfl rfl ?_
    refine own_iloadN K d_jdk_52_m86_18 rfl rfl ?_
    refine own_iinc K (Ls' := #[.val (.ref a), .val (.int (Int32.ofNat i)), .val (.ref b), .val (.int ((Int32.ofNat (cs.length + i)) + (1 : Int32))), .val (.int (Int32.ofNat ds.length)), .val (.int (Int32.ofNat i))]) (x := (Int32.ofNat (cs.length + i))) (v := (Int32.ofNat (cs.length + i))) d_jdk_52_m86_19 rfl rfl rfl ?_
    refine own_aloadN K d_jdk_52_m86_22 rfl rfl rfl ?_
    refine own_iloadN K d_jdk_52_m86_23 rfl rfl ?_
    refine own_iinc K (Ls' := #[.val (.ref a), .val (.int ((Int32.ofNat i) + (1 : Int32))), .val (.ref b), .val (.int ((Int32.ofNat (cs.length + i)) + (1 : Int32))), .val (.int (Int32.ofNat ds.length)), .val (.int (Int32.ofNat i))]) (x := (Int32.ofNat i)) (v := (Int32.ofNat i)) d_jdk_52_m86_24 rfl rfl rfl ?_
    simp only [own_one]
    refine own_baload K (x := (ds[i]).toInt8.toInt32) (A.keep Kp hab) ⟨own_nn (by omega), own_lt (by omega) (by omega)⟩ (by rw [own_clamp (by omega)]; exact own_by_get ds i hin) d_jdk_52_m86_27 rfl ?_
    refine own_sipush K (v := (255 : Int32)) d_jdk_52_m86_28 rfl rfl ?_
    refine own_iand K d_jdk_52_m86_31 rfl ?_
    have ht : cs.length + i = (cs ++ ds.take i).length := by rw [List.length_append, List.length_take]; omega
    rw [own_rd1 (hok _ (List.getElem_mem hin))]
    refine Eq.mp (congrArg (fun z => G (T.setTop (mkF m 32 #[.val (.ref a), .val (.int (Int32.ofNat (i + 1))), .val (.ref b), .val (.int (Int32.ofNat (cs.length + i + 1))), .val (.int (Int32.ofNat ds.length)), .val (.int (Int32.ofNat i))] [.int ds[i], .int (Int32.ofNat z), .ref b]))) ht.symm) ?_
    refine own_callS K (wd213 hw) (wd214 hw) (rm_putChar hw hs (y := ds[i]) K.O V ⟨by omega, by omega⟩ gb) (wd215 hw) (wd116 hw) (by decide) (argsL := [(.ref b), (.int (Int32.ofNat (cs ++ ds.take i).length)), (.int ds[i])]) (rest := []) rfl pd_285bBII29V rfl rfl (W := 0) rfl (by first | decide | (dsimp only; omega)) (by first | decide | (dsimp only; omega)) (by first | decide | (dsimp only; omega)) (by first | decide | (dsimp only; omega)) d_jdk_52_m86_32 rfl ?_
    intro T45 h45 L45 v45 K45 q45
    obtain ⟨rfl, Kq45, Vq45⟩ := q45
    show G (T45.setTop (mkF m 35 #[.val (.ref a), .val (.int (Int32.ofNat (i + 1))), .val (.ref b), .val (.int (Int32.ofNat (cs.length + i + 1))), .val (.int (Int32.ofNat ds.length)), .val (.int (Int32.ofNat i))] []))
    refine own_iinc K45 (Ls' := #[.val (.ref a), .val (.int (Int32.ofNat (i + 1))), .val (.ref b), .val (.int (Int32.ofNat (cs.length + i + 1))), .val (.int (Int32.ofNat ds.length)), .val (.int ((Int32.ofNat i) + (1 : Int32)))]) (x := (Int32.ofNat i)) (v := (Int32.ofNat i)) d_jdk_52_m86_35 rfl rfl rfl ?_
    refine own_goto K45 d_jdk_52_m86_38 (pc' := 10) (by decide) (by decide) ?_
    simp only [own_one]
    exact ih (i + 1) (by omega) K45 (Kp.trans Kq45 (fun x hx => Or.inl hx)) (by rw [List.take_add_one, List.getElem?_eq_getElem hin, ← List.append_assoc]; exact Vq45)
end Lp
theorem d_jdk_52_m86_0 : decode jdk_52_method_86_code 0 = .ok (.iload_n 3, 1) := by decide +kernel
theorem d_jdk_52_m86_1 : decode jdk_52_method_86_code 1 = .ok (.iload 4, 2) := by decide +kernel
theorem d_jdk_52_m86_3 : decode jdk_52_method_86_code 3 = .ok (.aload_n 2, 1) := by decide +kernel
theorem d_jdk_52_m86_4 : decode jdk_52_method_86_code 4 = .ok (.invokestatic 173, 3) := by decide +kernel
theorem wd246 {a0 : Array Value} {Z : State} (hw : ∀ d ∈ tables_1, d.before a0 Z = true) : (Jvm.Cond.code ({ cls := "java/lang/StringUTF16", name := "checkBoundsOffCount", desc := "(II[B)V" } : Jvm.MethodName) jdk_52_method_94_code (3 : Nat) (Option.none : Option Jvm.ClassFile.FieldType)).before a0 Z = true := hw _ (List.mem_of_getElem? (i := 246) rfl)
theorem pd_28II5bB29V : parseMethodDescriptor "(II[B)V" = some ⟨[.int, .int, (.array .byte)], none⟩ := by decide +kernel
theorem wd244 {a0 : Array Value} {Z : State} (hw : ∀ d ∈ tables_1, d.before a0 Z = true) : (Jvm.Cond.methodLink "java/lang/StringUTF16" (173 : Nat) ({ cls := "java/lang/StringUTF16", name := "checkBoundsOffCount", desc := "(II[B)V" } : Jvm.MethodName)).before a0 Z = true := hw _ (List.mem_of_getElem? (i := 244) rfl)
theorem wd245 {a0 : Array Value} {Z : State} (hw : ∀ d ∈ tables_1, d.before a0 Z = true) : (Jvm.Cond.static ({ cls := "java/lang/StringUTF16", name := "checkBoundsOffCount", desc := "(II[B)V" } : Jvm.MethodName)).before a0 Z = true := hw _ (List.mem_of_getElem? (i := 245) rfl)
theorem d_jdk_52_m86_7 : decode jdk_52_method_86_code 7 = .ok (.iconst 0, 1) := by decide +kernel
theorem d_jdk_52_m86_8 : decode jdk_52_method_86_code 8 = .ok (.istore 5, 2) := by decide +kernel
theorem d_jdk_52_m86_41 : decode jdk_52_method_86_code 41 = .ok (.return_, 1) := by decide +kernel
set_option maxRecDepth 65536 in
set_option maxHeartbeats 40000000 in
theorem rm_inflateU {l : Launch} {Z : State} {a0 : Array Value} (hw : ∀ d ∈ tables_1, d.before a0 Z = true) (hs : ∀ d ∈ jdkStatics_1, d.before a0 Z = true) {a : Addr} {ka : ClassId} {ds : List Int32} {M : Nat} {b : Addr} {kb : ClassId} {cs : List Int32} {nn : Nat} {h0 : Heap} (O0 : Ext Z.heap h0) (A : Arv Z h0 a ka .byte (Int32.ofNat M) (own_by ds) (.int 0)) (V : Arv Z h0 b kb .byte (Int32.ofNat (2 * nn)) (own_by2 cs) (.int 0)) (hM : ds.length ≤ M ∧ M ≤ 8000) (hab : a ∉ [b]) (gb : Z.heap.size ≤ b) (hok : own_ok false ds) (hnn : cs.length + ds.length ≤ nn ∧ nn ≤ 8000) :
    own_Ct l Z (⟨"java/lang/StringUTF16", "inflate", "([BI[BII)V"⟩ : MethodName) jdk_52_method_86_code 6 none [] ({ frames := 3, locals := 43, cells := 0, slots := 0 } : Room) #[(.ref a), (.int 0), (.ref b), (.int (Int32.ofNat cs.length)), (.int (Int32.ofNat ds.length))] h0 (fun v h => v = none ∧ Keep h0 h [b] ∧ Arv Z h b kb .byte (Int32.ofNat (2 * nn)) (own_by2 (cs ++ ds)) (.int 0)) := by
  refine own_body (Ls := #[.val (.ref a), .val (.int 0), .val (.ref b), .val (.int (Int32.ofNat cs.length)), .val (.int (Int32.ofNat ds.length)), .unset]) (plainFor_of_name pn_java_lang_StringUTF16) (fun m => by first | (simp [entryFrame, mkF, argsToLocals, Value.category]; done) | rfl) O0 ?_
  intro p e s m below meth c T0 G K0
  refine own_iloadN K0 d_jdk_52_m86_0 rfl rfl ?_
  refine own_iload K0 d_jdk_52_m86_1 rfl rfl ?_
  refine own_aloadN K0 d_jdk_52_m86_3 rfl rfl rfl ?_
  refine own_callS K0 (wd244 hw) (wd245 hw) (rm_checkBOCU hw hs K0.O V (by omega) (by omega)) (wd246 hw) (wd116 hw) (by decide) (argsL := [(.int (Int32.ofNat cs.length)), (.int (Int32.ofNat ds.length)), (.ref b)]) (rest := []) rfl pd_28II5bB29V rfl rfl (W := 0) rfl (by decide) (by decide) (by decide) (by decide) d_jdk_52_m86_4 rfl ?_
  intro T46 h46 L46 v46 K46 q46
  obtain ⟨rfl, e46⟩ := q46
  have f46 := e46.symm
  subst f46
  show G (T46.setTop (mkF m 7 #[.val (.ref a), .val (.int 0), .val (.ref b), .val (.int (Int32.ofNat cs.length)), .val (.int (Int32.ofNat ds.length)), .unset] []))
  refine own_iconst K46 (v := (0 : Int32)) d_jdk_52_m86_7 rfl rfl ?_
  refine own_istore K46 (Ls' := #[.val (.ref a), .val (.int 0), .val (.ref b), .val (.int (Int32.ofNat cs.length)), .val (.int (Int32.ofNat ds.length)), .val (.int (0 : Int32))]) d_jdk_52_m86_8 rfl rfl ?_
  refine lp_inflate hw hs (by first | decide | (dsimp only; omega)) (by first | decide | (dsimp only; omega)) (by first | decide | (dsimp only; omega)) (by first | decide | (dsimp only; omega)) A hM hab gb hok hnn (fun T1 L1 h1 K1 q1 x1 x3 x5 => ?_) ds.length 0 (Nat.zero_add _) K46 (Keep.refl _ _) (by rw [List.take_zero, List.append_nil]; exact V)
  exact own_ret0 K1 d_jdk_52_m86_41 rfl (by decide) (by decide) ⟨rfl, q1.1, q1.2⟩
theorem d_jdk_43_m50_0 : decode jdk_43_method_50_code 0 = .ok (.aload_n 0, 1) := by decide +kernel
theorem d_jdk_43_m50_1 : decode jdk_43_method_50_code 1 = .ok (.iload_n 1, 1) := by decide +kernel
theorem d_jdk_43_m50_2 : decode jdk_43_method_50_code 2 = .ok (.aload_n 2, 1) := by decide +kernel
theorem d_jdk_43_m50_3 : decode jdk_43_method_50_code 3 = .ok (.iload_n 3, 1) := by decide +kernel
theorem d_jdk_43_m50_4 : decode jdk_43_method_50_code 4 = .ok (.iload 4, 2) := by decide +kernel
theorem d_jdk_43_m50_6 : decode jdk_43_method_50_code 6 = .ok (.invokestatic 240, 3) := by decide +kernel
theorem wd243 {a0 : Array Value} {Z : State} (hw : ∀ d ∈ tables_1, d.before a0 Z = true) : (Jvm.Cond.code ({ cls := "java/lang/StringUTF16", name := "inflate", desc := "([BI[BII)V" } : Jvm.MethodName) jdk_52_method_86_code (6 : Nat) (Option.none : Option Jvm.ClassFile.FieldType)).before a0 Z = true := hw _ (List.mem_of_getElem? (i := 243) rfl)
theorem pd_285bBI5bBII29V : parseMethodDescriptor "([BI[BII)V" = some ⟨[(.array .byte), .int, (.array .byte), .int, .int], none⟩ := by decide +kernel
theorem wd241 {a0 : Array Value} {Z : State} (hw : ∀ d ∈ tables_1, d.before a0 Z = true) : (Jvm.Cond.methodLink "java/lang/StringLatin1" (240 : Nat) ({ cls := "java/lang/StringUTF16", name := "inflate", desc := "([BI[BII)V" } : Jvm.MethodName)).before a0 Z = true := hw _ (List.mem_of_getElem? (i := 241) rfl)
theorem wd242 {a0 : Array Value} {Z : State} (hw : ∀ d ∈ tables_1, d.before a0 Z = true) : (Jvm.Cond.static ({ cls := "java/lang/StringUTF16", name := "inflate", desc := "([BI[BII)V" } : Jvm.MethodName)).before a0 Z = true := hw _ (List.mem_of_getElem? (i := 242) rfl)
theorem d_jdk_43_m50_9 : decode jdk_43_method_50_code 9 = .ok (.return_, 1) := by decide +kernel
set_option maxRecDepth 65536 in
set_option maxHeartbeats 40000000 in
theorem rm_inflateL {l : Launch} {Z : State} {a0 : Array Value} (hw : ∀ d ∈ tables_1, d.before a0 Z = true) (hs : ∀ d ∈ jdkStatics_1, d.before a0 Z = true) {a : Addr} {ka : ClassId} {ds : List Int32} {M : Nat} {b : Addr} {kb : ClassId} {cs : List Int32} {nn : Nat} {h0 : Heap} (O0 : Ext Z.heap h0) (A : Arv Z h0 a ka .byte (Int32.ofNat M) (own_by ds) (.int 0)) (V : Arv Z h0 b kb .byte (Int32.ofNat (2 * nn)) (own_by2 cs) (.int 0)) (hM : ds.length ≤ M ∧ M ≤ 8000) (hab : a ∉ [b]) (gb : Z.heap.size ≤ b) (hok : own_ok false ds) (hnn : cs.length + ds.length ≤ nn ∧ nn ≤ 8000) :
    own_Ct l Z (⟨"java/lang/StringLatin1", "inflate", "([BI[BII)V"⟩ : MethodName) jdk_43_method_50_code 5 none [] ({ frames := 4, locals := 60, cells := 0, slots := 0 } : Room) #[(.ref a), (.int 0), (.ref b), (.int (Int32.ofNat cs.length)), (.int (Int32.ofNat ds.length))] h0 (fun v h => v = none ∧ Keep h0 h [b] ∧ Arv Z h b kb .byte (Int32.ofNat (2 * nn)) (own_by2 (cs ++ ds)) (.int 0)) := by
  refine own_body (Ls := #[.val (.ref a), .val (.int 0), .val (.ref b), .val (.int (Int32.ofNat cs.length)), .val (.int (Int32.ofNat ds.length))]) (plainFor_of_name pn_java_lang_StringLatin1) (fun m => by first | (simp [entryFrame, mkF, argsToLocals, Value.category]; done) | rfl) O0 ?_
  intro p e s m below meth c T0 G K0
  refine own_aloadN K0 d_jdk_43_m50_0 rfl rfl rfl ?_
  refine own_iloadN K0 d_jdk_43_m50_1 rfl rfl ?_
  refine own_aloadN K0 d_jdk_43_m50_2 rfl rfl rfl ?_
  refine own_iloadN K0 d_jdk_43_m50_3 rfl rfl ?_
  refine own_iload K0 d_jdk_43_m50_4 rfl rfl ?_
  refine own_callS K0 (wd241 hw) (wd242 hw) (rm_inflateU hw hs K0.O A V hM hab gb hok hnn) (wd243 hw) (wd116 hw) (by decide) (argsL := [(.ref a), (.int 0), (.ref b), (.int (Int32.ofNat cs.length)), (.int (Int32.ofNat ds.length))]) (rest := []) rfl pd_285bBI5bBII29V rfl rfl (W := 0) rfl (by decide) (by decide) (by decide) (by decide) d_jdk_43_m50_6 rfl ?_
  intro T47 h47 L47 v47 K47 q47
  obtain ⟨rfl, Kp47, V47⟩ := q47
  show G (T47.setTop (mkF m 9 #[.val (.ref a), .val (.int 0), .val (.ref b), .val (.int (Int32.ofNat cs.length)), .val (.int (Int32.ofNat ds.length))] []))
  exact own_ret0 K47 d_jdk_43_m50_9 rfl (by decide) (by decide) ⟨rfl, Kp47, V47⟩
theorem d_jdk_68_m11_0 : decode jdk_68_method_11_code 0 = .ok (.aload_n 0, 1) := by decide +kernel
theorem d_jdk_68_m11_1 : decode jdk_68_method_11_code 1 = .ok (.invokevirtual 83, 3) := by decide +kernel
theorem wd91 {a0 : Array Value} {Z : State} (hw : ∀ d ∈ tables_1, d.before a0 Z = true) : (Jvm.Cond.code ({ cls := "java/lang/AbstractStringBuilder", name := "isLatin1", desc := "()Z" } : Jvm.MethodName) jdk_68_method_68_code (1 : Nat) (Option.some Jvm.ClassFile.FieldType.boolean)).before a0 Z = true := hw _ (List.mem_of_getElem? (i := 91) rfl)
theorem wd74 {a0 : Array Value} {Z : State} (hw : ∀ d ∈ tables_1, d.before a0 Z = true) : (Jvm.Cond.selects "java/lang/StringBuilder" ({ cls := "java/lang/AbstractStringBuilder", name := "getValue", desc := "()[B" } : Jvm.MethodName) ({ cls := "java/lang/AbstractStringBuilder", name := "getValue", desc := "()[B" } : Jvm.MethodName)).before a0 Z = true := hw _ (List.mem_of_getElem? (i := 74) rfl)
theorem wd169 {a0 : Array Value} {Z : State} (hw : ∀ d ∈ tables_1, d.before a0 Z = true) : (Jvm.Cond.methodLink "java/lang/AbstractStringBuilder" (83 : Nat) ({ cls := "java/lang/AbstractStringBuilder", name := "isLatin1", desc := "()Z" } : Jvm.MethodName)).before a0 Z = true := hw _ (List.mem_of_getElem? (i := 169) rfl)
theorem wd88 {a0 : Array Value} {Z : State} (hw : ∀ d ∈ tables_1, d.before a0 Z = true) : (Jvm.Cond.declares ({ cls := "java/lang/AbstractStringBuilder", name := "isLatin1", desc := "()Z" } : Jvm.MethodName)).before a0 Z = true := hw _ (List.mem_of_getElem? (i := 88) rfl)
theorem wd90 {a0 : Array Value} {Z : State} (hw : ∀ d ∈ tables_1, d.before a0 Z = true) : (Jvm.Cond.selects "java/lang/StringBuilder" ({ cls := "java/lang/AbstractStringBuilder", name := "isLatin1", desc := "()Z" } : Jvm.MethodName) ({ cls := "java/lang/AbstractStringBuilder", name := "isLatin1", desc := "()Z" } : Jvm.MethodName)).before a0 Z = true := hw _ (List.mem_of_getElem? (i := 90) rfl)
theorem wd89 {a0 : Array Value} {Z : State} (hw : ∀ d ∈ tables_1, d.before a0 Z = true) : (Jvm.Cond.instanceMethod ({ cls := "java/lang/AbstractStringBuilder", name := "isLatin1", desc := "()Z" } : Jvm.MethodName)).before a0 Z = true := hw _ (List.mem_of_getElem? (i := 89) rfl)
theorem d_jdk_68_m11_4 : decode jdk_68_method_11_code 4 = .ok (.ifCond .ne 4, 3) := by decide +kernel
theorem d_jdk_68_m11_7 : decode jdk_68_method_11_code 7 = .ok (.return_, 1) := by decide +kernel
theorem d_jdk_68_m11_8 : decode jdk_68_method_11_code 8 = .ok (.aload_n 0, 1) := by decide +kernel
theorem d_jdk_68_m11_9 : decode jdk_68_method_11_code 9 = .ok (.getfield 15, 3) := by decide +kernel
theorem d_jdk_68_m11_12 : decode jdk_68_method_11_code 12 = .ok (.arraylength, 1) := by decide +kernel
theorem d_jdk_68_m11_13 : decode jdk_68_method_11_code 13 = .ok (.invokestatic 26, 3) := by decide +kernel
theorem wd208 {a0 : Array Value} {Z : State} (hw : ∀ d ∈ tables_1, d.before a0 Z = true) : (Jvm.Cond.code ({ cls := "java/lang/StringUTF16", name := "newBytesFor", desc := "(I)[B" } : Jvm.MethodName) jdk_52_method_2_code (1 : Nat) (Option.some (Jvm.ClassFile.FieldType.array Jvm.ClassFile.FieldType.byte))).before a0 Z = true := hw _ (List.mem_of_getElem? (i := 208) rfl)
theorem pd_28I295bB : parseMethodDescriptor "(I)[B" = some ⟨[.int], some (.array .byte)⟩ := by decide +kernel
theorem wd237 {a0 : Array Value} {Z : State} (hw : ∀ d ∈ tables_1, d.before a0 Z = true) : (Jvm.Cond.methodLink "java/lang/AbstractStringBuilder" (26 : Nat) ({ cls := "java/lang/StringUTF16", name := "newBytesFor", desc := "(I)[B" } : Jvm.MethodName)).before a0 Z = true := hw _ (List.mem_of_getElem? (i := 237) rfl)
theorem wd207 {a0 : Array Value} {Z : State} (hw : ∀ d ∈ tables_1, d.before a0 Z = true) : (Jvm.Cond.static ({ cls := "java/lang/StringUTF16", name := "newBytesFor", desc := "(I)[B" } : Jvm.MethodName)).before a0 Z = true := hw _ (List.mem_of_getElem? (i := 207) rfl)
theorem d_jdk_68_m11_16 : decode jdk_68_method_11_code 16 = .ok (.astore_n 1, 1) := by decide +kernel
theorem d_jdk_68_m11_17 : decode jdk_68_method_11_code 17 = .ok (.aload_n 0, 1) := by decide +kernel
theorem d_jdk_68_m11_18 : decode jdk_68_method_11_code 18 = .ok (.getfield 15, 3) := by decide +kernel
theorem d_jdk_68_m11_21 : decode jdk_68_method_11_code 21 = .ok (.iconst 0, 1) := by decide +kernel
theorem d_jdk_68_m11_22 : decode jdk_68_method_11_code 22 = .ok (.aload_n 1, 1) := by decide +kernel
theorem d_jdk_68_m11_23 : decode jdk_68_method_11_code 23 = .ok (.iconst 0, 1) := by decide +kernel
theorem d_jdk_68_m11_24 : decode jdk_68_method_11_code 24 = .ok (.aload_n 0, 1) := by decide +kernel
theorem wd85 {a0 : Array Value} {Z : State} (hw : ∀ d ∈ tables_1, d.before a0 Z = true) : (Jvm.Cond.fieldLink "java/lang/AbstractStringBuilder" (79 : Nat) "java/lang/AbstractStringBuilder" "count" "I").before a0 Z = true := hw _ (List.mem_of_getElem? (i := 85) rfl)
theorem d_jdk_68_m11_25 : decode jdk_68_method_11_code 25 = .ok (.getfield 79, 3) := by decide +kernel
theorem d_jdk_68_m11_28 : decode jdk_68_method_11_code 28 = .ok (.invokestatic 125, 3) := by decide +kernel
theorem wd240 {a0 : Array Value} {Z : State} (hw : ∀ d ∈ tables_1, d.before a0 Z = true) : (Jvm.Cond.code ({ cls := "java/lang/StringLatin1", name := "inflate", desc := "([BI[BII)V" } : Jvm.MethodName) jdk_43_method_50_code (5 : Nat) (Option.none : Option Jvm.ClassFile.FieldType)).before a0 Z = true := hw _ (List.mem_of_getElem? (i := 240) rfl)
theorem wd238 {a0 : Array Value} {Z : State} (hw : ∀ d ∈ tables_1, d.before a0 Z = true) : (Jvm.Cond.methodLink "java/lang/AbstractStringBuilder" (125 : Nat) ({ cls := "java/lang/StringLatin1", name := "inflate", desc := "([BI[BII)V" } : Jvm.MethodName)).before a0 Z = true := hw _ (List.mem_of_getElem? (i := 238) rfl)
theorem wd239 {a0 : Array Value} {Z : State} (hw : ∀ d ∈ tables_1, d.before a0 Z = true) : (Jvm.Cond.static ({ cls := "java/lang/StringLatin1", name := "inflate", desc := "([BI[BII)V" } : Jvm.MethodName)).before a0 Z = true := hw _ (List.mem_of_getElem? (i := 239) rfl)
theorem d_jdk_68_m11_31 : decode jdk_68_method_11_code 31 = .ok (.aload_n 0, 1) := by decide +kernel
theorem d_jdk_68_m11_32 : decode jdk_68_method_11_code 32 = .ok (.aload_n 1, 1) := by decide +kernel
theorem d_jdk_68_m11_33 : decode jdk_68_method_11_code 33 = .ok (.putfield 15, 3) := by decide +kernel
theorem d_jdk_68_m11_36 : decode jdk_68_method_11_code 36 = .ok (.aload_n 0, 1) := by decide +kernel
theorem d_jdk_68_m11_37 : decode jdk_68_method_11_code 37 = .ok (.iconst 1, 1) := by decide +kernel
theorem d_jdk_68_m11_38 : decode jdk_68_method_11_code 38 = .ok (.putfield 22, 3) := by decide +kernel
theorem d_jdk_68_m11_41 : decode jdk_68_method_11_code 41 = .ok (.return_, 1) := by decide +kernel
set_option maxRecDepth 65536 in
set_option maxHeartbeats 40000000 in
theorem rm_inflateB {l : Launch} {Z : State} {a0 : Array Value} (hw : ∀ d ∈ tables_1, d.before a0 Z = true) (hs : ∀ d ∈ jdkStatics_1, d.before a0 Z = true) {x : Addr} {u : Bool} {cs : List Int32} {b : Addr} {kb : ClassId} {N : Nat} {cap : Nat} {h0 : Heap} (O0 : Ext Z.heap h0) (B : own_SB Z h0 x u cs.length cs b kb N) (hok : own_ok u cs) (hcap : 2 * N ≤ cap) (hcap2 : cap ≤ 4000) :
    own_Ct l Z (⟨"java/lang/AbstractStringBuilder", "inflate", "()V"⟩ : MethodName) jdk_68_method_11_code 2 none [] ({ frames := 5, locals := 76, cells := 1, slots := cap } : Room) #[(.ref x)] h0 (fun v h => v = none ∧ Keep h0 h [x] ∧ ∃ (b' : Addr) (kb' : ClassId), (b' = b ∨ h0.size ≤ b') ∧ own_SB Z h x true cs.length cs b' kb' N) := by
  have B' := B
  obtain ⟨BE, Bvalue, Bcoder, Bcount, BmaybeLatin1, BV, hab, ga, gb, hcN, hN, hnc⟩ := B'
  refine own_body (Ls := #[.val (.ref x), .unset]) (plainFor_of_name pn_java_lang_AbstractStringBuilder) (fun m => by first | (simp [entryFrame, mkF, argsToLocals, Value.category]; done) | rfl) O0 ?_
  intro p e s m below meth c T0 G K0
  refine own_aloadN K0 d_jdk_68_m11_0 rfl rfl rfl ?_
  refine own_callV K0 (a := x) (x0 := (⟨"java/lang/AbstractStringBuilder", "isLatin1", "()Z"⟩ : MethodName)) (wd169 hw) (wd88 hw) (fun q => own_nfS (args := #[]) (mvT q (wd74 hw)) rfl) (wd90 hw) (wd89 hw) (rm_isLatin1B hw hs (u := u) K0.O Bcoder) (wd91 hw) (wd51 hw) (by decide) BE (argsL := []) (rest := []) rfl pd_2829Z rfl rfl (W := 0) rfl (by first | decide | (dsimp only; omega)) (by first | decide | (dsimp only; omega)) (by first | decide | (dsimp only; omega)) (by first | decide | (dsimp only; omega)) d_jdk_68_m11_1 rfl ?_
  intro T48 h48 L48 v48 K48 q48
  obtain ⟨rfl, e48⟩ := q48
  have f48 := e48.symm
  subst f48
  show G (T48.setTop (mkF m 4 #[.val (.ref x), .unset] [(.int (cond u 0 1))]))
  cases u with
  | false =>
    refine own_ifYes K48 d_jdk_68_m11_4 (pc' := 8) (by decide) (by decide) ((if0 _ _).trans (feq (by decide)).2) ?_
    refine own_aloadN K48 d_jdk_68_m11_8 rfl rfl rfl ?_
    refine own_getF K48 (host := "") (Or.inl (wd55 hw)) Via.refl Bvalue d_jdk_68_m11_9 rfl ?_
    intro T49 K49
    refine own_arraylength K49 BV d_jdk_68_m11_12 rfl ?_
    refine own_callS K49 (wd237 hw) (wd207 hw) (rm_newBytesFor hw hs (nn := N) (cap := cap) K49.O (by omega) hcap (by omega)) (wd208 hw) (wd116 hw) (by decide) (argsL := [(.int (Int32.ofNat N))]) (rest := []) rfl pd_28I295bB rfl rfl (W := 0) rfl (by first | decide | (dsimp only; omega)) (by first | decide | (dsimp only; omega)) (by first | decide | (dsimp only; omega)) (by first | decide | (dsimp only; omega)) d_jdk_68_m11_13 rfl ?_
    intro T50 h50 L50 v50 K50 q50
    obtain ⟨c50, kc50, rfl, gc50, X50, V50⟩ := q50
    show G (T50.setTop (mkF m 16 #[.val (.ref x), .unset] [(.ref c50)]))
    refine own_astoreN K50 (Ls' := #[.val (.ref x), .val (.ref c50)]) d_jdk_68_m11_16 rfl rfl rfl ?_
    refine own_aloadN K50 d_jdk_68_m11_17 rfl rfl rfl ?_
    have value_51 := Bvalue.ext X50
    have coder_51 := Bcoder.ext X50
    have count_51 := Bcount.ext X50
    have maybeLatin1_51 := BmaybeLatin1.ext X50
    have E_51 := BE.ext X50
    have V_51 := BV.ext X50
    refine own_getF K50 (host := "") (Or.inl (wd55 hw)) Via.refl value_51 d_jdk_68_m11_18 rfl ?_
    intro T52 K52
    refine own_iconst K52 (v := (0 : Int32)) d_jdk_68_m11_21 rfl rfl ?_
    refine own_aloadN K52 d_jdk_68_m11_22 rfl rfl rfl ?_
    refine own_iconst K52 (v := (0 : Int32)) d_jdk_68_m11_23 rfl rfl ?_
    refine own_aloadN K52 d_jdk_68_m11_24 rfl rfl rfl ?_
    refine own_getF K52 (host := "") (Or.inl (wd85 hw)) Via.refl count_51 d_jdk_68_m11_25 rfl ?_
    intro T53 K53
    have gc : Z.heap.size ≤ c50 := by rw [gc50]; exact K0.O.1
    have hbc : b ∉ [c50] := fun q => Nat.ne_of_lt (Nat.lt_of_lt_of_le BV.lt (Nat.le_of_eq gc50.symm)) (List.mem_singleton.mp q)
    have hxc : x ∉ [c50] := fun q => Nat.ne_of_lt (Nat.lt_of_lt_of_le BE.lt (Nat.le_of_eq gc50.symm)) (List.mem_singleton.mp q)
    refine own_callS K53 (wd238 hw) (wd239 hw) (rm_inflateL hw hs (M := N) (nn := N) (cs := []) K53.O V_51 V50 ⟨hcN, by omega⟩ hbc gc hok ⟨by simpa using hcN, by omega⟩) (wd240 hw) (wd145 hw) (by decide) (argsL := [(.ref b), (.int (0 : Int32)), (.ref c50), (.int (0 : Int32)), (.int (Int32.ofNat cs.length))]) (rest := []) rfl pd_285bBI5bBII29V rfl rfl (W := 0) rfl (by first | decide | (dsimp only; omega)) (by first | decide | (dsimp only; omega)) (by first | decide | (dsimp only; omega)) (by first | decide | (dsimp only; omega)) d_jdk_68_m11_28 rfl ?_
    intro T54 h54 L54 v54 K54 q54
    obtain ⟨rfl, Kp54, V54⟩ := q54
    show G (T54.setTop (mkF m 31 #[.val (.ref x), .val (.ref c50)] []))
    refine own_aloadN K54 d_jdk_68_m11_31 rfl rfl rfl ?_
    refine own_aloadN K54 d_jdk_68_m11_32 rfl rfl rfl ?_
    have value_55 := value_51.keep Kp54 hxc
    have coder_55 := coder_51.keep Kp54 hxc
    have count_55 := count_51.keep Kp54 hxc
    have maybeLatin1_55 := maybeLatin1_51.keep Kp54 hxc
    have E_55 := E_51.keep Kp54
    have hxc' : x ≠ c50 := fun q => hxc (List.mem_singleton.mpr q)
    refine own_putF K54 (host := "") (Or.inl (wd55 hw)) Via.refl value_55 E_55 (Or.inl (wd56 hw)) (wd31 hw) (ty := (.array .byte)) (by decide) rfl rfl ga d_jdk_68_m11_33 rfl ?_
    intro T56 h56 K56 W56
    have value_57 := value_55.same W56
    have coder_57 := coder_55.other W56 (Or.inr (slot_ne (Or.inl (wd58 hw)) (Or.inl (wd56 hw)) (by decide) (t := .byte) (t' := (.array .byte)) (by decide) (by decide)))
    have count_57 := count_55.other W56 (Or.inr (slot_ne (Or.inl (wd86 hw)) (Or.inl (wd56 hw)) (by decide) (t := .int) (t' := (.array .byte)) (by decide) (by decide)))
    have maybeLatin1_57 := maybeLatin1_55.other W56 (Or.inr (slot_ne (Or.inl (wd259 hw)) (Or.inl (wd56 hw)) (by decide) (t := .boolean) (t' := (.array .byte)) (by decide) (by decide)))
    have E_57 := E_55.wr W56
    have V_57 := V54.other W56 (Ne.symm hxc')
    refine own_aloadN K56 d_jdk_68_m11_36 rfl rfl rfl ?_
    refine own_iconst K56 (v := (1 : Int32)) d_jdk_68_m11_37 rfl rfl ?_
    refine own_putFN K56 (wd57 hw) Via.refl coder_57 E_57 (Or.inl (wd58 hw)) (wd31 hw) (ty := .byte) (v' := .int 1) (by decide) rfl rfl ga d_jdk_68_m11_38 rfl ?_
    intro T58 h58 K58 W58
    have value_59 := value_57.other W58 (Or.inr (slot_ne (Or.inl (wd56 hw)) (Or.inl (wd58 hw)) (by decide) (t := (.array .byte)) (t' := .byte) (by decide) (by decide)))
    have coder_59 := coder_57.same W58
    have count_59 := count_57.other W58 (Or.inr (slot_ne (Or.inl (wd86 hw)) (Or.inl (wd58 hw)) (by decide) (t := .int) (t' := .byte) (by decide) (by decide)))
    have maybeLatin1_59 := maybeLatin1_57.other W58 (Or.inr (slot_ne (Or.inl (wd259 hw)) (Or.inl (wd58 hw)) (by decide) (t := .boolean) (t' := .byte) (by decide) (by decide)))
    have E_59 := E_57.wr W58
    have V_59 := V_57.other W58 (Ne.symm hxc')
    exact own_ret0 K58 d_jdk_68_m11_41 rfl (by first | decide | (dsimp only; omega)) (by first | decide | (dsimp only; omega)) ⟨rfl, (((own_ext_of_keep' (own_ext_keep X50 Kp54 (fun y q => by cases List.mem_singleton.mp q; exact Nat.le_of_eq gc50.symm)) [x]).wr W56 (Or.inl (List.mem_singleton.mpr rfl))).wr W58 (Or.inl (List.mem_singleton.mpr rfl))), c50, kc50, Or.inr (Nat.le_of_eq gc50.symm), ⟨E_59, value_59, coder_59, count_59, maybeLatin1_59, V_59, hxc', ga, gc, hcN, hN, hnc⟩⟩
  | true =>
    refine own_ifNo K48 d_jdk_68_m11_4 rfl ((if0 _ _).trans (teq rfl).2) ?_
    exact own_ret0 K48 d_jdk_68_m11_7 rfl (by first | decide | (dsimp only; omega)) (by first | decide | (dsimp only; omega)) ⟨rfl, Keep.refl _ _, b, kb, Or.inl rfl, B⟩
theorem d_jdk_68_m71_0 : decode jdk_68_method_71_code 0 = .ok (.getstatic 18, 3) := by decide +kernel
theorem d_jdk_68_m71_3 : decode jdk_68_method_71_code 3 = .ok (.ifCond .eq 18, 3) := by decide +kernel
theorem d_jdk_68_m71_6 : decode jdk_68_method_71_code 6 = .ok (.aload_n 0, 1) := by decide +kernel
theorem d_jdk_68_m71_7 : decode jdk_68_method_71_code 7 = .ok (.getfield 22, 3) := by decide +kernel
theorem d_jdk_68_m71_10 : decode jdk_68_method_71_code 10 = .ok (.aload_n 1, 1) := by decide +kernel
theorem d_jdk_68_m71_11 : decode jdk_68_method_71_code 11 = .ok (.invokevirtual 40, 3) := by decide +kernel
theorem wd194 {a0 : Array Value} {Z : State} (hw : ∀ d ∈ tables_1, d.before a0 Z = true) : (Jvm.Cond.methodLink "java/lang/AbstractStringBuilder" (40 : Nat) ({ cls := "java/lang/String", name := "coder", desc := "()B" } : Jvm.MethodName)).before a0 Z = true := hw _ (List.mem_of_getElem? (i := 194) rfl)
theorem d_jdk_68_m71_14 : decode jdk_68_method_71_code 14 = .ok (.if_icmp .eq 7, 3) := by decide +kernel
theorem d_jdk_68_m71_21 : decode jdk_68_method_71_code 21 = .ok (.return_, 1) := by decide +kernel
theorem d_jdk_68_m71_17 : decode jdk_68_method_71_code 17 = .ok (.aload_n 0, 1) := by decide +kernel
theorem d_jdk_68_m71_18 : decode jdk_68_method_71_code 18 = .ok (.invokevirtual 195, 3) := by decide +kernel
theorem wd236 {a0 : Array Value} {Z : State} (hw : ∀ d ∈ tables_1, d.before a0 Z = true) : (Jvm.Cond.code ({ cls := "java/lang/AbstractStringBuilder", name := "inflate", desc := "()V" } : Jvm.MethodName) jdk_68_method_11_code (2 : Nat) (Option.none : Option Jvm.ClassFile.FieldType)).before a0 Z = true := hw _ (List.mem_of_getElem? (i := 236) rfl)
theorem pd_2829V : parseMethodDescriptor "()V" = some ⟨[], none⟩ := by decide +kernel
theorem wd232 {a0 : Array Value} {Z : State} (hw : ∀ d ∈ tables_1, d.before a0 Z = true) : (Jvm.Cond.methodLink "java/lang/AbstractStringBuilder" (195 : Nat) ({ cls := "java/lang/AbstractStringBuilder", name := "inflate", desc := "()V" } : Jvm.MethodName)).before a0 Z = true := hw _ (List.mem_of_getElem? (i := 232) rfl)
theorem wd233 {a0 : Array Value} {Z : State} (hw : ∀ d ∈ tables_1, d.before a0 Z = true) : (Jvm.Cond.instanceMethod ({ cls := "java/lang/AbstractStringBuilder", name := "inflate", desc := "()V" } : Jvm.MethodName)).before a0 Z = true := hw _ (List.mem_of_getElem? (i := 233) rfl)
theorem wd234 {a0 : Array Value} {Z : State} (hw : ∀ d ∈ tables_1, d.before a0 Z = true) : (Jvm.Cond.privateMethod ({ cls := "java/lang/AbstractStringBuilder", name := "inflate", desc := "()V" } : Jvm.MethodName)).before a0 Z = true := hw _ (List.mem_of_getElem? (i := 234) rfl)
set_option maxRecDepth 65536 in
set_option maxHeartbeats 40000000 in
theorem rm_inflateIf {l : Launch} {Z : State} {a0 : Array Value} (hw : ∀ d ∈ tables_1, d.before a0 Z = true) (hs : ∀ d ∈ jdkStatics_1, d.before a0 Z = true) {x : Addr} {u : Bool} {cs : List Int32} {b : Addr} {kb : ClassId} {N : Nat} {cap : Nat} {st : Addr} {us : Bool} {ds : List Int32} {h0 : Heap} (O0 : Ext Z.heap h0) (B : own_SB Z h0 x u cs.length cs b kb N) (hok : own_ok u cs) (hcap : 2 * N ≤ cap) (hcap2 : cap ≤ 4000) (S : own_StrG Z h0 st us ds) (hlen : ds.length ≤ 4000) :
    own_Ct l Z (⟨"java/lang/AbstractStringBuilder", "inflateIfNeededFor", "(Ljava/lang/String;)V"⟩ : MethodName) jdk_68_method_71_code 2 none [] ({ frames := 6, locals := 89, cells := 1, slots := cap } : Room) #[(.ref x), (.ref st)] h0 (fun v h => v = none ∧ Keep h0 h [x] ∧ ∃ (b' : Addr) (kb' : ClassId), (b' = b ∨ h0.size ≤ b') ∧ own_SB Z h x (u || us) cs.length cs b' kb' N) := by
  obtain ⟨zc, SC, hzc⟩ := own_compact hs
  have B' := B
  obtain ⟨BE, Bvalue, Bcoder, Bcount, BmaybeLatin1, BV, hab, ga, gb, hcN, hN, hnc⟩ := B'
  refine own_body (Ls := #[.val (.ref x), .val (.ref st)]) (plainFor_of_name pn_java_lang_AbstractStringBuilder) (fun m => by first | (simp [entryFrame, mkF, argsToLocals, Value.category]; done) | rfl) O0 ?_
  intro p e s m below meth c T0 G K0
  refine own_getS K0 (wd54 hw) Via.refl (SC.ext K0.O) d_jdk_68_m71_0 rfl ?_
  intro T60 K60
  refine own_ifNo K60 d_jdk_68_m71_3 rfl ((if0 _ _).trans (feq hzc).1) ?_
  refine own_aloadN K60 d_jdk_68_m71_6 rfl rfl rfl ?_
  refine own_getF K60 (host := "") (Or.inl (wd57 hw)) Via.refl Bcoder d_jdk_68_m71_7 rfl ?_
  intro T61 K61
  refine own_aloadN K61 d_jdk_68_m71_10 rfl rfl rfl ?_
  refine own_callV K61 (a := st) (x0 := (⟨"java/lang/String", "coder", "()B"⟩ : MethodName)) (wd194 hw) (wd39 hw) (fun q => own_nfS (args := #[]) (mvT q (wd36 hw)) rfl) (wd41 hw) (wd40 hw) (rm_coder hw hs K61.O S hlen) (wd42 hw) (wd6 hw) (by decide) S.exa (argsL := []) (rest := [(.int (own_cd u))]) rfl pd_2829B rfl rfl (W := 1) rfl (by first | decide | (dsimp only; omega)) (by first | decide | (dsimp only; omega)) (by first | decide | (dsimp only; omega)) (by first | decide | (dsimp only; omega)) d_jdk_68_m71_11 rfl ?_
  intro T62 h62 L62 v62 K62 q62
  obtain ⟨rfl, e62⟩ := q62
  have f62 := e62.symm
  subst f62
  show G (T62.setTop (mkF m 14 #[.val (.ref x), .val (.ref st)] [(.int (own_cd us)), (.int (own_cd u))]))
  cases u with
  | false =>
    cases us with
    | false =>
      refine own_icmpYes K62 d_jdk_68_m71_14 (pc' := 21) (by decide) (by decide) (teq rfl).1 ?_
      exact own_ret0 K62 d_jdk_68_m71_21 rfl (by first | decide | (dsimp only; omega)) (by first | decide | (dsimp only; omega)) ⟨rfl, Keep.refl _ _, b, kb, Or.inl rfl, B⟩
    | true =>
      refine own_icmpNo K62 d_jdk_68_m71_14 rfl (feq (by decide)).1 ?_
      refine own_aloadN K62 d_jdk_68_m71_17 rfl rfl rfl ?_
      refine own_callP K62 (a := x) (wd232 hw) (wd233 hw) (own_selfSel (wd233 hw) (wd234 hw) (own_nfS (wd74 hw) rfl) (by decide)) (wd234 hw) (rm_inflateB hw hs (cap := cap) K62.O B hok hcap hcap2) (wd236 hw) (wd51 hw) (by decide) BE (argsL := []) (rest := []) rfl pd_2829V rfl rfl (W := 0) rfl (by first | decide | (dsimp only; omega)) (by first | decide | (dsimp only; omega)) (by first | decide | (dsimp only; omega)) (by first | decide | (dsimp only; omega)) d_jdk_68_m71_18 rfl ?_
      intro T63 h63 L63 v63 K63 q63
      obtain ⟨rfl, Kp63, q63⟩ := q63
      show G (T63.setTop (mkF m 21 #[.val (.ref x), .val (.ref st)] []))
      exact own_ret0 K63 d_jdk_68_m71_21 rfl (by first | decide | (dsimp only; omega)) (by first | decide | (dsimp only; omega)) ⟨rfl, Kp63, q63⟩
  | true =>
    cases us with
    | false =>
      refine own_icmpNo K62 d_jdk_68_m71_14 rfl (feq (by decide)).1 ?_
      refine own_aloadN K62 d_jdk_68_m71_17 rfl rfl rfl ?_
      refine own_callP K62 (a := x) (wd232 hw) (wd233 hw) (own_selfSel (wd233 hw) (wd234 hw) (own_nfS (wd74 hw) rfl) (by decide)) (wd234 hw) (rm_inflateB hw hs (cap := cap) K62.O B hok hcap hcap2) (wd236 hw) (wd51 hw) (by decide) BE (argsL := []) (rest := []) rfl pd_2829V rfl rfl (W := 0) rfl (by first | decide | (dsimp only; omega)) (by first | decide | (dsimp only; omega)) (by first | decide | (dsimp only; omega)) (by first | decide | (dsimp only; omega)) d_jdk_68_m71_18 rfl ?_
      intro T64 h64 L64 v64 K64 q64
      obtain ⟨rfl, Kp64, q64⟩ := q64
      show G (T64.setTop (mkF m 21 #[.val (.ref x), .val (.ref st)] []))
      exact own_ret0 K64 d_jdk_68_m71_21 rfl (by first | decide | (dsimp only; omega)) (by first | decide | (dsimp only; omega)) ⟨rfl, Kp64, q64⟩
    | true =>
      refine own_icmpYes K62 d_jdk_68_m71_14 (pc' := 21) (by decide) (by decide) (teq rfl).1 ?_
      exact own_ret0 K62 d_jdk_68_m71_21 rfl (by first | decide | (dsimp only; omega)) (by first | decide | (dsimp only; omega)) ⟨rfl, Keep.refl _ _, b, kb, Or.inl rfl, B⟩
theorem d_jdk_42_m147_0 : decode jdk_42_method_147_code 0 = .ok (.aload_n 0, 1) := by decide +kernel
theorem d_jdk_42_m147_1 : decode jdk_42_method_147_code 1 = .ok (.invokevirtual 335, 3) := by decide +kernel
theorem d_jdk_42_m147_4 : decode jdk_42_method_147_code 4 = .ok (.iload_n 3, 1) := by decide +kernel
theorem d_jdk_42_m147_5 : decode jdk_42_method_147_code 5 = .ok (.if_icmp .ne 23, 3) := by decide +kernel
theorem d_jdk_42_m147_8 : decode jdk_42_method_147_code 8 = .ok (.aload_n 0, 1) := by decide +kernel
theorem d_jdk_42_m147_9 : decode jdk_42_method_147_code 9 = .ok (.getfield 9, 3) := by decide +kernel
theorem d_jdk_42_m147_12 : decode jdk_42_method_147_code 12 = .ok (.iconst 0, 1) := by decide +kernel
theorem d_jdk_42_m147_13 : decode jdk_42_method_147_code 13 = .ok (.aload_n 1, 1) := by decide +kernel
theorem d_jdk_42_m147_14 : decode jdk_42_method_147_code 14 = .ok (.iload_n 2, 1) := by decide +kernel
theorem d_jdk_42_m147_15 : decode jdk_42_method_147_code 15 = .ok (.iload_n 3, 1) := by decide +kernel
theorem d_jdk_42_m147_16 : decode jdk_42_method_147_code 16 = .ok (.ishl, 1) := by decide +kernel
theorem d_jdk_42_m147_17 : decode jdk_42_method_147_code 17 = .ok (.aload_n 0, 1) := by decide +kernel
theorem d_jdk_42_m147_18 : decode jdk_42_method_147_code 18 = .ok (.getfield 9, 3) := by decide +kernel
theorem d_jdk_42_m147_21 : decode jdk_42_method_147_code 21 = .ok (.arraylength, 1) := by decide +kernel
theorem d_jdk_42_m147_22 : decode jdk_42_method_147_code 22 = .ok (.invokestatic 212, 3) := by decide +kernel
theorem wd200 {a0 : Array Value} {Z : State} (hw : ∀ d ∈ tables_1, d.before a0 Z = true) : (Jvm.Cond.methodLink "java/lang/String" (212 : Nat) ({ cls := "java/lang/System", name := "arraycopy", desc := "(Ljava/lang/Object;ILjava/lang/Object;II)V" } : Jvm.MethodName)).before a0 Z = true := hw _ (List.mem_of_getElem? (i := 200) rfl)
theorem wd109 {a0 : Array Value} {Z : State} (hw : ∀ d ∈ tables_1, d.before a0 Z = true) : (Jvm.Cond.native ({ cls := "java/lang/System", name := "arraycopy", desc := "(Ljava/lang/Object;ILjava/lang/Object;II)V" } : Jvm.MethodName)).before a0 Z = true := hw _ (List.mem_of_getElem? (i := 109) rfl)
theorem wd107 {a0 : Array Value} {Z : State} (hw : ∀ d ∈ tables_1, d.before a0 Z = true) : (Jvm.Cond.static ({ cls := "java/lang/System", name := "arraycopy", desc := "(Ljava/lang/Object;ILjava/lang/Object;II)V" } : Jvm.MethodName)).before a0 Z = true := hw _ (List.mem_of_getElem? (i := 107) rfl)
theorem wd108 {a0 : Array Value} {Z : State} (hw : ∀ d ∈ tables_1, d.before a0 Z = true) : (Jvm.Cond.initialized "java/lang/System").before a0 Z = true := hw _ (List.mem_of_getElem? (i := 108) rfl)
theorem d_jdk_42_m147_25 : decode jdk_42_method_147_code 25 = .ok (.goto 18, 3) := by decide +kernel
theorem d_jdk_42_m147_43 : decode jdk_42_method_147_code 43 = .ok (.return_, 1) := by decide +kernel
theorem d_jdk_42_m147_28 : decode jdk_42_method_147_code 28 = .ok (.aload_n 0, 1) := by decide +kernel
theorem d_jdk_42_m147_29 : decode jdk_42_method_147_code 29 = .ok (.getfield 9, 3) := by decide +kernel
theorem d_jdk_42_m147_32 : decode jdk_42_method_147_code 32 = .ok (.iconst 0, 1) := by decide +kernel
theorem d_jdk_42_m147_33 : decode jdk_42_method_147_code 33 = .ok (.aload_n 1, 1) := by decide +kernel
theorem d_jdk_42_m147_34 : decode jdk_42_method_147_code 34 = .ok (.iload_n 2, 1) := by decide +kernel
theorem d_jdk_42_m147_35 : decode jdk_42_method_147_code 35 = .ok (.aload_n 0, 1) := by decide +kernel
theorem d_jdk_42_m147_36 : decode jdk_42_method_147_code 36 = .ok (.getfield 9, 3) := by decide +kernel
theorem d_jdk_42_m147_39 : decode jdk_42_method_147_code 39 = .ok (.arraylength, 1) := by decide +kernel
theorem d_jdk_42_m147_40 : decode jdk_42_method_147_code 40 = .ok (.invokestatic 106, 3) := by decide +kernel
theorem wd257 {a0 : Array Value} {Z : State} (hw : ∀ d ∈ tables_1, d.before a0 Z = true) : (Jvm.Cond.methodLink "java/lang/String" (106 : Nat) ({ cls := "java/lang/StringLatin1", name := "inflate", desc := "([BI[BII)V" } : Jvm.MethodName)).before a0 Z = true := hw _ (List.mem_of_getElem? (i := 257) rfl)
theorem own_bn_add (u : Bool) (i j : Nat) : own_bn u (i + j) = own_bn u i + own_bn u j := by cases u <;> simp only [own_bn, cond] <;> omega
set_option maxRecDepth 65536 in
set_option maxHeartbeats 40000000 in
theorem rm_getBytes {l : Launch} {Z : State} {a0 : Array Value} (hw : ∀ d ∈ tables_1, d.before a0 Z = true) (hs : ∀ d ∈ jdkStatics_1, d.before a0 Z = true) {st : Addr} {us : Bool} {ds : List Int32} {sb : Addr} {ks : ClassId} {b : Addr} {kb : ClassId} {u : Bool} {cs : List Int32} {N : Nat} {h0 : Heap} (O0 : Ext Z.heap h0) (Es : Exa Z h0 st "java/lang/String") (Fs : Fld Z h0 st "java/lang/String" "coder" "B" (.int (own_cd us))) (Fb : Fld Z h0 st "java/lang/String" "value" "[B" (.ref sb)) (Vs : Arv Z h0 sb ks .byte (Int32.ofNat (own_bn us ds.length)) (own_bs us ds) (.int 0)) (hds : ds.length ≤ 2000) (hods : own_ok us ds) (V : Arv Z h0 b kb .byte (Int32.ofNat (own_bn u N)) (own_bs u cs) (.int 0)) (hN : cs.length + ds.length ≤ N ∧ N ≤ 2000) (hu : us = true → u = true) (hsb : sb ≠ b) (gb : Z.heap.size ≤ b) :
    own_Ct l Z (⟨"java/lang/String", "getBytes", "([BIB)V"⟩ : MethodName) jdk_42_method_147_code 4 none [] ({ frames := 5, locals := 76, cells := 0, slots := 0 } : Room) #[(.ref st), (.ref b), (.int (Int32.ofNat cs.length)), (.int (own_cd u))] h0 (fun v h => v = none ∧ Keep h0 h [b] ∧ Arv Z h b kb .byte (Int32.ofNat (own_bn u N)) (own_bs u (cs ++ ds)) (.int 0)) := by
  refine own_body (Ls := #[.val (.ref st), .val (.ref b), .val (.int (Int32.ofNat cs.length)), .val (.int (own_cd u))]) (plainFor_of_name pn_java_lang_String) (fun m => by first | (simp [entryFrame, mkF, argsToLocals, Value.category]; done) | rfl) O0 ?_
  intro p e s m below meth c T0 G K0
  refine own_aloadN K0 d_jdk_42_m147_0 rfl rfl rfl ?_
  refine own_callV K0 (a := st) (x0 := (⟨"java/lang/String", "coder", "()B"⟩ : MethodName)) (wd38 hw) (wd39 hw) (fun q => own_nfS (args := #[]) (mvT q (wd36 hw)) rfl) (wd41 hw) (wd40 hw) (rm_coder hw hs K0.O ⟨Es, Fs, sb, ks, Fb, Vs⟩ (by omega)) (wd42 hw) (wd6 hw) (by decide) Es (argsL := []) (rest := []) rfl pd_2829B rfl rfl (W := 0) rfl (by decide) (by decide) (by decide) (by decide) d_jdk_42_m147_1 rfl ?_
  intro T65 h65 L65 v65 K65 q65
  obtain ⟨rfl, e65⟩ := q65
  have f65 := e65.symm
  subst f65
  show G (T65.setTop (mkF m 4 #[.val (.ref st), .val (.ref b), .val (.int (Int32.ofNat cs.length)), .val (.int (own_cd u))] [(.int (own_cd us))]))
  refine own_iloadN K65 d_jdk_42_m147_4 rfl rfl ?_
  by_cases hq : u = us
  · skip
    subst hq
    refine own_icmpNo K65 d_jdk_42_m147_5 rfl (teq rfl).2 ?_
    refine own_aloadN K65 d_jdk_42_m147_8 rfl rfl rfl ?_
    refine own_getF K65 (host := "") (Or.inl (wd24 hw)) Via.refl Fb d_jdk_42_m147_9 rfl ?_
    intro T66 K66
    refine own_iconst K66 (v := (0 : Int32)) d_jdk_42_m147_12 rfl rfl ?_
    refine own_aloadN K66 d_jdk_42_m147_13 rfl rfl rfl ?_
    refine own_iloadN K66 d_jdk_42_m147_14 rfl rfl ?_
    refine own_iloadN K66 d_jdk_42_m147_15 rfl rfl ?_
    refine own_ishl K66 d_jdk_42_m147_16 rfl ?_
    refine own_aloadN K66 d_jdk_42_m147_17 rfl rfl rfl ?_
    refine own_getF K66 (host := "") (Or.inl (wd24 hw)) Via.refl Fb d_jdk_42_m147_18 rfl ?_
    intro T67 K67
    refine own_arraylength K67 Vs d_jdk_42_m147_21 rfl ?_
    rw [own_shlU u (by omega)]
    have hb1 := own_bn_2 u cs.length
    have hb2 := own_bn_2 u ds.length
    refine own_arraycopy K67 (W := 0) (sp := 0) (dp := (own_bn u cs.length)) (nn := (own_bn u ds.length)) (us := (own_bs u ds)) (wd200 hw) (wd109 hw) (wd107 hw) (wd108 hw) Vs (V.pad (pad_rep (own_bs u cs) _ (own_bn u ds.length))) (by omega) (by omega) (by omega) (by rw [own_clamp (by have := own_bn_2 u ds.length; omega)]; omega) (by rw [own_clamp (by have := own_bn_2 u N; omega), ← own_bn_add]; exact own_bn_le u hN.1) (own_rng _ _ _ (own_bs_len u ds).symm) (by rw [List.length_append, own_bs_len, List.length_replicate]; exact Nat.le_refl _) gb rfl rfl (by decide) (by first | decide | (have := own_acw; dsimp only; omega)) d_jdk_42_m147_22 rfl ?_
    intro T68 h68 L68 K68 Kp68 V68
    refine own_goto K68 d_jdk_42_m147_25 (pc' := 43) (by decide) (by decide) ?_
    exact own_ret0 K68 d_jdk_42_m147_43 rfl (by decide) (by decide) ⟨rfl, Kp68, by have q := V68; rw [← own_bs_len, own_acp] at q; rw [own_bs_app]; exact q⟩
  · skip
    obtain ⟨rfl, rfl⟩ : us = false ∧ u = true := by cases us <;> cases u <;> simp_all
    refine own_icmpYes K65 d_jdk_42_m147_5 (pc' := 28) (by decide) (by decide) (feq (by decide)).2 ?_
    refine own_aloadN K65 d_jdk_42_m147_28 rfl rfl rfl ?_
    refine own_getF K65 (host := "") (Or.inl (wd24 hw)) Via.refl Fb d_jdk_42_m147_29 rfl ?_
    intro T69 K69
    refine own_iconst K69 (v := (0 : Int32)) d_jdk_42_m147_32 rfl rfl ?_
    refine own_aloadN K69 d_jdk_42_m147_33 rfl rfl rfl ?_
    refine own_iloadN K69 d_jdk_42_m147_34 rfl rfl ?_
    refine own_aloadN K69 d_jdk_42_m147_35 rfl rfl rfl ?_
    refine own_getF K69 (host := "") (Or.inl (wd24 hw)) Via.refl Fb d_jdk_42_m147_36 rfl ?_
    intro T70 K70
    refine own_arraylength K70 Vs d_jdk_42_m147_39 rfl ?_
    refine own_callS K70 (wd257 hw) (wd239 hw) (rm_inflateL hw hs (M := ds.length) (nn := N) K70.O Vs V ⟨Nat.le_refl _, by omega⟩ (fun q => hsb (List.mem_singleton.mp q)) gb hods ⟨hN.1, by omega⟩) (wd240 hw) (wd145 hw) (by decide) (argsL := [(.ref sb), (.int (0 : Int32)), (.ref b), (.int (Int32.ofNat cs.length)), (.int (Int32.ofNat ds.length))]) (rest := []) rfl pd_285bBI5bBII29V rfl rfl (W := 0) rfl (by decide) (by decide) (by decide) (by decide) d_jdk_42_m147_40 rfl ?_
    intro T71 h71 L71 v71 K71 q71
    obtain ⟨rfl, Kp71, V71⟩ := q71
    show G (T71.setTop (mkF m 43 #[.val (.ref st), .val (.ref b), .val (.int (Int32.ofNat cs.length)), .val (.int (own_cd true))] []))
    exact own_ret0 K71 d_jdk_42_m147_43 rfl (by decide) (by decide) ⟨rfl, Kp71, V71⟩
theorem d_jdk_68_m73_0 : decode jdk_68_method_73_code 0 = .ok (.aload_n 0, 1) := by decide +kernel
theorem d_jdk_68_m73_1 : decode jdk_68_method_73_code 1 = .ok (.aload_n 2, 1) := by decide +kernel
theorem d_jdk_68_m73_2 : decode jdk_68_method_73_code 2 = .ok (.invokevirtual 397, 3) := by decide +kernel
theorem wd193 {a0 : Array Value} {Z : State} (hw : ∀ d ∈ tables_1, d.before a0 Z = true) : (Jvm.Cond.code ({ cls := "java/lang/AbstractStringBuilder", name := "inflateIfNeededFor", desc := "(Ljava/lang/String;)V" } : Jvm.MethodName) jdk_68_method_71_code (2 : Nat) (Option.none : Option Jvm.ClassFile.FieldType)).before a0 Z = true := hw _ (List.mem_of_getElem? (i := 193) rfl)
theorem pd_28Ljava2flang2fString3b29V : parseMethodDescriptor "(Ljava/lang/String;)V" = some ⟨[(.object "java/lang/String")], none⟩ := by decide +kernel
theorem wd189 {a0 : Array Value} {Z : State} (hw : ∀ d ∈ tables_1, d.before a0 Z = true) : (Jvm.Cond.methodLink "java/lang/AbstractStringBuilder" (397 : Nat) ({ cls := "java/lang/AbstractStringBuilder", name := "inflateIfNeededFor", desc := "(Ljava/lang/String;)V" } : Jvm.MethodName)).before a0 Z = true := hw _ (List.mem_of_getElem? (i := 189) rfl)
theorem wd190 {a0 : Array Value} {Z : State} (hw : ∀ d ∈ tables_1, d.before a0 Z = true) : (Jvm.Cond.instanceMethod ({ cls := "java/lang/AbstractStringBuilder", name := "inflateIfNeededFor", desc := "(Ljava/lang/String;)V" } : Jvm.MethodName)).before a0 Z = true := hw _ (List.mem_of_getElem? (i := 190) rfl)
theorem wd191 {a0 : Array Value} {Z : State} (hw : ∀ d ∈ tables_1, d.before a0 Z = true) : (Jvm.Cond.privateMethod ({ cls := "java/lang/AbstractStringBuilder", name := "inflateIfNeededFor", desc := "(Ljava/lang/String;)V" } : Jvm.MethodName)).before a0 Z = true := hw _ (List.mem_of_getElem? (i := 191) rfl)
theorem d_jdk_68_m73_5 : decode jdk_68_method_73_code 5 = .ok (.aload_n 2, 1) := by decide +kernel
theorem d_jdk_68_m73_6 : decode jdk_68_method_73_code 6 = .ok (.aload_n 0, 1) := by decide +kernel
theorem d_jdk_68_m73_7 : decode jdk_68_method_73_code 7 = .ok (.getfield 15, 3) := by decide +kernel
theorem d_jdk_68_m73_10 : decode jdk_68_method_73_code 10 = .ok (.iload_n 1, 1) := by decide +kernel
theorem d_jdk_68_m73_11 : decode jdk_68_method_73_code 11 = .ok (.aload_n 0, 1) := by decide +kernel
theorem d_jdk_68_m73_12 : decode jdk_68_method_73_code 12 = .ok (.getfield 22, 3) := by decide +kernel
theorem d_jdk_68_m73_15 : decode jdk_68_method_73_code 15 = .ok (.invokevirtual 399, 3) := by decide +kernel
theorem wd199 {a0 : Array Value} {Z : State} (hw : ∀ d ∈ tables_1, d.before a0 Z = true) : (Jvm.Cond.code ({ cls := "java/lang/String", name := "getBytes", desc := "([BIB)V" } : Jvm.MethodName) jdk_42_method_147_code (4 : Nat) (Option.none : Option Jvm.ClassFile.FieldType)).before a0 Z = true := hw _ (List.mem_of_getElem? (i := 199) rfl)
theorem pd_285bBIB29V : parseMethodDescriptor "([BIB)V" = some ⟨[(.array .byte), .int, .byte], none⟩ := by decide +kernel
theorem wd195 {a0 : Array Value} {Z : State} (hw : ∀ d ∈ tables_1, d.before a0 Z = true) : (Jvm.Cond.methodLink "java/lang/AbstractStringBuilder" (399 : Nat) ({ cls := "java/lang/String", name := "getBytes", desc := "([BIB)V" } : Jvm.MethodName)).before a0 Z = true := hw _ (List.mem_of_getElem? (i := 195) rfl)
theorem wd196 {a0 : Array Value} {Z : State} (hw : ∀ d ∈ tables_1, d.before a0 Z = true) : (Jvm.Cond.declares ({ cls := "java/lang/String", name := "getBytes", desc := "([BIB)V" } : Jvm.MethodName)).before a0 Z = true := hw _ (List.mem_of_getElem? (i := 196) rfl)
theorem wd198 {a0 : Array Value} {Z : State} (hw : ∀ d ∈ tables_1, d.before a0 Z = true) : (Jvm.Cond.selects "java/lang/String" ({ cls := "java/lang/String", name := "getBytes", desc := "([BIB)V" } : Jvm.MethodName) ({ cls := "java/lang/String", name := "getBytes", desc := "([BIB)V" } : Jvm.MethodName)).before a0 Z = true := hw _ (List.mem_of_getElem? (i := 198) rfl)
theorem wd197 {a0 : Array Value} {Z : State} (hw : ∀ d ∈ tables_1, d.before a0 Z = true) : (Jvm.Cond.instanceMethod ({ cls := "java/lang/String", name := "getBytes", desc := "([BIB)V" } : Jvm.MethodName)).before a0 Z = true := hw _ (List.mem_of_getElem? (i := 197) rfl)
theorem d_jdk_68_m73_18 : decode jdk_68_method_73_code 18 = .ok (.return_, 1) := by decide +kernel
theorem own_keep2 {h0 h1 h2 : Heap} {x b b' : Addr} (K : Keep h0 h1 [x]) (K' : Keep h1 h2 [b']) (hb : b' = b ∨ h0.size ≤ b') : Keep h0 h2 [x, b] := by
  have K1 : Keep h0 h1 [x, b] := ⟨K.1, fun y c q r => K.2.1 y c q (fun z => r (by rw [List.mem_singleton.mp z]; exact List.mem_cons_self ..)), K.2.2⟩
  exact K1.trans K' fun y q => by
    rw [List.mem_singleton.mp q]
    exact hb.imp (fun z => by rw [z]; exact List.mem_cons_of_mem _ (List.mem_singleton.mpr rfl)) id
set_option maxRecDepth 65536 in
set_option maxHeartbeats 40000000 in
theorem rm_putStr {l : Launch} {Z : State} {a0 : Array Value} (hw : ∀ d ∈ tables_1, d.before a0 Z = true) (hs : ∀ d ∈ jdkStatics_1, d.before a0 Z = true) {x : Addr} {u : Bool} {cs : List Int32} {b : Addr} {kb : ClassId} {N : Nat} {st : Addr} {us : Bool} {ds : List Int32} {sb : Addr} {ks : ClassId} {cap : Nat} {h0 : Heap} (O0 : Ext Z.heap h0) (B : own_SB Z h0 x u cs.length cs b kb N) (Es : Exa Z h0 st "java/lang/String") (Fs : Fld Z h0 st "java/lang/String" "coder" "B" (.int (own_cd us))) (Fb : Fld Z h0 st "java/lang/String" "value" "[B" (.ref sb)) (Vs : Arv Z h0 sb ks .byte (Int32.ofNat (own_bn us ds.length)) (own_bs us ds) (.int 0)) (hds : ds.length ≤ 2000) (hods : own_ok us ds) (hst : st ≠ x ∧ st ≠ b ∧ sb ≠ x ∧ sb ≠ b) (hok : own_ok u cs) (hcap : 2 * N ≤ cap) (hcap2 : cap ≤ 4000) (hfit : cs.length + ds.length ≤ N) :
    own_Ct l Z (⟨"java/lang/AbstractStringBuilder", "putStringAt", "(ILjava/lang/String;)V"⟩ : MethodName) jdk_68_method_73_code 3 none [] ({ frames := 7, locals := 102, cells := 1, slots := cap } : Room) #[(.ref x), (.int (Int32.ofNat cs.length)), (.ref st)] h0 (fun v h => v = none ∧ Keep h0 h [x, b] ∧ ∃ (b' : Addr) (kb' : ClassId), (b' = b ∨ h0.size ≤ b') ∧ own_SB Z h x (u || us) cs.length (cs ++ ds) b' kb' N) := by
  refine own_body (Ls := #[.val (.ref x), .val (.int (Int32.ofNat cs.length)), .val (.ref st)]) (plainFor_of_name pn_java_lang_AbstractStringBuilder) (fun m => by first | (simp [entryFrame, mkF, argsToLocals, Value.category]; done) | rfl) O0 ?_
  intro p e s m below meth c T0 G K0
  refine own_aloadN K0 d_jdk_68_m73_0 rfl rfl rfl ?_
  refine own_aloadN K0 d_jdk_68_m73_1 rfl rfl rfl ?_
  refine own_callP K0 (a := x) (wd189 hw) (wd190 hw) (own_selfSel (wd190 hw) (wd191 hw) (own_nfS (wd74 hw) rfl) (by decide)) (wd191 hw) (rm_inflateIf hw hs (cap := cap) K0.O B hok hcap hcap2 ⟨Es, Fs, sb, ks, Fb, Vs⟩ (by omega)) (wd193 hw) (wd51 hw) (by decide) B.exa (argsL := [(.ref st)]) (rest := []) rfl pd_28Ljava2flang2fString3b29V rfl rfl (W := 0) rfl (by first | decide | (dsimp only; omega)) (by first | decide | (dsimp only; omega)) (by first | decide | (dsimp only; omega)) (by first | decide | (dsimp only; omega)) d_jdk_68_m73_2 rfl ?_
  intro T72 h72 L72 v72 K72 q72
  obtain ⟨rfl, Kp72, b72, kb72, nb72, B72⟩ := q72
  show G (T72.setTop (mkF m 5 #[.val (.ref x), .val (.int (Int32.ofNat cs.length)), .val (.ref st)] []))
  obtain ⟨BE, Bvalue, Bcoder, Bcount, BmaybeLatin1, BV, hab, ga, gb, hcN, hN, hnc⟩ := B72
  refine own_aloadN K72 d_jdk_68_m73_5 rfl rfl rfl ?_
  refine own_aloadN K72 d_jdk_68_m73_6 rfl rfl rfl ?_
  refine own_getF K72 (host := "") (Or.inl (wd55 hw)) Via.refl Bvalue d_jdk_68_m73_7 rfl ?_
  intro T73 K73
  refine own_iloadN K73 d_jdk_68_m73_10 rfl rfl ?_
  refine own_aloadN K73 d_jdk_68_m73_11 rfl rfl rfl ?_
  refine own_getF K73 (host := "") (Or.inl (wd57 hw)) Via.refl Bcoder d_jdk_68_m73_12 rfl ?_
  intro T74 K74
  have hx1 : st ∉ [x] := fun q => hst.1 (List.mem_singleton.mp q)
  have hx2 : sb ∉ [x] := fun q => hst.2.2.1 (List.mem_singleton.mp q)
  have hsb1 : sb ≠ b72 := nb72.elim (fun q => q ▸ hst.2.2.2) (fun q => Nat.ne_of_lt (Nat.lt_of_lt_of_le Vs.lt q))
  refine own_callV K74 (a := st) (x0 := (⟨"java/lang/String", "getBytes", "([BIB)V"⟩ : MethodName)) (wd195 hw) (wd196 hw) (fun q => own_nfS (args := #[]) (mvT q (wd36 hw)) rfl) (wd198 hw) (wd197 hw) (rm_getBytes hw hs (u := (u || us)) K74.O (Es.keep Kp72) (Fs.keep Kp72 hx1) (Fb.keep Kp72 hx1) (Vs.keep Kp72 hx2) hds hods BV ⟨hfit, hN⟩ (fun q => by rw [q, Bool.or_true]) hsb1 gb) (wd199 hw) (wd6 hw) (by decide) (Es.keep Kp72) (argsL := [(.ref b72), (.int (Int32.ofNat cs.length)), (.int (own_cd (u || us)))]) (rest := []) rfl pd_285bBIB29V rfl rfl (W := 0) rfl (by first | decide | (dsimp only; omega)) (by first | decide | (dsimp only; omega)) (by first | decide | (dsimp only; omega)) (by first | decide | (dsimp only; omega)) d_jdk_68_m73_15 rfl ?_
  intro T75 h75 L75 v75 K75 q75
  obtain ⟨rfl, Kp75, V75⟩ := q75
  show G (T75.setTop (mkF m 18 #[.val (.ref x), .val (.int (Int32.ofNat cs.length)), .val (.ref st)] []))
  have hx3 : x ∉ [b72] := fun q => hab (List.mem_singleton.mp q)
  have value_76 := Bvalue.keep Kp75 hx3
  have coder_76 := Bcoder.keep Kp75 hx3
  have count_76 := Bcount.keep Kp75 hx3
  have maybeLatin1_76 := BmaybeLatin1.keep Kp75 hx3
  have E_76 := BE.keep Kp75
  exact own_ret0 K75 d_jdk_68_m73_18 rfl (by first | decide | (dsimp only; omega)) (by first | decide | (dsimp only; omega)) ⟨rfl, own_keep2 Kp72 Kp75 nb72, b72, kb72, nb72, ⟨E_76, value_76, coder_76, count_76, maybeLatin1_76, V75, hab, ga, gb, by rw [List.length_append]; exact hfit, hN, by rw [List.length_append]; omega⟩⟩
theorem d_jdk_68_m22_0 : decode jdk_68_method_22_code 0 = .ok (.aload_n 1, 1) := by decide +kernel
theorem d_jdk_68_m22_1 : decode jdk_68_method_22_code 1 = .ok (.ifnonnull 8, 3) := by decide +kernel
theorem d_jdk_68_m22_9 : decode jdk_68_method_22_code 9 = .ok (.aload_n 1, 1) := by decide +kernel
theorem d_jdk_68_m22_10 : decode jdk_68_method_22_code 10 = .ok (.invokevirtual 32, 3) := by decide +kernel
theorem wd37 {a0 : Array Value} {Z : State} (hw : ∀ d ∈ tables_1, d.before a0 Z = true) : (Jvm.Cond.code ({ cls := "java/lang/String", name := "length", desc := "()I" } : Jvm.MethodName) jdk_42_method_54_code (1 : Nat) (Option.some Jvm.ClassFile.FieldType.int)).before a0 Z = true := hw _ (List.mem_of_getElem? (i := 37) rfl)
theorem pd_2829I : parseMethodDescriptor "()I" = some ⟨[], some .int⟩ := by decide +kernel
theorem wd183 {a0 : Array Value} {Z : State} (hw : ∀ d ∈ tables_1, d.before a0 Z = true) : (Jvm.Cond.methodLink "java/lang/AbstractStringBuilder" (32 : Nat) ({ cls := "java/lang/String", name := "length", desc := "()I" } : Jvm.MethodName)).before a0 Z = true := hw _ (List.mem_of_getElem? (i := 183) rfl)
theorem wd34 {a0 : Array Value} {Z : State} (hw : ∀ d ∈ tables_1, d.before a0 Z = true) : (Jvm.Cond.declares ({ cls := "java/lang/String", name := "length", desc := "()I" } : Jvm.MethodName)).before a0 Z = true := hw _ (List.mem_of_getElem? (i := 34) rfl)
theorem wd35 {a0 : Array Value} {Z : State} (hw : ∀ d ∈ tables_1, d.before a0 Z = true) : (Jvm.Cond.instanceMethod ({ cls := "java/lang/String", name := "length", desc := "()I" } : Jvm.MethodName)).before a0 Z = true := hw _ (List.mem_of_getElem? (i := 35) rfl)
theorem d_jdk_68_m22_13 : decode jdk_68_method_22_code 13 = .ok (.istore_n 2, 1) := by decide +kernel
theorem d_jdk_68_m22_14 : decode jdk_68_method_22_code 14 = .ok (.aload_n 0, 1) := by decide +kernel
theorem d_jdk_68_m22_15 : decode jdk_68_method_22_code 15 = .ok (.aload_n 0, 1) := by decide +kernel
theorem d_jdk_68_m22_16 : decode jdk_68_method_22_code 16 = .ok (.getfield 79, 3) := by decide +kernel
theorem d_jdk_68_m22_19 : decode jdk_68_method_22_code 19 = .ok (.iload_n 2, 1) := by decide +kernel
theorem d_jdk_68_m22_20 : decode jdk_68_method_22_code 20 = .ok (.iadd, 1) := by decide +kernel
theorem d_jdk_68_m22_21 : decode jdk_68_method_22_code 21 = .ok (.invokevirtual 100, 3) := by decide +kernel
theorem wd168 {a0 : Array Value} {Z : State} (hw : ∀ d ∈ tables_1, d.before a0 Z = true) : (Jvm.Cond.code ({ cls := "java/lang/AbstractStringBuilder", name := "ensureCapacityInternal", desc := "(I)V" } : Jvm.MethodName) jdk_68_method_9_code (3 : Nat) (Option.none : Option Jvm.ClassFile.FieldType)).before a0 Z = true := hw _ (List.mem_of_getElem? (i := 168) rfl)
theorem wd164 {a0 : Array Value} {Z : State} (hw : ∀ d ∈ tables_1, d.before a0 Z = true) : (Jvm.Cond.methodLink "java/lang/AbstractStringBuilder" (100 : Nat) ({ cls := "java/lang/AbstractStringBuilder", name := "ensureCapacityInternal", desc := "(I)V" } : Jvm.MethodName)).before a0 Z = true := hw _ (List.mem_of_getElem? (i := 164) rfl)
theorem wd165 {a0 : Array Value} {Z : State} (hw : ∀ d ∈ tables_1, d.before a0 Z = true) : (Jvm.Cond.instanceMethod ({ cls := "java/lang/AbstractStringBuilder", name := "ensureCapacityInternal", desc := "(I)V" } : Jvm.MethodName)).before a0 Z = true := hw _ (List.mem_of_getElem? (i := 165) rfl)
theorem wd166 {a0 : Array Value} {Z : State} (hw : ∀ d ∈ tables_1, d.before a0 Z = true) : (Jvm.Cond.privateMethod ({ cls := "java/lang/AbstractStringBuilder", name := "ensureCapacityInternal", desc := "(I)V" } : Jvm.MethodName)).before a0 Z = true := hw _ (List.mem_of_getElem? (i := 166) rfl)
theorem d_jdk_68_m22_24 : decode jdk_68_method_22_code 24 = .ok (.aload_n 0, 1) := by decide +kernel
theorem d_jdk_68_m22_25 : decode jdk_68_method_22_code 25 = .ok (.aload_n 0, 1) := by decide +kernel
theorem d_jdk_68_m22_26 : decode jdk_68_method_22_code 26 = .ok (.getfield 79, 3) := by decide +kernel
theorem d_jdk_68_m22_29 : decode jdk_68_method_22_code 29 = .ok (.aload_n 1, 1) := by decide +kernel
theorem d_jdk_68_m22_30 : decode jdk_68_method_22_code 30 = .ok (.invokevirtual 208, 3) := by decide +kernel
theorem wd188 {a0 : Array Value} {Z : State} (hw : ∀ d ∈ tables_1, d.before a0 Z = true) : (Jvm.Cond.code ({ cls := "java/lang/AbstractStringBuilder", name := "putStringAt", desc := "(ILjava/lang/String;)V" } : Jvm.MethodName) jdk_68_method_73_code (3 : Nat) (Option.none : Option Jvm.ClassFile.FieldType)).before a0 Z = true := hw _ (List.mem_of_getElem? (i := 188) rfl)
theorem pd_28ILjava2flang2fString3b29V : parseMethodDescriptor "(ILjava/lang/String;)V" = some ⟨[.int, (.object "java/lang/String")], none⟩ := by decide +kernel
theorem wd184 {a0 : Array Value} {Z : State} (hw : ∀ d ∈ tables_1, d.before a0 Z = true) : (Jvm.Cond.methodLink "java/lang/AbstractStringBuilder" (208 : Nat) ({ cls := "java/lang/AbstractStringBuilder", name := "putStringAt", desc := "(ILjava/lang/String;)V" } : Jvm.MethodName)).before a0 Z = true := hw _ (List.mem_of_getElem? (i := 184) rfl)
theorem wd185 {a0 : Array Value} {Z : State} (hw : ∀ d ∈ tables_1, d.before a0 Z = true) : (Jvm.Cond.instanceMethod ({ cls := "java/lang/AbstractStringBuilder", name := "putStringAt", desc := "(ILjava/lang/String;)V" } : Jvm.MethodName)).before a0 Z = true := hw _ (List.mem_of_getElem? (i := 185) rfl)
theorem wd186 {a0 : Array Value} {Z : State} (hw : ∀ d ∈ tables_1, d.before a0 Z = true) : (Jvm.Cond.privateMethod ({ cls := "java/lang/AbstractStringBuilder", name := "putStringAt", desc := "(ILjava/lang/String;)V" } : Jvm.MethodName)).before a0 Z = true := hw _ (List.mem_of_getElem? (i := 186) rfl)
theorem d_jdk_68_m22_33 : decode jdk_68_method_22_code 33 = .ok (.aload_n 0, 1) := by decide +kernel
theorem d_jdk_68_m22_34 : decode jdk_68_method_22_code 34 = .ok (.dup, 1) := by decide +kernel
theorem d_jdk_68_m22_35 : decode jdk_68_method_22_code 35 = .ok (.getfield 79, 3) := by decide +kernel
theorem d_jdk_68_m22_38 : decode jdk_68_method_22_code 38 = .ok (.iload_n 2, 1) := by decide +kernel
theorem d_jdk_68_m22_39 : decode jdk_68_method_22_code 39 = .ok (.iadd, 1) := by decide +kernel
theorem d_jdk_68_m22_40 : decode jdk_68_method_22_code 40 = .ok (.putfield 79, 3) := by decide +kernel
theorem d_jdk_68_m22_43 : decode jdk_68_method_22_code 43 = .ok (.aload_n 0, 1) := by decide +kernel
theorem d_jdk_68_m22_44 : decode jdk_68_method_22_code 44 = .ok (.areturn, 1) := by decide +kernel
set_option maxRecDepth 65536 in
set_option maxHeartbeats 40000000 in
theorem rm_asbAppendS {l : Launch} {Z : State} {a0 : Array Value} (hw : ∀ d ∈ tables_1, d.before a0 Z = true) (hs : ∀ d ∈ jdkStatics_1, d.before a0 Z = true) {x : Addr} {u : Bool} {cs : List Int32} {b : Addr} {kb : ClassId} {N : Nat} {st : Addr} {us : Bool} {ds : List Int32} {sb : Addr} {ks : ClassId} {cap : Nat} {h0 : Heap} (O0 : Ext Z.heap h0) (B : own_SB Z h0 x u cs.length cs b kb N) (Es : Exa Z h0 st "java/lang/String") (Fs : Fld Z h0 st "java/lang/String" "coder" "B" (.int (own_cd us))) (Fb : Fld Z h0 st "java/lang/String" "value" "[B" (.ref sb)) (Vs : Arv Z h0 sb ks .byte (Int32.ofNat (own_bn us ds.length)) (own_bs us ds) (.int 0)) (hds : ds.length ≤ 2000) (hods : own_ok us ds) (hst : st ≠ x ∧ st ≠ b ∧ sb ≠ x ∧ sb ≠ b) (hok : own_ok u cs) (hcap : 2 * N ≤ cap) (hcap2 : cap ≤ 4000) (hfit : cs.length + ds.length ≤ N) :
    own_Ct l Z (⟨"java/lang/AbstractStringBuilder", "append", "(Ljava/lang/String;)Ljava/lang/AbstractStringBuilder;"⟩ : MethodName) jdk_68_method_22_code 3 (some (.object "java/lang/AbstractStringBuilder")) [] ({ frames := 8, locals := 116, cells := 1, slots := cap } : Room) #[(.ref x), (.ref st)] h0 (fun v h => v = some (.ref x) ∧ Keep h0 h [x, b] ∧ ∃ (b' : Addr) (kb' : ClassId), (b' = b ∨ h0.size ≤ b') ∧ own_SB Z h x (u || us) (cs ++ ds).length (cs ++ ds) b' kb' N) := by
  have B' := B
  obtain ⟨BE, Bvalue, Bcoder, Bcount, BmaybeLatin1, BV, hab, ga, gb, hcN, hN, hnc⟩ := B'
  refine own_body (Ls := #[.val (.ref x), .val (.ref st), .unset]) (plainFor_of_name pn_java_lang_AbstractStringBuilder) (fun m => by first | (simp [entryFrame, mkF, argsToLocals, Value.category]; done) | rfl) O0 ?_
  intro p e s m below meth c T0 G K0
  refine own_aloadN K0 d_jdk_68_m22_0 rfl rfl rfl ?_
  refine own_ifnonnullYes K0 d_jdk_68_m22_1 (pc' := 9) (by decide) (by decide) ?_
  refine own_aloadN K0 d_jdk_68_m22_9 rfl rfl rfl ?_
  refine own_callV K0 (a := st) (x0 := (⟨"java/lang/String", "length", "()I"⟩ : MethodName)) (wd183 hw) (wd34 hw) (fun q => own_nfS (args := #[]) (mvT q (wd36 hw)) rfl) (wd36 hw) (wd35 hw) (rm_lengthS hw hs K0.O ⟨Es, Fs, sb, ks, Fb, Vs⟩ (by omega)) (wd37 hw) (wd6 hw) (by decide) Es (argsL := []) (rest := []) rfl pd_2829I rfl rfl (W := 0) rfl (by first | decide | (dsimp only; omega)) (by first | decide | (dsimp only; omega)) (by first | decide | (dsimp only; omega)) (by first | decide | (dsimp only; omega)) d_jdk_68_m22_10 rfl ?_
  intro T77 h77 L77 v77 K77 q77
  obtain ⟨rfl, e77⟩ := q77
  have f77 := e77.symm
  subst f77
  show G (T77.setTop (mkF m 13 #[.val (.ref x), .val (.ref st), .unset] [(.int (Int32.ofNat ds.length))]))
  refine own_istoreN K77 (Ls' := #[.val (.ref x), .val (.ref st), .val (.int (Int32.ofNat ds.length))]) d_jdk_68_m22_13 rfl rfl ?_
  refine own_aloadN K77 d_jdk_68_m22_14 rfl rfl rfl ?_
  refine own_aloadN K77 d_jdk_68_m22_15 rfl rfl rfl ?_
  refine own_getF K77 (host := "") (Or.inl (wd85 hw)) Via.refl Bcount d_jdk_68_m22_16 rfl ?_
  intro T78 K78
  refine own_iloadN K78 d_jdk_68_m22_19 rfl rfl ?_
  refine own_iadd K78 d_jdk_68_m22_20 rfl ?_
  rw [own_addN]
  refine own_callP K78 (a := x) (wd164 hw) (wd165 hw) (own_selfSel (wd165 hw) (wd166 hw) (own_nfS (wd74 hw) rfl) (by decide)) (wd166 hw) (rm_ensure hw hs K78.O B hfit) (wd168 hw) (wd51 hw) (by decide) BE (argsL := [(.int (Int32.ofNat (cs.length + ds.length)))]) (rest := []) rfl pd_28I29V rfl rfl (W := 0) rfl (by first | decide | (dsimp only; omega)) (by first | decide | (dsimp only; omega)) (by first | decide | (dsimp only; omega)) (by first | decide | (dsimp only; omega)) d_jdk_68_m22_21 rfl ?_
  intro T79 h79 L79 v79 K79 q79
  obtain ⟨rfl, e79⟩ := q79
  have f79 := e79.symm
  subst f79
  show G (T79.setTop (mkF m 24 #[.val (.ref x), .val (.ref st), .val (.int (Int32.ofNat ds.length))] []))
  refine own_aloadN K79 d_jdk_68_m22_24 rfl rfl rfl ?_
  refine own_aloadN K79 d_jdk_68_m22_25 rfl rfl rfl ?_
  refine own_getF K79 (host := "") (Or.inl (wd85 hw)) Via.refl Bcount d_jdk_68_m22_26 rfl ?_
  intro T80 K80
  refine own_aloadN K80 d_jdk_68_m22_29 rfl rfl rfl ?_
  refine own_callP K80 (a := x) (wd184 hw) (wd185 hw) (own_selfSel (wd185 hw) (wd186 hw) (own_nfS (wd74 hw) rfl) (by decide)) (wd186 hw) (rm_putStr hw hs (cap := cap) K80.O B Es Fs Fb Vs hds hods hst hok hcap hcap2 hfit) (wd188 hw) (wd51 hw) (by decide) BE (argsL := [(.int (Int32.ofNat cs.length)), (.ref st)]) (rest := []) rfl pd_28ILjava2flang2fString3b29V rfl rfl (W := 0) rfl (by first | decide | (dsimp only; omega)) (by first | decide | (dsimp only; omega)) (by first | decide | (dsimp only; omega)) (by first | decide | (dsimp only; omega)) d_jdk_68_m22_30 rfl ?_
  intro T81 h81 L81 v81 K81 q81
  obtain ⟨rfl, Kp81, b81, kb81, nb81, B81⟩ := q81
  show G (T81.setTop (mkF m 33 #[.val (.ref x), .val (.ref st), .val (.int (Int32.ofNat ds.length))] []))
  obtain ⟨DE, Dvalue, Dcoder, Dcount, DmaybeLatin1, DV, hab1, ga1, gb1, hcN1, hN1, hnc1⟩ := B81
  refine own_aloadN K81 d_jdk_68_m22_33 rfl rfl rfl ?_
  refine own_dup K81 d_jdk_68_m22_34 rfl rfl ?_
  refine own_getF K81 (host := "") (Or.inl (wd85 hw)) Via.refl Dcount d_jdk_68_m22_35 rfl ?_
  intro T82 K82
  refine own_iloadN K82 d_jdk_68_m22_38 rfl rfl ?_
  refine own_iadd K82 d_jdk_68_m22_39 rfl ?_
  rw [own_addN, ← List.length_append]
  refine own_putF K82 (host := "") (Or.inl (wd85 hw)) Via.refl Dcount DE (Or.inl (wd86 hw)) (wd31 hw) (ty := .int) (by decide) rfl rfl ga1 d_jdk_68_m22_40 rfl ?_
  intro T83 h83 K83 W83
  have value_84 := Dvalue.other W83 (Or.inr (slot_ne (Or.inl (wd56 hw)) (Or.inl (wd86 hw)) (by decide) (t := (.array .byte)) (t' := .int) (by decide) (by decide)))
  have coder_84 := Dcoder.other W83 (Or.inr (slot_ne (Or.inl (wd58 hw)) (Or.inl (wd86 hw)) (by decide) (t := .byte) (t' := .int) (by decide) (by decide)))
  have count_84 := Dcount.same W83
  have maybeLatin1_84 := DmaybeLatin1.other W83 (Or.inr (slot_ne (Or.inl (wd259 hw)) (Or.inl (wd86 hw)) (by decide) (t := .boolean) (t' := .int) (by decide) (by decide)))
  have E_84 := DE.wr W83
  have V_84 := DV.other W83 (Ne.symm hab1)
  refine own_aloadN K83 d_jdk_68_m22_43 rfl rfl rfl ?_
  exact own_retA K83 d_jdk_68_m22_44 rfl rfl rfl rfl (by first | decide | (dsimp only; omega)) (by first | decide | (dsimp only; omega)) ⟨rfl, Kp81.wr W83 (Or.inl (List.mem_cons_self ..)), b81, kb81, nb81, ⟨E_84, value_84, coder_84, count_84, maybeLatin1_84, V_84, hab1, ga1, gb1, hcN1, hN1, Nat.le_refl _⟩⟩
theorem d_jdk_67_m7_0 : decode jdk_67_method_7_code 0 = .ok (.aload_n 0, 1) := by decide +kernel
theorem d_jdk_67_m7_1 : decode jdk_67_method_7_code 1 = .ok (.aload_n 1, 1) := by decide +kernel
theorem d_jdk_67_m7_2 : decode jdk_67_method_7_code 2 = .ok (.invokespecial 29, 3) := by decide +kernel
theorem wd182 {a0 : Array Value} {Z : State} (hw : ∀ d ∈ tables_1, d.before a0 Z = true) : (Jvm.Cond.code ({ cls := "java/lang/AbstractStringBuilder", name := "append", desc := "(Ljava/lang/String;)Ljava/lang/AbstractStringBuilder;" } : Jvm.MethodName) jdk_68_method_22_code (3 : Nat) (Option.some (Jvm.ClassFile.FieldType.object "java/lang/AbstractStringBuilder"))).before a0 Z = true := hw _ (List.mem_of_getElem? (i := 182) rfl)
theorem pd_28Ljava2flang2fString3b29Ljava2flang2fAbstractStringBuilder3b : parseMethodDescriptor "(Ljava/lang/String;)Ljava/lang/AbstractStringBuilder;" = some ⟨[(.object "java/lang/String")], some (.object "java/lang/AbstractStringBuilder")⟩ := by decide +kernel
theorem wd179 {a0 : Array Value} {Z : State} (hw : ∀ d ∈ tables_1, d.before a0 Z = true) : (Jvm.Cond.methodLink "java/lang/StringBuilder" (29 : Nat) ({ cls := "java/lang/AbstractStringBuilder", name := "append", desc := "(Ljava/lang/String;)Ljava/lang/AbstractStringBuilder;" } : Jvm.MethodName)).before a0 Z = true := hw _ (List.mem_of_getElem? (i := 179) rfl)
theorem wd180 {a0 : Array Value} {Z : State} (hw : ∀ d ∈ tables_1, d.before a0 Z = true) : (Jvm.Cond.instanceMethod ({ cls := "java/lang/AbstractStringBuilder", name := "append", desc := "(Ljava/lang/String;)Ljava/lang/AbstractStringBuilder;" } : Jvm.MethodName)).before a0 Z = true := hw _ (List.mem_of_getElem? (i := 180) rfl)
theorem wd83 {a0 : Array Value} {Z : State} (hw : ∀ d ∈ tables_1, d.before a0 Z = true) : (Jvm.Cond.superclass "java/lang/StringBuilder" "java/lang/AbstractStringBuilder").before a0 Z = true := hw _ (List.mem_of_getElem? (i := 83) rfl)
theorem d_jdk_67_m7_5 : decode jdk_67_method_7_code 5 = .ok (.pop, 1) := by decide +kernel
theorem d_jdk_67_m7_6 : decode jdk_67_method_7_code 6 = .ok (.aload_n 0, 1) := by decide +kernel
theorem d_jdk_67_m7_7 : decode jdk_67_method_7_code 7 = .ok (.areturn, 1) := by decide +kernel
set_option maxRecDepth 65536 in
set_option maxHeartbeats 40000000 in
theorem rm_appendS {l : Launch} {Z : State} {a0 : Array Value} (hw : ∀ d ∈ tables_1, d.before a0 Z = true) (hs : ∀ d ∈ jdkStatics_1, d.before a0 Z = true) {x : Addr} {u : Bool} {cs : List Int32} {b : Addr} {kb : ClassId} {N : Nat} {st : Addr} {us : Bool} {ds : List Int32} {sb : Addr} {ks : ClassId} {cap : Nat} {h0 : Heap} (O0 : Ext Z.heap h0) (B : own_SB Z h0 x u cs.length cs b kb N) (Es : Exa Z h0 st "java/lang/String") (Fs : Fld Z h0 st "java/lang/String" "coder" "B" (.int (own_cd us))) (Fb : Fld Z h0 st "java/lang/String" "value" "[B" (.ref sb)) (Vs : Arv Z h0 sb ks .byte (Int32.ofNat (own_bn us ds.length)) (own_bs us ds) (.int 0)) (hds : ds.length ≤ 2000) (hods : own_ok us ds) (hst : st ≠ x ∧ st ≠ b ∧ sb ≠ x ∧ sb ≠ b) (hok : own_ok u cs) (hcap : 2 * N ≤ cap) (hcap2 : cap ≤ 4000) (hfit : cs.length + ds.length ≤ N) :
    own_Ct l Z (⟨"java/lang/StringBuilder", "append", "(Ljava/lang/String;)Ljava/lang/StringBuilder;"⟩ : MethodName) jdk_67_method_7_code 2 (some (.object "java/lang/StringBuilder")) [] ({ frames := 9, locals := 130, cells := 1, slots := cap } : Room) #[(.ref x), (.ref st)] h0 (fun v h => v = some (.ref x) ∧ Keep h0 h [x, b] ∧ ∃ (b' : Addr) (kb' : ClassId), (b' = b ∨ h0.size ≤ b') ∧ own_SB Z h x (u || us) (cs ++ ds).length (cs ++ ds) b' kb' N) := by
  refine own_body (Ls := #[.val (.ref x), .val (.ref st)]) (plainFor_of_name pn_java_lang_StringBuilder) (fun m => by first | (simp [entryFrame, mkF, argsToLocals, Value.category]; done) | rfl) O0 ?_
  intro p e s m below meth c T0 G K0
  refine own_aloadN K0 d_jdk_67_m7_0 rfl rfl rfl ?_
  refine own_aloadN K0 d_jdk_67_m7_1 rfl rfl rfl ?_
  refine own_callSup K0 (a := x) (wd179 hw) (own_sameSelf (wd180 hw) (own_nfS (wd74 hw) rfl) (by decide)) (wd180 hw) (wd83 hw) (rm_asbAppendS hw hs (cap := cap) K0.O B Es Fs Fb Vs hds hods hst hok hcap hcap2 hfit) (wd182 hw) (wd51 hw) (by decide) B.exa (argsL := [(.ref st)]) (rest := []) rfl pd_28Ljava2flang2fString3b29Ljava2flang2fAbstractStringBuilder3b rfl rfl (W := 0) rfl (by first | decide | (dsimp only; omega)) (by first | decide | (dsimp only; omega)) (by first | decide | (dsimp only; omega)) (by first | decide | (dsimp only; omega)) d_jdk_67_m7_2 rfl ?_
  intro T85 h85 L85 v85 K85 q85
  obtain ⟨rfl, q85⟩ := q85
  show G (T85.setTop (mkF m 5 #[.val (.ref x), .val (.ref st)] [(.ref x)]))
  refine own_pop K85 d_jdk_67_m7_5 rfl rfl ?_
  refine own_aloadN K85 d_jdk_67_m7_6 rfl rfl rfl ?_
  exact own_retA K85 d_jdk_67_m7_7 rfl rfl rfl rfl (by first | decide | (dsimp only; omega)) (by first | decide | (dsimp only; omega)) ⟨rfl, q85⟩
theorem d_jdk_43_m3_0 : decode jdk_43_method_3_code 0 = .ok (.iload_n 0, 1) := by decide +kernel
theorem d_jdk_43_m3_1 : decode jdk_43_method_3_code 1 = .ok (.sipush 255, 3) := by decide +kernel
theorem d_jdk_43_m3_4 : decode jdk_43_method_3_code 4 = .ok (.if_icmp .gt 7, 3) := by decide +kernel
theorem d_jdk_43_m3_7 : decode jdk_43_method_3_code 7 = .ok (.iconst 1, 1) := by decide +kernel
theorem d_jdk_43_m3_8 : decode jdk_43_method_3_code 8 = .ok (.goto 4, 3) := by decide +kernel
theorem d_jdk_43_m3_12 : decode jdk_43_method_3_code 12 = .ok (.ireturn, 1) := by decide +kernel
theorem d_jdk_43_m3_11 : decode jdk_43_method_3_code 11 = .ok (.iconst 0, 1) := by decide +kernel
set_option maxRecDepth 65536 in
set_option maxHeartbeats 40000000 in
theorem rm_canEncodeG {l : Launch} {Z : State} {a0 : Array Value} (hw : ∀ d ∈ tables_1, d.before a0 Z = true) (hs : ∀ d ∈ jdkStatics_1, d.before a0 Z = true) {y : Int32} {h0 : Heap} (O0 : Ext Z.heap h0) (hy : ¬ y < 0 ∧ y < 65536) :
    own_Ct l Z (⟨"java/lang/StringLatin1", "canEncode", "(C)Z"⟩ : MethodName) jdk_43_method_3_code 1 (some .boolean) [] ({ frames := 0, locals := 0, cells := 0, slots := 0 } : Room) #[(.int y)] h0 (fun v h => v = some (.int (cond (decide (y < 256)) 1 0)) ∧ h = h0) := by
  refine own_body (Ls := #[.val (.int y)]) (plainFor_of_name pn_java_lang_StringLatin1) (fun m => by first | (simp [entryFrame, mkF, argsToLocals, Value.category]; done) | rfl) O0 ?_
  intro p e s m below meth c T0 G K0
  refine own_iloadN K0 d_jdk_43_m3_0 rfl rfl ?_
  refine own_sipush K0 (v := (255 : Int32)) d_jdk_43_m3_1 rfl rfl ?_
  by_cases hq : y < 256
  · skip
    refine own_icmpNo K0 d_jdk_43_m3_4 rfl (flt (own_n255 ⟨hy.1, hq⟩)).2.2.1 ?_
    refine own_iconst K0 (v := (1 : Int32)) d_jdk_43_m3_7 rfl rfl ?_
    refine own_goto K0 d_jdk_43_m3_8 (pc' := 12) (by decide) (by decide) ?_
    exact own_retN K0 (z' := (1 : Int32)) d_jdk_43_m3_12 rfl (by simp) (by decide) (by decide) (by decide) ⟨by rw [decide_eq_true hq]; rfl, rfl⟩
  · skip
    refine own_icmpYes K0 d_jdk_43_m3_4 (pc' := 11) (by decide) (by decide) (tlt (own_g255 hq)).2.2.1 ?_
    refine own_iconst K0 (v := (0 : Int32)) d_jdk_43_m3_11 rfl rfl ?_
    exact own_retN K0 (z' := (0 : Int32)) d_jdk_43_m3_12 rfl (by simp) (by decide) (by decide) (by decide) ⟨by rw [decide_eq_false hq]; rfl, rfl⟩
theorem d_jdk_52_m71_0 : decode jdk_52_method_71_code 0 = .ok (.iload_n 1, 1) := by decide +kernel
theorem d_jdk_52_m71_1 : decode jdk_52_method_71_code 1 = .ok (.aload_n 0, 1) := by decide +kernel
theorem d_jdk_52_m71_2 : decode jdk_52_method_71_code 2 = .ok (.invokestatic 67, 3) := by decide +kernel
theorem d_jdk_52_m71_5 : decode jdk_52_method_71_code 5 = .ok (.aload_n 0, 1) := by decide +kernel
theorem d_jdk_52_m71_6 : decode jdk_52_method_71_code 6 = .ok (.iload_n 1, 1) := by decide +kernel
theorem d_jdk_52_m71_7 : decode jdk_52_method_71_code 7 = .ok (.iload_n 2, 1) := by decide +kernel
theorem d_jdk_52_m71_8 : decode jdk_52_method_71_code 8 = .ok (.invokestatic 111, 3) := by decide +kernel
theorem d_jdk_52_m71_11 : decode jdk_52_method_71_code 11 = .ok (.return_, 1) := by decide +kernel
set_option maxRecDepth 65536 in
set_option maxHeartbeats 40000000 in
theorem rm_putCharSB {l : Launch} {Z : State} {a0 : Array Value} (hw : ∀ d ∈ tables_1, d.before a0 Z = true) (hs : ∀ d ∈ jdkStatics_1, d.before a0 Z = true) {b : Addr} {kb : ClassId} {cs : List Int32} {nn : Nat} {y : Int32} {h0 : Heap} (O0 : Ext Z.heap h0) (V : Arv Z h0 b kb .byte (Int32.ofNat (2 * nn)) (own_by2 cs) (.int 0)) (hn : cs.length < nn ∧ nn ≤ 8000) (gb : Z.heap.size ≤ b) :
    own_Ct l Z (⟨"java/lang/StringUTF16", "putCharSB", "([BII)V"⟩ : MethodName) jdk_52_method_71_code 3 none [] ({ frames := 3, locals := 40, cells := 0, slots := 0 } : Room) #[(.ref b), (.int (Int32.ofNat cs.length)), (.int y)] h0 (fun v h => v = none ∧ Keep h0 h [b] ∧ Arv Z h b kb .byte (Int32.ofNat (2 * nn)) (own_by2 (cs ++ [y])) (.int 0)) := by
  refine own_body (Ls := #[.val (.ref b), .val (.int (Int32.ofNat cs.length)), .val (.int y)]) (plainFor_of_name pn_java_lang_StringUTF16) (fun m => by first | (simp [entryFrame, mkF, argsToLocals, Value.category]; done) | rfl) O0 ?_
  intro p e s m below meth c T0 G K0
  refine own_iloadN K0 d_jdk_52_m71_0 rfl rfl ?_
  refine own_aloadN K0 d_jdk_52_m71_1 rfl rfl rfl ?_
  refine own_callS K0 (wd225 hw) (wd226 hw) (rm_checkIndexU hw hs K0.O V (by omega) hn.1) (wd227 hw) (wd116 hw) (by decide) (argsL := [(.int (Int32.ofNat cs.length)), (.ref b)]) (rest := []) rfl pd_28I5bB29V rfl rfl (W := 0) rfl (by decide) (by decide) (by decide) (by decide) d_jdk_52_m71_2 rfl ?_
  intro T86 h86 L86 v86 K86 q86
  obtain ⟨rfl, e86⟩ := q86
  have f86 := e86.symm
  subst f86
  show G (T86.setTop (mkF m 5 #[.val (.ref b), .val (.int (Int32.ofNat cs.length)), .val (.int y)] []))
  refine own_aloadN K86 d_jdk_52_m71_5 rfl rfl rfl ?_
  refine own_iloadN K86 d_jdk_52_m71_6 rfl rfl ?_
  refine own_iloadN K86 d_jdk_52_m71_7 rfl rfl ?_
  refine own_callS K86 (wd213 hw) (wd214 hw) (rm_putChar hw hs K86.O V hn gb) (wd215 hw) (wd116 hw) (by decide) (argsL := [(.ref b), (.int (Int32.ofNat cs.length)), (.int y)]) (rest := []) rfl pd_285bBII29V rfl rfl (W := 0) rfl (by decide) (by decide) (by decide) (by decide) d_jdk_52_m71_8 rfl ?_
  intro T87 h87 L87 v87 K87 q87
  obtain ⟨rfl, q87⟩ := q87
  show G (T87.setTop (mkF m 11 #[.val (.ref b), .val (.int (Int32.ofNat cs.length)), .val (.int y)] []))
  exact own_ret0 K87 d_jdk_52_m71_11 rfl (by decide) (by decide) ⟨rfl, q87⟩
theorem d_jdk_68_m31_0 : decode jdk_68_method_31_code 0 = .ok (.aload_n 0, 1) := by decide +kernel
theorem d_jdk_68_m31_1 : decode jdk_68_method_31_code 1 = .ok (.aload_n 0, 1) := by decide +kernel
theorem d_jdk_68_m31_2 : decode jdk_68_method_31_code 2 = .ok (.getfield 79, 3) := by decide +kernel
theorem d_jdk_68_m31_5 : decode jdk_68_method_31_code 5 = .ok (.iconst 1, 1) := by decide +kernel
theorem d_jdk_68_m31_6 : decode jdk_68_method_31_code 6 = .ok (.iadd, 1) := by decide +kernel
theorem d_jdk_68_m31_7 : decode jdk_68_method_31_code 7 = .ok (.invokevirtual 100, 3) := by decide +kernel
theorem d_jdk_68_m31_10 : decode jdk_68_method_31_code 10 = .ok (.aload_n 0, 1) := by decide +kernel
theorem d_jdk_68_m31_11 : decode jdk_68_method_31_code 11 = .ok (.invokevirtual 83, 3) := by decide +kernel
theorem d_jdk_68_m31_14 : decode jdk_68_method_31_code 14 = .ok (.ifCond .eq 31, 3) := by decide +kernel
theorem d_jdk_68_m31_45 : decode jdk_68_method_31_code 45 = .ok (.aload_n 0, 1) := by decide +kernel
theorem d_jdk_68_m31_46 : decode jdk_68_method_31_code 46 = .ok (.invokevirtual 83, 3) := by decide +kernel
theorem d_jdk_68_m31_49 : decode jdk_68_method_31_code 49 = .ok (.ifCond .eq 7, 3) := by decide +kernel
theorem d_jdk_68_m31_56 : decode jdk_68_method_31_code 56 = .ok (.aload_n 0, 1) := by decide +kernel
theorem d_jdk_68_m31_57 : decode jdk_68_method_31_code 57 = .ok (.getfield 15, 3) := by decide +kernel
theorem d_jdk_68_m31_60 : decode jdk_68_method_31_code 60 = .ok (.aload_n 0, 1) := by decide +kernel
theorem d_jdk_68_m31_61 : decode jdk_68_method_31_code 61 = .ok (.dup, 1) := by decide +kernel
theorem d_jdk_68_m31_62 : decode jdk_68_method_31_code 62 = .ok (.getfield 79, 3) := by decide +kernel
theorem d_jdk_68_m31_65 : decode jdk_68_method_31_code 65 = .ok (.dup_x1, 1) := by decide +kernel
theorem d_jdk_68_m31_66 : decode jdk_68_method_31_code 66 = .ok (.iconst 1, 1) := by decide +kernel
theorem d_jdk_68_m31_67 : decode jdk_68_method_31_code 67 = .ok (.iadd, 1) := by decide +kernel
theorem d_jdk_68_m31_68 : decode jdk_68_method_31_code 68 = .ok (.putfield 79, 3) := by decide +kernel
theorem d_jdk_68_m31_71 : decode jdk_68_method_31_code 71 = .ok (.iload_n 1, 1) := by decide +kernel
theorem d_jdk_68_m31_72 : decode jdk_68_method_31_code 72 = .ok (.invokestatic 197, 3) := by decide +kernel
theorem wd255 {a0 : Array Value} {Z : State} (hw : ∀ d ∈ tables_1, d.before a0 Z = true) : (Jvm.Cond.code ({ cls := "java/lang/StringUTF16", name := "putCharSB", desc := "([BII)V" } : Jvm.MethodName) jdk_52_method_71_code (3 : Nat) (Option.none : Option Jvm.ClassFile.FieldType)).before a0 Z = true := hw _ (List.mem_of_getElem? (i := 255) rfl)
theorem wd253 {a0 : Array Value} {Z : State} (hw : ∀ d ∈ tables_1, d.before a0 Z = true) : (Jvm.Cond.methodLink "java/lang/AbstractStringBuilder" (197 : Nat) ({ cls := "java/lang/StringUTF16", name := "putCharSB", desc := "([BII)V" } : Jvm.MethodName)).before a0 Z = true := hw _ (List.mem_of_getElem? (i := 253) rfl)
theorem wd254 {a0 : Array Value} {Z : State} (hw : ∀ d ∈ tables_1, d.before a0 Z = true) : (Jvm.Cond.static ({ cls := "java/lang/StringUTF16", name := "putCharSB", desc := "([BII)V" } : Jvm.MethodName)).before a0 Z = true := hw _ (List.mem_of_getElem? (i := 254) rfl)
theorem d_jdk_68_m31_75 : decode jdk_68_method_31_code 75 = .ok (.aload_n 0, 1) := by decide +kernel
theorem d_jdk_68_m31_76 : decode jdk_68_method_31_code 76 = .ok (.areturn, 1) := by decide +kernel
theorem d_jdk_68_m31_17 : decode jdk_68_method_31_code 17 = .ok (.iload_n 1, 1) := by decide +kernel
theorem d_jdk_68_m31_18 : decode jdk_68_method_31_code 18 = .ok (.invokestatic 191, 3) := by decide +kernel
theorem wd172 {a0 : Array Value} {Z : State} (hw : ∀ d ∈ tables_1, d.before a0 Z = true) : (Jvm.Cond.code ({ cls := "java/lang/StringLatin1", name := "canEncode", desc := "(C)Z" } : Jvm.MethodName) jdk_43_method_3_code (1 : Nat) (Option.some Jvm.ClassFile.FieldType.boolean)).before a0 Z = true := hw _ (List.mem_of_getElem? (i := 172) rfl)
theorem pd_28C29Z : parseMethodDescriptor "(C)Z" = some ⟨[.char], some .boolean⟩ := by decide +kernel
theorem wd170 {a0 : Array Value} {Z : State} (hw : ∀ d ∈ tables_1, d.before a0 Z = true) : (Jvm.Cond.methodLink "java/lang/AbstractStringBuilder" (191 : Nat) ({ cls := "java/lang/StringLatin1", name := "canEncode", desc := "(C)Z" } : Jvm.MethodName)).before a0 Z = true := hw _ (List.mem_of_getElem? (i := 170) rfl)
theorem wd171 {a0 : Array Value} {Z : State} (hw : ∀ d ∈ tables_1, d.before a0 Z = true) : (Jvm.Cond.static ({ cls := "java/lang/StringLatin1", name := "canEncode", desc := "(C)Z" } : Jvm.MethodName)).before a0 Z = true := hw _ (List.mem_of_getElem? (i := 171) rfl)
theorem d_jdk_68_m31_21 : decode jdk_68_method_31_code 21 = .ok (.ifCond .eq 24, 3) := by decide +kernel
theorem d_jdk_68_m31_24 : decode jdk_68_method_31_code 24 = .ok (.aload_n 0, 1) := by decide +kernel
theorem d_jdk_68_m31_25 : decode jdk_68_method_31_code 25 = .ok (.getfield 15, 3) := by decide +kernel
theorem d_jdk_68_m31_28 : decode jdk_68_method_31_code 28 = .ok (.aload_n 0, 1) := by decide +kernel
theorem d_jdk_68_m31_29 : decode jdk_68_method_31_code 29 = .ok (.dup, 1) := by decide +kernel
theorem d_jdk_68_m31_30 : decode jdk_68_method_31_code 30 = .ok (.getfield 79, 3) := by decide +kernel
theorem d_jdk_68_m31_33 : decode jdk_68_method_31_code 33 = .ok (.dup_x1, 1) := by decide +kernel
theorem d_jdk_68_m31_34 : decode jdk_68_method_31_code 34 = .ok (.iconst 1, 1) := by decide +kernel
theorem d_jdk_68_m31_35 : decode jdk_68_method_31_code 35 = .ok (.iadd, 1) := by decide +kernel
theorem d_jdk_68_m31_36 : decode jdk_68_method_31_code 36 = .ok (.putfield 79, 3) := by decide +kernel
theorem d_jdk_68_m31_39 : decode jdk_68_method_31_code 39 = .ok (.iload_n 1, 1) := by decide +kernel
theorem d_jdk_68_m31_40 : decode jdk_68_method_31_code 40 = .ok (.i2b, 1) := by decide +kernel
theorem d_jdk_68_m31_41 : decode jdk_68_method_31_code 41 = .ok (.bastore, 1) := by decide +kernel
theorem d_jdk_68_m31_42 : decode jdk_68_method_31_code 42 = .ok (.goto 33, 3) := by decide +kernel
theorem d_jdk_68_m31_52 : decode jdk_68_method_31_code 52 = .ok (.aload_n 0, 1) := by decide +kernel
theorem d_jdk_68_m31_53 : decode jdk_68_method_31_code 53 = .ok (.invokevirtual 195, 3) := by decide +kernel
set_option maxRecDepth 65536 in
set_option maxHeartbeats 40000000 in
theorem rm_asbAppendC {l : Launch} {Z : State} {a0 : Array Value} (hw : ∀ d ∈ tables_1, d.before a0 Z = true) (hs : ∀ d ∈ jdkStatics_1, d.before a0 Z = true) {x : Addr} {u : Bool} {cs : List Int32} {b : Addr} {kb : ClassId} {N : Nat} {cap : Nat} {y : Int32} {h0 : Heap} (O0 : Ext Z.heap h0) (B : own_SB Z h0 x u cs.length cs b kb N) (hy : ¬ y < 0 ∧ y < 65536) (hok : own_ok u cs) (hcap : 2 * N ≤ cap) (hcap2 : cap ≤ 4000) (hfit : cs.length + 1 ≤ N) :
    own_Ct l Z (⟨"java/lang/AbstractStringBuilder", "append", "(C)Ljava/lang/AbstractStringBuilder;"⟩ : MethodName) jdk_68_method_31_code 2 (some (.object "java/lang/AbstractStringBuilder")) [] ({ frames := 6, locals := 89, cells := 1, slots := cap } : Room) #[(.ref x), (.int y)] h0 (fun v h => v = some (.ref x) ∧ Keep h0 h [x, b] ∧ ∃ (b' : Addr) (kb' : ClassId), (b' = b ∨ h0.size ≤ b') ∧ own_SB Z h x (u || !decide (y < 256)) (cs ++ [y]).length (cs ++ [y]) b' kb' N) := by
  have B' := B
  obtain ⟨BE, Bvalue, Bcoder, Bcount, BmaybeLatin1, BV, hab, ga, gb, hcN, hN, hnc⟩ := B'
  refine own_body (Ls := #[.val (.ref x), .val (.int y)]) (plainFor_of_name pn_java_lang_AbstractStringBuilder) (fun m => by first | (simp [entryFrame, mkF, argsToLocals, Value.category]; done) | rfl) O0 ?_
  intro p e s m below meth c T0 G K0
  refine own_aloadN K0 d_jdk_68_m31_0 rfl rfl rfl ?_
  refine own_aloadN K0 d_jdk_68_m31_1 rfl rfl rfl ?_
  refine own_getF K0 (host := "") (Or.inl (wd85 hw)) Via.refl Bcount d_jdk_68_m31_2 rfl ?_
  intro T88 K88
  refine own_iconst K88 (v := (1 : Int32)) d_jdk_68_m31_5 rfl rfl ?_
  refine own_iadd K88 d_jdk_68_m31_6 rfl ?_
  rw [own_one]
  refine own_callP K88 (a := x) (wd164 hw) (wd165 hw) (own_selfSel (wd165 hw) (wd166 hw) (own_nfS (wd74 hw) rfl) (by decide)) (wd166 hw) (rm_ensure hw hs K88.O B hfit) (wd168 hw) (wd51 hw) (by decide) BE (argsL := [(.int (Int32.ofNat (cs.length + 1)))]) (rest := []) rfl pd_28I29V rfl rfl (W := 0) rfl (by first | decide | (dsimp only; omega)) (by first | decide | (dsimp only; omega)) (by first | decide | (dsimp only; omega)) (by first | decide | (dsimp only; omega)) d_jdk_68_m31_7 rfl ?_
  intro T89 h89 L89 v89 K89 q89
  obtain ⟨rfl, e89⟩ := q89
  have f89 := e89.symm
  subst f89
  show G (T89.setTop (mkF m 10 #[.val (.ref x), .val (.int y)] []))
  refine own_aloadN K89 d_jdk_68_m31_10 rfl rfl rfl ?_
  refine own_callV K89 (a := x) (x0 := (⟨"java/lang/AbstractStringBuilder", "isLatin1", "()Z"⟩ : MethodName)) (wd169 hw) (wd88 hw) (fun q => own_nfS (args := #[]) (mvT q (wd74 hw)) rfl) (wd90 hw) (wd89 hw) (rm_isLatin1B hw hs (u := u) K89.O Bcoder) (wd91 hw) (wd51 hw) (by decide) BE (argsL := []) (rest := []) rfl pd_2829Z rfl rfl (W := 0) rfl (by first | decide | (dsimp only; omega)) (by first | decide | (dsimp only; omega)) (by first | decide | (dsimp only; omega)) (by first | decide | (dsimp only; omega)) d_jdk_68_m31_11 rfl ?_
  intro T90 h90 L90 v90 K90 q90
  obtain ⟨rfl, e90⟩ := q90
  have f90 := e90.symm
  subst f90
  show G (T90.setTop (mkF m 14 #[.val (.ref x), .val (.int y)] [(.int (cond u 0 1))]))
  cases u with
  | false =>
    refine own_ifNo K90 d_jdk_68_m31_14 rfl ((if0 _ _).trans (feq (by decide)).1) ?_
    refine own_iloadN K90 d_jdk_68_m31_17 rfl rfl ?_
    refine own_callS K90 (wd170 hw) (wd171 hw) (rm_canEncodeG hw hs K90.O hy) (wd172 hw) (wd145 hw) (by decide) (argsL := [(.int y)]) (rest := []) rfl pd_28C29Z rfl rfl (W := 0) rfl (by first | decide | (dsimp only; omega)) (by first | decide | (dsimp only; omega)) (by first | decide | (dsimp only; omega)) (by first | decide | (dsimp only; omega)) d_jdk_68_m31_18 rfl ?_
    intro T98 h98 L98 v98 K98 q98
    obtain ⟨rfl, e98⟩ := q98
    have f98 := e98.symm
    subst f98
    show G (T98.setTop (mkF m 21 #[.val (.ref x), .val (.int y)] [(.int (cond (decide (y < 256)) 1 0))]))
    by_cases hq : y < 256
    · skip
      refine own_ifNo K98 d_jdk_68_m31_21 rfl ((if0 _ _).trans (feq (by rw [decide_eq_true hq]; decide)).1) ?_
      refine own_aloadN K98 d_jdk_68_m31_24 rfl rfl rfl ?_
      refine own_getF K98 (host := "") (Or.inl (wd55 hw)) Via.refl Bvalue d_jdk_68_m31_25 rfl ?_
      intro T99 K99
      refine own_aloadN K99 d_jdk_68_m31_28 rfl rfl rfl ?_
      refine own_dup K99 d_jdk_68_m31_29 rfl rfl ?_
      refine own_getF K99 (host := "") (Or.inl (wd85 hw)) Via.refl Bcount d_jdk_68_m31_30 rfl ?_
      intro T100 K100
      refine own_dupX1 K100 d_jdk_68_m31_33 rfl rfl rfl ?_
      refine own_iconst K100 (v := (1 : Int32)) d_jdk_68_m31_34 rfl rfl ?_
      refine own_iadd K100 d_jdk_68_m31_35 rfl ?_
      rw [own_one]
      rw [show Int32.ofNat (cs.length + 1) = Int32.ofNat (cs ++ [y]).length by simp]
      refine own_putF K100 (host := "") (Or.inl (wd85 hw)) Via.refl Bcount BE (Or.inl (wd86 hw)) (wd31 hw) (ty := .int) (by decide) rfl rfl ga d_jdk_68_m31_36 rfl ?_
      intro T101 h101 K101 W101
      have value_102 := Bvalue.other W101 (Or.inr (slot_ne (Or.inl (wd56 hw)) (Or.inl (wd86 hw)) (by decide) (t := (.array .byte)) (t' := .int) (by decide) (by decide)))
      have coder_102 := Bcoder.other W101 (Or.inr (slot_ne (Or.inl (wd58 hw)) (Or.inl (wd86 hw)) (by decide) (t := .byte) (t' := .int) (by decide) (by decide)))
      have count_102 := Bcount.same W101
      have maybeLatin1_102 := BmaybeLatin1.other W101 (Or.inr (slot_ne (Or.inl (wd259 hw)) (Or.inl (wd86 hw)) (by decide) (t := .boolean) (t' := .int) (by decide) (by decide)))
      have E_102 := BE.wr W101
      have V_102 := BV.other W101 (Ne.symm hab)
      refine own_iloadN K101 d_jdk_68_m31_39 rfl rfl ?_
      refine own_i2b K101 d_jdk_68_m31_40 rfl ?_
      refine own_bastore K101 (V_102.pad (pad_rep (own_by cs) _ 1)) ⟨own_nn (by omega), own_lt hfit (by show N < _; omega)⟩ cs.length (own_clamp (by omega)) (by rw [List.length_append, own_by_len, List.length_replicate]; omega) (x' := (y.toInt8.toInt32)) (own_nar_byte _) gb d_jdk_68_m31_41 rfl ?_
      intro T103 h103 K103 W103 V103
      have hx3 : x ∉ [b] := fun q => hab (List.mem_singleton.mp q)
      have value_104 := value_102.keep (Keep.of_wr W103) hx3
      have coder_104 := coder_102.keep (Keep.of_wr W103) hx3
      have count_104 := count_102.keep (Keep.of_wr W103) hx3
      have maybeLatin1_104 := maybeLatin1_102.keep (Keep.of_wr W103) hx3
      have E_104 := E_102.keep (Keep.of_wr W103)
      refine own_goto K103 d_jdk_68_m31_42 (pc' := 75) (by decide) (by decide) ?_
      refine own_aloadN K103 d_jdk_68_m31_75 rfl rfl rfl ?_
      have VV : Arv Z h103 b kb .byte (Int32.ofNat (own_bn false N)) (own_bs false (cs ++ [y])) (.int 0) := by have q := V103; rw [← own_by_len, own_set_end] at q; rw [own_bs_app]; exact q
      exact own_retA K103 d_jdk_68_m31_76 rfl rfl rfl rfl (by first | decide | (dsimp only; omega)) (by first | decide | (dsimp only; omega)) ⟨rfl, own_keep2 ((Keep.refl h0 [x]).wr W101 (Or.inl (List.mem_singleton.mpr rfl))) (Keep.of_wr W103) (Or.inl rfl), b, kb, Or.inl rfl, by rw [decide_eq_true hq]; exact ⟨E_104, value_104, coder_104, count_104, maybeLatin1_104, VV, hab, ga, gb, by rw [List.length_append]; exact hfit, hN, Nat.le_refl _⟩⟩
    · skip
      refine own_ifYes K98 d_jdk_68_m31_21 (pc' := 45) (by decide) (by decide) ((if0 _ _).trans (teq (by rw [decide_eq_false hq]; rfl)).1) ?_
      refine own_aloadN K98 d_jdk_68_m31_45 rfl rfl rfl ?_
      refine own_callV K98 (a := x) (x0 := (⟨"java/lang/AbstractStringBuilder", "isLatin1", "()Z"⟩ : MethodName)) (wd169 hw) (wd88 hw) (fun q => own_nfS (args := #[]) (mvT q (wd74 hw)) rfl) (wd90 hw) (wd89 hw) (rm_isLatin1B hw hs (u := false) K98.O Bcoder) (wd91 hw) (wd51 hw) (by decide) BE (argsL := []) (rest := []) rfl pd_2829Z rfl rfl (W := 0) rfl (by first | decide | (dsimp only; omega)) (by first | decide | (dsimp only; omega)) (by first | decide | (dsimp only; omega)) (by first | decide | (dsimp only; omega)) d_jdk_68_m31_46 rfl ?_
      intro T105 h105 L105 v105 K105 q105
      obtain ⟨rfl, e105⟩ := q105
      have f105 := e105.symm
      subst f105
      show G (T105.setTop (mkF m 49 #[.val (.ref x), .val (.int y)] [(.int (1 : Int32))]))
      refine own_ifNo K105 d_jdk_68_m31_49 rfl ((if0 _ _).trans (feq (by decide)).1) ?_
      refine own_aloadN K105 d_jdk_68_m31_52 rfl rfl rfl ?_
      refine own_callP K105 (a := x) (wd232 hw) (wd233 hw) (own_selfSel (wd233 hw) (wd234 hw) (own_nfS (wd74 hw) rfl) (by decide)) (wd234 hw) (rm_inflateB hw hs (cap := cap) K105.O B hok hcap hcap2) (wd236 hw) (wd51 hw) (by decide) BE (argsL := []) (rest := []) rfl pd_2829V rfl rfl (W := 0) rfl (by first | decide | (dsimp only; omega)) (by first | decide | (dsimp only; omega)) (by first | decide | (dsimp only; omega)) (by first | decide | (dsimp only; omega)) d_jdk_68_m31_53 rfl ?_
      intro T106 h106 L106 v106 K106 q106
      obtain ⟨rfl, Kp106, b106, kb106, nb106, B106⟩ := q106
      show G (T106.setTop (mkF m 56 #[.val (.ref x), .val (.int y)] []))
      obtain ⟨DE, Dvalue, Dcoder, Dcount, DmaybeLatin1, DV, hab1, ga1, gb1, hcN1, hN1, hnc1⟩ := B106
      refine own_aloadN K106 d_jdk_68_m31_56 rfl rfl rfl ?_
      refine own_getF K106 (host := "") (Or.inl (wd55 hw)) Via.refl Dvalue d_jdk_68_m31_57 rfl ?_
      intro T107 K107
      refine own_aloadN K107 d_jdk_68_m31_60 rfl rfl rfl ?_
      refine own_dup K107 d_jdk_68_m31_61 rfl rfl ?_
      refine own_getF K107 (host := "") (Or.inl (wd85 hw)) Via.refl Dcount d_jdk_68_m31_62 rfl ?_
      intro T108 K108
      refine own_dupX1 K108 d_jdk_68_m31_65 rfl rfl rfl ?_
      refine own_iconst K108 (v := (1 : Int32)) d_jdk_68_m31_66 rfl rfl ?_
      refine own_iadd K108 d_jdk_68_m31_67 rfl ?_
      rw [own_one]
      rw [show Int32.ofNat (cs.length + 1) = Int32.ofNat (cs ++ [y]).length by simp]
      refine own_putF K108 (host := "") (Or.inl (wd85 hw)) Via.refl Dcount DE (Or.inl (wd86 hw)) (wd31 hw) (ty := .int) (by decide) rfl rfl ga1 d_jdk_68_m31_68 rfl ?_
      intro T109 h109 K109 W109
      have value_110 := Dvalue.other W109 (Or.inr (slot_ne (Or.inl (wd56 hw)) (Or.inl (wd86 hw)) (by decide) (t := (.array .byte)) (t' := .int) (by decide) (by decide)))
      have coder_110 := Dcoder.other W109 (Or.inr (slot_ne (Or.inl (wd58 hw)) (Or.inl (wd86 hw)) (by decide) (t := .byte) (t' := .int) (by decide) (by decide)))
      have count_110 := Dcount.same W109
      have maybeLatin1_110 := DmaybeLatin1.other W109 (Or.inr (slot_ne (Or.inl (wd259 hw)) (Or.inl (wd86 hw)) (by decide) (t := .boolean) (t' := .int) (by decide) (by decide)))
      have E_110 := DE.wr W109
      have V_110 := DV.other W109 (Ne.symm hab1)
      refine own_iloadN K109 d_jdk_68_m31_71 rfl rfl ?_
      refine own_callS K109 (wd253 hw) (wd254 hw) (rm_putCharSB hw hs (nn := N) (y := y) K109.O V_110 ⟨hfit, by omega⟩ gb1) (wd255 hw) (wd116 hw) (by decide) (argsL := [(.ref b106), (.int (Int32.ofNat cs.length)), (.int y)]) (rest := []) rfl pd_285bBII29V rfl rfl (W := 0) rfl (by first | decide | (dsimp only; omega)) (by first | decide | (dsimp only; omega)) (by first | decide | (dsimp only; omega)) (by first | decide | (dsimp only; omega)) d_jdk_68_m31_72 rfl ?_
      intro T111 h111 L111 v111 K111 q111
      obtain ⟨rfl, Kp111, V111⟩ := q111
      show G (T111.setTop (mkF m 75 #[.val (.ref x), .val (.int y)] []))
      have hx3 : x ∉ [b106] := fun q => hab1 (List.mem_singleton.mp q)
      have value_112 := value_110.keep Kp111 hx3
      have coder_112 := coder_110.keep Kp111 hx3
      have count_112 := count_110.keep Kp111 hx3
      have maybeLatin1_112 := maybeLatin1_110.keep Kp111 hx3
      have E_112 := E_110.keep Kp111
      refine own_aloadN K111 d_jdk_68_m31_75 rfl rfl rfl ?_
      exact own_retA K111 d_jdk_68_m31_76 rfl rfl rfl rfl (by first | decide | (dsimp only; omega)) (by first | decide | (dsimp only; omega)) ⟨rfl, own_keep2 (Kp106.wr W109 (Or.inl (List.mem_singleton.mpr rfl))) Kp111 nb106, b106, kb106, nb106, by rw [decide_eq_false hq]; exact ⟨E_112, value_112, coder_112, count_112, maybeLatin1_112, V111, hab1, ga1, gb1, by rw [List.length_append]; exact hfit, hN1, Nat.le_refl _⟩⟩
  | true =>
    refine own_ifYes K90 d_jdk_68_m31_14 (pc' := 45) (by decide) (by decide) ((if0 _ _).trans (teq rfl).1) ?_
    refine own_aloadN K90 d_jdk_68_m31_45 rfl rfl rfl ?_
    refine own_callV K90 (a := x) (x0 := (⟨"java/lang/AbstractStringBuilder", "isLatin1", "()Z"⟩ : MethodName)) (wd169 hw) (wd88 hw) (fun q => own_nfS (args := #[]) (mvT q (wd74 hw)) rfl) (wd90 hw) (wd89 hw) (rm_isLatin1B hw hs (u := true) K90.O Bcoder) (wd91 hw) (wd51 hw) (by decide) BE (argsL := []) (rest := []) rfl pd_2829Z rfl rfl (W := 0) rfl (by first | decide | (dsimp only; omega)) (by first | decide | (dsimp only; omega)) (by first | decide | (dsimp only; omega)) (by first | decide | (dsimp only; omega)) d_jdk_68_m31_46 rfl ?_
    intro T91 h91 L91 v91 K91 q91
    obtain ⟨rfl, e91⟩ := q91
    have f91 := e91.symm
    subst f91
    show G (T91.setTop (mkF m 49 #[.val (.ref x), .val (.int y)] [(.int (0 : Int32))]))
    refine own_ifYes K91 d_jdk_68_m31_49 (pc' := 56) (by decide) (by decide) ((if0 _ _).trans (teq rfl).1) ?_
    obtain ⟨DE, Dvalue, Dcoder, Dcount, DmaybeLatin1, DV, hab1, ga1, gb1, hcN1, hN1, hnc1⟩ := B
    refine own_aloadN K91 d_jdk_68_m31_56 rfl rfl rfl ?_
    refine own_getF K91 (host := "") (Or.inl (wd55 hw)) Via.refl Dvalue d_jdk_68_m31_57 rfl ?_
    intro T92 K92
    refine own_aloadN K92 d_jdk_68_m31_60 rfl rfl rfl ?_
    refine own_dup K92 d_jdk_68_m31_61 rfl rfl ?_
    refine own_getF K92 (host := "") (Or.inl (wd85 hw)) Via.refl Dcount d_jdk_68_m31_62 rfl ?_
    intro T93 K93
    refine own_dupX1 K93 d_jdk_68_m31_65 rfl rfl rfl ?_
    refine own_iconst K93 (v := (1 : Int32)) d_jdk_68_m31_66 rfl rfl ?_
    refine own_iadd K93 d_jdk_68_m31_67 rfl ?_
    rw [own_one]
    rw [show Int32.ofNat (cs.length + 1) = Int32.ofNat (cs ++ [y]).length by simp]
    refine own_putF K93 (host := "") (Or.inl (wd85 hw)) Via.refl Dcount DE (Or.inl (wd86 hw)) (wd31 hw) (ty := .int) (by decide) rfl rfl ga1 d_jdk_68_m31_68 rfl ?_
    intro T94 h94 K94 W94
    have value_95 := Dvalue.other W94 (Or.inr (slot_ne (Or.inl (wd56 hw)) (Or.inl (wd86 hw)) (by decide) (t := (.array .byte)) (t' := .int) (by decide) (by decide)))
    have coder_95 := Dcoder.other W94 (Or.inr (slot_ne (Or.inl (wd58 hw)) (Or.inl (wd86 hw)) (by decide) (t := .byte) (t' := .int) (by decide) (by decide)))
    have count_95 := Dcount.same W94
    have maybeLatin1_95 := DmaybeLatin1.other W94 (Or.inr (slot_ne (Or.inl (wd259 hw)) (Or.inl (wd86 hw)) (by decide) (t := .boolean) (t' := .int) (by decide) (by decide)))
    have E_95 := DE.wr W94
    have V_95 := DV.other W94 (Ne.symm hab1)
    refine own_iloadN K94 d_jdk_68_m31_71 rfl rfl ?_
    refine own_callS K94 (wd253 hw) (wd254 hw) (rm_putCharSB hw hs (nn := N) (y := y) K94.O V_95 ⟨hfit, by omega⟩ gb1) (wd255 hw) (wd116 hw) (by decide) (argsL := [(.ref b), (.int (Int32.ofNat cs.length)), (.int y)]) (rest := []) rfl pd_285bBII29V rfl rfl (W := 0) rfl (by first | decide | (dsimp only; omega)) (by first | decide | (dsimp only; omega)) (by first | decide | (dsimp only; omega)) (by first | decide | (dsimp only; omega)) d_jdk_68_m31_72 rfl ?_
    intro T96 h96 L96 v96 K96 q96
    obtain ⟨rfl, Kp96, V96⟩ := q96
    show G (T96.setTop (mkF m 75 #[.val (.ref x), .val (.int y)] []))
    have hx3 : x ∉ [b] := fun q => hab1 (List.mem_singleton.mp q)
    have value_97 := value_95.keep Kp96 hx3
    have coder_97 := coder_95.keep Kp96 hx3
    have count_97 := count_95.keep Kp96 hx3
    have maybeLatin1_97 := maybeLatin1_95.keep Kp96 hx3
    have E_97 := E_95.keep Kp96
    refine own_aloadN K96 d_jdk_68_m31_75 rfl rfl rfl ?_
    exact own_retA K96 d_jdk_68_m31_76 rfl rfl rfl rfl (by first | decide | (dsimp only; omega)) (by first | decide | (dsimp only; omega)) ⟨rfl, own_keep2 ((Keep.refl h0 [x]).wr W94 (Or.inl (List.mem_singleton.mpr rfl))) Kp96 (Or.inl rfl), b, kb, (Or.inl rfl), ⟨E_97, value_97, coder_97, count_97, maybeLatin1_97, V96, hab1, ga1, gb1, by rw [List.length_append]; exact hfit, hN1, Nat.le_refl _⟩⟩
theorem d_jdk_67_m14_0 : decode jdk_67_method_14_code 0 = .ok (.aload_n 0, 1) := by decide +kernel
theorem d_jdk_67_m14_1 : decode jdk_67_method_14_code 1 = .ok (.iload_n 1, 1) := by decide +kernel
theorem d_jdk_67_m14_2 : decode jdk_67_method_14_code 2 = .ok (.invokespecial 50, 3) := by decide +kernel
theorem wd163 {a0 : Array Value} {Z : State} (hw : ∀ d ∈ tables_1, d.before a0 Z = true) : (Jvm.Cond.code ({ cls := "java/lang/AbstractStringBuilder", name := "append", desc := "(C)Ljava/lang/AbstractStringBuilder;" } : Jvm.MethodName) jdk_68_method_31_code (2 : Nat) (Option.some (Jvm.ClassFile.FieldType.object "java/lang/AbstractStringBuilder"))).before a0 Z = true := hw _ (List.mem_of_getElem? (i := 163) rfl)
theorem pd_28C29Ljava2flang2fAbstractStringBuilder3b : parseMethodDescriptor "(C)Ljava/lang/AbstractStringBuilder;" = some ⟨[.char], some (.object "java/lang/AbstractStringBuilder")⟩ := by decide +kernel
theorem wd160 {a0 : Array Value} {Z : State} (hw : ∀ d ∈ tables_1, d.before a0 Z = true) : (Jvm.Cond.methodLink "java/lang/StringBuilder" (50 : Nat) ({ cls := "java/lang/AbstractStringBuilder", name := "append", desc := "(C)Ljava/lang/AbstractStringBuilder;" } : Jvm.MethodName)).before a0 Z = true := hw _ (List.mem_of_getElem? (i := 160) rfl)
theorem wd161 {a0 : Array Value} {Z : State} (hw : ∀ d ∈ tables_1, d.before a0 Z = true) : (Jvm.Cond.instanceMethod ({ cls := "java/lang/AbstractStringBuilder", name := "append", desc := "(C)Ljava/lang/AbstractStringBuilder;" } : Jvm.MethodName)).before a0 Z = true := hw _ (List.mem_of_getElem? (i := 161) rfl)
theorem d_jdk_67_m14_5 : decode jdk_67_method_14_code 5 = .ok (.pop, 1) := by decide +kernel
theorem d_jdk_67_m14_6 : decode jdk_67_method_14_code 6 = .ok (.aload_n 0, 1) := by decide +kernel
theorem d_jdk_67_m14_7 : decode jdk_67_method_14_code 7 = .ok (.areturn, 1) := by decide +kernel
set_option maxRecDepth 65536 in
set_option maxHeartbeats 40000000 in
theorem rm_appendC {l : Launch} {Z : State} {a0 : Array Value} (hw : ∀ d ∈ tables_1, d.before a0 Z = true) (hs : ∀ d ∈ jdkStatics_1, d.before a0 Z = true) {x : Addr} {u : Bool} {cs : List Int32} {b : Addr} {kb : ClassId} {N : Nat} {cap : Nat} {y : Int32} {h0 : Heap} (O0 : Ext Z.heap h0) (B : own_SB Z h0 x u cs.length cs b kb N) (hy : ¬ y < 0 ∧ y < 65536) (hok : own_ok u cs) (hcap : 2 * N ≤ cap) (hcap2 : cap ≤ 4000) (hfit : cs.length + 1 ≤ N) :
    own_Ct l Z (⟨"java/lang/StringBuilder", "append", "(C)Ljava/lang/StringBuilder;"⟩ : MethodName) jdk_67_method_14_code 2 (some (.object "java/lang/StringBuilder")) [] ({ frames := 7, locals := 102, cells := 1, slots := cap } : Room) #[(.ref x), (.int y)] h0 (fun v h => v = some (.ref x) ∧ Keep h0 h [x, b] ∧ ∃ (b' : Addr) (kb' : ClassId), (b' = b ∨ h0.size ≤ b') ∧ own_SB Z h x (u || !decide (y < 256)) (cs ++ [y]).length (cs ++ [y]) b' kb' N) := by
  refine own_body (Ls := #[.val (.ref x), .val (.int y)]) (plainFor_of_name pn_java_lang_StringBuilder) (fun m => by first | (simp [entryFrame, mkF, argsToLocals, Value.category]; done) | rfl) O0 ?_
  intro p e s m below meth c T0 G K0
  refine own_aloadN K0 d_jdk_67_m14_0 rfl rfl rfl ?_
  refine own_iloadN K0 d_jdk_67_m14_1 rfl rfl ?_
  refine own_callSup K0 (a := x) (wd160 hw) (own_sameSelf (wd161 hw) (own_nfS (wd74 hw) rfl) (by decide)) (wd161 hw) (wd83 hw) (rm_asbAppendC hw hs (cap := cap) K0.O B hy hok hcap hcap2 hfit) (wd163 hw) (wd51 hw) (by decide) B.exa (argsL := [(.int y)]) (rest := []) rfl pd_28C29Ljava2flang2fAbstractStringBuilder3b rfl rfl (W := 0) rfl (by first | decide | (dsimp only; omega)) (by first | decide | (dsimp only; omega)) (by first | decide | (dsimp only; omega)) (by first | decide | (dsimp only; omega)) d_jdk_67_m14_2 rfl ?_
  intro T113 h113 L113 v113 K113 q113
  obtain ⟨rfl, q113⟩ := q113
  show G (T113.setTop (mkF m 5 #[.val (.ref x), .val (.int y)] [(.ref x)]))
  refine own_pop K113 d_jdk_67_m14_5 rfl rfl ?_
  refine own_aloadN K113 d_jdk_67_m14_6 rfl rfl rfl ?_
  exact own_retA K113 d_jdk_67_m14_7 rfl rfl rfl rfl (by first | decide | (dsimp only; omega)) (by first | decide | (dsimp only; omega)) ⟨rfl, q113⟩
theorem d_jdk_68_m6_0 : decode jdk_68_method_6_code 0 = .ok (.aload_n 0, 1) := by decide +kernel
theorem d_jdk_68_m6_1 : decode jdk_68_method_6_code 1 = .ok (.getfield 79, 3) := by decide +kernel
theorem d_jdk_68_m6_4 : decode jdk_68_method_6_code 4 = .ok (.ireturn, 1) := by decide +kernel
set_option maxRecDepth 65536 in
set_option maxHeartbeats 40000000 in
theorem rm_asbLen {l : Launch} {Z : State} {a0 : Array Value} (hw : ∀ d ∈ tables_1, d.before a0 Z = true) (hs : ∀ d ∈ jdkStatics_1, d.before a0 Z = true) {x : Addr} {z : Int32} {h0 : Heap} (O0 : Ext Z.heap h0) (F : Fld Z h0 x "java/lang/AbstractStringBuilder" "count" "I" (.int z)) (E : Exa Z h0 x "java/lang/StringBuilder") :
    own_Ct l Z (⟨"java/lang/AbstractStringBuilder", "length", "()I"⟩ : MethodName) jdk_68_method_6_code 1 (some .int) [] ({ frames := 0, locals := 0, cells := 0, slots := 0 } : Room) #[(.ref x)] h0 (fun v h => v = some (.int z) ∧ h = h0) := by
  refine own_body (Ls := #[.val (.ref x)]) (plainFor_of_name pn_java_lang_AbstractStringBuilder) (fun m => by first | (simp [entryFrame, mkF, argsToLocals, Value.category]; done) | rfl) O0 ?_
  intro p e s m below meth c T0 G K0
  refine own_aloadN K0 d_jdk_68_m6_0 rfl rfl rfl ?_
  refine own_getF K0 (host := "") (Or.inl (wd85 hw)) Via.refl F d_jdk_68_m6_1 rfl ?_
  intro T114 K114
  exact own_retI K114 d_jdk_68_m6_4 rfl (by decide) (by decide) ⟨rfl, rfl⟩
theorem d_jdk_67_m93_0 : decode jdk_67_method_93_code 0 = .ok (.aload_n 0, 1) := by decide +kernel
theorem d_jdk_67_m93_1 : decode jdk_67_method_93_code 1 = .ok (.invokespecial 343, 3) := by decide +kernel
theorem wd84 {a0 : Array Value} {Z : State} (hw : ∀ d ∈ tables_1, d.before a0 Z = true) : (Jvm.Cond.code ({ cls := "java/lang/AbstractStringBuilder", name := "length", desc := "()I" } : Jvm.MethodName) jdk_68_method_6_code (1 : Nat) (Option.some Jvm.ClassFile.FieldType.int)).before a0 Z = true := hw _ (List.mem_of_getElem? (i := 84) rfl)
theorem wd82 {a0 : Array Value} {Z : State} (hw : ∀ d ∈ tables_1, d.before a0 Z = true) : (Jvm.Cond.methodLink "java/lang/StringBuilder" (343 : Nat) ({ cls := "java/lang/AbstractStringBuilder", name := "length", desc := "()I" } : Jvm.MethodName)).before a0 Z = true := hw _ (List.mem_of_getElem? (i := 82) rfl)
theorem wd78 {a0 : Array Value} {Z : State} (hw : ∀ d ∈ tables_1, d.before a0 Z = true) : (Jvm.Cond.instanceMethod ({ cls := "java/lang/AbstractStringBuilder", name := "length", desc := "()I" } : Jvm.MethodName)).before a0 Z = true := hw _ (List.mem_of_getElem? (i := 78) rfl)
theorem d_jdk_67_m93_4 : decode jdk_67_method_93_code 4 = .ok (.ireturn, 1) := by decide +kernel
set_option maxRecDepth 65536 in
set_option maxHeartbeats 40000000 in
theorem rm_sbLen {l : Launch} {Z : State} {a0 : Array Value} (hw : ∀ d ∈ tables_1, d.before a0 Z = true) (hs : ∀ d ∈ jdkStatics_1, d.before a0 Z = true) {x : Addr} {z : Int32} {h0 : Heap} (O0 : Ext Z.heap h0) (F : Fld Z h0 x "java/lang/AbstractStringBuilder" "count" "I" (.int z)) (E : Exa Z h0 x "java/lang/StringBuilder") :
    own_Ct l Z (⟨"java/lang/StringBuilder", "length", "()I"⟩ : MethodName) jdk_67_method_93_code 1 (some .int) [] ({ frames := 1, locals := 12, cells := 0, slots := 0 } : Room) #[(.ref x)] h0 (fun v h => v = some (.int z) ∧ h = h0) := by
  refine own_body (Ls := #[.val (.ref x)]) (plainFor_of_name pn_java_lang_StringBuilder) (fun m => by first | (simp [entryFrame, mkF, argsToLocals, Value.category]; done) | rfl) O0 ?_
  intro p e s m below meth c T0 G K0
  refine own_aloadN K0 d_jdk_67_m93_0 rfl rfl rfl ?_
  refine own_callSup K0 (a := x) (wd82 hw) (own_sameSelf (wd78 hw) (own_nfS (wd74 hw) rfl) (by decide)) (wd78 hw) (wd83 hw) (rm_asbLen hw hs K0.O F E) (wd84 hw) (wd51 hw) (by decide) E (argsL := []) (rest := []) rfl pd_2829I rfl rfl (W := 0) rfl (by decide) (by decide) (by decide) (by decide) d_jdk_67_m93_1 rfl ?_
  intro T115 h115 L115 v115 K115 q115
  obtain ⟨rfl, e115⟩ := q115
  have f115 := e115.symm
  subst f115
  show G (T115.setTop (mkF m 4 #[.val (.ref x)] [(.int z)]))
  exact own_retI K115 d_jdk_67_m93_4 rfl (by decide) (by decide) ⟨rfl, rfl⟩
theorem d_jdk_65_m131_0 : decode jdk_65_method_131_code 0 = .ok (.iload_n 1, 1) := by decide +kernel
theorem d_jdk_65_m131_1 : decode jdk_65_method_131_code 1 = .ok (.iload_n 0, 1) := by decide +kernel
theorem d_jdk_65_m131_2 : decode jdk_65_method_131_code 2 = .ok (.if_icmp .ge 35, 3) := by decide +kernel
theorem d_jdk_65_m131_37 : decode jdk_65_method_131_code 37 = .ok (.return_, 1) := by decide +kernel
theorem pn_java_util_Arrays : plainName "java/util/Arrays" = true := by first | (simp [plainName, overriddenIn]; done) | decide +kernel
set_option maxRecDepth 65536 in
set_option maxHeartbeats 40000000 in
theorem rm_checkLength {l : Launch} {Z : State} {a0 : Array Value} (hw : ∀ d ∈ tables_1, d.before a0 Z = true) (hs : ∀ d ∈ jdkStatics_1, d.before a0 Z = true) {nn : Nat} {h0 : Heap} (O0 : Ext Z.heap h0) (hn : nn ≤ 8000) :
    own_Ct l Z (⟨"java/util/Arrays", "checkLength", "(II)V"⟩ : MethodName) jdk_65_method_131_code 2 none [] ({ frames := 0, locals := 0, cells := 0, slots := 0 } : Room) #[(.int 0), (.int (Int32.ofNat nn))] h0 (fun v h => v = none ∧ h = h0) := by
  refine own_body (Ls := #[.val (.int 0), .val (.int (Int32.ofNat nn))]) (plainFor_of_name pn_java_util_Arrays) (fun m => by first | (simp [entryFrame, mkF, argsToLocals, Value.category]; done) | rfl) O0 ?_
  intro p e s m below meth c T0 G K0
  refine own_iloadN K0 d_jdk_65_m131_0 rfl rfl ?_
  refine own_iloadN K0 d_jdk_65_m131_1 rfl rfl ?_
  refine own_icmpYes K0 d_jdk_65_m131_2 (pc' := 37) (by decide) (by decide) (flt (own_nn (by omega))).2.1 ?_
  exact own_ret0 K0 d_jdk_65_m131_37 rfl (by decide) (by decide) ⟨rfl, rfl⟩
theorem d_jdk_29_m69_0 : decode jdk_29_method_69_code 0 = .ok (.iload_n 0, 1) := by decide +kernel
theorem d_jdk_29_m69_1 : decode jdk_29_method_69_code 1 = .ok (.iload_n 1, 1) := by decide +kernel
theorem d_jdk_29_m69_2 : decode jdk_29_method_69_code 2 = .ok (.if_icmp .gt 7, 3) := by decide +kernel
theorem d_jdk_29_m69_9 : decode jdk_29_method_69_code 9 = .ok (.iload_n 1, 1) := by decide +kernel
theorem d_jdk_29_m69_10 : decode jdk_29_method_69_code 10 = .ok (.ireturn, 1) := by decide +kernel
set_option maxRecDepth 65536 in
set_option maxHeartbeats 40000000 in
theorem rm_min {l : Launch} {Z : State} {a0 : Array Value} (hw : ∀ d ∈ tables_1, d.before a0 Z = true) (hs : ∀ d ∈ jdkStatics_1, d.before a0 Z = true) {i : Nat} {nn : Nat} {h0 : Heap} (O0 : Ext Z.heap h0) (hn : nn < i ∧ i ≤ 8000) :
    own_Ct l Z (⟨"java/lang/Math", "min", "(II)I"⟩ : MethodName) jdk_29_method_69_code 2 (some .int) [] ({ frames := 0, locals := 0, cells := 0, slots := 0 } : Room) #[(.int (Int32.ofNat i)), (.int (Int32.ofNat nn))] h0 (fun v h => v = some (.int (Int32.ofNat nn)) ∧ h = h0) := by
  refine own_body (Ls := #[.val (.int (Int32.ofNat i)), .val (.int (Int32.ofNat nn))]) (Jvm.Free.JP.mathPlain rfl (by decide +kernel)) (fun m => by first | (simp [entryFrame, mkF, argsToLocals, Value.category]; done) | rfl) O0 ?_
  intro p e s m below meth c T0 G K0
  refine own_iloadN K0 d_jdk_29_m69_0 rfl rfl ?_
  refine own_iloadN K0 d_jdk_29_m69_1 rfl rfl ?_
  refine own_icmpYes K0 d_jdk_29_m69_2 (pc' := 9) (by decide) (by decide) (tlt (own_lt hn.1 (by omega))).2.2.1 ?_
  refine own_iloadN K0 d_jdk_29_m69_9 rfl rfl ?_
  exact own_retI K0 d_jdk_29_m69_10 rfl (by decide) (by decide) ⟨rfl, rfl⟩
theorem d_jdk_65_m133_0 : decode jdk_65_method_133_code 0 = .ok (.iload_n 1, 1) := by decide +kernel
theorem d_jdk_65_m133_1 : decode jdk_65_method_133_code 1 = .ok (.iload_n 2, 1) := by decide +kernel
theorem d_jdk_65_m133_2 : decode jdk_65_method_133_code 2 = .ok (.invokestatic 343, 3) := by decide +kernel
theorem wd101 {a0 : Array Value} {Z : State} (hw : ∀ d ∈ tables_1, d.before a0 Z = true) : (Jvm.Cond.code ({ cls := "java/util/Arrays", name := "checkLength", desc := "(II)V" } : Jvm.MethodName) jdk_65_method_131_code (2 : Nat) (Option.none : Option Jvm.ClassFile.FieldType)).before a0 Z = true := hw _ (List.mem_of_getElem? (i := 101) rfl)
theorem wd94 {a0 : Array Value} {Z : State} (hw : ∀ d ∈ tables_1, d.before a0 Z = true) : (Jvm.Cond.initialized "java/util/Arrays").before a0 Z = true := hw _ (List.mem_of_getElem? (i := 94) rfl)
theorem wd99 {a0 : Array Value} {Z : State} (hw : ∀ d ∈ tables_1, d.before a0 Z = true) : (Jvm.Cond.methodLink "java/util/Arrays" (343 : Nat) ({ cls := "java/util/Arrays", name := "checkLength", desc := "(II)V" } : Jvm.MethodName)).before a0 Z = true := hw _ (List.mem_of_getElem? (i := 99) rfl)
theorem wd100 {a0 : Array Value} {Z : State} (hw : ∀ d ∈ tables_1, d.before a0 Z = true) : (Jvm.Cond.static ({ cls := "java/util/Arrays", name := "checkLength", desc := "(II)V" } : Jvm.MethodName)).before a0 Z = true := hw _ (List.mem_of_getElem? (i := 100) rfl)
theorem d_jdk_65_m133_5 : decode jdk_65_method_133_code 5 = .ok (.iload_n 2, 1) := by decide +kernel
theorem d_jdk_65_m133_6 : decode jdk_65_method_133_code 6 = .ok (.iload_n 1, 1) := by decide +kernel
theorem d_jdk_65_m133_7 : decode jdk_65_method_133_code 7 = .ok (.isub, 1) := by decide +kernel
theorem d_jdk_65_m133_8 : decode jdk_65_method_133_code 8 = .ok (.istore_n 3, 1) := by decide +kernel
theorem d_jdk_65_m133_9 : decode jdk_65_method_133_code 9 = .ok (.iload_n 3, 1) := by decide +kernel
theorem d_jdk_65_m133_10 : decode jdk_65_method_133_code 10 = .ok (.newarray .byte, 2) := by decide +kernel
theorem d_jdk_65_m133_12 : decode jdk_65_method_133_code 12 = .ok (.astore 4, 2) := by decide +kernel
theorem d_jdk_65_m133_14 : decode jdk_65_method_133_code 14 = .ok (.aload_n 0, 1) := by decide +kernel
theorem d_jdk_65_m133_15 : decode jdk_65_method_133_code 15 = .ok (.iload_n 1, 1) := by decide +kernel
theorem d_jdk_65_m133_16 : decode jdk_65_method_133_code 16 = .ok (.aload 4, 2) := by decide +kernel
theorem d_jdk_65_m133_18 : decode jdk_65_method_133_code 18 = .ok (.iconst 0, 1) := by decide +kernel
theorem d_jdk_65_m133_19 : decode jdk_65_method_133_code 19 = .ok (.aload_n 0, 1) := by decide +kernel
theorem d_jdk_65_m133_20 : decode jdk_65_method_133_code 20 = .ok (.arraylength, 1) := by decide +kernel
theorem d_jdk_65_m133_21 : decode jdk_65_method_133_code 21 = .ok (.iload_n 1, 1) := by decide +kernel
theorem d_jdk_65_m133_22 : decode jdk_65_method_133_code 22 = .ok (.isub, 1) := by decide +kernel
theorem d_jdk_65_m133_23 : decode jdk_65_method_133_code 23 = .ok (.iload_n 3, 1) := by decide +kernel
theorem d_jdk_65_m133_24 : decode jdk_65_method_133_code 24 = .ok (.invokestatic 304, 3) := by decide +kernel
theorem wd105 {a0 : Array Value} {Z : State} (hw : ∀ d ∈ tables_1, d.before a0 Z = true) : (Jvm.Cond.code ({ cls := "java/lang/Math", name := "min", desc := "(II)I" } : Jvm.MethodName) jdk_29_method_69_code (2 : Nat) (Option.some Jvm.ClassFile.FieldType.int)).before a0 Z = true := hw _ (List.mem_of_getElem? (i := 105) rfl)
theorem wd104 {a0 : Array Value} {Z : State} (hw : ∀ d ∈ tables_1, d.before a0 Z = true) : (Jvm.Cond.initialized "java/lang/Math").before a0 Z = true := hw _ (List.mem_of_getElem? (i := 104) rfl)
theorem pd_28II29I : parseMethodDescriptor "(II)I" = some ⟨[.int, .int], some .int⟩ := by decide +kernel
theorem wd102 {a0 : Array Value} {Z : State} (hw : ∀ d ∈ tables_1, d.before a0 Z = true) : (Jvm.Cond.methodLink "java/util/Arrays" (304 : Nat) ({ cls := "java/lang/Math", name := "min", desc := "(II)I" } : Jvm.MethodName)).before a0 Z = true := hw _ (List.mem_of_getElem? (i := 102) rfl)
theorem wd103 {a0 : Array Value} {Z : State} (hw : ∀ d ∈ tables_1, d.before a0 Z = true) : (Jvm.Cond.static ({ cls := "java/lang/Math", name := "min", desc := "(II)I" } : Jvm.MethodName)).before a0 Z = true := hw _ (List.mem_of_getElem? (i := 103) rfl)
theorem d_jdk_65_m133_27 : decode jdk_65_method_133_code 27 = .ok (.invokestatic 150, 3) := by decide +kernel
theorem wd106 {a0 : Array Value} {Z : State} (hw : ∀ d ∈ tables_1, d.before a0 Z = true) : (Jvm.Cond.methodLink "java/util/Arrays" (150 : Nat) ({ cls := "java/lang/System", name := "arraycopy", desc := "(Ljava/lang/Object;ILjava/lang/Object;II)V" } : Jvm.MethodName)).before a0 Z = true := hw _ (List.mem_of_getElem? (i := 106) rfl)
theorem d_jdk_65_m133_30 : decode jdk_65_method_133_code 30 = .ok (.aload 4, 2) := by decide +kernel
theorem d_jdk_65_m133_32 : decode jdk_65_method_133_code 32 = .ok (.areturn, 1) := by decide +kernel
set_option maxRecDepth 65536 in
set_option maxHeartbeats 40000000 in
theorem rm_copyOfB {l : Launch} {Z : State} {a0 : Array Value} (hw : ∀ d ∈ tables_1, d.before a0 Z = true) (hs : ∀ d ∈ jdkStatics_1, d.before a0 Z = true) {b : Addr} {kb : ClassId} {M : Nat} {vs : List Value} {nn : Nat} {cap : Nat} {h0 : Heap} (O0 : Ext Z.heap h0) (V : Arv Z h0 b kb .byte (Int32.ofNat M) vs (.int 0)) (hv : vs.length = nn) (hM : nn < M ∧ M ≤ 8000) (hcap : nn ≤ cap) (hcap2 : cap ≤ 8000) :
    own_Ct l Z (⟨"java/util/Arrays", "copyOfRangeByte", "([BII)[B"⟩ : MethodName) jdk_65_method_133_code 5 (some (.array .byte)) [] ({ frames := 1, locals := 40, cells := 1, slots := 0 + cap } : Room) #[(.ref b), (.int 0), (.int (Int32.ofNat nn))] h0 (fun v h => ∃ (b' : Addr) (kb' : ClassId), v = some (.ref b') ∧ b' = h0.size ∧ Ext h0 h ∧ Arv Z h b' kb' .byte (Int32.ofNat nn) vs (.int 0)) := by
  refine own_body (Ls := #[.val (.ref b), .val (.int 0), .val (.int (Int32.ofNat nn)), .unset, .unset]) (plainFor_of_name pn_java_util_Arrays) (fun m => by first | (simp [entryFrame, mkF, argsToLocals, Value.category]; done) | rfl) O0 ?_
  intro p e s m below meth c T0 G K0
  refine own_iloadN K0 d_jdk_65_m133_0 rfl rfl ?_
  refine own_iloadN K0 d_jdk_65_m133_1 rfl rfl ?_
  refine own_callS K0 (wd99 hw) (wd100 hw) (rm_checkLength hw hs K0.O (by omega)) (wd101 hw) (wd94 hw) (by decide) (argsL := [(.int 0), (.int (Int32.ofNat nn))]) (rest := []) rfl pd_28II29V rfl rfl (W := 0) rfl (by first | decide | (dsimp only; omega)) (by first | decide | (dsimp only; omega)) (by first | decide | (dsimp only; omega)) (by first | decide | (dsimp only; omega)) d_jdk_65_m133_2 rfl ?_
  intro T116 h116 L116 v116 K116 q116
  obtain ⟨rfl, e116⟩ := q116
  have f116 := e116.symm
  subst f116
  show G (T116.setTop (mkF m 5 #[.val (.ref b), .val (.int 0), .val (.int (Int32.ofNat nn)), .unset, .unset] []))
  refine own_iloadN K116 d_jdk_65_m133_5 rfl rfl ?_
  refine own_iloadN K116 d_jdk_65_m133_6 rfl rfl ?_
  refine own_isub K116 d_jdk_65_m133_7 rfl ?_
  refine own_istoreN K116 (Ls' := #[.val (.ref b), .val (.int 0), .val (.int (Int32.ofNat nn)), .val (.int ((Int32.ofNat nn) - 0)), .unset]) d_jdk_65_m133_8 rfl rfl ?_
  refine own_iloadN K116 d_jdk_65_m133_9 rfl rfl ?_
  rw [Int32.sub_zero]
  refine own_newP K116 (aty := .byte) (wd19 hw) d_jdk_65_m133_10 (own_nn (by omega)) (cap := cap) (by rw [own_clamp (by omega)]; exact hcap) (by omega) (by first | decide | (dsimp only; omega)) (by first | decide | (dsimp only; omega)) rfl ?_
  intro T117 h117 a117 c117 K117 g117 E117 V117
  refine own_astore K117 (Ls' := #[.val (.ref b), .val (.int 0), .val (.int (Int32.ofNat nn)), .val (.int (Int32.ofNat nn)), .val (.ref a117)]) d_jdk_65_m133_12 rfl rfl rfl ?_
  refine own_aloadN K117 d_jdk_65_m133_14 rfl rfl rfl ?_
  refine own_iloadN K117 d_jdk_65_m133_15 rfl rfl ?_
  refine own_aload K117 d_jdk_65_m133_16 rfl rfl rfl ?_
  refine own_iconst K117 (v := (0 : Int32)) d_jdk_65_m133_18 rfl rfl ?_
  refine own_aloadN K117 d_jdk_65_m133_19 rfl rfl rfl ?_
  refine own_arraylength K117 (V.ext E117) d_jdk_65_m133_20 rfl ?_
  refine own_iloadN K117 d_jdk_65_m133_21 rfl rfl ?_
  refine own_isub K117 d_jdk_65_m133_22 rfl ?_
  refine own_iloadN K117 d_jdk_65_m133_23 rfl rfl ?_
  rw [Int32.sub_zero]
  refine own_callS K117 (wd102 hw) (wd103 hw) (rm_min hw hs K117.O hM) (wd105 hw) (wd104 hw) (by decide) (argsL := [(.int (Int32.ofNat M)), (.int (Int32.ofNat nn))]) (rest := [(.int (0 : Int32)), (.ref a117), (.int 0), (.ref b)]) rfl pd_28II29I rfl rfl (W := 4) rfl (by first | decide | (dsimp only; omega)) (by first | decide | (dsimp only; omega)) (by first | decide | (dsimp only; omega)) (by first | decide | (dsimp only; omega)) d_jdk_65_m133_24 rfl ?_
  intro T118 h118 L118 v118 K118 q118
  obtain ⟨rfl, e118⟩ := q118
  have f118 := e118.symm
  subst f118
  show G (T118.setTop (mkF m 27 #[.val (.ref b), .val (.int 0), .val (.int (Int32.ofNat nn)), .val (.int (Int32.ofNat nn)), .val (.ref a117)] [(.int (Int32.ofNat nn)), (.int (0 : Int32)), (.ref a117), (.int 0), (.ref b)]))
  have gz : Z.heap.size ≤ a117 := by rw [g117]; exact K0.O.1
  refine own_arraycopy K118 (W := 0) (sp := 0) (dp := 0) (nn := nn) (us := vs) (wd106 hw) (wd109 hw) (wd107 hw) (wd108 hw) (V.ext E117) (V117.pad (pad_rep [] _ nn)) (by omega) (by omega) (by omega) (by rw [own_clamp (by omega)]; omega) (by rw [own_clamp (by omega)]; omega) (own_rng _ _ _ hv.symm) (by simp) gz rfl rfl (by first | decide | (dsimp only; omega)) (by first | decide | (have := own_acw; dsimp only; omega)) d_jdk_65_m133_27 rfl ?_
  intro T119 h119 L119 K119 Kp119 V119
  refine own_aload K119 d_jdk_65_m133_30 rfl rfl rfl ?_
  exact own_retA K119 d_jdk_65_m133_32 rfl rfl rfl rfl (by first | decide | (dsimp only; omega)) (by first | decide | (dsimp only; omega)) ⟨a117, c117, rfl, g117, own_ext_keep E117 Kp119 (fun y q => by cases List.mem_singleton.mp q; exact Nat.le_of_eq g117.symm), (congrArg (fun z => Arv Z h119 a117 c117 .byte (Int32.ofNat nn) z (.int 0)) (own_acp [] vs (.int 0) nn)).mp V119⟩
theorem d_jdk_65_m132_0 : decode jdk_65_method_132_code 0 = .ok (.iload_n 1, 1) := by decide +kernel
theorem d_jdk_65_m132_1 : decode jdk_65_method_132_code 1 = .ok (.ifCond .ne 9, 3) := by decide +kernel
theorem d_jdk_65_m132_4 : decode jdk_65_method_132_code 4 = .ok (.iload_n 2, 1) := by decide +kernel
theorem d_jdk_65_m132_5 : decode jdk_65_method_132_code 5 = .ok (.aload_n 0, 1) := by decide +kernel
theorem d_jdk_65_m132_6 : decode jdk_65_method_132_code 6 = .ok (.arraylength, 1) := by decide +kernel
theorem d_jdk_65_m132_7 : decode jdk_65_method_132_code 7 = .ok (.if_icmp .eq 10, 3) := by decide +kernel
theorem d_jdk_65_m132_10 : decode jdk_65_method_132_code 10 = .ok (.aload_n 0, 1) := by decide +kernel
theorem d_jdk_65_m132_11 : decode jdk_65_method_132_code 11 = .ok (.iload_n 1, 1) := by decide +kernel
theorem d_jdk_65_m132_12 : decode jdk_65_method_132_code 12 = .ok (.iload_n 2, 1) := by decide +kernel
theorem d_jdk_65_m132_13 : decode jdk_65_method_132_code 13 = .ok (.invokestatic 339, 3) := by decide +kernel
theorem wd98 {a0 : Array Value} {Z : State} (hw : ∀ d ∈ tables_1, d.before a0 Z = true) : (Jvm.Cond.code ({ cls := "java/util/Arrays", name := "copyOfRangeByte", desc := "([BII)[B" } : Jvm.MethodName) jdk_65_method_133_code (5 : Nat) (Option.some (Jvm.ClassFile.FieldType.array Jvm.ClassFile.FieldType.byte))).before a0 Z = true := hw _ (List.mem_of_getElem? (i := 98) rfl)
theorem pd_285bBII295bB : parseMethodDescriptor "([BII)[B" = some ⟨[(.array .byte), .int, .int], some (.array .byte)⟩ := by decide +kernel
theorem wd96 {a0 : Array Value} {Z : State} (hw : ∀ d ∈ tables_1, d.before a0 Z = true) : (Jvm.Cond.methodLink "java/util/Arrays" (339 : Nat) ({ cls := "java/util/Arrays", name := "copyOfRangeByte", desc := "([BII)[B" } : Jvm.MethodName)).before a0 Z = true := hw _ (List.mem_of_getElem? (i := 96) rfl)
theorem wd97 {a0 : Array Value} {Z : State} (hw : ∀ d ∈ tables_1, d.before a0 Z = true) : (Jvm.Cond.static ({ cls := "java/util/Arrays", name := "copyOfRangeByte", desc := "([BII)[B" } : Jvm.MethodName)).before a0 Z = true := hw _ (List.mem_of_getElem? (i := 97) rfl)
theorem d_jdk_65_m132_16 : decode jdk_65_method_132_code 16 = .ok (.areturn, 1) := by decide +kernel
set_option maxRecDepth 65536 in
set_option maxHeartbeats 40000000 in
theorem rm_copyOf {l : Launch} {Z : State} {a0 : Array Value} (hw : ∀ d ∈ tables_1, d.before a0 Z = true) (hs : ∀ d ∈ jdkStatics_1, d.before a0 Z = true) {b : Addr} {kb : ClassId} {M : Nat} {vs : List Value} {nn : Nat} {cap : Nat} {h0 : Heap} (O0 : Ext Z.heap h0) (V : Arv Z h0 b kb .byte (Int32.ofNat M) vs (.int 0)) (hv : vs.length = nn) (hM : nn < M ∧ M ≤ 8000) (hcap : nn ≤ cap) (hcap2 : cap ≤ 8000) :
    own_Ct l Z (⟨"java/util/Arrays", "copyOfRange", "([BII)[B"⟩ : MethodName) jdk_65_method_132_code 3 (some (.array .byte)) [] ({ frames := 2, locals := 56, cells := 1, slots := 0 + 0 + cap } : Room) #[(.ref b), (.int 0), (.int (Int32.ofNat nn))] h0 (fun v h => ∃ (b' : Addr) (kb' : ClassId), v = some (.ref b') ∧ b' = h0.size ∧ Ext h0 h ∧ Arv Z h b' kb' .byte (Int32.ofNat nn) vs (.int 0)) := by
  refine own_body (Ls := #[.val (.ref b), .val (.int 0), .val (.int (Int32.ofNat nn))]) (plainFor_of_name pn_java_util_Arrays) (fun m => by first | (simp [entryFrame, mkF, argsToLocals, Value.category]; done) | rfl) O0 ?_
  intro p e s m below meth c T0 G K0
  refine own_iloadN K0 d_jdk_65_m132_0 rfl rfl ?_
  refine own_ifNo K0 d_jdk_65_m132_1 rfl ((if0 _ _).trans (teq rfl).2) ?_
  refine own_iloadN K0 d_jdk_65_m132_4 rfl rfl ?_
  refine own_aloadN K0 d_jdk_65_m132_5 rfl rfl rfl ?_
  refine own_arraylength K0 V d_jdk_65_m132_6 rfl ?_
  refine own_icmpNo K0 d_jdk_65_m132_7 rfl (feq (fun q => by have := own_ofNat_inj (by omega) (by omega) q; omega)).1 ?_
  refine own_aloadN K0 d_jdk_65_m132_10 rfl rfl rfl ?_
  refine own_iloadN K0 d_jdk_65_m132_11 rfl rfl ?_
  refine own_iloadN K0 d_jdk_65_m132_12 rfl rfl ?_
  refine own_callS K0 (wd96 hw) (wd97 hw) (rm_copyOfB hw hs (cap := cap) K0.O V hv hM hcap hcap2) (wd98 hw) (wd94 hw) (by decide) (argsL := [(.ref b), (.int 0), (.int (Int32.ofNat nn))]) (rest := []) rfl pd_285bBII295bB rfl rfl (W := 0) rfl (by first | decide | (dsimp only; omega)) (by first | decide | (dsimp only; omega)) (by first | decide | (dsimp only; omega)) (by first | decide | (dsimp only; omega)) d_jdk_65_m132_13 rfl ?_
  intro T120 h120 L120 v120 K120 q120
  obtain ⟨b120, kb120, rfl, q120⟩ := q120
  show G (T120.setTop (mkF m 16 #[.val (.ref b), .val (.int 0), .val (.int (Int32.ofNat nn))] [(.ref b120)]))
  exact own_retA K120 d_jdk_65_m132_16 rfl rfl rfl rfl (by first | decide | (dsimp only; omega)) (by first | decide | (dsimp only; omega)) ⟨b120, kb120, rfl, q120⟩
theorem d_jdk_68_m64_0 : decode jdk_68_method_64_code 0 = .ok (.aload_n 0, 1) := by decide +kernel
theorem d_jdk_68_m64_1 : decode jdk_68_method_64_code 1 = .ok (.getfield 15, 3) := by decide +kernel
theorem d_jdk_68_m64_4 : decode jdk_68_method_64_code 4 = .ok (.areturn, 1) := by decide +kernel
set_option maxRecDepth 65536 in
set_option maxHeartbeats 40000000 in
theorem rm_getValue {l : Launch} {Z : State} {a0 : Array Value} (hw : ∀ d ∈ tables_1, d.before a0 Z = true) (hs : ∀ d ∈ jdkStatics_1, d.before a0 Z = true) {x : Addr} {b : Addr} {h0 : Heap} (O0 : Ext Z.heap h0) (F : Fld Z h0 x "java/lang/AbstractStringBuilder" "value" "[B" (.ref b)) :
    own_Ct l Z (⟨"java/lang/AbstractStringBuilder", "getValue", "()[B"⟩ : MethodName) jdk_68_method_64_code 1 (some (.array .byte)) [] ({ frames := 0, locals := 0, cells := 0, slots := 0 } : Room) #[(.ref x)] h0 (fun v h => v = some (.ref b) ∧ h = h0) := by
  refine own_body (Ls := #[.val (.ref x)]) (plainFor_of_name pn_java_lang_AbstractStringBuilder) (fun m => by first | (simp [entryFrame, mkF, argsToLocals, Value.category]; done) | rfl) O0 ?_
  intro p e s m below meth c T0 G K0
  refine own_aloadN K0 d_jdk_68_m64_0 rfl rfl rfl ?_
  refine own_getF K0 (host := "") (Or.inl (wd55 hw)) Via.refl F d_jdk_68_m64_1 rfl ?_
  intro T121 K121
  exact own_retA K121 d_jdk_68_m64_4 rfl rfl rfl rfl (by decide) (by decide) ⟨rfl, rfl⟩
theorem d_jdk_42_m150_0 : decode jdk_42_method_150_code 0 = .ok (.aload_n 0, 1) := by decide +kernel
theorem d_jdk_42_m150_1 : decode jdk_42_method_150_code 1 = .ok (.invokespecial 1, 3) := by decide +kernel
theorem wd15 {a0 : Array Value} {Z : State} (hw : ∀ d ∈ tables_1, d.before a0 Z = true) : (Jvm.Cond.methodLink "java/lang/String" (1 : Nat) ({ cls := "java/lang/Object", name := "<init>", desc := "()V" } : Jvm.MethodName)).before a0 Z = true := hw _ (List.mem_of_getElem? (i := 15) rfl)
theorem d_jdk_42_m150_4 : decode jdk_42_method_150_code 4 = .ok (.aload_n 1, 1) := by decide +kernel
theorem d_jdk_42_m150_5 : decode jdk_42_method_150_code 5 = .ok (.invokevirtual 552, 3) := by decide +kernel
theorem wd75 {a0 : Array Value} {Z : State} (hw : ∀ d ∈ tables_1, d.before a0 Z = true) : (Jvm.Cond.code ({ cls := "java/lang/AbstractStringBuilder", name := "getValue", desc := "()[B" } : Jvm.MethodName) jdk_68_method_64_code (1 : Nat) (Option.some (Jvm.ClassFile.FieldType.array Jvm.ClassFile.FieldType.byte))).before a0 Z = true := hw _ (List.mem_of_getElem? (i := 75) rfl)
theorem pd_28295bB : parseMethodDescriptor "()[B" = some ⟨[], some (.array .byte)⟩ := by decide +kernel
theorem wd71 {a0 : Array Value} {Z : State} (hw : ∀ d ∈ tables_1, d.before a0 Z = true) : (Jvm.Cond.methodLink "java/lang/String" (552 : Nat) ({ cls := "java/lang/AbstractStringBuilder", name := "getValue", desc := "()[B" } : Jvm.MethodName)).before a0 Z = true := hw _ (List.mem_of_getElem? (i := 71) rfl)
theorem wd72 {a0 : Array Value} {Z : State} (hw : ∀ d ∈ tables_1, d.before a0 Z = true) : (Jvm.Cond.declares ({ cls := "java/lang/AbstractStringBuilder", name := "getValue", desc := "()[B" } : Jvm.MethodName)).before a0 Z = true := hw _ (List.mem_of_getElem? (i := 72) rfl)
theorem wd73 {a0 : Array Value} {Z : State} (hw : ∀ d ∈ tables_1, d.before a0 Z = true) : (Jvm.Cond.instanceMethod ({ cls := "java/lang/AbstractStringBuilder", name := "getValue", desc := "()[B" } : Jvm.MethodName)).before a0 Z = true := hw _ (List.mem_of_getElem? (i := 73) rfl)
theorem d_jdk_42_m150_8 : decode jdk_42_method_150_code 8 = .ok (.astore_n 3, 1) := by decide +kernel
theorem d_jdk_42_m150_9 : decode jdk_42_method_150_code 9 = .ok (.aload_n 1, 1) := by decide +kernel
theorem d_jdk_42_m150_10 : decode jdk_42_method_150_code 10 = .ok (.invokevirtual 549, 3) := by decide +kernel
theorem wd81 {a0 : Array Value} {Z : State} (hw : ∀ d ∈ tables_1, d.before a0 Z = true) : (Jvm.Cond.code ({ cls := "java/lang/StringBuilder", name := "length", desc := "()I" } : Jvm.MethodName) jdk_67_method_93_code (1 : Nat) (Option.some Jvm.ClassFile.FieldType.int)).before a0 Z = true := hw _ (List.mem_of_getElem? (i := 81) rfl)
theorem wd32 {a0 : Array Value} {Z : State} (hw : ∀ d ∈ tables_1, d.before a0 Z = true) : (Jvm.Cond.initialized "java/lang/StringBuilder").before a0 Z = true := hw _ (List.mem_of_getElem? (i := 32) rfl)
theorem wd76 {a0 : Array Value} {Z : State} (hw : ∀ d ∈ tables_1, d.before a0 Z = true) : (Jvm.Cond.methodLink "java/lang/String" (549 : Nat) ({ cls := "java/lang/AbstractStringBuilder", name := "length", desc := "()I" } : Jvm.MethodName)).before a0 Z = true := hw _ (List.mem_of_getElem? (i := 76) rfl)
theorem wd77 {a0 : Array Value} {Z : State} (hw : ∀ d ∈ tables_1, d.before a0 Z = true) : (Jvm.Cond.declares ({ cls := "java/lang/AbstractStringBuilder", name := "length", desc := "()I" } : Jvm.MethodName)).before a0 Z = true := hw _ (List.mem_of_getElem? (i := 77) rfl)
theorem wd79 {a0 : Array Value} {Z : State} (hw : ∀ d ∈ tables_1, d.before a0 Z = true) : (Jvm.Cond.selects "java/lang/StringBuilder" ({ cls := "java/lang/AbstractStringBuilder", name := "length", desc := "()I" } : Jvm.MethodName) ({ cls := "java/lang/StringBuilder", name := "length", desc := "()I" } : Jvm.MethodName)).before a0 Z = true := hw _ (List.mem_of_getElem? (i := 79) rfl)
theorem wd80 {a0 : Array Value} {Z : State} (hw : ∀ d ∈ tables_1, d.before a0 Z = true) : (Jvm.Cond.instanceMethod ({ cls := "java/lang/StringBuilder", name := "length", desc := "()I" } : Jvm.MethodName)).before a0 Z = true := hw _ (List.mem_of_getElem? (i := 80) rfl)
theorem d_jdk_42_m150_13 : decode jdk_42_method_150_code 13 = .ok (.istore 4, 2) := by decide +kernel
theorem d_jdk_42_m150_15 : decode jdk_42_method_150_code 15 = .ok (.aload_n 1, 1) := by decide +kernel
theorem d_jdk_42_m150_16 : decode jdk_42_method_150_code 16 = .ok (.invokevirtual 1047, 3) := by decide +kernel
theorem wd87 {a0 : Array Value} {Z : State} (hw : ∀ d ∈ tables_1, d.before a0 Z = true) : (Jvm.Cond.methodLink "java/lang/String" (1047 : Nat) ({ cls := "java/lang/AbstractStringBuilder", name := "isLatin1", desc := "()Z" } : Jvm.MethodName)).before a0 Z = true := hw _ (List.mem_of_getElem? (i := 87) rfl)
theorem d_jdk_42_m150_19 : decode jdk_42_method_150_code 19 = .ok (.ifCond .eq 22, 3) := by decide +kernel
theorem d_jdk_42_m150_22 : decode jdk_42_method_150_code 22 = .ok (.aload_n 0, 1) := by decide +kernel
theorem d_jdk_42_m150_23 : decode jdk_42_method_150_code 23 = .ok (.iconst 0, 1) := by decide +kernel
theorem wd21 {a0 : Array Value} {Z : State} (hw : ∀ d ∈ tables_1, d.before a0 Z = true) : (Jvm.Cond.laysFinal "java/lang/String" "java/lang/String" "coder" "B").before a0 Z = true := hw _ (List.mem_of_getElem? (i := 21) rfl)
theorem d_jdk_42_m150_24 : decode jdk_42_method_150_code 24 = .ok (.putfield 15, 3) := by decide +kernel
theorem wd5 {a0 : Array Value} {Z : State} (hw : ∀ d ∈ tables_1, d.before a0 Z = true) : (Jvm.Cond.instantiable "java/lang/String" (4 : Nat)).before a0 Z = true := hw _ (List.mem_of_getElem? (i := 5) rfl)
theorem d_jdk_42_m150_27 : decode jdk_42_method_150_code 27 = .ok (.aload_n 0, 1) := by decide +kernel
theorem d_jdk_42_m150_28 : decode jdk_42_method_150_code 28 = .ok (.aload_n 3, 1) := by decide +kernel
theorem d_jdk_42_m150_29 : decode jdk_42_method_150_code 29 = .ok (.iconst 0, 1) := by decide +kernel
theorem d_jdk_42_m150_30 : decode jdk_42_method_150_code 30 = .ok (.iload 4, 2) := by decide +kernel
theorem d_jdk_42_m150_32 : decode jdk_42_method_150_code 32 = .ok (.invokestatic 54, 3) := by decide +kernel
theorem wd95 {a0 : Array Value} {Z : State} (hw : ∀ d ∈ tables_1, d.before a0 Z = true) : (Jvm.Cond.code ({ cls := "java/util/Arrays", name := "copyOfRange", desc := "([BII)[B" } : Jvm.MethodName) jdk_65_method_132_code (3 : Nat) (Option.some (Jvm.ClassFile.FieldType.array Jvm.ClassFile.FieldType.byte))).before a0 Z = true := hw _ (List.mem_of_getElem? (i := 95) rfl)
theorem wd92 {a0 : Array Value} {Z : State} (hw : ∀ d ∈ tables_1, d.before a0 Z = true) : (Jvm.Cond.methodLink "java/lang/String" (54 : Nat) ({ cls := "java/util/Arrays", name := "copyOfRange", desc := "([BII)[B" } : Jvm.MethodName)).before a0 Z = true := hw _ (List.mem_of_getElem? (i := 92) rfl)
theorem wd93 {a0 : Array Value} {Z : State} (hw : ∀ d ∈ tables_1, d.before a0 Z = true) : (Jvm.Cond.static ({ cls := "java/util/Arrays", name := "copyOfRange", desc := "([BII)[B" } : Jvm.MethodName)).before a0 Z = true := hw _ (List.mem_of_getElem? (i := 93) rfl)
theorem wd20 {a0 : Array Value} {Z : State} (hw : ∀ d ∈ tables_1, d.before a0 Z = true) : (Jvm.Cond.laysFinal "java/lang/String" "java/lang/String" "value" "[B").before a0 Z = true := hw _ (List.mem_of_getElem? (i := 20) rfl)
theorem d_jdk_42_m150_35 : decode jdk_42_method_150_code 35 = .ok (.putfield 9, 3) := by decide +kernel
theorem d_jdk_42_m150_38 : decode jdk_42_method_150_code 38 = .ok (.goto 59, 3) := by decide +kernel
theorem d_jdk_42_m150_97 : decode jdk_42_method_150_code 97 = .ok (.return_, 1) := by decide +kernel
theorem d_jdk_42_m150_41 : decode jdk_42_method_150_code 41 = .ok (.getstatic 38, 3) := by decide +kernel
theorem d_jdk_42_m150_44 : decode jdk_42_method_150_code 44 = .ok (.ifCond .eq 35, 3) := by decide +kernel
theorem d_jdk_42_m150_47 : decode jdk_42_method_150_code 47 = .ok (.aload_n 1, 1) := by decide +kernel
theorem wd258 {a0 : Array Value} {Z : State} (hw : ∀ d ∈ tables_1, d.before a0 Z = true) : (Jvm.Cond.fieldLink "java/lang/String" (1048 : Nat) "java/lang/AbstractStringBuilder" "maybeLatin1" "Z").before a0 Z = true := hw _ (List.mem_of_getElem? (i := 258) rfl)
theorem d_jdk_42_m150_48 : decode jdk_42_method_150_code 48 = .ok (.getfield 1048, 3) := by decide +kernel
theorem d_jdk_42_m150_51 : decode jdk_42_method_150_code 51 = .ok (.ifCond .eq 28, 3) := by decide +kernel
theorem d_jdk_42_m150_79 : decode jdk_42_method_150_code 79 = .ok (.aload_n 0, 1) := by decide +kernel
theorem d_jdk_42_m150_80 : decode jdk_42_method_150_code 80 = .ok (.iconst 1, 1) := by decide +kernel
theorem d_jdk_42_m150_81 : decode jdk_42_method_150_code 81 = .ok (.putfield 15, 3) := by decide +kernel
theorem d_jdk_42_m150_84 : decode jdk_42_method_150_code 84 = .ok (.aload_n 0, 1) := by decide +kernel
theorem d_jdk_42_m150_85 : decode jdk_42_method_150_code 85 = .ok (.aload_n 3, 1) := by decide +kernel
theorem d_jdk_42_m150_86 : decode jdk_42_method_150_code 86 = .ok (.iconst 0, 1) := by decide +kernel
theorem d_jdk_42_m150_87 : decode jdk_42_method_150_code 87 = .ok (.iload 4, 2) := by decide +kernel
theorem d_jdk_42_m150_89 : decode jdk_42_method_150_code 89 = .ok (.iconst 1, 1) := by decide +kernel
theorem d_jdk_42_m150_90 : decode jdk_42_method_150_code 90 = .ok (.ishl, 1) := by decide +kernel
theorem d_jdk_42_m150_91 : decode jdk_42_method_150_code 91 = .ok (.invokestatic 54, 3) := by decide +kernel
theorem d_jdk_42_m150_94 : decode jdk_42_method_150_code 94 = .ok (.putfield 9, 3) := by decide +kernel
set_option maxRecDepth 65536 in
set_option maxHeartbeats 40000000 in
theorem rm_strASB {l : Launch} {Z : State} {a0 : Array Value} (hw : ∀ d ∈ tables_1, d.before a0 Z = true) (hs : ∀ d ∈ jdkStatics_1, d.before a0 Z = true) {a : Addr} {u1 : Value} {u2 : Value} {x : Addr} {u : Bool} {cs : List Int32} {b : Addr} {kb : ClassId} {N : Nat} {cap : Nat} {h0 : Heap} (O0 : Ext Z.heap h0) (E : Exa Z h0 a "java/lang/String") (F1 : Fld Z h0 a "java/lang/String" "value" "[B" u1) (F2 : Fld Z h0 a "java/lang/String" "coder" "B" u2) (gx : Z.heap.size ≤ a) (B : own_SB Z h0 x u cs.length cs b kb N) (hne : a ≠ b) (hlt : cs.length < N) (hcap : 2 * cs.length ≤ cap) (hcap2 : cap ≤ 4000) :
    own_Ct l Z (⟨"java/lang/String", "<init>", "(Ljava/lang/AbstractStringBuilder;Ljava/lang/Void;)V"⟩ : MethodName) jdk_42_method_150_code 5 none [] ({ frames := 3, locals := 71, cells := 1, slots := cap } : Room) #[(.ref a), (.ref x), .null] h0 (fun v h => v = none ∧ Keep h0 h [a] ∧ own_StrG Z h a u cs) := by
  obtain ⟨zc, SC, hzc⟩ := own_compact hs
  have B' := B
  obtain ⟨BE, Bvalue, Bcoder, Bcount, BmaybeLatin1, BV, hab, ga, gb, hcN, hN, hnc⟩ := B'
  refine own_body (Ls := #[.val (.ref a), .val (.ref x), .val .null, .unset, .unset]) (plainFor_of_name pn_java_lang_String) (fun m => by first | (simp [entryFrame, mkF, argsToLocals, Value.category]; done) | rfl) O0 ?_
  intro p e s m below meth c T0 G K0
  refine own_aloadN K0 d_jdk_42_m150_0 rfl rfl rfl ?_
  refine own_initO K0 (W := 0) (wd15 hw) (wd16 hw) (wd17 hw) rfl rfl (by first | decide | (dsimp only; omega)) (by first | decide | (dsimp only; omega)) d_jdk_42_m150_1 rfl ?_
  intro T122 K122
  refine own_aloadN K122 d_jdk_42_m150_4 rfl rfl rfl ?_
  refine own_callV K122 (a := x) (x0 := (⟨"java/lang/AbstractStringBuilder", "getValue", "()[B"⟩ : MethodName)) (wd71 hw) (wd72 hw) (fun q => own_nfS (args := #[]) (mvT q (wd74 hw)) rfl) (wd74 hw) (wd73 hw) (rm_getValue hw hs K122.O Bvalue) (wd75 hw) (wd51 hw) (by decide) BE (argsL := []) (rest := []) rfl pd_28295bB rfl rfl (W := 0) rfl (by first | decide | (dsimp only; omega)) (by first | decide | (dsimp only; omega)) (by first | decide | (dsimp only; omega)) (by first | decide | (dsimp only; omega)) d_jdk_42_m150_5 rfl ?_
  intro T123 h123 L123 v123 K123 q123
  obtain ⟨rfl, e123⟩ := q123
  have f123 := e123.symm
  subst f123
  show G (T123.setTop (mkF m 8 #[.val (.ref a), .val (.ref x), .val .null, .unset, .unset] [(.ref b)]))
  refine own_astoreN K123 (Ls' := #[.val (.ref a), .val (.ref x), .val .null, .val (.ref b), .unset]) d_jdk_42_m150_8 rfl rfl rfl ?_
  refine own_aloadN K123 d_jdk_42_m150_9 rfl rfl rfl ?_
  refine own_callV K123 (a := x) (x0 := (⟨"java/lang/AbstractStringBuilder", "length", "()I"⟩ : MethodName)) (wd76 hw) (wd77 hw) (fun q => own_nfS (args := #[]) (mvT q (wd74 hw)) rfl) (wd79 hw) (wd80 hw) (rm_sbLen hw hs K123.O Bcount BE) (wd81 hw) (wd32 hw) (by decide) BE (argsL := []) (rest := []) rfl pd_2829I rfl rfl (W := 0) rfl (by first | decide | (dsimp only; omega)) (by first | decide | (dsimp only; omega)) (by first | decide | (dsimp only; omega)) (by first | decide | (dsimp only; omega)) d_jdk_42_m150_10 rfl ?_
  intro T124 h124 L124 v124 K124 q124
  obtain ⟨rfl, e124⟩ := q124
  have f124 := e124.symm
  subst f124
  show G (T124.setTop (mkF m 13 #[.val (.ref a), .val (.ref x), .val .null, .val (.ref b), .unset] [(.int (Int32.ofNat cs.length))]))
  refine own_istore K124 (Ls' := #[.val (.ref a), .val (.ref x), .val .null, .val (.ref b), .val (.int (Int32.ofNat cs.length))]) d_jdk_42_m150_13 rfl rfl ?_
  refine own_aloadN K124 d_jdk_42_m150_15 rfl rfl rfl ?_
  refine own_callV K124 (a := x) (x0 := (⟨"java/lang/AbstractStringBuilder", "isLatin1", "()Z"⟩ : MethodName)) (wd87 hw) (wd88 hw) (fun q => own_nfS (args := #[]) (mvT q (wd74 hw)) rfl) (wd90 hw) (wd89 hw) (rm_isLatin1B hw hs (u := u) K124.O Bcoder) (wd91 hw) (wd51 hw) (by decide) BE (argsL := []) (rest := []) rfl pd_2829Z rfl rfl (W := 0) rfl (by first | decide | (dsimp only; omega)) (by first | decide | (dsimp only; omega)) (by first | decide | (dsimp only; omega)) (by first | decide | (dsimp only; omega)) d_jdk_42_m150_16 rfl ?_
  intro T125 h125 L125 v125 K125 q125
  obtain ⟨rfl, e125⟩ := q125
  have f125 := e125.symm
  subst f125
  show G (T125.setTop (mkF m 19 #[.val (.ref a), .val (.ref x), .val .null, .val (.ref b), .val (.int (Int32.ofNat cs.length))] [(.int (cond u 0 1))]))
  cases u with
  | false =>
    refine own_ifNo K125 d_jdk_42_m150_19 rfl ((if0 _ _).trans (feq (by decide)).1) ?_
    refine own_aloadN K125 d_jdk_42_m150_22 rfl rfl rfl ?_
    refine own_iconst K125 (v := (0 : Int32)) d_jdk_42_m150_23 rfl rfl ?_
    refine own_putFN K125 (wd25 hw) Via.refl F2 E (Or.inr ⟨(wd21 hw), rfl, rfl⟩) (wd5 hw) (ty := .byte) (v' := .int 0) (by decide) rfl rfl gx d_jdk_42_m150_24 rfl ?_
    intro T126 h126 K126 W126
    refine own_aloadN K126 d_jdk_42_m150_27 rfl rfl rfl ?_
    refine own_aloadN K126 d_jdk_42_m150_28 rfl rfl rfl ?_
    refine own_iconst K126 (v := (0 : Int32)) d_jdk_42_m150_29 rfl rfl ?_
    refine own_iload K126 d_jdk_42_m150_30 rfl rfl ?_
    have hba : b ≠ a := hne.symm
    refine own_callS K126 (wd92 hw) (wd93 hw) (rm_copyOf hw hs (M := N) (nn := cs.length) (cap := cap) K126.O (BV.other W126 hba) (own_by_len cs) ⟨by omega, by omega⟩ (by omega) (by omega)) (wd95 hw) (wd94 hw) (by decide) (argsL := [(.ref b), (.int (0 : Int32)), (.int (Int32.ofNat cs.length))]) (rest := [(.ref a)]) rfl pd_285bBII295bB rfl rfl (W := 1) rfl (by first | decide | (dsimp only; omega)) (by first | decide | (dsimp only; omega)) (by first | decide | (dsimp only; omega)) (by first | decide | (dsimp only; omega)) d_jdk_42_m150_32 rfl ?_
    intro T127 h127 L127 v127 K127 q127
    obtain ⟨c127, kc127, rfl, gc127, X127, V127⟩ := q127
    show G (T127.setTop (mkF m 35 #[.val (.ref a), .val (.ref x), .val .null, .val (.ref b), .val (.int (Int32.ofNat cs.length))] [(.ref c127), (.ref a)]))
    refine own_putF K127 (host := "") (Or.inl (wd24 hw)) Via.refl ((F1.other W126 (Or.inr (slot_ne (Or.inr (wd20 hw)) (Or.inr (wd21 hw)) (by decide) (t := (.array .byte)) (t' := .byte) (by decide) (by decide)))).ext X127) ((E.wr W126).ext X127) (Or.inr ⟨(wd20 hw), rfl, rfl⟩) (wd5 hw) (ty := (.array .byte)) (by decide) rfl rfl gx d_jdk_42_m150_35 rfl ?_
    intro T128 h128 K128 W128
    refine own_goto K128 d_jdk_42_m150_38 (pc' := 97) (by decide) (by decide) ?_
    have hca : c127 ≠ a := Nat.ne_of_gt (Nat.lt_of_lt_of_le (E.wr W126).lt (Nat.le_of_eq gc127.symm))
    exact own_ret0 K128 d_jdk_42_m150_97 rfl (by first | decide | (dsimp only; omega)) (by first | decide | (dsimp only; omega)) ⟨rfl, (((Keep.refl h0 [a]).wr W126 (Or.inl (List.mem_singleton.mpr rfl))).ext X127).wr W128 (Or.inl (List.mem_singleton.mpr rfl)), ((E.wr W126).ext X127).wr W128, ((F2.same W126).ext X127).other W128 (Or.inr (slot_ne (Or.inr (wd21 hw)) (Or.inr (wd20 hw)) (by decide) (t := .byte) (t' := (.array .byte)) (by decide) (by decide))), c127, kc127, ((F1.other W126 (Or.inr (slot_ne (Or.inr (wd20 hw)) (Or.inr (wd21 hw)) (by decide) (t := (.array .byte)) (t' := .byte) (by decide) (by decide)))).ext X127).same W128, V127.other W128 hca⟩
  | true =>
    refine own_ifYes K125 d_jdk_42_m150_19 (pc' := 41) (by decide) (by decide) ((if0 _ _).trans (teq rfl).1) ?_
    refine own_getS K125 (wd43 hw) Via.refl (SC.ext K125.O) d_jdk_42_m150_41 rfl ?_
    intro T129 K129
    refine own_ifNo K129 d_jdk_42_m150_44 rfl ((if0 _ _).trans (feq hzc).1) ?_
    refine own_aloadN K129 d_jdk_42_m150_47 rfl rfl rfl ?_
    refine own_getF K129 (host := "") (Or.inl (wd258 hw)) Via.refl BmaybeLatin1 d_jdk_42_m150_48 rfl ?_
    intro T130 K130
    refine own_ifYes K130 d_jdk_42_m150_51 (pc' := 79) (by decide) (by decide) ((if0 _ _).trans (teq rfl).1) ?_
    refine own_aloadN K130 d_jdk_42_m150_79 rfl rfl rfl ?_
    refine own_iconst K130 (v := (1 : Int32)) d_jdk_42_m150_80 rfl rfl ?_
    refine own_putFN K130 (wd25 hw) Via.refl F2 E (Or.inr ⟨(wd21 hw), rfl, rfl⟩) (wd5 hw) (ty := .byte) (v' := .int 1) (by decide) rfl rfl gx d_jdk_42_m150_81 rfl ?_
    intro T131 h131 K131 W131
    refine own_aloadN K131 d_jdk_42_m150_84 rfl rfl rfl ?_
    refine own_aloadN K131 d_jdk_42_m150_85 rfl rfl rfl ?_
    refine own_iconst K131 (v := (0 : Int32)) d_jdk_42_m150_86 rfl rfl ?_
    refine own_iload K131 d_jdk_42_m150_87 rfl rfl ?_
    refine own_iconst K131 (v := (1 : Int32)) d_jdk_42_m150_89 rfl rfl ?_
    refine own_ishl K131 d_jdk_42_m150_90 rfl ?_
    rw [own_shl1 (by omega)]
    have hba : b ≠ a := hne.symm
    refine own_callS K131 (wd92 hw) (wd93 hw) (rm_copyOf hw hs (M := (2 * N)) (nn := (2 * cs.length)) (cap := cap) K131.O (BV.other W131 hba) (own_by2_len cs) ⟨by omega, by omega⟩ (by omega) (by omega)) (wd95 hw) (wd94 hw) (by decide) (argsL := [(.ref b), (.int (0 : Int32)), (.int (Int32.ofNat (2 * cs.length)))]) (rest := [(.ref a)]) rfl pd_285bBII295bB rfl rfl (W := 1) rfl (by first | decide | (dsimp only; omega)) (by first | decide | (dsimp only; omega)) (by first | decide | (dsimp only; omega)) (by first | decide | (dsimp only; omega)) d_jdk_42_m150_91 rfl ?_
    intro T132 h132 L132 v132 K132 q132
    obtain ⟨c132, kc132, rfl, gc132, X132, V132⟩ := q132
    show G (T132.setTop (mkF m 94 #[.val (.ref a), .val (.ref x), .val .null, .val (.ref b), .val (.int (Int32.ofNat cs.length))] [(.ref c132), (.ref a)]))
    refine own_putF K132 (host := "") (Or.inl (wd24 hw)) Via.refl ((F1.other W131 (Or.inr (slot_ne (Or.inr (wd20 hw)) (Or.inr (wd21 hw)) (by decide) (t := (.array .byte)) (t' := .byte) (by decide) (by decide)))).ext X132) ((E.wr W131).ext X132) (Or.inr ⟨(wd20 hw), rfl, rfl⟩) (wd5 hw) (ty := (.array .byte)) (by decide) rfl rfl gx d_jdk_42_m150_94 rfl ?_
    intro T133 h133 K133 W133
    have hca : c132 ≠ a := Nat.ne_of_gt (Nat.lt_of_lt_of_le (E.wr W131).lt (Nat.le_of_eq gc132.symm))
    exact own_ret0 K133 d_jdk_42_m150_97 rfl (by first | decide | (dsimp only; omega)) (by first | decide | (dsimp only; omega)) ⟨rfl, (((Keep.refl h0 [a]).wr W131 (Or.inl (List.mem_singleton.mpr rfl))).ext X132).wr W133 (Or.inl (List.mem_singleton.mpr rfl)), ((E.wr W131).ext X132).wr W133, ((F2.same W131).ext X132).other W133 (Or.inr (slot_ne (Or.inr (wd21 hw)) (Or.inr (wd20 hw)) (by decide) (t := .byte) (t' := (.array .byte)) (by decide) (by decide))), c132, kc132, ((F1.other W131 (Or.inr (slot_ne (Or.inr (wd20 hw)) (Or.inr (wd21 hw)) (by decide) (t := (.array .byte)) (t' := .byte) (by decide) (by decide)))).ext X132).same W133, V132.other W133 hca⟩
theorem d_jdk_42_m53_0 : decode jdk_42_method_53_code 0 = .ok (.aload_n 0, 1) := by decide +kernel
theorem d_jdk_42_m53_1 : decode jdk_42_method_53_code 1 = .ok (.aload_n 1, 1) := by decide +kernel
theorem d_jdk_42_m53_2 : decode jdk_42_method_53_code 2 = .ok (.aconst_null, 1) := by decide +kernel
theorem d_jdk_42_m53_3 : decode jdk_42_method_53_code 3 = .ok (.invokespecial 489, 3) := by decide +kernel
theorem wd70 {a0 : Array Value} {Z : State} (hw : ∀ d ∈ tables_1, d.before a0 Z = true) : (Jvm.Cond.code ({ cls := "java/lang/String", name := "<init>", desc := "(Ljava/lang/AbstractStringBuilder;Ljava/lang/Void;)V" } : Jvm.MethodName) jdk_42_method_150_code (5 : Nat) (Option.none : Option Jvm.ClassFile.FieldType)).before a0 Z = true := hw _ (List.mem_of_getElem? (i := 70) rfl)
theorem pd_28Ljava2flang2fAbstractStringBuilder3bLjava2flang2fVoid3b29V : parseMethodDescriptor "(Ljava/lang/AbstractStringBuilder;Ljava/lang/Void;)V" = some ⟨[(.object "java/lang/AbstractStringBuilder"), (.object "java/lang/Void")], none⟩ := by decide +kernel
theorem wd68 {a0 : Array Value} {Z : State} (hw : ∀ d ∈ tables_1, d.before a0 Z = true) : (Jvm.Cond.methodLink "java/lang/String" (489 : Nat) ({ cls := "java/lang/String", name := "<init>", desc := "(Ljava/lang/AbstractStringBuilder;Ljava/lang/Void;)V" } : Jvm.MethodName)).before a0 Z = true := hw _ (List.mem_of_getElem? (i := 68) rfl)
theorem wd69 {a0 : Array Value} {Z : State} (hw : ∀ d ∈ tables_1, d.before a0 Z = true) : (Jvm.Cond.instanceMethod ({ cls := "java/lang/String", name := "<init>", desc := "(Ljava/lang/AbstractStringBuilder;Ljava/lang/Void;)V" } : Jvm.MethodName)).before a0 Z = true := hw _ (List.mem_of_getElem? (i := 69) rfl)
theorem d_jdk_42_m53_6 : decode jdk_42_method_53_code 6 = .ok (.return_, 1) := by decide +kernel
set_option maxRecDepth 65536 in
set_option maxHeartbeats 40000000 in
theorem rm_strSB {l : Launch} {Z : State} {a0 : Array Value} (hw : ∀ d ∈ tables_1, d.before a0 Z = true) (hs : ∀ d ∈ jdkStatics_1, d.before a0 Z = true) {a : Addr} {u1 : Value} {u2 : Value} {x : Addr} {u : Bool} {cs : List Int32} {b : Addr} {kb : ClassId} {N : Nat} {cap : Nat} {h0 : Heap} (O0 : Ext Z.heap h0) (E : Exa Z h0 a "java/lang/String") (F1 : Fld Z h0 a "java/lang/String" "value" "[B" u1) (F2 : Fld Z h0 a "java/lang/String" "coder" "B" u2) (gx : Z.heap.size ≤ a) (B : own_SB Z h0 x u cs.length cs b kb N) (hne : a ≠ b) (hlt : cs.length < N) (hcap : 2 * cs.length ≤ cap) (hcap2 : cap ≤ 4000) :
    own_Ct l Z (⟨"java/lang/String", "<init>", "(Ljava/lang/StringBuilder;)V"⟩ : MethodName) jdk_42_method_53_code 2 none [] ({ frames := 4, locals := 87, cells := 1, slots := cap } : Room) #[(.ref a), (.ref x)] h0 (fun v h => v = none ∧ Keep h0 h [a] ∧ own_StrG Z h a u cs) := by
  refine own_body (Ls := #[.val (.ref a), .val (.ref x)]) (plainFor_of_name pn_java_lang_String) (fun m => by first | (simp [entryFrame, mkF, argsToLocals, Value.category]; done) | rfl) O0 ?_
  intro p e s m below meth c T0 G K0
  refine own_aloadN K0 d_jdk_42_m53_0 rfl rfl rfl ?_
  refine own_aloadN K0 d_jdk_42_m53_1 rfl rfl rfl ?_
  refine own_aconstNull K0 d_jdk_42_m53_2 rfl ?_
  refine own_callI K0 (a := a) (wd68 hw) (wd69 hw) (rm_strASB hw hs (cap := cap) K0.O E F1 F2 gx B hne hlt hcap hcap2) (wd70 hw) (wd6 hw) (by decide) rfl (argsL := [(.ref x), .null]) (rest := []) rfl pd_28Ljava2flang2fAbstractStringBuilder3bLjava2flang2fVoid3b29V rfl rfl (W := 0) rfl (by first | decide | (dsimp only; omega)) (by first | decide | (dsimp only; omega)) (by first | decide | (dsimp only; omega)) (by first | decide | (dsimp only; omega)) d_jdk_42_m53_3 rfl ?_
  intro T134 h134 L134 v134 K134 q134
  obtain ⟨rfl, q134⟩ := q134
  show G (T134.setTop (mkF m 6 #[.val (.ref a), .val (.ref x)] []))
  exact own_ret0 K134 d_jdk_42_m53_6 rfl (by first | decide | (dsimp only; omega)) (by first | decide | (dsimp only; omega)) ⟨rfl, q134⟩
theorem d_jdk_67_m42_0 : decode jdk_67_method_42_code 0 = .ok (.new 18, 3) := by decide +kernel
theorem wd64 {a0 : Array Value} {Z : State} (hw : ∀ d ∈ tables_1, d.before a0 Z = true) : (Jvm.Cond.classLink "java/lang/StringBuilder" (18 : Nat) "java/lang/String").before a0 Z = true := hw _ (List.mem_of_getElem? (i := 64) rfl)
theorem d_jdk_67_m42_3 : decode jdk_67_method_42_code 3 = .ok (.dup, 1) := by decide +kernel
theorem d_jdk_67_m42_4 : decode jdk_67_method_42_code 4 = .ok (.aload_n 0, 1) := by decide +kernel
theorem d_jdk_67_m42_5 : decode jdk_67_method_42_code 5 = .ok (.invokespecial 137, 3) := by decide +kernel
theorem wd67 {a0 : Array Value} {Z : State} (hw : ∀ d ∈ tables_1, d.before a0 Z = true) : (Jvm.Cond.code ({ cls := "java/lang/String", name := "<init>", desc := "(Ljava/lang/StringBuilder;)V" } : Jvm.MethodName) jdk_42_method_53_code (2 : Nat) (Option.none : Option Jvm.ClassFile.FieldType)).before a0 Z = true := hw _ (List.mem_of_getElem? (i := 67) rfl)
theorem pd_28Ljava2flang2fStringBuilder3b29V : parseMethodDescriptor "(Ljava/lang/StringBuilder;)V" = some ⟨[(.object "java/lang/StringBuilder")], none⟩ := by decide +kernel
theorem wd65 {a0 : Array Value} {Z : State} (hw : ∀ d ∈ tables_1, d.before a0 Z = true) : (Jvm.Cond.methodLink "java/lang/StringBuilder" (137 : Nat) ({ cls := "java/lang/String", name := "<init>", desc := "(Ljava/lang/StringBuilder;)V" } : Jvm.MethodName)).before a0 Z = true := hw _ (List.mem_of_getElem? (i := 65) rfl)
theorem wd66 {a0 : Array Value} {Z : State} (hw : ∀ d ∈ tables_1, d.before a0 Z = true) : (Jvm.Cond.instanceMethod ({ cls := "java/lang/String", name := "<init>", desc := "(Ljava/lang/StringBuilder;)V" } : Jvm.MethodName)).before a0 Z = true := hw _ (List.mem_of_getElem? (i := 66) rfl)
theorem d_jdk_67_m42_8 : decode jdk_67_method_42_code 8 = .ok (.areturn, 1) := by decide +kernel
set_option maxRecDepth 65536 in
set_option maxHeartbeats 40000000 in
theorem rm_toString {l : Launch} {Z : State} {a0 : Array Value} (hw : ∀ d ∈ tables_1, d.before a0 Z = true) (hs : ∀ d ∈ jdkStatics_1, d.before a0 Z = true) {x : Addr} {u : Bool} {cs : List Int32} {b : Addr} {kb : ClassId} {N : Nat} {cap : Nat} {h0 : Heap} (O0 : Ext Z.heap h0) (B : own_SB Z h0 x u cs.length cs b kb N) (hlt : cs.length < N) (hcap : 2 * cs.length ≤ cap) (hcap2 : cap ≤ 4000) :
    own_Ct l Z (⟨"java/lang/StringBuilder", "toString", "()Ljava/lang/String;"⟩ : MethodName) jdk_67_method_42_code 1 (some (.object "java/lang/String")) [] ({ frames := 5, locals := 101, cells := 2, slots := 4 + cap } : Room) #[(.ref x)] h0 (fun v h => ∃ a : Addr, v = some (.ref a) ∧ a = h0.size ∧ Ext h0 h ∧ own_StrG Z h a u cs) := by
  refine own_body (Ls := #[.val (.ref x)]) (plainFor_of_name pn_java_lang_StringBuilder) (fun m => by first | (simp [entryFrame, mkF, argsToLocals, Value.category]; done) | rfl) O0 ?_
  intro p e s m below meth c T0 G K0
  refine own_newO K0 (wd64 hw) (wd5 hw) (wd6 hw) d_jdk_67_m42_0 (by first | decide | (dsimp only; omega)) (by first | decide | (dsimp only; omega)) rfl ?_
  intro T135 h135 a135 K135 g135 E135 A135 D135 U135
  have F_value_135 : Fld Z h135 a135 "java/lang/String" "value" "[B" .null := D135 (Or.inr (wd20 hw)) (ty := (.array .byte)) (by decide)
  have F_coder_135 : Fld Z h135 a135 "java/lang/String" "coder" "B" (.int (0 : Int32)) := D135 (Or.inr (wd21 hw)) (ty := .byte) (by decide)
  refine own_dup K135 d_jdk_67_m42_3 rfl rfl ?_
  refine own_aloadN K135 d_jdk_67_m42_4 rfl rfl rfl ?_
  have gy : Z.heap.size ≤ a135 := by rw [g135]; exact K0.O.1
  have hne : a135 ≠ b := Nat.ne_of_gt (Nat.lt_of_lt_of_le B.lt.2 (Nat.le_of_eq g135.symm))
  refine own_callI K135 (a := a135) (wd65 hw) (wd66 hw) (rm_strSB hw hs (cap := cap) K135.O A135 F_value_135 F_coder_135 gy (B.ext E135) hne hlt hcap hcap2) (wd67 hw) (wd6 hw) (by decide) rfl (argsL := [(.ref x)]) (rest := [(.ref a135)]) rfl pd_28Ljava2flang2fStringBuilder3b29V rfl rfl (W := 1) rfl (by first | decide | (dsimp only; omega)) (by first | decide | (dsimp only; omega)) (by first | decide | (dsimp only; omega)) (by first | decide | (dsimp only; omega)) d_jdk_67_m42_5 rfl ?_
  intro T136 h136 L136 v136 K136 q136
  obtain ⟨rfl, Kp136, S136⟩ := q136
  show G (T136.setTop (mkF m 8 #[.val (.ref x)] [(.ref a135)]))
  exact own_retA K136 d_jdk_67_m42_8 rfl rfl rfl rfl (by first | decide | (dsimp only; omega)) (by first | decide | (dsimp only; omega)) ⟨a135, rfl, g135, own_ext_keep E135 Kp136 (fun y q => by cases List.mem_singleton.mp q; exact Nat.le_of_eq g135.symm), S136⟩
theorem wd18 {a0 : Array Value} {Z : State} (hw : ∀ d ∈ tables_1, d.before a0 Z = true) : (Jvm.Cond.stringLink "java/lang/String" (7 : Nat) "").before a0 Z = true := hw _ (List.mem_of_getElem? (i := 18) rfl)
theorem wd256 {a0 : Array Value} {Z : State} (hw : ∀ d ∈ tables_1, d.before a0 Z = true) : (Jvm.Cond.stringLink "com/example/reevemark/reevemark/connectors/ldap/LdapEscape" (41 : Nat) "\\5c").before a0 Z = true := hw _ (List.mem_of_getElem? (i := 256) rfl)
theorem wd201 {a0 : Array Value} {Z : State} (hw : ∀ d ∈ tables_1, d.before a0 Z = true) : (Jvm.Cond.stringLink "com/example/reevemark/reevemark/connectors/ldap/LdapEscape" (39 : Nat) "\\29").before a0 Z = true := hw _ (List.mem_of_getElem? (i := 201) rfl)
theorem wd260 {a0 : Array Value} {Z : State} (hw : ∀ d ∈ tables_1, d.before a0 Z = true) : (Jvm.Cond.stringLink "com/example/reevemark/reevemark/connectors/ldap/LdapEscape" (37 : Nat) "\\28").before a0 Z = true := hw _ (List.mem_of_getElem? (i := 260) rfl)
theorem wd173 {a0 : Array Value} {Z : State} (hw : ∀ d ∈ tables_1, d.before a0 Z = true) : (Jvm.Cond.stringLink "com/example/reevemark/reevemark/connectors/ldap/LdapEscape" (35 : Nat) "\\2a").before a0 Z = true := hw _ (List.mem_of_getElem? (i := 173) rfl)
theorem wd261 {a0 : Array Value} {Z : State} (hw : ∀ d ∈ tables_1, d.before a0 Z = true) : (Jvm.Cond.stringLink "com/example/reevemark/reevemark/connectors/ldap/LdapEscape" (26 : Nat) "\\00").before a0 Z = true := hw _ (List.mem_of_getElem? (i := 261) rfl)
theorem own_EL {a0 : Array Value} {Z : State} (hw : ∀ d ∈ tables_1, d.before a0 Z = true) : EW Z a0 consts_1 := (EW.cons (wd261 hw) (by decide +kernel) (EW.cons (wd173 hw) (by decide +kernel) (EW.cons (wd260 hw) (by decide +kernel) (EW.cons (wd201 hw) (by decide +kernel) (EW.cons (wd256 hw) (by decide +kernel) (EW.cons (wd18 hw) (by decide +kernel) EW.nil))))))
theorem own_strA {a0 : Array Value} {Z : State} (hw : ∀ d ∈ tables_1, d.before a0 Z = true) : ∀ a ∈ Bundle.stringAtoms, a.before a0 Z = true := by
  have q : ∀ a ∈ Bundle.stringAtoms, a ∈ tables_1 := by decide +kernel
  exact fun a ha => hw a (q a ha)
theorem d_jdk_42_m149_0 : decode jdk_42_method_149_code 0 = .ok (.aload_n 0, 1) := by decide +kernel
theorem d_jdk_42_m149_1 : decode jdk_42_method_149_code 1 = .ok (.invokespecial 1, 3) := by decide +kernel
theorem d_jdk_42_m149_4 : decode jdk_42_method_149_code 4 = .ok (.iload_n 3, 1) := by decide +kernel
theorem d_jdk_42_m149_5 : decode jdk_42_method_149_code 5 = .ok (.ifCond .ne 22, 3) := by decide +kernel
theorem d_jdk_42_m149_8 : decode jdk_42_method_149_code 8 = .ok (.aload_n 0, 1) := by decide +kernel
theorem own_mem_java_lang_String_7 : (("java/lang/String", 7) : String × Nat) ∈ consts_1 := by decide +kernel
theorem d_jdk_42_m149_9 : decode jdk_42_method_149_code 9 = .ok (.ldc 7, 2) := by decide +kernel
theorem d_jdk_42_m149_11 : decode jdk_42_method_149_code 11 = .ok (.getfield 9, 3) := by decide +kernel
theorem d_jdk_42_m149_14 : decode jdk_42_method_149_code 14 = .ok (.putfield 9, 3) := by decide +kernel
theorem d_jdk_42_m149_17 : decode jdk_42_method_149_code 17 = .ok (.aload_n 0, 1) := by decide +kernel
theorem d_jdk_42_m149_18 : decode jdk_42_method_149_code 18 = .ok (.ldc 7, 2) := by decide +kernel
theorem d_jdk_42_m149_20 : decode jdk_42_method_149_code 20 = .ok (.getfield 15, 3) := by decide +kernel
theorem d_jdk_42_m149_23 : decode jdk_42_method_149_code 23 = .ok (.putfield 15, 3) := by decide +kernel
theorem d_jdk_42_m149_26 : decode jdk_42_method_149_code 26 = .ok (.return_, 1) := by decide +kernel
set_option maxRecDepth 65536 in
set_option maxHeartbeats 40000000 in
theorem rm_initC4E {l : Launch} {Z : State} {a0 : Array Value} (hw : ∀ d ∈ tables_1, d.before a0 Z = true) (hs : ∀ d ∈ jdkStatics_1, d.before a0 Z = true) {x : Addr} {a : Addr} {h0 : Heap} (O0 : Ext Z.heap h0) (E : Exa Z h0 x "java/lang/String") (F1 : Fld Z h0 x "java/lang/String" "value" "[B" .null) (F2 : Fld Z h0 x "java/lang/String" "coder" "B" (.int 0)) (gx : Z.heap.size ≤ x) :
    own_CtW l Z consts_1 true false (⟨"java/lang/String", "<init>", "([CIILjava/lang/Void;)V"⟩ : MethodName) jdk_42_method_149_code 6 none [] ({ frames := 1, locals := 12, cells := 4, slots := 8 } : Room) #[(.ref x), (.ref a), (.int 0), (.int 0), .null] h0 (fun v h => v = none ∧ Keep h0 h [x] ∧ own_StrG Z h x false []) := by
  refine own_bodyW (Ls := #[.val (.ref x), .val (.ref a), .val (.int 0), .val (.int 0), .val .null, .unset]) (own_EL hw) (plainFor_of_name pn_java_lang_String) (fun m => by first | (simp [entryFrame, mkF, argsToLocals, Value.category]; done) | rfl) O0 ?_
  intro p e s m below meth c T0 G hkn hs0 W0
  refine own_aloadN W0.K d_jdk_42_m149_0 rfl rfl rfl ?_
  refine own_initO W0.K (W := 0) (wd15 hw) (wd16 hw) (wd17 hw) rfl rfl (by decide) (by decide) d_jdk_42_m149_1 rfl ?_
  intro T137 K137
  refine own_iloadN K137 d_jdk_42_m149_4 rfl rfl ?_
  refine own_ifNo K137 d_jdk_42_m149_5 rfl ((if0 _ _).trans (teq rfl).2) ?_
  refine own_aloadN K137 d_jdk_42_m149_8 rfl rfl rfl ?_
  have W138 := W0.same K137
  have s0 : Safe Z consts_1 _ h0 x := own_safe_null W138.hZ.alike E F1
  refine own_ldcC W138 (own_EL hw) (vs := own_by ([] : List Int32)) (z := Int32.ofNat ([] : List Int32).length) (nn := 0) own_mem_java_lang_String_7 (wd18 hw) (own_strA hw) ⟨by decide +kernel, by decide +kernel⟩ (by decide) (by decide) (by decide) (by decide) (by decide) (by decide) d_jdk_42_m149_9 rfl ?_
  intro T139 h139 k1_139 a139 b139 kb139 W139 E139 C139 ES139 FC139 FV139 VS139 sf139
  refine own_getF W139.K (host := "") (Or.inl (wd24 hw)) Via.refl FV139 d_jdk_42_m149_11 rfl ?_
  intro T140 K140
  have W141 := W139.same K140
  have s1 := C139.safe E.lt s0
  refine own_putF W141.K (host := "") (Or.inl (wd24 hw)) Via.refl (F1.ext E139) (E.ext E139) (Or.inr ⟨(wd20 hw), rfl, rfl⟩) (wd5 hw) (ty := (.array .byte)) (by decide) rfl rfl gx d_jdk_42_m149_14 rfl ?_
  intro T142 h142 K142 W142
  have W143 := W141.wr K142 W142 s1
  have s2 := Safe.wr W142 s1 W141.C.1 s1
  refine own_aloadN W143.K d_jdk_42_m149_17 rfl rfl rfl ?_
  refine own_ldcC W143 (own_EL hw) (vs := own_by ([] : List Int32)) (z := Int32.ofNat ([] : List Int32).length) (nn := 0) own_mem_java_lang_String_7 (wd18 hw) (own_strA hw) ⟨by decide +kernel, by decide +kernel⟩ (by decide) (by decide) (by decide) (by decide) (by decide) (by decide) d_jdk_42_m149_18 rfl ?_
  intro T144 h144 k1_144 a144 b144 kb144 W144 E144 C144 ES144 FC144 FV144 VS144 sf144
  refine own_getF W144.K (host := "") (Or.inl (wd25 hw)) Via.refl FC144 d_jdk_42_m149_20 rfl ?_
  intro T145 K145
  have W146 := W144.same K145
  have s3 := C144.safe ((E.ext E139).wr W142).lt s2
  have F3 := ((F2.ext E139).other W142 (Or.inr (slot_ne (Or.inr (wd21 hw)) (Or.inr (wd20 hw)) (by decide) (t := .byte) (t' := (.array .byte)) (by decide) (by decide)))).ext E144
  have E3 := ((E.ext E139).wr W142).ext E144
  refine own_putFN W146.K (wd25 hw) Via.refl F3 E3 (Or.inr ⟨(wd21 hw), rfl, rfl⟩) (wd5 hw) (ty := .byte) (v' := .int 0) (by decide) rfl rfl gx d_jdk_42_m149_23 rfl ?_
  intro T147 h147 K147 W147
  have W148 := W146.wr K147 W147 s3
  have hbx : x ≠ b139 := (sf139 x s1).2
  exact own_ret0 W148.K d_jdk_42_m149_26 rfl (by decide) (by decide) ⟨⟨⟨rfl, ((((Keep.refl h0 [x]).ext E139).wr W142 (Or.inl (List.mem_singleton.mpr rfl))).ext E144).wr W147 (Or.inl (List.mem_singleton.mpr rfl)), E3.wr W147, F3.same W147, b139, kb139, ((((F1.ext E139).same W142).ext E144)).other W147 (Or.inr (slot_ne (Or.inr (wd20 hw)) (Or.inr (wd21 hw)) (by decide) (t := (.array .byte)) (t' := .byte) (by decide) (by decide))), ((VS139.other W142 hbx.symm).ext E144).other W147 hbx.symm⟩, W148.le⟩, fun _ => W148.C⟩
theorem d_jdk_42_m3_0 : decode jdk_42_method_3_code 0 = .ok (.aload_n 0, 1) := by decide +kernel
theorem d_jdk_42_m3_1 : decode jdk_42_method_3_code 1 = .ok (.aload_n 1, 1) := by decide +kernel
theorem d_jdk_42_m3_2 : decode jdk_42_method_3_code 2 = .ok (.iconst 0, 1) := by decide +kernel
theorem d_jdk_42_m3_3 : decode jdk_42_method_3_code 3 = .ok (.aload_n 1, 1) := by decide +kernel
theorem d_jdk_42_m3_4 : decode jdk_42_method_3_code 4 = .ok (.arraylength, 1) := by decide +kernel
theorem d_jdk_42_m3_5 : decode jdk_42_method_3_code 5 = .ok (.aconst_null, 1) := by decide +kernel
theorem d_jdk_42_m3_6 : decode jdk_42_method_3_code 6 = .ok (.invokespecial 27, 3) := by decide +kernel
theorem wd14 {a0 : Array Value} {Z : State} (hw : ∀ d ∈ tables_1, d.before a0 Z = true) : (Jvm.Cond.code ({ cls := "java/lang/String", name := "<init>", desc := "([CIILjava/lang/Void;)V" } : Jvm.MethodName) jdk_42_method_149_code (6 : Nat) (Option.none : Option Jvm.ClassFile.FieldType)).before a0 Z = true := hw _ (List.mem_of_getElem? (i := 14) rfl)
theorem pd_285bCIILjava2flang2fVoid3b29V : parseMethodDescriptor "([CIILjava/lang/Void;)V" = some ⟨[(.array .char), .int, .int, (.object "java/lang/Void")], none⟩ := by decide +kernel
theorem wd11 {a0 : Array Value} {Z : State} (hw : ∀ d ∈ tables_1, d.before a0 Z = true) : (Jvm.Cond.methodLink "java/lang/String" (27 : Nat) ({ cls := "java/lang/String", name := "<init>", desc := "([CIILjava/lang/Void;)V" } : Jvm.MethodName)).before a0 Z = true := hw _ (List.mem_of_getElem? (i := 11) rfl)
theorem wd12 {a0 : Array Value} {Z : State} (hw : ∀ d ∈ tables_1, d.before a0 Z = true) : (Jvm.Cond.instanceMethod ({ cls := "java/lang/String", name := "<init>", desc := "([CIILjava/lang/Void;)V" } : Jvm.MethodName)).before a0 Z = true := hw _ (List.mem_of_getElem? (i := 12) rfl)
theorem d_jdk_42_m3_9 : decode jdk_42_method_3_code 9 = .ok (.return_, 1) := by decide +kernel
set_option maxRecDepth 65536 in
set_option maxHeartbeats 40000000 in
theorem rm_initCE {l : Launch} {Z : State} {a0 : Array Value} (hw : ∀ d ∈ tables_1, d.before a0 Z = true) (hs : ∀ d ∈ jdkStatics_1, d.before a0 Z = true) {x : Addr} {a : Addr} {ka : ClassId} {vs : List Value} {dv : Value} {h0 : Heap} (O0 : Ext Z.heap h0) (E : Exa Z h0 x "java/lang/String") (F1 : Fld Z h0 x "java/lang/String" "value" "[B" .null) (F2 : Fld Z h0 x "java/lang/String" "coder" "B" (.int 0)) (gx : Z.heap.size ≤ x) (A : Arv Z h0 a ka .char 0 vs dv) :
    own_CtW l Z consts_1 true false (⟨"java/lang/String", "<init>", "([C)V"⟩ : MethodName) jdk_42_method_3_code 2 none [] ({ frames := 2, locals := 29, cells := 4, slots := 8 } : Room) #[(.ref x), (.ref a)] h0 (fun v h => v = none ∧ Keep h0 h [x] ∧ own_StrG Z h x false []) := by
  refine own_bodyW (Ls := #[.val (.ref x), .val (.ref a)]) (own_EL hw) (plainFor_of_name pn_java_lang_String) (fun m => by first | (simp [entryFrame, mkF, argsToLocals, Value.category]; done) | rfl) O0 ?_
  intro p e s m below meth c T0 G hkn hs0 W0
  refine own_aloadN W0.K d_jdk_42_m3_0 rfl rfl rfl ?_
  refine own_aloadN W0.K d_jdk_42_m3_1 rfl rfl rfl ?_
  refine own_iconst W0.K (v := (0 : Int32)) d_jdk_42_m3_2 rfl rfl ?_
  refine own_aloadN W0.K d_jdk_42_m3_3 rfl rfl rfl ?_
  refine own_arraylength W0.K A d_jdk_42_m3_4 rfl ?_
  refine own_aconstNull W0.K d_jdk_42_m3_5 rfl ?_
  refine own_callIW W0 (own_EL hw) (kn := false) (fun q => nomatch q) (a := x) (wd11 hw) (wd12 hw) (rm_initC4E hw hs W0.K.O E F1 F2 gx) (wd14 hw) (wd6 hw) (by decide) rfl (argsL := [(.ref a), (.int (0 : Int32)), (.int (0 : Int32)), .null]) (rest := []) rfl pd_285bCIILjava2flang2fVoid3b29V rfl rfl (Wd := 0) rfl (by decide) (by decide) (by decide) (by decide) d_jdk_42_m3_6 rfl ?_
  intro T149 h149 L149 v149 k1_149 W149 C149 q149
  obtain ⟨rfl, q149⟩ := q149
  show G (T149.setTop (mkF m 9 #[.val (.ref x), .val (.ref a)] []))
  exact own_ret0 W149.K d_jdk_42_m3_9 rfl (by decide) (by decide) ⟨⟨⟨rfl, q149⟩, W149.le⟩, fun _ => W149.C⟩
theorem d_prog_3_m3_17 : decode prog_3_method_3_code 17 = .ok (.iload_n 2, 1) := by decide +kernel
theorem d_prog_3_m3_18 : decode prog_3_method_3_code 18 = .ok (.aload_n 0, 1) := by decide +kernel
theorem d_prog_3_m3_19 : decode prog_3_method_3_code 19 = .ok (.invokevirtual 9, 3) := by decide +kernel
theorem wd33 {a0 : Array Value} {Z : State} (hw : ∀ d ∈ tables_1, d.before a0 Z = true) : (Jvm.Cond.methodLink "com/example/reevemark/reevemark/connectors/ldap/LdapEscape" (9 : Nat) ({ cls := "java/lang/String", name := "length", desc := "()I" } : Jvm.MethodName)).before a0 Z = true := hw _ (List.mem_of_getElem? (i := 33) rfl)
theorem d_prog_3_m3_22 : decode prog_3_method_3_code 22 = .ok (.if_icmp .ge 124, 3) := by decide +kernel
theorem d_prog_3_m3_146 : decode prog_3_method_3_code 146 = .ok (.aload_n 1, 1) := by decide +kernel
theorem d_prog_3_m3_147 : decode prog_3_method_3_code 147 = .ok (.invokevirtual 31, 3) := by decide +kernel
theorem wd63 {a0 : Array Value} {Z : State} (hw : ∀ d ∈ tables_1, d.before a0 Z = true) : (Jvm.Cond.code ({ cls := "java/lang/StringBuilder", name := "toString", desc := "()Ljava/lang/String;" } : Jvm.MethodName) jdk_67_method_42_code (1 : Nat) (Option.some (Jvm.ClassFile.FieldType.object "java/lang/String"))).before a0 Z = true := hw _ (List.mem_of_getElem? (i := 63) rfl)
theorem pd_2829Ljava2flang2fString3b : parseMethodDescriptor "()Ljava/lang/String;" = some ⟨[], some (.object "java/lang/String")⟩ := by decide +kernel
theorem wd62 {a0 : Array Value} {Z : State} (hw : ∀ d ∈ tables_1, d.before a0 Z = true) : (Jvm.Cond.selects "java/lang/StringBuilder" ({ cls := "java/lang/StringBuilder", name := "toString", desc := "()Ljava/lang/String;" } : Jvm.MethodName) ({ cls := "java/lang/StringBuilder", name := "toString", desc := "()Ljava/lang/String;" } : Jvm.MethodName)).before a0 Z = true := hw _ (List.mem_of_getElem? (i := 62) rfl)
theorem wd59 {a0 : Array Value} {Z : State} (hw : ∀ d ∈ tables_1, d.before a0 Z = true) : (Jvm.Cond.methodLink "com/example/reevemark/reevemark/connectors/ldap/LdapEscape" (31 : Nat) ({ cls := "java/lang/StringBuilder", name := "toString", desc := "()Ljava/lang/String;" } : Jvm.MethodName)).before a0 Z = true := hw _ (List.mem_of_getElem? (i := 59) rfl)
theorem wd60 {a0 : Array Value} {Z : State} (hw : ∀ d ∈ tables_1, d.before a0 Z = true) : (Jvm.Cond.declares ({ cls := "java/lang/StringBuilder", name := "toString", desc := "()Ljava/lang/String;" } : Jvm.MethodName)).before a0 Z = true := hw _ (List.mem_of_getElem? (i := 60) rfl)
theorem wd61 {a0 : Array Value} {Z : State} (hw : ∀ d ∈ tables_1, d.before a0 Z = true) : (Jvm.Cond.instanceMethod ({ cls := "java/lang/StringBuilder", name := "toString", desc := "()Ljava/lang/String;" } : Jvm.MethodName)).before a0 Z = true := hw _ (List.mem_of_getElem? (i := 61) rfl)
theorem d_prog_3_m3_150 : decode prog_3_method_3_code 150 = .ok (.areturn, 1) := by decide +kernel
theorem d_prog_3_m3_25 : decode prog_3_method_3_code 25 = .ok (.aload_n 0, 1) := by decide +kernel
theorem d_prog_3_m3_26 : decode prog_3_method_3_code 26 = .ok (.iload_n 2, 1) := by decide +kernel
theorem d_prog_3_m3_27 : decode prog_3_method_3_code 27 = .ok (.invokevirtual 18, 3) := by decide +kernel
theorem wd137 {a0 : Array Value} {Z : State} (hw : ∀ d ∈ tables_1, d.before a0 Z = true) : (Jvm.Cond.code ({ cls := "java/lang/String", name := "charAt", desc := "(I)C" } : Jvm.MethodName) jdk_42_method_56_code (2 : Nat) (Option.some Jvm.ClassFile.FieldType.char)).before a0 Z = true := hw _ (List.mem_of_getElem? (i := 137) rfl)
theorem pd_28I29C : parseMethodDescriptor "(I)C" = some ⟨[.int], some .char⟩ := by decide +kernel
theorem wd133 {a0 : Array Value} {Z : State} (hw : ∀ d ∈ tables_1, d.before a0 Z = true) : (Jvm.Cond.methodLink "com/example/reevemark/reevemark/connectors/ldap/LdapEscape" (18 : Nat) ({ cls := "java/lang/String", name := "charAt", desc := "(I)C" } : Jvm.MethodName)).before a0 Z = true := hw _ (List.mem_of_getElem? (i := 133) rfl)
theorem wd134 {a0 : Array Value} {Z : State} (hw : ∀ d ∈ tables_1, d.before a0 Z = true) : (Jvm.Cond.declares ({ cls := "java/lang/String", name := "charAt", desc := "(I)C" } : Jvm.MethodName)).before a0 Z = true := hw _ (List.mem_of_getElem? (i := 134) rfl)
theorem wd136 {a0 : Array Value} {Z : State} (hw : ∀ d ∈ tables_1, d.before a0 Z = true) : (Jvm.Cond.selects "java/lang/String" ({ cls := "java/lang/String", name := "charAt", desc := "(I)C" } : Jvm.MethodName) ({ cls := "java/lang/String", name := "charAt", desc := "(I)C" } : Jvm.MethodName)).before a0 Z = true := hw _ (List.mem_of_getElem? (i := 136) rfl)
theorem wd135 {a0 : Array Value} {Z : State} (hw : ∀ d ∈ tables_1, d.before a0 Z = true) : (Jvm.Cond.instanceMethod ({ cls := "java/lang/String", name := "charAt", desc := "(I)C" } : Jvm.MethodName)).before a0 Z = true := hw _ (List.mem_of_getElem? (i := 135) rfl)
theorem d_prog_3_m3_30 : decode prog_3_method_3_code 30 = .ok (.istore_n 3, 1) := by decide +kernel
theorem d_prog_3_m3_31 : decode prog_3_method_3_code 31 = .ok (.iload_n 3, 1) := by decide +kernel
theorem d_prog_3_m3_32 : decode prog_3_method_3_code 32 = .ok (.lookupswitch 102 #[(0, 92), (40, 62), (41, 72), (42, 52), (92, 82)], 52) := by decide +kernel
theorem d_prog_3_m3_84 : decode prog_3_method_3_code 84 = .ok (.aload_n 1, 1) := by decide +kernel
theorem own_mem_com_example_reevemark_reevemark_connectors_ldap_LdapEscape_35 : (("com/example/reevemark/reevemark/connectors/ldap/LdapEscape", 35) : String × Nat) ∈ consts_1 := by decide +kernel
theorem d_prog_3_m3_85 : decode prog_3_method_3_code 85 = .ok (.ldc 35, 2) := by decide +kernel
theorem d_prog_3_m3_87 : decode prog_3_method_3_code 87 = .ok (.invokevirtual 28, 3) := by decide +kernel
theorem wd178 {a0 : Array Value} {Z : State} (hw : ∀ d ∈ tables_1, d.before a0 Z = true) : (Jvm.Cond.code ({ cls := "java/lang/StringBuilder", name := "append", desc := "(Ljava/lang/String;)Ljava/lang/StringBuilder;" } : Jvm.MethodName) jdk_67_method_7_code (2 : Nat) (Option.some (Jvm.ClassFile.FieldType.object "java/lang/StringBuilder"))).before a0 Z = true := hw _ (List.mem_of_getElem? (i := 178) rfl)
theorem pd_28Ljava2flang2fString3b29Ljava2flang2fStringBuilder3b : parseMethodDescriptor "(Ljava/lang/String;)Ljava/lang/StringBuilder;" = some ⟨[(.object "java/lang/String")], some (.object "java/lang/StringBuilder")⟩ := by decide +kernel
theorem wd174 {a0 : Array Value} {Z : State} (hw : ∀ d ∈ tables_1, d.before a0 Z = true) : (Jvm.Cond.methodLink "com/example/reevemark/reevemark/connectors/ldap/LdapEscape" (28 : Nat) ({ cls := "java/lang/StringBuilder", name := "append", desc := "(Ljava/lang/String;)Ljava/lang/StringBuilder;" } : Jvm.MethodName)).before a0 Z = true := hw _ (List.mem_of_getElem? (i := 174) rfl)
theorem wd175 {a0 : Array Value} {Z : State} (hw : ∀ d ∈ tables_1, d.before a0 Z = true) : (Jvm.Cond.declares ({ cls := "java/lang/StringBuilder", name := "append", desc := "(Ljava/lang/String;)Ljava/lang/StringBuilder;" } : Jvm.MethodName)).before a0 Z = true := hw _ (List.mem_of_getElem? (i := 175) rfl)
theorem wd177 {a0 : Array Value} {Z : State} (hw : ∀ d ∈ tables_1, d.before a0 Z = true) : (Jvm.Cond.selects "java/lang/StringBuilder" ({ cls := "java/lang/StringBuilder", name := "append", desc := "(Ljava/lang/String;)Ljava/lang/StringBuilder;" } : Jvm.MethodName) ({ cls := "java/lang/StringBuilder", name := "append", desc := "(Ljava/lang/String;)Ljava/lang/StringBuilder;" } : Jvm.MethodName)).before a0 Z = true := hw _ (List.mem_of_getElem? (i := 177) rfl)
theorem wd176 {a0 : Array Value} {Z : State} (hw : ∀ d ∈ tables_1, d.before a0 Z = true) : (Jvm.Cond.instanceMethod ({ cls := "java/lang/StringBuilder", name := "append", desc := "(Ljava/lang/String;)Ljava/lang/StringBuilder;" } : Jvm.MethodName)).before a0 Z = true := hw _ (List.mem_of_getElem? (i := 176) rfl)
theorem d_prog_3_m3_90 : decode prog_3_method_3_code 90 = .ok (.pop, 1) := by decide +kernel
theorem d_prog_3_m3_91 : decode prog_3_method_3_code 91 = .ok (.goto 49, 3) := by decide +kernel
theorem d_prog_3_m3_140 : decode prog_3_method_3_code 140 = .ok (.iinc 2 1, 3) := by decide +kernel
theorem d_prog_3_m3_143 : decode prog_3_method_3_code 143 = .ok (.goto (-126), 3) := by decide +kernel
theorem d_prog_3_m3_94 : decode prog_3_method_3_code 94 = .ok (.aload_n 1, 1) := by decide +kernel
theorem own_mem_com_example_reevemark_reevemark_connectors_ldap_LdapEscape_37 : (("com/example/reevemark/reevemark/connectors/ldap/LdapEscape", 37) : String × Nat) ∈ consts_1 := by decide +kernel
theorem d_prog_3_m3_95 : decode prog_3_method_3_code 95 = .ok (.ldc 37, 2) := by decide +kernel
theorem d_prog_3_m3_97 : decode prog_3_method_3_code 97 = .ok (.invokevirtual 28, 3) := by decide +kernel
theorem d_prog_3_m3_100 : decode prog_3_method_3_code 100 = .ok (.pop, 1) := by decide +kernel
theorem d_prog_3_m3_101 : decode prog_3_method_3_code 101 = .ok (.goto 39, 3) := by decide +kernel
theorem d_prog_3_m3_104 : decode prog_3_method_3_code 104 = .ok (.aload_n 1, 1) := by decide +kernel
theorem own_mem_com_example_reevemark_reevemark_connectors_ldap_LdapEscape_39 : (("com/example/reevemark/reevemark/connectors/ldap/LdapEscape", 39) : String × Nat) ∈ consts_1 := by decide +kernel
theorem d_prog_3_m3_105 : decode prog_3_method_3_code 105 = .ok (.ldc 39, 2) := by decide +kernel
theorem d_prog_3_m3_107 : decode prog_3_method_3_code 107 = .ok (.invokevirtual 28, 3) := by decide +kernel
theorem d_prog_3_m3_110 : decode prog_3_method_3_code 110 = .ok (.pop, 1) := by decide +kernel
theorem d_prog_3_m3_111 : decode prog_3_method_3_code 111 = .ok (.goto 29, 3) := by decide +kernel
theorem d_prog_3_m3_114 : decode prog_3_method_3_code 114 = .ok (.aload_n 1, 1) := by decide +kernel
theorem own_mem_com_example_reevemark_reevemark_connectors_ldap_LdapEscape_41 : (("com/example/reevemark/reevemark/connectors/ldap/LdapEscape", 41) : String × Nat) ∈ consts_1 := by decide +kernel
theorem d_prog_3_m3_115 : decode prog_3_method_3_code 115 = .ok (.ldc 41, 2) := by decide +kernel
theorem d_prog_3_m3_117 : decode prog_3_method_3_code 117 = .ok (.invokevirtual 28, 3) := by decide +kernel
theorem d_prog_3_m3_120 : decode prog_3_method_3_code 120 = .ok (.pop, 1) := by decide +kernel
theorem d_prog_3_m3_121 : decode prog_3_method_3_code 121 = .ok (.goto 19, 3) := by decide +kernel
theorem d_prog_3_m3_124 : decode prog_3_method_3_code 124 = .ok (.aload_n 1, 1) := by decide +kernel
theorem own_mem_com_example_reevemark_reevemark_connectors_ldap_LdapEscape_26 : (("com/example/reevemark/reevemark/connectors/ldap/LdapEscape", 26) : String × Nat) ∈ consts_1 := by decide +kernel
theorem d_prog_3_m3_125 : decode prog_3_method_3_code 125 = .ok (.ldc 26, 2) := by decide +kernel
theorem d_prog_3_m3_127 : decode prog_3_method_3_code 127 = .ok (.invokevirtual 28, 3) := by decide +kernel
theorem d_prog_3_m3_130 : decode prog_3_method_3_code 130 = .ok (.pop, 1) := by decide +kernel
theorem d_prog_3_m3_131 : decode prog_3_method_3_code 131 = .ok (.goto 9, 3) := by decide +kernel
theorem d_prog_3_m3_134 : decode prog_3_method_3_code 134 = .ok (.aload_n 1, 1) := by decide +kernel
theorem d_prog_3_m3_135 : decode prog_3_method_3_code 135 = .ok (.iload_n 3, 1) := by decide +kernel
theorem d_prog_3_m3_136 : decode prog_3_method_3_code 136 = .ok (.invokevirtual 22, 3) := by decide +kernel
theorem wd159 {a0 : Array Value} {Z : State} (hw : ∀ d ∈ tables_1, d.before a0 Z = true) : (Jvm.Cond.code ({ cls := "java/lang/StringBuilder", name := "append", desc := "(C)Ljava/lang/StringBuilder;" } : Jvm.MethodName) jdk_67_method_14_code (2 : Nat) (Option.some (Jvm.ClassFile.FieldType.object "java/lang/StringBuilder"))).before a0 Z = true := hw _ (List.mem_of_getElem? (i := 159) rfl)
theorem pd_28C29Ljava2flang2fStringBuilder3b : parseMethodDescriptor "(C)Ljava/lang/StringBuilder;" = some ⟨[.char], some (.object "java/lang/StringBuilder")⟩ := by decide +kernel
theorem wd155 {a0 : Array Value} {Z : State} (hw : ∀ d ∈ tables_1, d.before a0 Z = true) : (Jvm.Cond.methodLink "com/example/reevemark/reevemark/connectors/ldap/LdapEscape" (22 : Nat) ({ cls := "java/lang/StringBuilder", name := "append", desc := "(C)Ljava/lang/StringBuilder;" } : Jvm.MethodName)).before a0 Z = true := hw _ (List.mem_of_getElem? (i := 155) rfl)
theorem wd156 {a0 : Array Value} {Z : State} (hw : ∀ d ∈ tables_1, d.before a0 Z = true) : (Jvm.Cond.declares ({ cls := "java/lang/StringBuilder", name := "append", desc := "(C)Ljava/lang/StringBuilder;" } : Jvm.MethodName)).before a0 Z = true := hw _ (List.mem_of_getElem? (i := 156) rfl)
theorem wd158 {a0 : Array Value} {Z : State} (hw : ∀ d ∈ tables_1, d.before a0 Z = true) : (Jvm.Cond.selects "java/lang/StringBuilder" ({ cls := "java/lang/StringBuilder", name := "append", desc := "(C)Ljava/lang/StringBuilder;" } : Jvm.MethodName) ({ cls := "java/lang/StringBuilder", name := "append", desc := "(C)Ljava/lang/StringBuilder;" } : Jvm.MethodName)).before a0 Z = true := hw _ (List.mem_of_getElem? (i := 158) rfl)
theorem wd157 {a0 : Array Value} {Z : State} (hw : ∀ d ∈ tables_1, d.before a0 Z = true) : (Jvm.Cond.instanceMethod ({ cls := "java/lang/StringBuilder", name := "append", desc := "(C)Ljava/lang/StringBuilder;" } : Jvm.MethodName)).before a0 Z = true := hw _ (List.mem_of_getElem? (i := 157) rfl)
theorem d_prog_3_m3_139 : decode prog_3_method_3_code 139 = .ok (.pop, 1) := by decide +kernel
section Lp
variable {p : Program} {l : Launch} {e : Env} {R : Room} {s : State} {m : MethodId} {args : Array Value} {below : List Frame} {meth : Method} {c : Code} {nm : String} {Q : Option Value → Heap → Prop} {G : State → Prop} {Z : State} {h0 : Heap} {vm0 : Vm} {a0 : Array Value}
set_option maxRecDepth 65536 in
set_option maxHeartbeats 40000000 in
theorem lp_filter (hw : ∀ d ∈ tables_1, d.before a0 Z = true) (hs : ∀ d ∈ jdkStatics_1, d.before a0 Z = true) (hRf : 10 ≤ R.frames) (hRl : 143 ≤ R.locals) {st x : Addr} {us : Bool} {cs : List Int32} (S : own_StrG Z h0 st us cs) (hok : own_ok us cs) (hch : own_chs cs) (hlen : cs.length ≤ 3) (gx : h0.size ≤ x) (hq : ∀ v h, (∃ a : Addr, v = some (.ref a) ∧ Ext h0 h ∧ own_StrG Z h a (own_ub cs) (own_esc cs)) → Q v h)
    (j : Nat) : ∀ (i : Nat), i + j = cs.length → ∀ {vm : Vm} {k1 : Nat} {T : State} {L : List Loc} {k n : Nat} {h : Heap} {b : Addr} {kb : ClassId} {s3 : Slot}, own_KW p l e R s m args below meth c prog_3_method_3_code "com/example/reevemark/reevemark/connectors/ldap/LdapEscape" nm 4 (some (.object "java/lang/String")) Q G Z consts_1 true vm0 h0 vm k1 T L k n h → k + 3 * j + 2 ≤ R.cells → n + 60 * j + 40 ≤ R.slots → Ext h0 h → own_SB Z h x (own_ub (cs.take i)) (own_esc (cs.take i)).length (own_esc (cs.take i)) b kb (cs.length + 8) → h0.size ≤ b → Safe Z consts_1 vm h b → One s3 → G (T.setTop (mkF m 17 #[.val (.ref st), .val (.ref x), .val (.int (Int32.ofNat i)), s3] [])) := by
  induction j with
  | zero =>
    intro i hij vm k1 T L k n h b kb s3 W0 hk hn X B gb sb hs3
    refine own_iloadN W0.K d_prog_3_m3_17 rfl rfl ?_
    refine own_aloadN W0.K d_prog_3_m3_18 rfl rfl rfl ?_
    refine own_callV W0.K (a := st) (x0 := (⟨"java/lang/String", "length", "()I"⟩ : MethodName)) (wd33 hw) (wd34 hw) (fun q => own_nfS (args := #[]) (mvT q (wd36 hw)) rfl) (wd36 hw) (wd35 hw) (rm_lengthS hw hs W0.K.O (S.ext X) (by omega)) (wd37 hw) (wd6 hw) (by decide) (S.exa.ext X) (argsL := []) (rest := [(.int (Int32.ofNat i))]) rfl pd_2829I rfl rfl (W := 1) rfl (by first | decide | (dsimp only; omega)) (by first | decide | (dsimp only; omega)) (by first | decide | (dsimp only; omega)) (by first | decide | (dsimp only; omega)) d_prog_3_m3_19 rfl ?_
    intro T150 h150 L150 v150 K150 q150
    obtain ⟨rfl, e150⟩ := q150
    have f150 := e150.symm
    subst f150
    show G (T150.setTop (mkF m 22 #[.val (.ref st), .val (.ref x), .val (.int (Int32.ofNat i)), s3] [(.int (Int32.ofNat cs.length)), (.int (Int32.ofNat i))]))
    refine own_icmpYes K150 d_prog_3_m3_22 (pc' := 146) (by decide) (by decide) (flt (own_nlt (by omega) (by omega))).2.1 ?_
    refine own_aloadN K150 d_prog_3_m3_146 rfl rfl rfl ?_
    have et : cs.take i = cs := List.take_of_length_le (by omega)
    rw [et] at B
    have hle := own_esc_len cs
    refine own_callV K150 (a := x) (x0 := (⟨"java/lang/StringBuilder", "toString", "()Ljava/lang/String;"⟩ : MethodName)) (wd59 hw) (wd60 hw) (fun q => own_nfS (args := #[]) (mvT q (wd62 hw)) rfl) (wd62 hw) (wd61 hw) (rm_toString hw hs (cap := 22) K150.O B (by omega) (by omega) (by omega)) (wd63 hw) (wd32 hw) (by decide) B.exa (argsL := []) (rest := []) rfl pd_2829Ljava2flang2fString3b rfl rfl (W := 0) rfl (by first | decide | (dsimp only; omega)) (by first | decide | (dsimp only; omega)) (by first | decide | (dsimp only; omega)) (by first | decide | (dsimp only; omega)) d_prog_3_m3_147 rfl ?_
    intro T151 h151 L151 v151 K151 q151
    obtain ⟨r151, rfl, gr151, E151, S151⟩ := q151
    show G (T151.setTop (mkF m 150 #[.val (.ref st), .val (.ref x), .val (.int (Int32.ofNat i)), s3] [(.ref r151)]))
    have W152 := W0.ext K151 E151
    exact own_retA W152.K d_prog_3_m3_150 rfl rfl rfl rfl (by first | decide | (dsimp only; omega)) (by first | decide | (dsimp only; omega)) ⟨⟨hq _ _ ⟨r151, rfl, own_ext_trans X E151, S151⟩, W152.le⟩, fun _ => W152.C⟩
  | succ j ih =>
    intro i hij vm k1 T L k n h b kb s3 W0 hk hn X B gb sb hs3
    have hin : i < cs.length := by omega
    refine own_iloadN W0.K d_prog_3_m3_17 rfl rfl ?_
    refine own_aloadN W0.K d_prog_3_m3_18 rfl rfl rfl ?_
    refine own_callV W0.K (a := st) (x0 := (⟨"java/lang/String", "length", "()I"⟩ : MethodName)) (wd33 hw) (wd34 hw) (fun q => own_nfS (args := #[]) (mvT q (wd36 hw)) rfl) (wd36 hw) (wd35 hw) (rm_lengthS hw hs W0.K.O (S.ext X) (by omega)) (wd37 hw) (wd6 hw) (by decide) (S.exa.ext X) (argsL := []) (rest := [(.int (Int32.ofNat i))]) rfl pd_2829I rfl rfl (W := 1) rfl (by first | decide | (dsimp only; omega)) (by first | decide | (dsimp only; omega)) (by first | decide | (dsimp only; omega)) (by first | decide | (dsimp only; omega)) d_prog_3_m3_19 rfl ?_
    intro T153 h153 L153 v153 K153 q153
    obtain ⟨rfl, e153⟩ := q153
    have f153 := e153.symm
    subst f153
    show G (T153.setTop (mkF m 22 #[.val (.ref st), .val (.ref x), .val (.int (Int32.ofNat i)), s3] [(.int (Int32.ofNat cs.length)), (.int (Int32.ofNat i))]))
    refine own_icmpNo K153 d_prog_3_m3_22 rfl (tlt (own_lt hin (by omega))).2.1 ?_
    refine own_aloadN K153 d_prog_3_m3_25 rfl rfl rfl ?_
    refine own_iloadN K153 d_prog_3_m3_26 rfl rfl ?_
    refine own_callV K153 (a := st) (x0 := (⟨"java/lang/String", "charAt", "(I)C"⟩ : MethodName)) (wd133 hw) (wd134 hw) (fun q => own_nfS (args := #[]) (mvT q (wd36 hw)) rfl) (wd136 hw) (wd135 hw) (rm_charAt hw hs K153.O (S.ext X) (by omega) hok hin) (wd137 hw) (wd6 hw) (by decide) (S.exa.ext X) (argsL := [(.int (Int32.ofNat i))]) (rest := []) rfl pd_28I29C rfl rfl (W := 0) rfl (by first | decide | (dsimp only; omega)) (by first | decide | (dsimp only; omega)) (by first | decide | (dsimp only; omega)) (by first | decide | (dsimp only; omega)) d_prog_3_m3_27 rfl ?_
    intro T154 h154 L154 v154 K154 q154
    obtain ⟨rfl, e154⟩ := q154
    have f154 := e154.symm
    subst f154
    show G (T154.setTop (mkF m 30 #[.val (.ref st), .val (.ref x), .val (.int (Int32.ofNat i)), s3] [(.int cs[i])]))
    refine own_istoreN K154 (Ls' := #[.val (.ref st), .val (.ref x), .val (.int (Int32.ofNat i)), .val (.int cs[i])]) d_prog_3_m3_30 rfl (XS.store1 rfl hs3 rfl) ?_
    refine own_iloadN K154 d_prog_3_m3_31 rfl rfl ?_
    have W155 := W0.same K154
    have hle := own_esc_len (cs.take i)
    have htk : (cs.take i).length = i := by rw [List.length_take]; omega
    have sx : Safe Z consts_1 _ h x := Safe.exa W155.hZ.alike B.exa (by decide) (by decide)
    have hsok := own_esc_ok (own_chs_take hch i)
    by_cases hc : cs[i] = 42
    · skip
      refine own_lookup W155.K d_prog_3_m3_32 (by decide) (off := 52) (by rw [hc]; decide) (by decide) (pc' := 84) (by decide) ?_
      refine own_aloadN W155.K d_prog_3_m3_84 rfl rfl rfl ?_
      refine own_ldcC W155 (own_EL hw) (vs := own_by ([(92 : Int32), (50 : Int32), (97 : Int32)] : List Int32)) (z := Int32.ofNat ([(92 : Int32), (50 : Int32), (97 : Int32)] : List Int32).length) (nn := 12) own_mem_com_example_reevemark_reevemark_connectors_ldap_LdapEscape_35 (wd173 hw) (own_strA hw) ⟨by decide +kernel, by decide +kernel⟩ (by decide) (by decide) (by decide) (by decide) (by first | decide | (dsimp only; omega)) (by first | decide | (dsimp only; omega)) d_prog_3_m3_85 rfl ?_
      intro T156 h156 k1_156 a156 b156 kb156 W156 E156 C156 ES156 FC156 FV156 VS156 sf156
      have hesc : own_escC cs[i] = [(92 : Int32), (50 : Int32), (97 : Int32)] := by rw [hc]; decide
      have hub : decide (cs[i] < 256) = true := by rw [hc]; decide
      have sx1 := C156.safe B.lt.1 sx
      have sb1 := C156.safe B.lt.2 sb
      have d1 := sf156 x sx1
      have d2 := sf156 b sb1
      refine own_callV W156.K (a := x) (x0 := (⟨"java/lang/StringBuilder", "append", "(Ljava/lang/String;)Ljava/lang/StringBuilder;"⟩ : MethodName)) (wd174 hw) (wd175 hw) (fun q => own_nfS (args := #[]) (mvT q (wd62 hw)) rfl) (wd177 hw) (wd176 hw) (rm_appendS hw hs (us := false) (ds := [(92 : Int32), (50 : Int32), (97 : Int32)]) (cap := 22) W156.K.O (B.ext E156) ES156 FC156 FV156 VS156 (by decide) (by intro d hd; revert d; decide) ⟨d1.1.symm, d2.1.symm, d1.2.symm, d2.2.symm⟩ hsok (by omega) (by omega) (by rw [show ([(92 : Int32), (50 : Int32), (97 : Int32)] : List Int32).length = 3 from rfl]; omega)) (wd178 hw) (wd32 hw) (by decide) (B.exa.ext E156) (argsL := [(.ref a156)]) (rest := []) rfl pd_28Ljava2flang2fString3b29Ljava2flang2fStringBuilder3b rfl rfl (W := 0) rfl (by first | decide | (dsimp only; omega)) (by first | decide | (dsimp only; omega)) (by first | decide | (dsimp only; omega)) (by first | decide | (dsimp only; omega)) d_prog_3_m3_87 rfl ?_
      intro T157 h157 L157 v157 K157 q157
      obtain ⟨rfl, Kp157, b157, kb157, nb157, B157⟩ := q157
      show G (T157.setTop (mkF m 90 #[.val (.ref st), .val (.ref x), .val (.int (Int32.ofNat i)), .val (.int cs[i])] [(.ref x)]))
      rw [Bool.or_false] at B157
      have hubf : (!decide (cs[i] < 256)) = false := by rw [hub]; rfl
      have B157 : own_SB Z h157 x (own_ub (cs.take i) || !decide (cs[i] < 256)) (own_esc (cs.take i) ++ [(92 : Int32), (50 : Int32), (97 : Int32)]).length (own_esc (cs.take i) ++ [(92 : Int32), (50 : Int32), (97 : Int32)]) b157 kb157 (cs.length + 8) := by rw [hubf, Bool.or_false]; exact B157
      have W158 := W156.keep K157 Kp157 (allS sx1 (allS sb1 all0))
      have sb157 : Safe Z consts_1 _ h157 b157 := Safe.keep Kp157 (allS sx1 (allS sb1 all0)) W156.C.1 (nb157.elim (fun q => q ▸ sb1) Safe.new)
      have gb157 : h0.size ≤ b157 := nb157.elim (fun q => q ▸ gb) (fun q => Nat.le_trans (own_ext_trans X E156).1 q)
      have X157 : Ext h0 h157 := own_ext_keep (own_ext_trans X E156) Kp157 (allS gx (allS gb all0))
      refine own_pop W158.K d_prog_3_m3_90 rfl rfl ?_
      refine own_goto W158.K d_prog_3_m3_91 (pc' := 140) (by decide) (by decide) ?_
      refine own_iinc W158.K (Ls' := #[.val (.ref st), .val (.ref x), .val (.int ((Int32.ofNat i) + (1 : Int32))), .val (.int cs[i])]) (x := (Int32.ofNat i)) (v := (Int32.ofNat i)) d_prog_3_m3_140 rfl rfl rfl ?_
      refine own_goto W158.K d_prog_3_m3_143 (pc' := 17) (by decide) (by decide) ?_
      rw [own_one]
      exact ih (i + 1) (by omega) W158 (by dsimp only; omega) (by dsimp only; omega) X157 (by rw [own_esc_take hin, own_ub_take hin, hesc]; exact B157) gb157 sb157 (One.val rfl)
    · have n42 := hc
      by_cases hc : cs[i] = 40
      · skip
        refine own_lookup W155.K d_prog_3_m3_32 (by decide) (off := 62) (by rw [hc]; decide) (by decide) (pc' := 94) (by decide) ?_
        refine own_aloadN W155.K d_prog_3_m3_94 rfl rfl rfl ?_
        refine own_ldcC W155 (own_EL hw) (vs := own_by ([(92 : Int32), (50 : Int32), (56 : Int32)] : List Int32)) (z := Int32.ofNat ([(92 : Int32), (50 : Int32), (56 : Int32)] : List Int32).length) (nn := 12) own_mem_com_example_reevemark_reevemark_connectors_ldap_LdapEscape_37 (wd260 hw) (own_strA hw) ⟨by decide +kernel, by decide +kernel⟩ (by decide) (by decide) (by decide) (by decide) (by first | decide | (dsimp only; omega)) (by first | decide | (dsimp only; omega)) d_prog_3_m3_95 rfl ?_
        intro T159 h159 k1_159 a159 b159 kb159 W159 E159 C159 ES159 FC159 FV159 VS159 sf159
        have hesc : own_escC cs[i] = [(92 : Int32), (50 : Int32), (56 : Int32)] := by rw [hc]; decide
        have hub : decide (cs[i] < 256) = true := by rw [hc]; decide
        have sx1 := C159.safe B.lt.1 sx
        have sb1 := C159.safe B.lt.2 sb
        have d1 := sf159 x sx1
        have d2 := sf159 b sb1
        refine own_callV W159.K (a := x) (x0 := (⟨"java/lang/StringBuilder", "append", "(Ljava/lang/String;)Ljava/lang/StringBuilder;"⟩ : MethodName)) (wd174 hw) (wd175 hw) (fun q => own_nfS (args := #[]) (mvT q (wd62 hw)) rfl) (wd177 hw) (wd176 hw) (rm_appendS hw hs (us := false) (ds := [(92 : Int32), (50 : Int32), (56 : Int32)]) (cap := 22) W159.K.O (B.ext E159) ES159 FC159 FV159 VS159 (by decide) (by intro d hd; revert d; decide) ⟨d1.1.symm, d2.1.symm, d1.2.symm, d2.2.symm⟩ hsok (by omega) (by omega) (by rw [show ([(92 : Int32), (50 : Int32), (56 : Int32)] : List Int32).length = 3 from rfl]; omega)) (wd178 hw) (wd32 hw) (by decide) (B.exa.ext E159) (argsL := [(.ref a159)]) (rest := []) rfl pd_28Ljava2flang2fString3b29Ljava2flang2fStringBuilder3b rfl rfl (W := 0) rfl (by first | decide | (dsimp only; omega)) (by first | decide | (dsimp only; omega)) (by first | decide | (dsimp only; omega)) (by first | decide | (dsimp only; omega)) d_prog_3_m3_97 rfl ?_
        intro T160 h160 L160 v160 K160 q160
        obtain ⟨rfl, Kp160, b160, kb160, nb160, B160⟩ := q160
        show G (T160.setTop (mkF m 100 #[.val (.ref st), .val (.ref x), .val (.int (Int32.ofNat i)), .val (.int cs[i])] [(.ref x)]))
        rw [Bool.or_false] at B160
        have hubf : (!decide (cs[i] < 256)) = false := by rw [hub]; rfl
        have B160 : own_SB Z h160 x (own_ub (cs.take i) || !decide (cs[i] < 256)) (own_esc (cs.take i) ++ [(92 : Int32), (50 : Int32), (56 : Int32)]).length (own_esc (cs.take i) ++ [(92 : Int32), (50 : Int32), (56 : Int32)]) b160 kb160 (cs.length + 8) := by rw [hubf, Bool.or_false]; exact B160
        have W161 := W159.keep K160 Kp160 (allS sx1 (allS sb1 all0))
        have sb160 : Safe Z consts_1 _ h160 b160 := Safe.keep Kp160 (allS sx1 (allS sb1 all0)) W159.C.1 (nb160.elim (fun q => q ▸ sb1) Safe.new)
        have gb160 : h0.size ≤ b160 := nb160.elim (fun q => q ▸ gb) (fun q => Nat.le_trans (own_ext_trans X E159).1 q)
        have X160 : Ext h0 h160 := own_ext_keep (own_ext_trans X E159) Kp160 (allS gx (allS gb all0))
        refine own_pop W161.K d_prog_3_m3_100 rfl rfl ?_
        refine own_goto W161.K d_prog_3_m3_101 (pc' := 140) (by decide) (by decide) ?_
        refine own_iinc W161.K (Ls' := #[.val (.ref st), .val (.ref x), .val (.int ((Int32.ofNat i) + (1 : Int32))), .val (.int cs[i])]) (x := (Int32.ofNat i)) (v := (Int32.ofNat i)) d_prog_3_m3_140 rfl rfl rfl ?_
        refine own_goto W161.K d_prog_3_m3_143 (pc' := 17) (by decide) (by decide) ?_
        rw [own_one]
        exact ih (i + 1) (by omega) W161 (by dsimp only; omega) (by dsimp only; omega) X160 (by rw [own_esc_take hin, own_ub_take hin, hesc]; exact B160) gb160 sb160 (One.val rfl)
      · have n40 := hc
        by_cases hc : cs[i] = 41
        · skip
          refine own_lookup W155.K d_prog_3_m3_32 (by decide) (off := 72) (by rw [hc]; decide) (by decide) (pc' := 104) (by decide) ?_
          refine own_aloadN W155.K d_prog_3_m3_104 rfl rfl rfl ?_
          refine own_ldcC W155 (own_EL hw) (vs := own_by ([(92 : Int32), (50 : Int32), (57 : Int32)] : List Int32)) (z := Int32.ofNat ([(92 : Int32), (50 : Int32), (57 : Int32)] : List Int32).length) (nn := 12) own_mem_com_example_reevemark_reevemark_connectors_ldap_LdapEscape_39 (wd201 hw) (own_strA hw) ⟨by decide +kernel, by decide +kernel⟩ (by decide) (by decide) (by decide) (by decide) (by first | decide | (dsimp only; omega)) (by first | decide | (dsimp only; omega)) d_prog_3_m3_105 rfl ?_
          intro T162 h162 k1_162 a162 b162 kb162 W162 E162 C162 ES162 FC162 FV162 VS162 sf162
          have hesc : own_escC cs[i] = [(92 : Int32), (50 : Int32), (57 : Int32)] := by rw [hc]; decide
          have hub : decide (cs[i] < 256) = true := by rw [hc]; decide
          have sx1 := C162.safe B.lt.1 sx
          have sb1 := C162.safe B.lt.2 sb
          have d1 := sf162 x sx1
          have d2 := sf162 b sb1
          refine own_callV W162.K (a := x) (x0 := (⟨"java/lang/StringBuilder", "append", "(Ljava/lang/String;)Ljava/lang/StringBuilder;"⟩ : MethodName)) (wd174 hw) (wd175 hw) (fun q => own_nfS (args := #[]) (mvT q (wd62 hw)) rfl) (wd177 hw) (wd176 hw) (rm_appendS hw hs (us := false) (ds := [(92 : Int32), (50 : Int32), (57 : Int32)]) (cap := 22) W162.K.O (B.ext E162) ES162 FC162 FV162 VS162 (by decide) (by intro d hd; revert d; decide) ⟨d1.1.symm, d2.1.symm, d1.2.symm, d2.2.symm⟩ hsok (by omega) (by omega) (by rw [show ([(92 : Int32), (50 : Int32), (57 : Int32)] : List Int32).length = 3 from rfl]; omega)) (wd178 hw) (wd32 hw) (by decide) (B.exa.ext E162) (argsL := [(.ref a162)]) (rest := []) rfl pd_28Ljava2flang2fString3b29Ljava2flang2fStringBuilder3b rfl rfl (W := 0) rfl (by first | decide | (dsimp only; omega)) (by first | decide | (dsimp only; omega)) (by first | decide | (dsimp only; omega)) (by first | decide | (dsimp only; omega)) d_prog_3_m3_107 rfl ?_
          intro T163 h163 L163 v163 K163 q163
          obtain ⟨rfl, Kp163, b163, kb163, nb163, B163⟩ := q163
          show G (T163.setTop (mkF m 110 #[.val (.ref st), .val (.ref x), .val (.int (Int32.ofNat i)), .val (.int cs[i])] [(.ref x)]))
          rw [Bool.or_false] at B163
          have hubf : (!decide (cs[i] < 256)) = false := by rw [hub]; rfl
          have B163 : own_SB Z h163 x (own_ub (cs.take i) || !decide (cs[i] < 256)) (own_esc (cs.take i) ++ [(92 : Int32), (50 : Int32), (57 : Int32)]).length (own_esc (cs.take i) ++ [(92 : Int32), (50 : Int32), (57 : Int32)]) b163 kb163 (cs.length + 8) := by rw [hubf, Bool.or_false]; exact B163
          have W164 := W162.keep K163 Kp163 (allS sx1 (allS sb1 all0))
          have sb163 : Safe Z consts_1 _ h163 b163 := Safe.keep Kp163 (allS sx1 (allS sb1 all0)) W162.C.1 (nb163.elim (fun q => q ▸ sb1) Safe.new)
          have gb163 : h0.size ≤ b163 := nb163.elim (fun q => q ▸ gb) (fun q => Nat.le_trans (own_ext_trans X E162).1 q)
          have X163 : Ext h0 h163 := own_ext_keep (own_ext_trans X E162) Kp163 (allS gx (allS gb all0))
          refine own_pop W164.K d_prog_3_m3_110 rfl rfl ?_
          refine own_goto W164.K d_prog_3_m3_111 (pc' := 140) (by decide) (by decide) ?_
          refine own_iinc W164.K (Ls' := #[.val (.ref st), .val (.ref x), .val (.int ((Int32.ofNat i) + (1 : Int32))), .val (.int cs[i])]) (x := (Int32.ofNat i)) (v := (Int32.ofNat i)) d_prog_3_m3_140 rfl rfl rfl ?_
          refine own_goto W164.K d_prog_3_m3_143 (pc' := 17) (by decide) (by decide) ?_
          rw [own_one]
          exact ih (i + 1) (by omega) W164 (by dsimp only; omega) (by dsimp only; omega) X163 (by rw [own_esc_take hin, own_ub_take hin, hesc]; exact B163) gb163 sb163 (One.val rfl)
        · have n41 := hc
          by_cases hc : cs[i] = 92
          · skip
            refine own_lookup W155.K d_prog_3_m3_32 (by decide) (off := 82) (by rw [hc]; decide) (by decide) (pc' := 114) (by decide) ?_
            refine own_aloadN W155.K d_prog_3_m3_114 rfl rfl rfl ?_
            refine own_ldcC W155 (own_EL hw) (vs := own_by ([(92 : Int32), (53 : Int32), (99 : Int32)] : List Int32)) (z := Int32.ofNat ([(92 : Int32), (53 : Int32), (99 : Int32)] : List Int32).length) (nn := 12) own_mem_com_example_reevemark_reevemark_connectors_ldap_LdapEscape_41 (wd256 hw) (own_strA hw) ⟨by decide +kernel, by decide +kernel⟩ (by decide) (by decide) (by decide) (by decide) (by first | decide | (dsimp only; omega)) (by first | decide | (dsimp only; omega)) d_prog_3_m3_115 rfl ?_
            intro T165 h165 k1_165 a165 b165 kb165 W165 E165 C165 ES165 FC165 FV165 VS165 sf165
            have hesc : own_escC cs[i] = [(92 : Int32), (53 : Int32), (99 : Int32)] := by rw [hc]; decide
            have hub : decide (cs[i] < 256) = true := by rw [hc]; decide
            have sx1 := C165.safe B.lt.1 sx
            have sb1 := C165.safe B.lt.2 sb
            have d1 := sf165 x sx1
            have d2 := sf165 b sb1
            refine own_callV W165.K (a := x) (x0 := (⟨"java/lang/StringBuilder", "append", "(Ljava/lang/String;)Ljava/lang/StringBuilder;"⟩ : MethodName)) (wd174 hw) (wd175 hw) (fun q => own_nfS (args := #[]) (mvT q (wd62 hw)) rfl) (wd177 hw) (wd176 hw) (rm_appendS hw hs (us := false) (ds := [(92 : Int32), (53 : Int32), (99 : Int32)]) (cap := 22) W165.K.O (B.ext E165) ES165 FC165 FV165 VS165 (by decide) (by intro d hd; revert d; decide) ⟨d1.1.symm, d2.1.symm, d1.2.symm, d2.2.symm⟩ hsok (by omega) (by omega) (by rw [show ([(92 : Int32), (53 : Int32), (99 : Int32)] : List Int32).length = 3 from rfl]; omega)) (wd178 hw) (wd32 hw) (by decide) (B.exa.ext E165) (argsL := [(.ref a165)]) (rest := []) rfl pd_28Ljava2flang2fString3b29Ljava2flang2fStringBuilder3b rfl rfl (W := 0) rfl (by first | decide | (dsimp only; omega)) (by first | decide | (dsimp only; omega)) (by first | decide | (dsimp only; omega)) (by first | decide | (dsimp only; omega)) d_prog_3_m3_117 rfl ?_
            intro T166 h166 L166 v166 K166 q166
            obtain ⟨rfl, Kp166, b166, kb166, nb166, B166⟩ := q166
            show G (T166.setTop (mkF m 120 #[.val (.ref st), .val (.ref x), .val (.int (Int32.ofNat i)), .val (.int cs[i])] [(.ref x)]))
            rw [Bool.or_false] at B166
            have hubf : (!decide (cs[i] < 256)) = false := by rw [hub]; rfl
            have B166 : own_SB Z h166 x (own_ub (cs.take i) || !decide (cs[i] < 256)) (own_esc (cs.take i) ++ [(92 : Int32), (53 : Int32), (99 : Int32)]).length (own_esc (cs.take i) ++ [(92 : Int32), (53 : Int32), (99 : Int32)]) b166 kb166 (cs.length + 8) := by rw [hubf, Bool.or_false]; exact B166
            have W167 := W165.keep K166 Kp166 (allS sx1 (allS sb1 all0))
            have sb166 : Safe Z consts_1 _ h166 b166 := Safe.keep Kp166 (allS sx1 (allS sb1 all0)) W165.C.1 (nb166.elim (fun q => q ▸ sb1) Safe.new)
            have gb166 : h0.size ≤ b166 := nb166.elim (fun q => q ▸ gb) (fun q => Nat.le_trans (own_ext_trans X E165).1 q)
            have X166 : Ext h0 h166 := own_ext_keep (own_ext_trans X E165) Kp166 (allS gx (allS gb all0))
            refine own_pop W167.K d_prog_3_m3_120 rfl rfl ?_
            refine own_goto W167.K d_prog_3_m3_121 (pc' := 140) (by decide) (by decide) ?_
            refine own_iinc W167.K (Ls' := #[.val (.ref st), .val (.ref x), .val (.int ((Int32.ofNat i) + (1 : Int32))), .val (.int cs[i])]) (x := (Int32.ofNat i)) (v := (Int32.ofNat i)) d_prog_3_m3_140 rfl rfl rfl ?_
            refine own_goto W167.K d_prog_3_m3_143 (pc' := 17) (by decide) (by decide) ?_
            rw [own_one]
            exact ih (i + 1) (by omega) W167 (by dsimp only; omega) (by dsimp only; omega) X166 (by rw [own_esc_take hin, own_ub_take hin, hesc]; exact B166) gb166 sb166 (One.val rfl)
          · have n92 := hc
            by_cases hc : cs[i] = 0
            · skip
              refine own_lookup W155.K d_prog_3_m3_32 (by decide) (off := 92) (by rw [hc]; decide) (by decide) (pc' := 124) (by decide) ?_
              refine own_aloadN W155.K d_prog_3_m3_124 rfl rfl rfl ?_
              refine own_ldcC W155 (own_EL hw) (vs := own_by ([(92 : Int32), (48 : Int32), (48 : Int32)] : List Int32)) (z := Int32.ofNat ([(92 : Int32), (48 : Int32), (48 : Int32)] : List Int32).length) (nn := 12) own_mem_com_example_reevemark_reevemark_connectors_ldap_LdapEscape_26 (wd261 hw) (own_strA hw) ⟨by decide +kernel, by decide +kernel⟩ (by decide) (by decide) (by decide) (by decide) (by first | decide | (dsimp only; omega)) (by first | decide | (dsimp only; omega)) d_prog_3_m3_125 rfl ?_
              intro T168 h168 k1_168 a168 b168 kb168 W168 E168 C168 ES168 FC168 FV168 VS168 sf168
              have hesc : own_escC cs[i] = [(92 : Int32), (48 : Int32), (48 : Int32)] := by rw [hc]; decide
              have hub : decide (cs[i] < 256) = true := by rw [hc]; decide
              have sx1 := C168.safe B.lt.1 sx
              have sb1 := C168.safe B.lt.2 sb
              have d1 := sf168 x sx1
              have d2 := sf168 b sb1
              refine own_callV W168.K (a := x) (x0 := (⟨"java/lang/StringBuilder", "append", "(Ljava/lang/String;)Ljava/lang/StringBuilder;"⟩ : MethodName)) (wd174 hw) (wd175 hw) (fun q => own_nfS (args := #[]) (mvT q (wd62 hw)) rfl) (wd177 hw) (wd176 hw) (rm_appendS hw hs (us := false) (ds := [(92 : Int32), (48 : Int32), (48 : Int32)]) (cap := 22) W168.K.O (B.ext E168) ES168 FC168 FV168 VS168 (by decide) (by intro d hd; revert d; decide) ⟨d1.1.symm, d2.1.symm, d1.2.symm, d2.2.symm⟩ hsok (by omega) (by omega) (by rw [show ([(92 : Int32), (48 : Int32), (48 : Int32)] : List Int32).length = 3 from rfl]; omega)) (wd178 hw) (wd32 hw) (by decide) (B.exa.ext E168) (argsL := [(.ref a168)]) (rest := []) rfl pd_28Ljava2flang2fString3b29Ljava2flang2fStringBuilder3b rfl rfl (W := 0) rfl (by first | decide | (dsimp only; omega)) (by first | decide | (dsimp only; omega)) (by first | decide | (dsimp only; omega)) (by first | decide | (dsimp only; omega)) d_prog_3_m3_127 rfl ?_
              intro T169 h169 L169 v169 K169 q169
              obtain ⟨rfl, Kp169, b169, kb169, nb169, B169⟩ := q169
              show G (T169.setTop (mkF m 130 #[.val (.ref st), .val (.ref x), .val (.int (Int32.ofNat i)), .val (.int cs[i])] [(.ref x)]))
              rw [Bool.or_false] at B169
              have hubf : (!decide (cs[i] < 256)) = false := by rw [hub]; rfl
              have B169 : own_SB Z h169 x (own_ub (cs.take i) || !decide (cs[i] < 256)) (own_esc (cs.take i) ++ [(92 : Int32), (48 : Int32), (48 : Int32)]).length (own_esc (cs.take i) ++ [(92 : Int32), (48 : Int32), (48 : Int32)]) b169 kb169 (cs.length + 8) := by rw [hubf, Bool.or_false]; exact B169
              have W170 := W168.keep K169 Kp169 (allS sx1 (allS sb1 all0))
              have sb169 : Safe Z consts_1 _ h169 b169 := Safe.keep Kp169 (allS sx1 (allS sb1 all0)) W168.C.1 (nb169.elim (fun q => q ▸ sb1) Safe.new)
              have gb169 : h0.size ≤ b169 := nb169.elim (fun q => q ▸ gb) (fun q => Nat.le_trans (own_ext_trans X E168).1 q)
              have X169 : Ext h0 h169 := own_ext_keep (own_ext_trans X E168) Kp169 (allS gx (allS gb all0))
              refine own_pop W170.K d_prog_3_m3_130 rfl rfl ?_
              refine own_goto W170.K d_prog_3_m3_131 (pc' := 140) (by decide) (by decide) ?_
              refine own_iinc W170.K (Ls' := #[.val (.ref st), .val (.ref x), .val (.int ((Int32.ofNat i) + (1 : Int32))), .val (.int cs[i])]) (x := (Int32.ofNat i)) (v := (Int32.ofNat i)) d_prog_3_m3_140 rfl rfl rfl ?_
              refine own_goto W170.K d_prog_3_m3_143 (pc' := 17) (by decide) (by decide) ?_
              rw [own_one]
              exact ih (i + 1) (by omega) W170 (by dsimp only; omega) (by dsimp only; omega) X169 (by rw [own_esc_take hin, own_ub_take hin, hesc]; exact B169) gb169 sb169 (One.val rfl)
            · have n0 := hc
              refine own_lookup W155.K d_prog_3_m3_32 (by decide) (off := 102) (own_sw _ n0 n40 n41 n42 n92) (by decide) (pc' := 134) (by decide) ?_
              refine own_aloadN W155.K d_prog_3_m3_134 rfl rfl rfl ?_
              refine own_iloadN W155.K d_prog_3_m3_135 rfl rfl ?_
              have hesc : own_escC cs[i] = [cs[i]] := by unfold own_escC; rw [if_neg n42, if_neg n40, if_neg n41, if_neg n92, if_neg n0]
              refine own_callV W155.K (a := x) (x0 := (⟨"java/lang/StringBuilder", "append", "(C)Ljava/lang/StringBuilder;"⟩ : MethodName)) (wd155 hw) (wd156 hw) (fun q => own_nfS (args := #[]) (mvT q (wd62 hw)) rfl) (wd158 hw) (wd157 hw) (rm_appendC hw hs (y := cs[i]) (cap := 22) W155.K.O B (hch _ (List.getElem_mem hin)) hsok (by omega) (by omega) (by omega)) (wd159 hw) (wd32 hw) (by decide) B.exa (argsL := [(.int cs[i])]) (rest := []) rfl pd_28C29Ljava2flang2fStringBuilder3b rfl rfl (W := 0) rfl (by first | decide | (dsimp only; omega)) (by first | decide | (dsimp only; omega)) (by first | decide | (dsimp only; omega)) (by first | decide | (dsimp only; omega)) d_prog_3_m3_136 rfl ?_
              intro T171 h171 L171 v171 K171 q171
              obtain ⟨rfl, Kp171, b171, kb171, nb171, B171⟩ := q171
              show G (T171.setTop (mkF m 139 #[.val (.ref st), .val (.ref x), .val (.int (Int32.ofNat i)), .val (.int cs[i])] [(.ref x)]))
              have W172 := W155.keep K171 Kp171 (allS sx (allS sb all0))
              have sb171 : Safe Z consts_1 _ h171 b171 := Safe.keep Kp171 (allS sx (allS sb all0)) W155.C.1 (nb171.elim (fun q => q ▸ sb) Safe.new)
              have gb171 : h0.size ≤ b171 := nb171.elim (fun q => q ▸ gb) (fun q => Nat.le_trans X.1 q)
              have X171 : Ext h0 h171 := own_ext_keep X Kp171 (allS gx (allS gb all0))
              refine own_pop W172.K d_prog_3_m3_139 rfl rfl ?_
              refine own_iinc W172.K (Ls' := #[.val (.ref st), .val (.ref x), .val (.int ((Int32.ofNat i) + (1 : Int32))), .val (.int cs[i])]) (x := (Int32.ofNat i)) (v := (Int32.ofNat i)) d_prog_3_m3_140 rfl rfl rfl ?_
              refine own_goto W172.K d_prog_3_m3_143 (pc' := 17) (by decide) (by decide) ?_
              rw [own_one]
              exact ih (i + 1) (by omega) W172 (by dsimp only; omega) (by dsimp only; omega) X171 (by rw [own_esc_take hin, own_ub_take hin, hesc]; exact B171) gb171 sb171 (One.val rfl)
end Lp
theorem d_prog_3_m3_0 : decode prog_3_method_3_code 0 = .ok (.new 7, 3) := by decide +kernel
theorem wd30 {a0 : Array Value} {Z : State} (hw : ∀ d ∈ tables_1, d.before a0 Z = true) : (Jvm.Cond.classLink "com/example/reevemark/reevemark/connectors/ldap/LdapEscape" (7 : Nat) "java/lang/StringBuilder").before a0 Z = true := hw _ (List.mem_of_getElem? (i := 30) rfl)
theorem d_prog_3_m3_3 : decode prog_3_method_3_code 3 = .ok (.dup, 1) := by decide +kernel
theorem d_prog_3_m3_4 : decode prog_3_method_3_code 4 = .ok (.aload_n 0, 1) := by decide +kernel
theorem d_prog_3_m3_5 : decode prog_3_method_3_code 5 = .ok (.invokevirtual 9, 3) := by decide +kernel
theorem d_prog_3_m3_8 : decode prog_3_method_3_code 8 = .ok (.bipush 8, 2) := by decide +kernel
theorem d_prog_3_m3_10 : decode prog_3_method_3_code 10 = .ok (.iadd, 1) := by decide +kernel
theorem d_prog_3_m3_11 : decode prog_3_method_3_code 11 = .ok (.invokespecial 15, 3) := by decide +kernel
theorem wd46 {a0 : Array Value} {Z : State} (hw : ∀ d ∈ tables_1, d.before a0 Z = true) : (Jvm.Cond.code ({ cls := "java/lang/StringBuilder", name := "<init>", desc := "(I)V" } : Jvm.MethodName) jdk_67_method_2_code (2 : Nat) (Option.none : Option Jvm.ClassFile.FieldType)).before a0 Z = true := hw _ (List.mem_of_getElem? (i := 46) rfl)
theorem wd44 {a0 : Array Value} {Z : State} (hw : ∀ d ∈ tables_1, d.before a0 Z = true) : (Jvm.Cond.methodLink "com/example/reevemark/reevemark/connectors/ldap/LdapEscape" (15 : Nat) ({ cls := "java/lang/StringBuilder", name := "<init>", desc := "(I)V" } : Jvm.MethodName)).before a0 Z = true := hw _ (List.mem_of_getElem? (i := 44) rfl)
theorem wd45 {a0 : Array Value} {Z : State} (hw : ∀ d ∈ tables_1, d.before a0 Z = true) : (Jvm.Cond.instanceMethod ({ cls := "java/lang/StringBuilder", name := "<init>", desc := "(I)V" } : Jvm.MethodName)).before a0 Z = true := hw _ (List.mem_of_getElem? (i := 45) rfl)
theorem d_prog_3_m3_14 : decode prog_3_method_3_code 14 = .ok (.astore_n 1, 1) := by decide +kernel
theorem d_prog_3_m3_15 : decode prog_3_method_3_code 15 = .ok (.iconst 0, 1) := by decide +kernel
theorem d_prog_3_m3_16 : decode prog_3_method_3_code 16 = .ok (.istore_n 2, 1) := by decide +kernel
theorem pn_com_example_reevemark_reevemark_connectors_ldap_LdapEscape : plainName "com/example/reevemark/reevemark/connectors/ldap/LdapEscape" = true := by first | (simp [plainName, overriddenIn]; done) | decide +kernel
set_option maxRecDepth 65536 in
set_option maxHeartbeats 40000000 in
theorem rm_filter {l : Launch} {Z : State} {a0 : Array Value} (hw : ∀ d ∈ tables_1, d.before a0 Z = true) (hs : ∀ d ∈ jdkStatics_1, d.before a0 Z = true) {st : Addr} {us : Bool} {cs : List Int32} {h0 : Heap} (O0 : Ext Z.heap h0) (S : own_StrG Z h0 st us cs) (hok : own_ok us cs) (hch : own_chs cs) (hlen : cs.length ≤ 3) :
    own_CtW l Z consts_1 true false (⟨"com/example/reevemark/reevemark/connectors/ldap/LdapEscape", "filterValue", "(Ljava/lang/String;)Ljava/lang/String;"⟩ : MethodName) prog_3_method_3_code 4 (some (.object "java/lang/String")) [] ({ frames := 10, locals := 143, cells := 13, slots := 235 } : Room) #[(.ref st)] h0 (fun v h => ∃ a : Addr, v = some (.ref a) ∧ Ext h0 h ∧ own_StrG Z h a (own_ub cs) (own_esc cs)) := by
  refine own_bodyW (Ls := #[.val (.ref st), .unset, .unset, .unset]) (own_EL hw) (plainFor_of_name pn_com_example_reevemark_reevemark_connectors_ldap_LdapEscape) (fun m => by first | (simp [entryFrame, mkF, argsToLocals, Value.category]; done) | rfl) O0 ?_
  intro p e s m below meth c T0 G hkn hs0 W0
  refine own_newO W0.K (wd30 hw) (wd31 hw) (wd32 hw) d_prog_3_m3_0 (by first | decide | (dsimp only; omega)) (by first | decide | (dsimp only; omega)) rfl ?_
  intro T173 h173 a173 K173 g173 E173 A173 D173 U173
  have F_value_173 : Fld Z h173 a173 "java/lang/AbstractStringBuilder" "value" "[B" .null := D173 (Or.inl (wd56 hw)) (ty := (.array .byte)) (by decide)
  have F_coder_173 : Fld Z h173 a173 "java/lang/AbstractStringBuilder" "coder" "B" (.int (0 : Int32)) := D173 (Or.inl (wd58 hw)) (ty := .byte) (by decide)
  have F_count_173 : Fld Z h173 a173 "java/lang/AbstractStringBuilder" "count" "I" (.int (0 : Int32)) := D173 (Or.inl (wd86 hw)) (ty := .int) (by decide)
  have F_maybeLatin1_173 : Fld Z h173 a173 "java/lang/AbstractStringBuilder" "maybeLatin1" "Z" (.int (0 : Int32)) := D173 (Or.inl (wd259 hw)) (ty := .boolean) (by decide)
  have W174 := W0.ext K173 E173
  refine own_dup W174.K d_prog_3_m3_3 rfl rfl ?_
  refine own_aloadN W174.K d_prog_3_m3_4 rfl rfl rfl ?_
  refine own_callV W174.K (a := st) (x0 := (⟨"java/lang/String", "length", "()I"⟩ : MethodName)) (wd33 hw) (wd34 hw) (fun q => own_nfS (args := #[]) (mvT q (wd36 hw)) rfl) (wd36 hw) (wd35 hw) (rm_lengthS hw hs W174.K.O (S.ext E173) (by omega)) (wd37 hw) (wd6 hw) (by decide) (S.exa.ext E173) (argsL := []) (rest := [(.ref a173), (.ref a173)]) rfl pd_2829I rfl rfl (W := 2) rfl (by first | decide | (dsimp only; omega)) (by first | decide | (dsimp only; omega)) (by first | decide | (dsimp only; omega)) (by first | decide | (dsimp only; omega)) d_prog_3_m3_5 rfl ?_
  intro T175 h175 L175 v175 K175 q175
  obtain ⟨rfl, e175⟩ := q175
  have f175 := e175.symm
  subst f175
  show G (T175.setTop (mkF m 8 #[.val (.ref st), .unset, .unset, .unset] [(.int (Int32.ofNat cs.length)), (.ref a173), (.ref a173)]))
  refine own_bipush K175 (v := (8 : Int32)) d_prog_3_m3_8 rfl rfl ?_
  refine own_iadd K175 d_prog_3_m3_10 rfl ?_
  rw [own_add8]
  have W176 := W174.same K175
  have gx173 : Z.heap.size ≤ a173 := by rw [g173]; exact O0.1
  have sx := Safe.exa (EL := consts_1) W176.hZ.alike A173 (by decide) (by decide)
  refine own_callI W176.K (a := a173) (wd44 hw) (wd45 hw) (rm_sbInit hw hs (cap := cs.length + 8) W176.K.O A173 F_value_173 F_coder_173 F_count_173 F_maybeLatin1_173 gx173 (by omega)) (wd46 hw) (wd32 hw) (by decide) rfl (argsL := [(.int (Int32.ofNat (cs.length + 8)))]) (rest := [(.ref a173)]) rfl pd_28I29V rfl rfl (W := 1) rfl (by first | decide | (dsimp only; omega)) (by first | decide | (dsimp only; omega)) (by first | decide | (dsimp only; omega)) (by first | decide | (dsimp only; omega)) d_prog_3_m3_11 rfl ?_
  intro T177 h177 L177 v177 K177 q177
  obtain ⟨rfl, Kp177, b177, kb177, nb177, B177⟩ := q177
  show G (T177.setTop (mkF m 14 #[.val (.ref st), .unset, .unset, .unset] [(.ref a173)]))
  have W178 := W176.keep K177 Kp177 (allS sx all0)
  have sb0 : Safe Z consts_1 _ h177 b177 := Safe.keep Kp177 (allS sx all0) W176.C.1 (Safe.new nb177)
  have X0 : Ext h0 h177 := own_ext_keep E173 Kp177 (allS (Nat.le_of_eq g173.symm) all0)
  refine own_astoreN W178.K (Ls' := #[.val (.ref st), .val (.ref a173), .unset, .unset]) d_prog_3_m3_14 rfl rfl rfl ?_
  refine own_iconst W178.K (v := (0 : Int32)) d_prog_3_m3_15 rfl rfl ?_
  refine own_istoreN W178.K (Ls' := #[.val (.ref st), .val (.ref a173), .val (.int (0 : Int32)), .unset]) d_prog_3_m3_16 rfl rfl ?_
  exact lp_filter hw hs (by first | decide | (dsimp only; omega)) (by first | decide | (dsimp only; omega)) S hok hch hlen (Nat.le_of_eq g173.symm) (fun _ _ q => q) cs.length 0 (Nat.zero_add _) W178 (by dsimp only; omega) (by dsimp only; omega) X0 B177 (Nat.le_trans E173.1 nb177) sb0 One.u
theorem own_i2c_rng (x : Int32) : ¬ x.toUInt32.toUInt16.toUInt32.toInt32 < 0 ∧ x.toUInt32.toUInt16.toUInt32.toInt32 < 65536 := by
  have h := c_i2c x
  rw [Int32.lt_iff_toInt_lt, Int32.lt_iff_toInt_lt, show (0 : Int32).toInt = 0 from rfl, show (65536 : Int32).toInt = 65536 from rfl]; omega
theorem own_nar_i2c (x : Int32) : nar .char x.toUInt32.toUInt16.toUInt32.toInt32 = x.toUInt32.toUInt16.toUInt32.toInt32 := own_nar_char (own_i2c_rng x)
def own_hex (d : Int32) : Int32 := if d < 10 then (48 + d).toUInt32.toUInt16.toUInt32.toInt32 else (97 + (d - 10)).toUInt32.toUInt16.toUInt32.toInt32
def own_sp (c : Int32) : Prop := c = 42 ∨ c = 40 ∨ c = 41 ∨ c = 92 ∨ c = 0
theorem own_add2 (i : Nat) : Int32.ofNat i + (2 : Int32) = Int32.ofNat (i + 2) := own_addN i 2
theorem own_add3 (i : Nat) : Int32.ofNat i + (3 : Int32) = Int32.ofNat (i + 3) := own_addN i 3
theorem own_set_end3 (vs : List Value) (x y z d : Value) : (((vs ++ List.replicate 3 d).set vs.length x).set (vs.length + 1) y).set (vs.length + 2) z = vs ++ [x, y, z] := by
  rw [List.set_append_right _ _ (Nat.le_refl _), Nat.sub_self, List.set_append_right _ _ (by omega), Nat.add_sub_cancel_left, List.set_append_right _ _ (by omega), Nat.add_sub_cancel_left]; rfl
theorem d_m4_0 : decode method_4_code 0 = .ok (.iload_n 0, 1) := by decide +kernel
theorem d_m4_1 : decode method_4_code 1 = .ok (.bipush 7, 2) := by decide +kernel
theorem d_m4_3 : decode method_4_code 3 = .ok (.iand, 1) := by decide +kernel
theorem d_m4_4 : decode method_4_code 4 = .ok (.istore_n 1, 1) := by decide +kernel
theorem d_m4_5 : decode method_4_code 5 = .ok (.iload_n 1, 1) := by decide +kernel
theorem d_m4_6 : decode method_4_code 6 = .ok (.ifCond .ne 6, 3) := by decide +kernel
theorem d_m4_9 : decode method_4_code 9 = .ok (.bipush 42, 2) := by decide +kernel
theorem d_m4_11 : decode method_4_code 11 = .ok (.ireturn, 1) := by decide +kernel
theorem d_m4_12 : decode method_4_code 12 = .ok (.iload_n 1, 1) := by decide +kernel
theorem d_m4_13 : decode method_4_code 13 = .ok (.iconst 1, 1) := by decide +kernel
theorem d_m4_14 : decode method_4_code 14 = .ok (.if_icmp .ne 6, 3) := by decide +kernel
theorem d_m4_17 : decode method_4_code 17 = .ok (.bipush 40, 2) := by decide +kernel
theorem d_m4_19 : decode method_4_code 19 = .ok (.ireturn, 1) := by decide +kernel
theorem d_m4_20 : decode method_4_code 20 = .ok (.iload_n 1, 1) := by decide +kernel
theorem d_m4_21 : decode method_4_code 21 = .ok (.iconst 2, 1) := by decide +kernel
theorem d_m4_22 : decode method_4_code 22 = .ok (.if_icmp .ne 6, 3) := by decide +kernel
theorem d_m4_25 : decode method_4_code 25 = .ok (.bipush 41, 2) := by decide +kernel
theorem d_m4_27 : decode method_4_code 27 = .ok (.ireturn, 1) := by decide +kernel
theorem d_m4_28 : decode method_4_code 28 = .ok (.iload_n 1, 1) := by decide +kernel
theorem d_m4_29 : decode method_4_code 29 = .ok (.iconst 3, 1) := by decide +kernel
theorem d_m4_30 : decode method_4_code 30 = .ok (.if_icmp .ne 6, 3) := by decide +kernel
theorem d_m4_33 : decode method_4_code 33 = .ok (.bipush 92, 2) := by decide +kernel
theorem d_m4_35 : decode method_4_code 35 = .ok (.ireturn, 1) := by decide +kernel
theorem d_m4_36 : decode method_4_code 36 = .ok (.iload_n 1, 1) := by decide +kernel
theorem d_m4_37 : decode method_4_code 37 = .ok (.iconst 4, 1) := by decide +kernel
theorem d_m4_38 : decode method_4_code 38 = .ok (.if_icmp .ne 5, 3) := by decide +kernel
theorem d_m4_41 : decode method_4_code 41 = .ok (.iconst 0, 1) := by decide +kernel
theorem d_m4_42 : decode method_4_code 42 = .ok (.ireturn, 1) := by decide +kernel
theorem d_m4_43 : decode method_4_code 43 = .ok (.iload_n 0, 1) := by decide +kernel
theorem d_m4_44 : decode method_4_code 44 = .ok (.iconst 3, 1) := by decide +kernel
theorem d_m4_45 : decode method_4_code 45 = .ok (.iushr, 1) := by decide +kernel
theorem d_m4_46 : decode method_4_code 46 = .ok (.i2c, 1) := by decide +kernel
theorem d_m4_47 : decode method_4_code 47 = .ok (.ireturn, 1) := by decide +kernel
theorem pn_com_example_reevemark_reevemark_connectors_ldap_LdapEscapeFilterValuePinLaw : plainName "com/example/reevemark/reevemark/connectors/ldap/LdapEscapeFilterValuePinLaw" = true := by first | (simp [plainName, overriddenIn]; done) | decide +kernel
set_option maxRecDepth 65536 in
set_option maxHeartbeats 40000000 in
theorem rm_pick {l : Launch} {Z : State} {a0 : Array Value} (hw : ∀ d ∈ tables_1, d.before a0 Z = true) (hs : ∀ d ∈ jdkStatics_1, d.before a0 Z = true) {x : Int32} {h0 : Heap} (O0 : Ext Z.heap h0)  :
    own_Ct l Z (⟨"com/example/reevemark/reevemark/connectors/ldap/LdapEscapeFilterValuePinLaw", "pick", "(I)C"⟩ : MethodName) method_4_code 2 (some .char) [] ({ frames := 0, locals := 0, cells := 0, slots := 0 } : Room) #[(.int x)] h0 (fun v h => ∃ c : Int32, v = some (.int c) ∧ (¬ c < 0 ∧ c < 65536) ∧ h = h0) := by
  refine own_body (Ls := #[.val (.int x), .unset]) (plainFor_of_name pn_com_example_reevemark_reevemark_connectors_ldap_LdapEscapeFilterValuePinLaw) (fun m => by first | (simp [entryFrame, mkF, argsToLocals, Value.category]; done) | rfl) O0 ?_
  intro p e s m below meth c T0 G K0
  refine own_iloadN K0 d_m4_0 rfl rfl ?_
  refine own_bipush K0 (v := (7 : Int32)) d_m4_1 rfl rfl ?_
  refine own_iand K0 d_m4_3 rfl ?_
  refine own_istoreN K0 (Ls' := #[.val (.int x), .val (.int (x &&& (7 : Int32)))]) d_m4_4 rfl rfl ?_
  refine own_iloadN K0 d_m4_5 rfl rfl ?_
  by_cases hb0 : (x &&& (7 : Int32)) = 0
  · skip
    refine own_ifNo K0 d_m4_6 rfl ((if0 _ _).trans (teq hb0).2) ?_
    refine own_bipush K0 (v := (42 : Int32)) d_m4_9 rfl rfl ?_
    exact own_retN K0 (z' := (42 : Int32)) d_m4_11 rfl (by simp) (by decide) (by decide) (by decide) ⟨42, rfl, by decide, rfl⟩
  · skip
    refine own_ifYes K0 d_m4_6 (pc' := 12) (by decide) (by decide) ((if0 _ _).trans (feq hb0).2) ?_
    refine own_iloadN K0 d_m4_12 rfl rfl ?_
    refine own_iconst K0 (v := (1 : Int32)) d_m4_13 rfl rfl ?_
    by_cases hb1 : (x &&& (7 : Int32)) = (1 : Int32)
    · skip
      refine own_icmpNo K0 d_m4_14 rfl (teq hb1).2 ?_
      refine own_bipush K0 (v := (40 : Int32)) d_m4_17 rfl rfl ?_
      exact own_retN K0 (z' := (40 : Int32)) d_m4_19 rfl (by simp) (by decide) (by decide) (by decide) ⟨40, rfl, by decide, rfl⟩
    · skip
      refine own_icmpYes K0 d_m4_14 (pc' := 20) (by decide) (by decide) (feq hb1).2 ?_
      refine own_iloadN K0 d_m4_20 rfl rfl ?_
      refine own_iconst K0 (v := (2 : Int32)) d_m4_21 rfl rfl ?_
      by_cases hb2 : (x &&& (7 : Int32)) = (2 : Int32)
      · skip
        refine own_icmpNo K0 d_m4_22 rfl (teq hb2).2 ?_
        refine own_bipush K0 (v := (41 : Int32)) d_m4_25 rfl rfl ?_
        exact own_retN K0 (z' := (41 : Int32)) d_m4_27 rfl (by simp) (by decide) (by decide) (by decide) ⟨41, rfl, by decide, rfl⟩
      · skip
        refine own_icmpYes K0 d_m4_22 (pc' := 28) (by decide) (by decide) (feq hb2).2 ?_
        refine own_iloadN K0 d_m4_28 rfl rfl ?_
        refine own_iconst K0 (v := (3 : Int32)) d_m4_29 rfl rfl ?_
        by_cases hb3 : (x &&& (7 : Int32)) = (3 : Int32)
        · skip
          refine own_icmpNo K0 d_m4_30 rfl (teq hb3).2 ?_
          refine own_bipush K0 (v := (92 : Int32)) d_m4_33 rfl rfl ?_
          exact own_retN K0 (z' := (92 : Int32)) d_m4_35 rfl (by simp) (by decide) (by decide) (by decide) ⟨92, rfl, by decide, rfl⟩
        · skip
          refine own_icmpYes K0 d_m4_30 (pc' := 36) (by decide) (by decide) (feq hb3).2 ?_
          refine own_iloadN K0 d_m4_36 rfl rfl ?_
          refine own_iconst K0 (v := (4 : Int32)) d_m4_37 rfl rfl ?_
          by_cases hb4 : (x &&& (7 : Int32)) = (4 : Int32)
          · skip
            refine own_icmpNo K0 d_m4_38 rfl (teq hb4).2 ?_
            refine own_iconst K0 (v := (0 : Int32)) d_m4_41 rfl rfl ?_
            exact own_retN K0 (z' := (0 : Int32)) d_m4_42 rfl (by simp) (by decide) (by decide) (by decide) ⟨0, rfl, by decide, rfl⟩
          · skip
            refine own_icmpYes K0 d_m4_38 (pc' := 43) (by decide) (by decide) (feq hb4).2 ?_
            refine own_iloadN K0 d_m4_43 rfl rfl ?_
            refine own_iconst K0 (v := (3 : Int32)) d_m4_44 rfl rfl ?_
            refine own_iushr K0 d_m4_45 rfl ?_
            refine own_i2c K0 d_m4_46 rfl ?_
            exact own_retN K0 (z' := _) d_m4_47 rfl (by simp) (own_nar_i2c _) (by decide) (by decide) ⟨_, rfl, own_i2c_rng _, rfl⟩
def own_spb (c : Int32) : Bool := decide (c = 42) || decide (c = 40) || decide (c = 41) || decide (c = 92) || decide (c = 0)
theorem d_m5_0 : decode method_5_code 0 = .ok (.iload_n 0, 1) := by decide +kernel
theorem d_m5_1 : decode method_5_code 1 = .ok (.bipush 42, 2) := by decide +kernel
theorem d_m5_3 : decode method_5_code 3 = .ok (.if_icmp .eq 25, 3) := by decide +kernel
theorem d_m5_28 : decode method_5_code 28 = .ok (.iconst 1, 1) := by decide +kernel
theorem d_m5_29 : decode method_5_code 29 = .ok (.goto 4, 3) := by decide +kernel
theorem d_m5_33 : decode method_5_code 33 = .ok (.ireturn, 1) := by decide +kernel
theorem d_m5_6 : decode method_5_code 6 = .ok (.iload_n 0, 1) := by decide +kernel
theorem d_m5_7 : decode method_5_code 7 = .ok (.bipush 40, 2) := by decide +kernel
theorem d_m5_9 : decode method_5_code 9 = .ok (.if_icmp .eq 19, 3) := by decide +kernel
theorem d_m5_12 : decode method_5_code 12 = .ok (.iload_n 0, 1) := by decide +kernel
theorem d_m5_13 : decode method_5_code 13 = .ok (.bipush 41, 2) := by decide +kernel
theorem d_m5_15 : decode method_5_code 15 = .ok (.if_icmp .eq 13, 3) := by decide +kernel
theorem d_m5_18 : decode method_5_code 18 = .ok (.iload_n 0, 1) := by decide +kernel
theorem d_m5_19 : decode method_5_code 19 = .ok (.bipush 92, 2) := by decide +kernel
theorem d_m5_21 : decode method_5_code 21 = .ok (.if_icmp .eq 7, 3) := by decide +kernel
theorem d_m5_24 : decode method_5_code 24 = .ok (.iload_n 0, 1) := by decide +kernel
theorem d_m5_25 : decode method_5_code 25 = .ok (.ifCond .ne 7, 3) := by decide +kernel
theorem d_m5_32 : decode method_5_code 32 = .ok (.iconst 0, 1) := by decide +kernel
set_option maxRecDepth 65536 in
set_option maxHeartbeats 40000000 in
theorem rm_special {l : Launch} {Z : State} {a0 : Array Value} (hw : ∀ d ∈ tables_1, d.before a0 Z = true) (hs : ∀ d ∈ jdkStatics_1, d.before a0 Z = true) {y : Int32} {h0 : Heap} (O0 : Ext Z.heap h0)  :
    own_Ct l Z (⟨"com/example/reevemark/reevemark/connectors/ldap/LdapEscapeFilterValuePinLaw", "special", "(C)Z"⟩ : MethodName) method_5_code 1 (some .boolean) [] ({ frames := 0, locals := 0, cells := 0, slots := 0 } : Room) #[(.int y)] h0 (fun v h => v = some (.int (cond (own_spb y) 1 0)) ∧ h = h0) := by
  refine own_body (Ls := #[.val (.int y)]) (plainFor_of_name pn_com_example_reevemark_reevemark_connectors_ldap_LdapEscapeFilterValuePinLaw) (fun m => by first | (simp [entryFrame, mkF, argsToLocals, Value.category]; done) | rfl) O0 ?_
  intro p e s m below meth c T0 G K0
  refine own_iloadN K0 d_m5_0 rfl rfl ?_
  refine own_bipush K0 (v := (42 : Int32)) d_m5_1 rfl rfl ?_
  by_cases hb0 : y = (42 : Int32)
  · skip
    refine own_icmpYes K0 d_m5_3 (pc' := 28) (by decide) (by decide) (teq hb0).1 ?_
    refine own_iconst K0 (v := (1 : Int32)) d_m5_28 rfl rfl ?_
    refine own_goto K0 d_m5_29 (pc' := 33) (by decide) (by decide) ?_
    exact own_retN K0 (z' := (1 : Int32)) d_m5_33 rfl (by simp) (by decide) (by decide) (by decide) ⟨by simp [own_spb, hb0], rfl⟩
  · skip
    refine own_icmpNo K0 d_m5_3 rfl (feq hb0).1 ?_
    refine own_iloadN K0 d_m5_6 rfl rfl ?_
    refine own_bipush K0 (v := (40 : Int32)) d_m5_7 rfl rfl ?_
    by_cases hb1 : y = (40 : Int32)
    · skip
      refine own_icmpYes K0 d_m5_9 (pc' := 28) (by decide) (by decide) (teq hb1).1 ?_
      refine own_iconst K0 (v := (1 : Int32)) d_m5_28 rfl rfl ?_
      refine own_goto K0 d_m5_29 (pc' := 33) (by decide) (by decide) ?_
      exact own_retN K0 (z' := (1 : Int32)) d_m5_33 rfl (by simp) (by decide) (by decide) (by decide) ⟨by simp [own_spb, hb1], rfl⟩
    · skip
      refine own_icmpNo K0 d_m5_9 rfl (feq hb1).1 ?_
      refine own_iloadN K0 d_m5_12 rfl rfl ?_
      refine own_bipush K0 (v := (41 : Int32)) d_m5_13 rfl rfl ?_
      by_cases hb2 : y = (41 : Int32)
      · skip
        refine own_icmpYes K0 d_m5_15 (pc' := 28) (by decide) (by decide) (teq hb2).1 ?_
        refine own_iconst K0 (v := (1 : Int32)) d_m5_28 rfl rfl ?_
        refine own_goto K0 d_m5_29 (pc' := 33) (by decide) (by decide) ?_
        exact own_retN K0 (z' := (1 : Int32)) d_m5_33 rfl (by simp) (by decide) (by decide) (by decide) ⟨by simp [own_spb, hb2], rfl⟩
      · skip
        refine own_icmpNo K0 d_m5_15 rfl (feq hb2).1 ?_
        refine own_iloadN K0 d_m5_18 rfl rfl ?_
        refine own_bipush K0 (v := (92 : Int32)) d_m5_19 rfl rfl ?_
        by_cases hb3 : y = (92 : Int32)
        · skip
          refine own_icmpYes K0 d_m5_21 (pc' := 28) (by decide) (by decide) (teq hb3).1 ?_
          refine own_iconst K0 (v := (1 : Int32)) d_m5_28 rfl rfl ?_
          refine own_goto K0 d_m5_29 (pc' := 33) (by decide) (by decide) ?_
          exact own_retN K0 (z' := (1 : Int32)) d_m5_33 rfl (by simp) (by decide) (by decide) (by decide) ⟨by simp [own_spb, hb3], rfl⟩
        · skip
          refine own_icmpNo K0 d_m5_21 rfl (feq hb3).1 ?_
          refine own_iloadN K0 d_m5_24 rfl rfl ?_
          by_cases hb4 : y = 0
          · skip
            refine own_ifNo K0 d_m5_25 rfl ((if0 _ _).trans (teq hb4).2) ?_
            refine own_iconst K0 (v := (1 : Int32)) d_m5_28 rfl rfl ?_
            refine own_goto K0 d_m5_29 (pc' := 33) (by decide) (by decide) ?_
            exact own_retN K0 (z' := (1 : Int32)) d_m5_33 rfl (by simp) (by decide) (by decide) (by decide) ⟨by simp [own_spb, hb4], rfl⟩
          · skip
            refine own_ifYes K0 d_m5_25 (pc' := 32) (by decide) (by decide) ((if0 _ _).trans (feq hb4).2) ?_
            refine own_iconst K0 (v := (0 : Int32)) d_m5_32 rfl rfl ?_
            exact own_retN K0 (z' := (0 : Int32)) d_m5_33 rfl (by simp) (by decide) (by decide) (by decide) ⟨by simp [own_spb, hb0, hb1, hb2, hb3, hb4], rfl⟩
theorem d_m6_0 : decode method_6_code 0 = .ok (.iload_n 0, 1) := by decide +kernel
theorem d_m6_1 : decode method_6_code 1 = .ok (.bipush 10, 2) := by decide +kernel
theorem d_m6_3 : decode method_6_code 3 = .ok (.if_icmp .ge 9, 3) := by decide +kernel
theorem d_m6_6 : decode method_6_code 6 = .ok (.bipush 48, 2) := by decide +kernel
theorem d_m6_8 : decode method_6_code 8 = .ok (.iload_n 0, 1) := by decide +kernel
theorem d_m6_9 : decode method_6_code 9 = .ok (.iadd, 1) := by decide +kernel
theorem d_m6_10 : decode method_6_code 10 = .ok (.i2c, 1) := by decide +kernel
theorem d_m6_11 : decode method_6_code 11 = .ok (.ireturn, 1) := by decide +kernel
theorem d_m6_12 : decode method_6_code 12 = .ok (.bipush 97, 2) := by decide +kernel
theorem d_m6_14 : decode method_6_code 14 = .ok (.iload_n 0, 1) := by decide +kernel
theorem d_m6_15 : decode method_6_code 15 = .ok (.bipush 10, 2) := by decide +kernel
theorem d_m6_17 : decode method_6_code 17 = .ok (.isub, 1) := by decide +kernel
theorem d_m6_18 : decode method_6_code 18 = .ok (.iadd, 1) := by decide +kernel
theorem d_m6_19 : decode method_6_code 19 = .ok (.i2c, 1) := by decide +kernel
theorem d_m6_20 : decode method_6_code 20 = .ok (.ireturn, 1) := by decide +kernel
set_option maxRecDepth 65536 in
set_option maxHeartbeats 40000000 in
theorem rm_hex {l : Launch} {Z : State} {a0 : Array Value} (hw : ∀ d ∈ tables_1, d.before a0 Z = true) (hs : ∀ d ∈ jdkStatics_1, d.before a0 Z = true) {d : Int32} {h0 : Heap} (O0 : Ext Z.heap h0)  :
    own_Ct l Z (⟨"com/example/reevemark/reevemark/connectors/ldap/LdapEscapeFilterValuePinLaw", "hex", "(I)C"⟩ : MethodName) method_6_code 1 (some .char) [] ({ frames := 0, locals := 0, cells := 0, slots := 0 } : Room) #[(.int d)] h0 (fun v h => v = some (.int (own_hex d)) ∧ h = h0) := by
  refine own_body (Ls := #[.val (.int d)]) (plainFor_of_name pn_com_example_reevemark_reevemark_connectors_ldap_LdapEscapeFilterValuePinLaw) (fun m => by first | (simp [entryFrame, mkF, argsToLocals, Value.category]; done) | rfl) O0 ?_
  intro p e s m below meth c T0 G K0
  refine own_iloadN K0 d_m6_0 rfl rfl ?_
  refine own_bipush K0 (v := (10 : Int32)) d_m6_1 rfl rfl ?_
  by_cases hb : d < (10 : Int32)
  · skip
    refine own_icmpNo K0 d_m6_3 rfl (tlt hb).2.1 ?_
    refine own_bipush K0 (v := (48 : Int32)) d_m6_6 rfl rfl ?_
    refine own_iloadN K0 d_m6_8 rfl rfl ?_
    refine own_iadd K0 d_m6_9 rfl ?_
    refine own_i2c K0 d_m6_10 rfl ?_
    exact own_retN K0 (z' := _) d_m6_11 rfl (by simp) (own_nar_i2c _) (by decide) (by decide) ⟨by unfold own_hex; rw [if_pos hb], rfl⟩
  · skip
    refine own_icmpYes K0 d_m6_3 (pc' := 12) (by decide) (by decide) (flt hb).2.1 ?_
    refine own_bipush K0 (v := (97 : Int32)) d_m6_12 rfl rfl ?_
    refine own_iloadN K0 d_m6_14 rfl rfl ?_
    refine own_bipush K0 (v := (10 : Int32)) d_m6_15 rfl rfl ?_
    refine own_isub K0 d_m6_17 rfl ?_
    refine own_iadd K0 d_m6_18 rfl ?_
    refine own_i2c K0 d_m6_19 rfl ?_
    exact own_retN K0 (z' := _) d_m6_20 rfl (by simp) (own_nar_i2c _) (by decide) (by decide) ⟨by unfold own_hex; rw [if_neg hb], rfl⟩
theorem d_m7_0 : decode method_7_code 0 = .ok (.iload_n 2, 1) := by decide +kernel
theorem d_m7_1 : decode method_7_code 1 = .ok (.invokestatic 39, 3) := by decide +kernel
theorem wd129 {a0 : Array Value} {Z : State} (hw : ∀ d ∈ tables_1, d.before a0 Z = true) : (Jvm.Cond.code ({ cls := "com/example/reevemark/reevemark/connectors/ldap/LdapEscapeFilterValuePinLaw", name := "special", desc := "(C)Z" } : Jvm.MethodName) method_5_code (1 : Nat) (Option.some Jvm.ClassFile.FieldType.boolean)).before a0 Z = true := hw _ (List.mem_of_getElem? (i := 129) rfl)
theorem wd2 {a0 : Array Value} {Z : State} (hw : ∀ d ∈ tables_1, d.before a0 Z = true) : (Jvm.Cond.initialized "com/example/reevemark/reevemark/connectors/ldap/LdapEscapeFilterValuePinLaw").before a0 Z = true := hw _ (List.mem_of_getElem? (i := 2) rfl)
theorem wd127 {a0 : Array Value} {Z : State} (hw : ∀ d ∈ tables_1, d.before a0 Z = true) : (Jvm.Cond.methodLink "com/example/reevemark/reevemark/connectors/ldap/LdapEscapeFilterValuePinLaw" (39 : Nat) ({ cls := "com/example/reevemark/reevemark/connectors/ldap/LdapEscapeFilterValuePinLaw", name := "special", desc := "(C)Z" } : Jvm.MethodName)).before a0 Z = true := hw _ (List.mem_of_getElem? (i := 127) rfl)
theorem wd128 {a0 : Array Value} {Z : State} (hw : ∀ d ∈ tables_1, d.before a0 Z = true) : (Jvm.Cond.static ({ cls := "com/example/reevemark/reevemark/connectors/ldap/LdapEscapeFilterValuePinLaw", name := "special", desc := "(C)Z" } : Jvm.MethodName)).before a0 Z = true := hw _ (List.mem_of_getElem? (i := 128) rfl)
theorem d_m7_4 : decode method_7_code 4 = .ok (.ifCond .eq 38, 3) := by decide +kernel
theorem d_m7_7 : decode method_7_code 7 = .ok (.aload_n 0, 1) := by decide +kernel
theorem d_m7_8 : decode method_7_code 8 = .ok (.iload_n 1, 1) := by decide +kernel
theorem d_m7_9 : decode method_7_code 9 = .ok (.bipush 92, 2) := by decide +kernel
theorem d_m7_11 : decode method_7_code 11 = .ok (.castore, 1) := by decide +kernel
theorem d_m7_12 : decode method_7_code 12 = .ok (.aload_n 0, 1) := by decide +kernel
theorem d_m7_13 : decode method_7_code 13 = .ok (.iload_n 1, 1) := by decide +kernel
theorem d_m7_14 : decode method_7_code 14 = .ok (.iconst 1, 1) := by decide +kernel
theorem d_m7_15 : decode method_7_code 15 = .ok (.iadd, 1) := by decide +kernel
theorem d_m7_16 : decode method_7_code 16 = .ok (.iload_n 2, 1) := by decide +kernel
theorem d_m7_17 : decode method_7_code 17 = .ok (.iconst 4, 1) := by decide +kernel
theorem d_m7_18 : decode method_7_code 18 = .ok (.ishr, 1) := by decide +kernel
theorem d_m7_19 : decode method_7_code 19 = .ok (.bipush 15, 2) := by decide +kernel
theorem d_m7_21 : decode method_7_code 21 = .ok (.iand, 1) := by decide +kernel
theorem d_m7_22 : decode method_7_code 22 = .ok (.invokestatic 43, 3) := by decide +kernel
theorem wd132 {a0 : Array Value} {Z : State} (hw : ∀ d ∈ tables_1, d.before a0 Z = true) : (Jvm.Cond.code ({ cls := "com/example/reevemark/reevemark/connectors/ldap/LdapEscapeFilterValuePinLaw", name := "hex", desc := "(I)C" } : Jvm.MethodName) method_6_code (1 : Nat) (Option.some Jvm.ClassFile.FieldType.char)).before a0 Z = true := hw _ (List.mem_of_getElem? (i := 132) rfl)
theorem wd130 {a0 : Array Value} {Z : State} (hw : ∀ d ∈ tables_1, d.before a0 Z = true) : (Jvm.Cond.methodLink "com/example/reevemark/reevemark/connectors/ldap/LdapEscapeFilterValuePinLaw" (43 : Nat) ({ cls := "com/example/reevemark/reevemark/connectors/ldap/LdapEscapeFilterValuePinLaw", name := "hex", desc := "(I)C" } : Jvm.MethodName)).before a0 Z = true := hw _ (List.mem_of_getElem? (i := 130) rfl)
theorem wd131 {a0 : Array Value} {Z : State} (hw : ∀ d ∈ tables_1, d.before a0 Z = true) : (Jvm.Cond.static ({ cls := "com/example/reevemark/reevemark/connectors/ldap/LdapEscapeFilterValuePinLaw", name := "hex", desc := "(I)C" } : Jvm.MethodName)).before a0 Z = true := hw _ (List.mem_of_getElem? (i := 131) rfl)
theorem d_m7_25 : decode method_7_code 25 = .ok (.castore, 1) := by decide +kernel
theorem d_m7_26 : decode method_7_code 26 = .ok (.aload_n 0, 1) := by decide +kernel
theorem d_m7_27 : decode method_7_code 27 = .ok (.iload_n 1, 1) := by decide +kernel
theorem d_m7_28 : decode method_7_code 28 = .ok (.iconst 2, 1) := by decide +kernel
theorem d_m7_29 : decode method_7_code 29 = .ok (.iadd, 1) := by decide +kernel
theorem d_m7_30 : decode method_7_code 30 = .ok (.iload_n 2, 1) := by decide +kernel
theorem d_m7_31 : decode method_7_code 31 = .ok (.bipush 15, 2) := by decide +kernel
theorem d_m7_33 : decode method_7_code 33 = .ok (.iand, 1) := by decide +kernel
theorem d_m7_34 : decode method_7_code 34 = .ok (.invokestatic 43, 3) := by decide +kernel
theorem d_m7_37 : decode method_7_code 37 = .ok (.castore, 1) := by decide +kernel
theorem d_m7_38 : decode method_7_code 38 = .ok (.iload_n 1, 1) := by decide +kernel
theorem d_m7_39 : decode method_7_code 39 = .ok (.iconst 3, 1) := by decide +kernel
theorem d_m7_40 : decode method_7_code 40 = .ok (.iadd, 1) := by decide +kernel
theorem d_m7_41 : decode method_7_code 41 = .ok (.ireturn, 1) := by decide +kernel
theorem d_m7_42 : decode method_7_code 42 = .ok (.aload_n 0, 1) := by decide +kernel
theorem d_m7_43 : decode method_7_code 43 = .ok (.iload_n 1, 1) := by decide +kernel
theorem d_m7_44 : decode method_7_code 44 = .ok (.iload_n 2, 1) := by decide +kernel
theorem d_m7_45 : decode method_7_code 45 = .ok (.castore, 1) := by decide +kernel
theorem d_m7_46 : decode method_7_code 46 = .ok (.iload_n 1, 1) := by decide +kernel
theorem d_m7_47 : decode method_7_code 47 = .ok (.iconst 1, 1) := by decide +kernel
theorem d_m7_48 : decode method_7_code 48 = .ok (.iadd, 1) := by decide +kernel
theorem d_m7_49 : decode method_7_code 49 = .ok (.ireturn, 1) := by decide +kernel
set_option maxRecDepth 65536 in
set_option maxHeartbeats 40000000 in
theorem rm_put {l : Launch} {Z : State} {a0 : Array Value} (hw : ∀ d ∈ tables_1, d.before a0 Z = true) (hs : ∀ d ∈ jdkStatics_1, d.before a0 Z = true) {ea : Addr} {ke : ClassId} {es : List Int32} {y : Int32} {h0 : Heap} (O0 : Ext Z.heap h0) (V : Arv Z h0 ea ke .char 9 (es.map Value.int) (.int 0)) (hes : es.length + 3 ≤ 9) (hy : ¬ y < 0 ∧ y < 65536) (ge : Z.heap.size ≤ ea) :
    own_Ct l Z (⟨"com/example/reevemark/reevemark/connectors/ldap/LdapEscapeFilterValuePinLaw", "put", "([CIC)I"⟩ : MethodName) method_7_code 3 (some .int) [] ({ frames := 1, locals := 14, cells := 0, slots := 0 } : Room) #[(.ref ea), (.int (Int32.ofNat es.length)), (.int y)] h0 (fun v h => v = some (.int (Int32.ofNat (es ++ own_escC y).length)) ∧ Keep h0 h [ea] ∧ Arv Z h ea ke .char 9 ((es ++ own_escC y).map Value.int) (.int 0)) := by
  refine own_body (Ls := #[.val (.ref ea), .val (.int (Int32.ofNat es.length)), .val (.int y)]) (plainFor_of_name pn_com_example_reevemark_reevemark_connectors_ldap_LdapEscapeFilterValuePinLaw) (fun m => by first | (simp [entryFrame, mkF, argsToLocals, Value.category]; done) | rfl) O0 ?_
  intro p e s m below meth c T0 G K0
  refine own_iloadN K0 d_m7_0 rfl rfl ?_
  refine own_callS K0 (wd127 hw) (wd128 hw) (rm_special hw hs (y := y) K0.O) (wd129 hw) (wd2 hw) (by decide) (argsL := [(.int y)]) (rest := []) rfl pd_28C29Z rfl rfl (W := 0) rfl (by decide) (by decide) (by decide) (by decide) d_m7_1 rfl ?_
  intro T179 h179 L179 v179 K179 q179
  obtain ⟨rfl, e179⟩ := q179
  have f179 := e179.symm
  subst f179
  show G (T179.setTop (mkF m 4 #[.val (.ref ea), .val (.int (Int32.ofNat es.length)), .val (.int y)] [(.int (cond (own_spb y) 1 0))]))
  by_cases hsp : own_sp y
  · skip
    rcases hsp with rfl | rfl | rfl | rfl | rfl
    · skip
      refine own_ifNo K179 d_m7_4 rfl ((if0 _ _).trans (feq (by decide)).1) ?_
      refine own_aloadN K179 d_m7_7 rfl rfl rfl ?_
      refine own_iloadN K179 d_m7_8 rfl rfl ?_
      refine own_bipush K179 (v := (92 : Int32)) d_m7_9 rfl rfl ?_
      refine own_castore K179 (V.pad (pad_rep _ _ 3)) ⟨own_nn (by omega), own_lt (n := 9) (by omega) (by decide)⟩ es.length (own_clamp (by omega)) (by simp) (x' := 92) (by decide) ge d_m7_11 rfl ?_
      intro T180 h180 K180 W180 V180
      refine own_aloadN K180 d_m7_12 rfl rfl rfl ?_
      refine own_iloadN K180 d_m7_13 rfl rfl ?_
      refine own_iconst K180 (v := (1 : Int32)) d_m7_14 rfl rfl ?_
      refine own_iadd K180 d_m7_15 rfl ?_
      rw [own_one]
      refine own_iloadN K180 d_m7_16 rfl rfl ?_
      refine own_iconst K180 (v := (4 : Int32)) d_m7_17 rfl rfl ?_
      refine own_ishr K180 d_m7_18 rfl ?_
      refine own_bipush K180 (v := (15 : Int32)) d_m7_19 rfl rfl ?_
      refine own_iand K180 d_m7_21 rfl ?_
      refine own_callS K180 (wd130 hw) (wd131 hw) (rm_hex hw hs K180.O) (wd132 hw) (wd2 hw) (by decide) (argsL := [(.int (((42 : Int32) >>> ((4 : Int32) &&& 31)) &&& (15 : Int32)))]) (rest := [(.int (Int32.ofNat (es.length + 1))), (.ref ea)]) rfl pd_28I29C rfl rfl (W := 2) rfl (by decide) (by decide) (by decide) (by decide) d_m7_22 rfl ?_
      intro T181 h181 L181 v181 K181 q181
      obtain ⟨rfl, e181⟩ := q181
      have f181 := e181.symm
      subst f181
      show G (T181.setTop (mkF m 25 #[.val (.ref ea), .val (.int (Int32.ofNat es.length)), .val (.int (42 : Int32))] [(.int (own_hex (((42 : Int32) >>> ((4 : Int32) &&& 31)) &&& (15 : Int32)))), (.int (Int32.ofNat (es.length + 1))), (.ref ea)]))
      refine own_castore K181 V180 ⟨own_nn (by omega), own_lt (n := 9) (by omega) (by decide)⟩ (es.length + 1) (own_clamp (by omega)) (by simp) (x' := 50) (by decide) ge d_m7_25 rfl ?_
      intro T182 h182 K182 W182 V182
      refine own_aloadN K182 d_m7_26 rfl rfl rfl ?_
      refine own_iloadN K182 d_m7_27 rfl rfl ?_
      refine own_iconst K182 (v := (2 : Int32)) d_m7_28 rfl rfl ?_
      refine own_iadd K182 d_m7_29 rfl ?_
      rw [own_add2]
      refine own_iloadN K182 d_m7_30 rfl rfl ?_
      refine own_bipush K182 (v := (15 : Int32)) d_m7_31 rfl rfl ?_
      refine own_iand K182 d_m7_33 rfl ?_
      refine own_callS K182 (wd130 hw) (wd131 hw) (rm_hex hw hs K182.O) (wd132 hw) (wd2 hw) (by decide) (argsL := [(.int ((42 : Int32) &&& (15 : Int32)))]) (rest := [(.int (Int32.ofNat (es.length + 2))), (.ref ea)]) rfl pd_28I29C rfl rfl (W := 2) rfl (by decide) (by decide) (by decide) (by decide) d_m7_34 rfl ?_
      intro T183 h183 L183 v183 K183 q183
      obtain ⟨rfl, e183⟩ := q183
      have f183 := e183.symm
      subst f183
      show G (T183.setTop (mkF m 37 #[.val (.ref ea), .val (.int (Int32.ofNat es.length)), .val (.int (42 : Int32))] [(.int (own_hex ((42 : Int32) &&& (15 : Int32)))), (.int (Int32.ofNat (es.length + 2))), (.ref ea)]))
      refine own_castore K183 V182 ⟨own_nn (by omega), own_lt (n := 9) (by omega) (by decide)⟩ (es.length + 2) (own_clamp (by omega)) (by simp) (x' := 97) (by decide) ge d_m7_37 rfl ?_
      intro T184 h184 K184 W184 V184
      refine own_iloadN K184 d_m7_38 rfl rfl ?_
      refine own_iconst K184 (v := (3 : Int32)) d_m7_39 rfl rfl ?_
      refine own_iadd K184 d_m7_40 rfl ?_
      have he : own_escC 42 = [(92 : Int32), 50, 97] := by decide
      exact own_retI K184 d_m7_41 rfl (by decide) (by decide) ⟨by rw [own_add3, he, List.length_append]; rfl, ((Keep.of_wr W180).wr W182 (Or.inl (List.mem_singleton.mpr rfl))).wr W184 (Or.inl (List.mem_singleton.mpr rfl)), by have q := V184; rw [show es.length = (es.map Value.int).length by simp, own_set_end3] at q; rw [he, List.map_append]; exact q⟩
    · skip
      refine own_ifNo K179 d_m7_4 rfl ((if0 _ _).trans (feq (by decide)).1) ?_
      refine own_aloadN K179 d_m7_7 rfl rfl rfl ?_
      refine own_iloadN K179 d_m7_8 rfl rfl ?_
      refine own_bipush K179 (v := (92 : Int32)) d_m7_9 rfl rfl ?_
      refine own_castore K179 (V.pad (pad_rep _ _ 3)) ⟨own_nn (by omega), own_lt (n := 9) (by omega) (by decide)⟩ es.length (own_clamp (by omega)) (by simp) (x' := 92) (by decide) ge d_m7_11 rfl ?_
      intro T185 h185 K185 W185 V185
      refine own_aloadN K185 d_m7_12 rfl rfl rfl ?_
      refine own_iloadN K185 d_m7_13 rfl rfl ?_
      refine own_iconst K185 (v := (1 : Int32)) d_m7_14 rfl rfl ?_
      refine own_iadd K185 d_m7_15 rfl ?_
      rw [own_one]
      refine own_iloadN K185 d_m7_16 rfl rfl ?_
      refine own_iconst K185 (v := (4 : Int32)) d_m7_17 rfl rfl ?_
      refine own_ishr K185 d_m7_18 rfl ?_
      refine own_bipush K185 (v := (15 : Int32)) d_m7_19 rfl rfl ?_
      refine own_iand K185 d_m7_21 rfl ?_
      refine own_callS K185 (wd130 hw) (wd131 hw) (rm_hex hw hs K185.O) (wd132 hw) (wd2 hw) (by decide) (argsL := [(.int (((40 : Int32) >>> ((4 : Int32) &&& 31)) &&& (15 : Int32)))]) (rest := [(.int (Int32.ofNat (es.length + 1))), (.ref ea)]) rfl pd_28I29C rfl rfl (W := 2) rfl (by decide) (by decide) (by decide) (by decide) d_m7_22 rfl ?_
      intro T186 h186 L186 v186 K186 q186
      obtain ⟨rfl, e186⟩ := q186
      have f186 := e186.symm
      subst f186
      show G (T186.setTop (mkF m 25 #[.val (.ref ea), .val (.int (Int32.ofNat es.length)), .val (.int (40 : Int32))] [(.int (own_hex (((40 : Int32) >>> ((4 : Int32) &&& 31)) &&& (15 : Int32)))), (.int (Int32.ofNat (es.length + 1))), (.ref ea)]))
      refine own_castore K186 V185 ⟨own_nn (by omega), own_lt (n := 9) (by omega) (by decide)⟩ (es.length + 1) (own_clamp (by omega)) (by simp) (x' := 50) (by decide) ge d_m7_25 rfl ?_
      intro T187 h187 K187 W187 V187
      refine own_aloadN K187 d_m7_26 rfl rfl rfl ?_
      refine own_iloadN K187 d_m7_27 rfl rfl ?_
      refine own_iconst K187 (v := (2 : Int32)) d_m7_28 rfl rfl ?_
      refine own_iadd K187 d_m7_29 rfl ?_
      rw [own_add2]
      refine own_iloadN K187 d_m7_30 rfl rfl ?_
      refine own_bipush K187 (v := (15 : Int32)) d_m7_31 rfl rfl ?_
      refine own_iand K187 d_m7_33 rfl ?_
      refine own_callS K187 (wd130 hw) (wd131 hw) (rm_hex hw hs K187.O) (wd132 hw) (wd2 hw) (by decide) (argsL := [(.int ((40 : Int32) &&& (15 : Int32)))]) (rest := [(.int (Int32.ofNat (es.length + 2))), (.ref ea)]) rfl pd_28I29C rfl rfl (W := 2) rfl (by decide) (by decide) (by decide) (by decide) d_m7_34 rfl ?_
      intro T188 h188 L188 v188 K188 q188
      obtain ⟨rfl, e188⟩ := q188
      have f188 := e188.symm
      subst f188
      show G (T188.setTop (mkF m 37 #[.val (.ref ea), .val (.int (Int32.ofNat es.length)), .val (.int (40 : Int32))] [(.int (own_hex ((40 : Int32) &&& (15 : Int32)))), (.int (Int32.ofNat (es.length + 2))), (.ref ea)]))
      refine own_castore K188 V187 ⟨own_nn (by omega), own_lt (n := 9) (by omega) (by decide)⟩ (es.length + 2) (own_clamp (by omega)) (by simp) (x' := 56) (by decide) ge d_m7_37 rfl ?_
      intro T189 h189 K189 W189 V189
      refine own_iloadN K189 d_m7_38 rfl rfl ?_
      refine own_iconst K189 (v := (3 : Int32)) d_m7_39 rfl rfl ?_
      refine own_iadd K189 d_m7_40 rfl ?_
      have he : own_escC 40 = [(92 : Int32), 50, 56] := by decide
      exact own_retI K189 d_m7_41 rfl (by decide) (by decide) ⟨by rw [own_add3, he, List.length_append]; rfl, ((Keep.of_wr W185).wr W187 (Or.inl (List.mem_singleton.mpr rfl))).wr W189 (Or.inl (List.mem_singleton.mpr rfl)), by have q := V189; rw [show es.length = (es.map Value.int).length by simp, own_set_end3] at q; rw [he, List.map_append]; exact q⟩
    · skip
      refine own_ifNo K179 d_m7_4 rfl ((if0 _ _).trans (feq (by decide)).1) ?_
      refine own_aloadN K179 d_m7_7 rfl rfl rfl ?_
      refine own_iloadN K179 d_m7_8 rfl rfl ?_
      refine own_bipush K179 (v := (92 : Int32)) d_m7_9 rfl rfl ?_
      refine own_castore K179 (V.pad (pad_rep _ _ 3)) ⟨own_nn (by omega), own_lt (n := 9) (by omega) (by decide)⟩ es.length (own_clamp (by omega)) (by simp) (x' := 92) (by decide) ge d_m7_11 rfl ?_
      intro T190 h190 K190 W190 V190
      refine own_aloadN K190 d_m7_12 rfl rfl rfl ?_
      refine own_iloadN K190 d_m7_13 rfl rfl ?_
      refine own_iconst K190 (v := (1 : Int32)) d_m7_14 rfl rfl ?_
      refine own_iadd K190 d_m7_15 rfl ?_
      rw [own_one]
      refine own_iloadN K190 d_m7_16 rfl rfl ?_
      refine own_iconst K190 (v := (4 : Int32)) d_m7_17 rfl rfl ?_
      refine own_ishr K190 d_m7_18 rfl ?_
      refine own_bipush K190 (v := (15 : Int32)) d_m7_19 rfl rfl ?_
      refine own_iand K190 d_m7_21 rfl ?_
      refine own_callS K190 (wd130 hw) (wd131 hw) (rm_hex hw hs K190.O) (wd132 hw) (wd2 hw) (by decide) (argsL := [(.int (((41 : Int32) >>> ((4 : Int32) &&& 31)) &&& (15 : Int32)))]) (rest := [(.int (Int32.ofNat (es.length + 1))), (.ref ea)]) rfl pd_28I29C rfl rfl (W := 2) rfl (by decide) (by decide) (by decide) (by decide) d_m7_22 rfl ?_
      intro T191 h191 L191 v191 K191 q191
      obtain ⟨rfl, e191⟩ := q191
      have f191 := e191.symm
      subst f191
      show G (T191.setTop (mkF m 25 #[.val (.ref ea), .val (.int (Int32.ofNat es.length)), .val (.int (41 : Int32))] [(.int (own_hex (((41 : Int32) >>> ((4 : Int32) &&& 31)) &&& (15 : Int32)))), (.int (Int32.ofNat (es.length + 1))), (.ref ea)]))
      refine own_castore K191 V190 ⟨own_nn (by omega), own_lt (n := 9) (by omega) (by decide)⟩ (es.length + 1) (own_clamp (by omega)) (by simp) (x' := 50) (by decide) ge d_m7_25 rfl ?_
      intro T192 h192 K192 W192 V192
      refine own_aloadN K192 d_m7_26 rfl rfl rfl ?_
      refine own_iloadN K192 d_m7_27 rfl rfl ?_
      refine own_iconst K192 (v := (2 : Int32)) d_m7_28 rfl rfl ?_
      refine own_iadd K192 d_m7_29 rfl ?_
      rw [own_add2]
      refine own_iloadN K192 d_m7_30 rfl rfl ?_
      refine own_bipush K192 (v := (15 : Int32)) d_m7_31 rfl rfl ?_
      refine own_iand K192 d_m7_33 rfl ?_
      refine own_callS K192 (wd130 hw) (wd131 hw) (rm_hex hw hs K192.O) (wd132 hw) (wd2 hw) (by decide) (argsL := [(.int ((41 : Int32) &&& (15 : Int32)))]) (rest := [(.int (Int32.ofNat (es.length + 2))), (.ref ea)]) rfl pd_28I29C rfl rfl (W := 2) rfl (by decide) (by decide) (by decide) (by decide) d_m7_34 rfl ?_
      intro T193 h193 L193 v193 K193 q193
      obtain ⟨rfl, e193⟩ := q193
      have f193 := e193.symm
      subst f193
      show G (T193.setTop (mkF m 37 #[.val (.ref ea), .val (.int (Int32.ofNat es.length)), .val (.int (41 : Int32))] [(.int (own_hex ((41 : Int32) &&& (15 : Int32)))), (.int (Int32.ofNat (es.length + 2))), (.ref ea)]))
      refine own_castore K193 V192 ⟨own_nn (by omega), own_lt (n := 9) (by omega) (by decide)⟩ (es.length + 2) (own_clamp (by omega)) (by simp) (x' := 57) (by decide) ge d_m7_37 rfl ?_
      intro T194 h194 K194 W194 V194
      refine own_iloadN K194 d_m7_38 rfl rfl ?_
      refine own_iconst K194 (v := (3 : Int32)) d_m7_39 rfl rfl ?_
      refine own_iadd K194 d_m7_40 rfl ?_
      have he : own_escC 41 = [(92 : Int32), 50, 57] := by decide
      exact own_retI K194 d_m7_41 rfl (by decide) (by decide) ⟨by rw [own_add3, he, List.length_append]; rfl, ((Keep.of_wr W190).wr W192 (Or.inl (List.mem_singleton.mpr rfl))).wr W194 (Or.inl (List.mem_singleton.mpr rfl)), by have q := V194; rw [show es.length = (es.map Value.int).length by simp, own_set_end3] at q; rw [he, List.map_append]; exact q⟩
    · skip
      refine own_ifNo K179 d_m7_4 rfl ((if0 _ _).trans (feq (by decide)).1) ?_
      refine own_aloadN K179 d_m7_7 rfl rfl rfl ?_
      refine own_iloadN K179 d_m7_8 rfl rfl ?_
      refine own_bipush K179 (v := (92 : Int32)) d_m7_9 rfl rfl ?_
      refine own_castore K179 (V.pad (pad_rep _ _ 3)) ⟨own_nn (by omega), own_lt (n := 9) (by omega) (by decide)⟩ es.length (own_clamp (by omega)) (by simp) (x' := 92) (by decide) ge d_m7_11 rfl ?_
      intro T195 h195 K195 W195 V195
      refine own_aloadN K195 d_m7_12 rfl rfl rfl ?_
      refine own_iloadN K195 d_m7_13 rfl rfl ?_
      refine own_iconst K195 (v := (1 : Int32)) d_m7_14 rfl rfl ?_
      refine own_iadd K195 d_m7_15 rfl ?_
      rw [own_one]
      refine own_iloadN K195 d_m7_16 rfl rfl ?_
      refine own_iconst K195 (v := (4 : Int32)) d_m7_17 rfl rfl ?_
      refine own_ishr K195 d_m7_18 rfl ?_
      refine own_bipush K195 (v := (15 : Int32)) d_m7_19 rfl rfl ?_
      refine own_iand K195 d_m7_21 rfl ?_
      refine own_callS K195 (wd130 hw) (wd131 hw) (rm_hex hw hs K195.O) (wd132 hw) (wd2 hw) (by decide) (argsL := [(.int (((92 : Int32) >>> ((4 : Int32) &&& 31)) &&& (15 : Int32)))]) (rest := [(.int (Int32.ofNat (es.length + 1))), (.ref ea)]) rfl pd_28I29C rfl rfl (W := 2) rfl (by decide) (by decide) (by decide) (by decide) d_m7_22 rfl ?_
      intro T196 h196 L196 v196 K196 q196
      obtain ⟨rfl, e196⟩ := q196
      have f196 := e196.symm
      subst f196
      show G (T196.setTop (mkF m 25 #[.val (.ref ea), .val (.int (Int32.ofNat es.length)), .val (.int (92 : Int32))] [(.int (own_hex (((92 : Int32) >>> ((4 : Int32) &&& 31)) &&& (15 : Int32)))), (.int (Int32.ofNat (es.length + 1))), (.ref ea)]))
      refine own_castore K196 V195 ⟨own_nn (by omega), own_lt (n := 9) (by omega) (by decide)⟩ (es.length + 1) (own_clamp (by omega)) (by simp) (x' := 53) (by decide) ge d_m7_25 rfl ?_
      intro T197 h197 K197 W197 V197
      refine own_aloadN K197 d_m7_26 rfl rfl rfl ?_
      refine own_iloadN K197 d_m7_27 rfl rfl ?_
      refine own_iconst K197 (v := (2 : Int32)) d_m7_28 rfl rfl ?_
      refine own_iadd K197 d_m7_29 rfl ?_
      rw [own_add2]
      refine own_iloadN K197 d_m7_30 rfl rfl ?_
      refine own_bipush K197 (v := (15 : Int32)) d_m7_31 rfl rfl ?_
      refine own_iand K197 d_m7_33 rfl ?_
      refine own_callS K197 (wd130 hw) (wd131 hw) (rm_hex hw hs K197.O) (wd132 hw) (wd2 hw) (by decide) (argsL := [(.int ((92 : Int32) &&& (15 : Int32)))]) (rest := [(.int (Int32.ofNat (es.length + 2))), (.ref ea)]) rfl pd_28I29C rfl rfl (W := 2) rfl (by decide) (by decide) (by decide) (by decide) d_m7_34 rfl ?_
      intro T198 h198 L198 v198 K198 q198
      obtain ⟨rfl, e198⟩ := q198
      have f198 := e198.symm
      subst f198
      show G (T198.setTop (mkF m 37 #[.val (.ref ea), .val (.int (Int32.ofNat es.length)), .val (.int (92 : Int32))] [(.int (own_hex ((92 : Int32) &&& (15 : Int32)))), (.int (Int32.ofNat (es.length + 2))), (.ref ea)]))
      refine own_castore K198 V197 ⟨own_nn (by omega), own_lt (n := 9) (by omega) (by decide)⟩ (es.length + 2) (own_clamp (by omega)) (by simp) (x' := 99) (by decide) ge d_m7_37 rfl ?_
      intro T199 h199 K199 W199 V199
      refine own_iloadN K199 d_m7_38 rfl rfl ?_
      refine own_iconst K199 (v := (3 : Int32)) d_m7_39 rfl rfl ?_
      refine own_iadd K199 d_m7_40 rfl ?_
      have he : own_escC 92 = [(92 : Int32), 53, 99] := by decide
      exact own_retI K199 d_m7_41 rfl (by decide) (by decide) ⟨by rw [own_add3, he, List.length_append]; rfl, ((Keep.of_wr W195).wr W197 (Or.inl (List.mem_singleton.mpr rfl))).wr W199 (Or.inl (List.mem_singleton.mpr rfl)), by have q := V199; rw [show es.length = (es.map Value.int).length by simp, own_set_end3] at q; rw [he, List.map_append]; exact q⟩
    · skip
      refine own_ifNo K179 d_m7_4 rfl ((if0 _ _).trans (feq (by decide)).1) ?_
      refine own_aloadN K179 d_m7_7 rfl rfl rfl ?_
      refine own_iloadN K179 d_m7_8 rfl rfl ?_
      refine own_bipush K179 (v := (92 : Int32)) d_m7_9 rfl rfl ?_
      refine own_castore K179 (V.pad (pad_rep _ _ 3)) ⟨own_nn (by omega), own_lt (n := 9) (by omega) (by decide)⟩ es.length (own_clamp (by omega)) (by simp) (x' := 92) (by decide) ge d_m7_11 rfl ?_
      intro T200 h200 K200 W200 V200
      refine own_aloadN K200 d_m7_12 rfl rfl rfl ?_
      refine own_iloadN K200 d_m7_13 rfl rfl ?_
      refine own_iconst K200 (v := (1 : Int32)) d_m7_14 rfl rfl ?_
      refine own_iadd K200 d_m7_15 rfl ?_
      rw [own_one]
      refine own_iloadN K200 d_m7_16 rfl rfl ?_
      refine own_iconst K200 (v := (4 : Int32)) d_m7_17 rfl rfl ?_
      refine own_ishr K200 d_m7_18 rfl ?_
      refine own_bipush K200 (v := (15 : Int32)) d_m7_19 rfl rfl ?_
      refine own_iand K200 d_m7_21 rfl ?_
      refine own_callS K200 (wd130 hw) (wd131 hw) (rm_hex hw hs K200.O) (wd132 hw) (wd2 hw) (by decide) (argsL := [(.int (((0 : Int32) >>> ((4 : Int32) &&& 31)) &&& (15 : Int32)))]) (rest := [(.int (Int32.ofNat (es.length + 1))), (.ref ea)]) rfl pd_28I29C rfl rfl (W := 2) rfl (by decide) (by decide) (by decide) (by decide) d_m7_22 rfl ?_
      intro T201 h201 L201 v201 K201 q201
      obtain ⟨rfl, e201⟩ := q201
      have f201 := e201.symm
      subst f201
      show G (T201.setTop (mkF m 25 #[.val (.ref ea), .val (.int (Int32.ofNat es.length)), .val (.int (0 : Int32))] [(.int (own_hex (((0 : Int32) >>> ((4 : Int32) &&& 31)) &&& (15 : Int32)))), (.int (Int32.ofNat (es.length + 1))), (.ref ea)]))
      refine own_castore K201 V200 ⟨own_nn (by omega), own_lt (n := 9) (by omega) (by decide)⟩ (es.length + 1) (own_clamp (by omega)) (by simp) (x' := 48) (by decide) ge d_m7_25 rfl ?_
      intro T202 h202 K202 W202 V202
      refine own_aloadN K202 d_m7_26 rfl rfl rfl ?_
      refine own_iloadN K202 d_m7_27 rfl rfl ?_
      refine own_iconst K202 (v := (2 : Int32)) d_m7_28 rfl rfl ?_
      refine own_iadd K202 d_m7_29 rfl ?_
      rw [own_add2]
      refine own_iloadN K202 d_m7_30 rfl rfl ?_
      refine own_bipush K202 (v := (15 : Int32)) d_m7_31 rfl rfl ?_
      refine own_iand K202 d_m7_33 rfl ?_
      refine own_callS K202 (wd130 hw) (wd131 hw) (rm_hex hw hs K202.O) (wd132 hw) (wd2 hw) (by decide) (argsL := [(.int ((0 : Int32) &&& (15 : Int32)))]) (rest := [(.int (Int32.ofNat (es.length + 2))), (.ref ea)]) rfl pd_28I29C rfl rfl (W := 2) rfl (by decide) (by decide) (by decide) (by decide) d_m7_34 rfl ?_
      intro T203 h203 L203 v203 K203 q203
      obtain ⟨rfl, e203⟩ := q203
      have f203 := e203.symm
      subst f203
      show G (T203.setTop (mkF m 37 #[.val (.ref ea), .val (.int (Int32.ofNat es.length)), .val (.int (0 : Int32))] [(.int (own_hex ((0 : Int32) &&& (15 : Int32)))), (.int (Int32.ofNat (es.length + 2))), (.ref ea)]))
      refine own_castore K203 V202 ⟨own_nn (by omega), own_lt (n := 9) (by omega) (by decide)⟩ (es.length + 2) (own_clamp (by omega)) (by simp) (x' := 48) (by decide) ge d_m7_37 rfl ?_
      intro T204 h204 K204 W204 V204
      refine own_iloadN K204 d_m7_38 rfl rfl ?_
      refine own_iconst K204 (v := (3 : Int32)) d_m7_39 rfl rfl ?_
      refine own_iadd K204 d_m7_40 rfl ?_
      have he : own_escC 0 = [(92 : Int32), 48, 48] := by decide
      exact own_retI K204 d_m7_41 rfl (by decide) (by decide) ⟨by rw [own_add3, he, List.length_append]; rfl, ((Keep.of_wr W200).wr W202 (Or.inl (List.mem_singleton.mpr rfl))).wr W204 (Or.inl (List.mem_singleton.mpr rfl)), by have q := V204; rw [show es.length = (es.map Value.int).length by simp, own_set_end3] at q; rw [he, List.map_append]; exact q⟩
  · skip
    have he : own_escC y = [y] := by unfold own_escC; rw [if_neg (fun q => hsp (Or.inl q)), if_neg (fun q => hsp (Or.inr (Or.inl q))), if_neg (fun q => hsp (Or.inr (Or.inr (Or.inl q)))), if_neg (fun q => hsp (Or.inr (Or.inr (Or.inr (Or.inl q))))), if_neg (fun q => hsp (Or.inr (Or.inr (Or.inr (Or.inr q)))))]
    have hf : own_spb y = false := by simp only [own_spb, Bool.or_eq_false_iff, decide_eq_false_iff_not]; exact ⟨⟨⟨⟨fun q => hsp (Or.inl q), fun q => hsp (Or.inr (Or.inl q))⟩, fun q => hsp (Or.inr (Or.inr (Or.inl q)))⟩, fun q => hsp (Or.inr (Or.inr (Or.inr (Or.inl q))))⟩, fun q => hsp (Or.inr (Or.inr (Or.inr (Or.inr q))))⟩
    refine own_ifYes K179 d_m7_4 (pc' := 42) (by decide) (by decide) ((if0 _ _).trans (teq (by rw [hf]; rfl)).1) ?_
    refine own_aloadN K179 d_m7_42 rfl rfl rfl ?_
    refine own_iloadN K179 d_m7_43 rfl rfl ?_
    refine own_iloadN K179 d_m7_44 rfl rfl ?_
    refine own_castore K179 (V.pad (pad_rep _ _ 1)) ⟨own_nn (by omega), own_lt (n := 9) (by omega) (by decide)⟩ es.length (own_clamp (by omega)) (by simp) (x' := y) (own_nar_char hy) ge d_m7_45 rfl ?_
    intro T205 h205 K205 W205 V205
    refine own_iloadN K205 d_m7_46 rfl rfl ?_
    refine own_iconst K205 (v := (1 : Int32)) d_m7_47 rfl rfl ?_
    refine own_iadd K205 d_m7_48 rfl ?_
    exact own_retI K205 d_m7_49 rfl (by decide) (by decide) ⟨by rw [own_one, he, List.length_append]; rfl, Keep.of_wr W205, by have q := V205; rw [show es.length = (es.map Value.int).length by simp, own_set_end] at q; rw [he, List.map_append]; exact q⟩
theorem d_m3_0 : decode method_3_code 0 = .ok (.iload_n 3, 1) := by decide +kernel
theorem d_m3_1 : decode method_3_code 1 = .ok (.iload_n 2, 1) := by decide +kernel
theorem d_m3_2 : decode method_3_code 2 = .ok (.if_icmp .ge 14, 3) := by decide +kernel
theorem d_m3_5 : decode method_3_code 5 = .ok (.aload_n 0, 1) := by decide +kernel
theorem d_m3_6 : decode method_3_code 6 = .ok (.iload_n 3, 1) := by decide +kernel
theorem d_m3_7 : decode method_3_code 7 = .ok (.invokevirtual 36, 3) := by decide +kernel
theorem wd202 {a0 : Array Value} {Z : State} (hw : ∀ d ∈ tables_1, d.before a0 Z = true) : (Jvm.Cond.methodLink "com/example/reevemark/reevemark/connectors/ldap/LdapEscapeFilterValuePinLaw" (36 : Nat) ({ cls := "java/lang/String", name := "charAt", desc := "(I)C" } : Jvm.MethodName)).before a0 Z = true := hw _ (List.mem_of_getElem? (i := 202) rfl)
theorem d_m3_10 : decode method_3_code 10 = .ok (.aload_n 1, 1) := by decide +kernel
theorem d_m3_11 : decode method_3_code 11 = .ok (.iload_n 3, 1) := by decide +kernel
theorem d_m3_12 : decode method_3_code 12 = .ok (.caload, 1) := by decide +kernel
theorem d_m3_13 : decode method_3_code 13 = .ok (.if_icmp .ne 7, 3) := by decide +kernel
theorem d_m3_16 : decode method_3_code 16 = .ok (.iconst 1, 1) := by decide +kernel
theorem d_m3_17 : decode method_3_code 17 = .ok (.goto 4, 3) := by decide +kernel
theorem d_m3_21 : decode method_3_code 21 = .ok (.ireturn, 1) := by decide +kernel
set_option maxRecDepth 65536 in
set_option maxHeartbeats 40000000 in
theorem rm_at {l : Launch} {Z : State} {a0 : Array Value} (hw : ∀ d ∈ tables_1, d.before a0 Z = true) (hs : ∀ d ∈ jdkStatics_1, d.before a0 Z = true) {r : Addr} {u : Bool} {es : List Int32} {ea : Addr} {ke : ClassId} {i : Nat} {h0 : Heap} (O0 : Ext Z.heap h0) (S : own_StrG Z h0 r u es) (hok : own_ok u es) (hlen : es.length ≤ 9) (V : Arv Z h0 ea ke .char 9 (es.map Value.int) (.int 0)) (hi : i < 9) :
    own_Ct l Z (⟨"com/example/reevemark/reevemark/connectors/ldap/LdapEscapeFilterValuePinLaw", "at", "(Ljava/lang/String;[CII)Z"⟩ : MethodName) method_3_code 4 (some .boolean) [] ({ frames := 5, locals := 66, cells := 0, slots := 0 } : Room) #[(.ref r), (.ref ea), (.int (Int32.ofNat es.length)), (.int (Int32.ofNat i))] h0 (fun v h => v = some (.int 1) ∧ h = h0) := by
  refine own_body (Ls := #[.val (.ref r), .val (.ref ea), .val (.int (Int32.ofNat es.length)), .val (.int (Int32.ofNat i))]) (plainFor_of_name pn_com_example_reevemark_reevemark_connectors_ldap_LdapEscapeFilterValuePinLaw) (fun m => by first | (simp [entryFrame, mkF, argsToLocals, Value.category]; done) | rfl) O0 ?_
  intro p e s m below meth c T0 G K0
  refine own_iloadN K0 d_m3_0 rfl rfl ?_
  refine own_iloadN K0 d_m3_1 rfl rfl ?_
  by_cases hq : i < es.length
  · skip
    refine own_icmpNo K0 d_m3_2 rfl (tlt (own_lt hq (by omega))).2.1 ?_
    refine own_aloadN K0 d_m3_5 rfl rfl rfl ?_
    refine own_iloadN K0 d_m3_6 rfl rfl ?_
    refine own_callV K0 (a := r) (x0 := (⟨"java/lang/String", "charAt", "(I)C"⟩ : MethodName)) (wd202 hw) (wd134 hw) (fun q => own_nfS (args := #[]) (mvT q (wd36 hw)) rfl) (wd136 hw) (wd135 hw) (rm_charAt hw hs K0.O S (by omega) hok hq) (wd137 hw) (wd6 hw) (by decide) S.exa (argsL := [(.int (Int32.ofNat i))]) (rest := []) rfl pd_28I29C rfl rfl (W := 0) rfl (by decide) (by decide) (by decide) (by decide) d_m3_7 rfl ?_
    intro T206 h206 L206 v206 K206 q206
    obtain ⟨rfl, e206⟩ := q206
    have f206 := e206.symm
    subst f206
    show G (T206.setTop (mkF m 10 #[.val (.ref r), .val (.ref ea), .val (.int (Int32.ofNat es.length)), .val (.int (Int32.ofNat i))] [(.int es[i])]))
    refine own_aloadN K206 d_m3_10 rfl rfl rfl ?_
    refine own_iloadN K206 d_m3_11 rfl rfl ?_
    refine own_caload K206 (x := es[i]) V ⟨own_nn (by omega), own_lt (n := 9) hi (by decide)⟩ (by rw [own_clamp (by omega)]; simp [hq]) d_m3_12 rfl ?_
    refine own_icmpNo K206 d_m3_13 rfl (teq rfl).2 ?_
    refine own_iconst K206 (v := (1 : Int32)) d_m3_16 rfl rfl ?_
    refine own_goto K206 d_m3_17 (pc' := 21) (by decide) (by decide) ?_
    exact own_retN K206 (z' := (1 : Int32)) d_m3_21 rfl (by simp) (by decide) (by decide) (by decide) ⟨rfl, rfl⟩
  · skip
    refine own_icmpYes K0 d_m3_2 (pc' := 16) (by decide) (by decide) (flt (own_nlt (by omega) (by omega))).2.1 ?_
    refine own_iconst K0 (v := (1 : Int32)) d_m3_16 rfl rfl ?_
    refine own_goto K0 d_m3_17 (pc' := 21) (by decide) (by decide) ?_
    exact own_retN K0 (z' := (1 : Int32)) d_m3_21 rfl (by simp) (by decide) (by decide) (by decide) ⟨rfl, rfl⟩
theorem d_jdk_52_m21_3 : decode jdk_52_method_21_code 3 = .ok (.iload 5, 2) := by decide +kernel
theorem d_jdk_52_m21_5 : decode jdk_52_method_21_code 5 = .ok (.iload 4, 2) := by decide +kernel
theorem d_jdk_52_m21_7 : decode jdk_52_method_21_code 7 = .ok (.if_icmp .ge 37, 3) := by decide +kernel
theorem d_jdk_52_m21_10 : decode jdk_52_method_21_code 10 = .ok (.aload_n 0, 1) := by decide +kernel
theorem d_jdk_52_m21_11 : decode jdk_52_method_21_code 11 = .ok (.iload_n 1, 1) := by decide +kernel
theorem d_jdk_52_m21_12 : decode jdk_52_method_21_code 12 = .ok (.caload, 1) := by decide +kernel
theorem d_jdk_52_m21_13 : decode jdk_52_method_21_code 13 = .ok (.istore 6, 2) := by decide +kernel
theorem d_jdk_52_m21_15 : decode jdk_52_method_21_code 15 = .ok (.iload 6, 2) := by decide +kernel
theorem d_jdk_52_m21_17 : decode jdk_52_method_21_code 17 = .ok (.sipush 255, 3) := by decide +kernel
theorem d_jdk_52_m21_20 : decode jdk_52_method_21_code 20 = .ok (.if_icmp .le 6, 3) := by decide +kernel
theorem d_jdk_52_m21_26 : decode jdk_52_method_21_code 26 = .ok (.aload_n 2, 1) := by decide +kernel
theorem d_jdk_52_m21_27 : decode jdk_52_method_21_code 27 = .ok (.iload_n 3, 1) := by decide +kernel
theorem d_jdk_52_m21_28 : decode jdk_52_method_21_code 28 = .ok (.iload 6, 2) := by decide +kernel
theorem d_jdk_52_m21_30 : decode jdk_52_method_21_code 30 = .ok (.i2b, 1) := by decide +kernel
theorem d_jdk_52_m21_31 : decode jdk_52_method_21_code 31 = .ok (.bastore, 1) := by decide +kernel
theorem d_jdk_52_m21_32 : decode jdk_52_method_21_code 32 = .ok (.iinc 1 1, 3) := by decide +kernel
theorem d_jdk_52_m21_35 : decode jdk_52_method_21_code 35 = .ok (.iinc 3 1, 3) := by decide +kernel
theorem d_jdk_52_m21_38 : decode jdk_52_method_21_code 38 = .ok (.iinc 5 1, 3) := by decide +kernel
theorem d_jdk_52_m21_41 : decode jdk_52_method_21_code 41 = .ok (.goto (-38), 3) := by decide +kernel
section Lp
variable {p : Program} {l : Launch} {e : Env} {R : Room} {s : State} {m : MethodId} {args : Array Value} {below : List Frame} {meth : Method} {c : Code} {own nm : String} {mx : Nat} {ret : Option FieldType} {Q : Option Value → Heap → Prop} {G : State → Prop} {Z T : State} {L : List Loc} {k n : Nat} {h h0 : Heap} {a0 : Array Value}
set_option maxRecDepth 65536 in
set_option maxHeartbeats 40000000 in
theorem lp_compress5 {a b : Addr} {ka kb : ClassId} {cs : List Int32} (A : Arv Z h0 a ka .char (Int32.ofNat cs.length) (cs.map Value.int) (.int 0)) (hab : a ∉ [b]) (gb : Z.heap.size ≤ b) (hlat : ∀ c ∈ cs, ¬ c < 0 ∧ c < 256) (hlen : cs.length ≤ 4000)
    (ex : ∀ (T' : State) (L' : List Loc) (h' : Heap), own_K p l e R s m args below meth c jdk_52_method_21_code own nm mx ret Q G Z T' L' k n h' → Keep h0 h' [b] → Arv Z h' b kb .byte (Int32.ofNat cs.length) (own_by cs) (.int 0) → ∀ (x1 x3 x5 : Int32) (s6 : Slot), G (T'.setTop (mkF m 44 #[.val (.ref a), .val (.int x1), .val (.ref b), .val (.int x3), .val (.int (Int32.ofNat cs.length)), .val (.int x5), s6] [])))
    (j : Nat) : ∀ (i : Nat), i + j = cs.length → ∀ {T : State} {L : List Loc} {h : Heap} {s6 : Slot}, own_K p l e R s m args below meth c jdk_52_method_21_code own nm mx ret Q G Z T L k n h → Keep h0 h [b] → Arv Z h b kb .byte (Int32.ofNat cs.length) (own_by (cs.take i) ++ List.replicate (cs.length - i) (Value.int 0)) (.int 0) → One s6 → G (T.setTop (mkF m 3 #[.val (.ref a), .val (.int (Int32.ofNat i)), .val (.ref b), .val (.int (Int32.ofNat i)), .val (.int (Int32.ofNat cs.length)), .val (.int (Int32.ofNat i)), s6] [])) := by
  induction j with
  | zero =>
    intro i hij T L h s6 K Kp V hs6
    refine own_iload K d_jdk_52_m21_3 rfl rfl ?_
    refine own_iload K d_jdk_52_m21_5 rfl rfl ?_
    refine own_icmpYes K d_jdk_52_m21_7 (pc' := 44) (by decide) (by decide) (flt (own_nlt (by omega) (by omega))).2.1 ?_
    exact ex _ _ _ K Kp (by rw [List.take_of_length_le (by omega), Nat.sub_eq_zero_of_le (by omega), List.replicate_zero, List.append_nil] at V; exact V) _ _ _ _
  | succ j ih =>
    intro i hij T L h s6 K Kp V hs6
    have hin : i < cs.length := by omega
    refine own_iload K d_jdk_52_m21_3 rfl rfl ?_
    refine own_iload K d_jdk_52_m21_5 rfl rfl ?_
    refine own_icmpNo K d_jdk_52_m21_7 rfl (tlt (own_lt hin (by omega))).2.1 ?_
    refine own_aloadN K d_jdk_52_m21_10 rfl rfl rfl ?_
    refine own_iloadN K d_jdk_52_m21_11 rfl rfl ?_
    refine own_caload K (x := cs[i]) (A.keep Kp hab) ⟨own_nn (by omega), own_lt hin (by omega)⟩ (by rw [own_clamp (by omega)]; simp [hin]) d_jdk_52_m21_12 rfl ?_
    refine own_istore K (Ls' := #[.val (.ref a), .val (.int (Int32.ofNat i)), .val (.ref b), .val (.int (Int32.ofNat i)), .val (.int (Int32.ofNat cs.length)), .val (.int (Int32.ofNat i)), .val (.int cs[i])]) d_jdk_52_m21_13 rfl (XS.store1 rfl hs6 rfl) ?_
    refine own_iload K d_jdk_52_m21_15 rfl rfl ?_
    refine own_sipush K (v := (255 : Int32)) d_jdk_52_m21_17 rfl rfl ?_
    refine own_icmpYes K d_jdk_52_m21_20 (pc' := 26) (by decide) (by decide) (flt (own_n255 (hlat _ (List.getElem_mem hin)))).2.2.2 ?_
    refine own_aloadN K d_jdk_52_m21_26 rfl rfl rfl ?_
    refine own_iloadN K d_jdk_52_m21_27 rfl rfl ?_
    refine own_iload K d_jdk_52_m21_28 rfl rfl ?_
    refine own_i2b K d_jdk_52_m21_30 rfl ?_
    refine own_bastore K V ⟨own_nn (by omega), own_lt hin (by omega)⟩ i (own_clamp (by omega)) (by rw [List.length_append, own_by_len, List.length_take, List.length_replicate]; omega) (x' := (cs[i]).toInt8.toInt32) (own_nar_byte _) gb d_jdk_52_m21_31 rfl ?_
    intro T207 h207 K207 W207 V207
    refine own_iinc K207 (Ls' := #[.val (.ref a), .val (.int ((Int32.ofNat i) + (1 : Int32))), .val (.ref b), .val (.int (Int32.ofNat i)), .val (.int (Int32.ofNat cs.length)), .val (.int (Int32.ofNat i)), .val (.int cs[i])]) (x := (Int32.ofNat i)) (v := (Int32.ofNat i)) d_jdk_52_m21_32 rfl rfl rfl ?_
    refine own_iinc K207 (Ls' := #[.val (.ref a), .val (.int ((Int32.ofNat i) + (1 : Int32))), .val (.ref b), .val (.int ((Int32.ofNat i) + (1 : Int32))), .val (.int (Int32.ofNat cs.length)), .val (.int (Int32.ofNat i)), .val (.int cs[i])]) (x := (Int32.ofNat i)) (v := (Int32.ofNat i)) d_jdk_52_m21_35 rfl rfl rfl ?_
    refine own_iinc K207 (Ls' := #[.val (.ref a), .val (.int ((Int32.ofNat i) + (1 : Int32))), .val (.ref b), .val (.int ((Int32.ofNat i) + (1 : Int32))), .val (.int (Int32.ofNat cs.length)), .val (.int ((Int32.ofNat i) + (1 : Int32))), .val (.int cs[i])]) (x := (Int32.ofNat i)) (v := (Int32.ofNat i)) d_jdk_52_m21_38 rfl rfl rfl ?_
    refine own_goto K207 d_jdk_52_m21_41 (pc' := 3) (by decide) (by decide) ?_
    rw [own_one]
    exact ih (i + 1) (by omega) K207 (Kp.wr W207 (Or.inl (List.mem_singleton.mpr rfl))) (by rw [← own_fill hin]; exact V207) (One.val rfl)
end Lp
theorem d_jdk_52_m21_0 : decode jdk_52_method_21_code 0 = .ok (.iconst 0, 1) := by decide +kernel
theorem d_jdk_52_m21_1 : decode jdk_52_method_21_code 1 = .ok (.istore 5, 2) := by decide +kernel
theorem d_jdk_52_m21_44 : decode jdk_52_method_21_code 44 = .ok (.iload 4, 2) := by decide +kernel
theorem d_jdk_52_m21_46 : decode jdk_52_method_21_code 46 = .ok (.ireturn, 1) := by decide +kernel
set_option maxRecDepth 65536 in
set_option maxHeartbeats 40000000 in
theorem rm_compress5 {l : Launch} {Z : State} {a0 : Array Value} (hw : ∀ d ∈ tables_1, d.before a0 Z = true) (hs : ∀ d ∈ jdkStatics_1, d.before a0 Z = true) {a : Addr} {b : Addr} {ka : ClassId} {kb : ClassId} {cs : List Int32} {h0 : Heap} (O0 : Ext Z.heap h0) (A : Arv Z h0 a ka .char (Int32.ofNat cs.length) (cs.map Value.int) (.int 0)) (B : Arv Z h0 b kb .byte (Int32.ofNat cs.length) (List.replicate cs.length (Value.int 0)) (.int 0)) (hab : a ∉ [b]) (gb : Z.heap.size ≤ b) (hlat : ∀ c ∈ cs, ¬ c < 0 ∧ c < 256) (hlen : cs.length ≤ 4000) :
    own_Ct l Z (⟨"java/lang/StringUTF16", "compress", "([CI[BII)I"⟩ : MethodName) jdk_52_method_21_code 7 (some .int) [] ({ frames := 0, locals := 0, cells := 0, slots := 0 } : Room) #[(.ref a), (.int 0), (.ref b), (.int 0), (.int (Int32.ofNat cs.length))] h0 (fun v h => v = some (.int (Int32.ofNat cs.length)) ∧ Keep h0 h [b] ∧ Arv Z h b kb .byte (Int32.ofNat cs.length) (own_by cs) (.int 0)) := by
  refine own_body (Ls := #[.val (.ref a), .val (.int 0), .val (.ref b), .val (.int 0), .val (.int (Int32.ofNat cs.length)), .unset, .unset]) (plainFor_of_name pn_java_lang_StringUTF16) (fun m => by first | (simp [entryFrame, mkF, argsToLocals, Value.category]; done) | rfl) O0 ?_
  intro p e s m below meth c T0 G K0
  refine own_iconst K0 (v := (0 : Int32)) d_jdk_52_m21_0 rfl rfl ?_
  refine own_istore K0 (Ls' := #[.val (.ref a), .val (.int 0), .val (.ref b), .val (.int 0), .val (.int (Int32.ofNat cs.length)), .val (.int (0 : Int32)), .unset]) d_jdk_52_m21_1 rfl rfl ?_
  refine lp_compress5 A hab gb hlat hlen (fun T1 L1 h1 K1 Kp1 V1 x1 x3 x5 s6 => ?_) cs.length 0 (Nat.zero_add _) K0 (Keep.refl _ _) B One.u
  refine own_iload K1 d_jdk_52_m21_44 rfl rfl ?_
  exact own_retI K1 d_jdk_52_m21_46 rfl (by decide) (by decide) ⟨rfl, Kp1, V1⟩
section Lp
variable {p : Program} {l : Launch} {e : Env} {R : Room} {s : State} {m : MethodId} {args : Array Value} {below : List Frame} {meth : Method} {c : Code} {nm : String} {ret : Option FieldType} {Q : Option Value → Heap → Prop} {G : State → Prop} {Z T : State} {L : List Loc} {k n : Nat} {h h0 : Heap} {a0 : Array Value}
set_option maxRecDepth 65536 in
set_option maxHeartbeats 40000000 in
theorem lp_compress5X (hw : ∀ d ∈ tables_1, d.before a0 Z = true) (hs : ∀ d ∈ jdkStatics_1, d.before a0 Z = true) (hRf : 1 ≤ R.frames) (hRl : 0 ≤ R.locals) (hRc : k ≤ R.cells) (hRs : n ≤ R.slots) {a : Addr} {b : Addr} {ka : ClassId} {kb : ClassId} {cs : List Int32} (A : Arv Z h0 a ka .char (Int32.ofNat cs.length) (cs.map Value.int) (.int 0)) (hab : a ∉ [b]) (gb : Z.heap.size ≤ b) (hok : own_ok true cs) (hlen : cs.length ≤ 4000)
    (ex : ∀ (T' : State) (L' : List Loc) (h' : Heap), own_K p l e R s m args below meth c jdk_52_method_21_code "java/lang/StringUTF16" nm 7 ret Q G Z T' L' k n h' → Keep h0 h' [b] → ∀ (i : Nat) (hi : i < cs.length) (hx : ¬ cs[i] < 256), G (T'.setTop (mkF m 23 #[.val (.ref a), .val (.int (Int32.ofNat i)), .val (.ref b), .val (.int (Int32.ofNat i)), .val (.int (Int32.ofNat cs.length)), .val (.int (Int32.ofNat i)), .val (.int cs[i])] [])))
    (j : Nat) : ∀ (i : Nat), i + j = cs.length → ∀ {T : State} {L : List Loc} {h : Heap} {s6 : Slot}, own_K p l e R s m args below meth c jdk_52_method_21_code "java/lang/StringUTF16" nm 7 ret Q G Z T L k n h → Keep h0 h [b] → Arv Z h b kb .byte (Int32.ofNat cs.length) (own_by (cs.take i) ++ List.replicate (cs.length - i) (Value.int 0)) (.int 0) → (∃ q, ∃ hq : q < cs.length, i ≤ q ∧ ¬ cs[q] < 256) → One s6 → G (T.setTop (mkF m 3 #[.val (.ref a), .val (.int (Int32.ofNat i)), .val (.ref b), .val (.int (Int32.ofNat i)), .val (.int (Int32.ofNat cs.length)), .val (.int (Int32.ofNat i)), s6] [])) := by
  induction j with
  | zero =>
    intro i hij T L h s6 K Kp V hbad hs6
    obtain ⟨q, hq, h1, -⟩ := hbad
    omega
  | succ j ih =>
    intro i hij T L h s6 K Kp V hbad hs6
    have hin : i < cs.length := by omega
    refine own_iload K d_jdk_52_m21_3 rfl rfl ?_
    refine own_iload K d_jdk_52_m21_5 rfl rfl ?_
    refine own_icmpNo K d_jdk_52_m21_7 rfl (tlt (own_lt hin (by omega))).2.1 ?_
    refine own_aloadN K d_jdk_52_m21_10 rfl rfl rfl ?_
    refine own_iloadN K d_jdk_52_m21_11 rfl rfl ?_
    refine own_caload K (x := cs[i]) (A.keep Kp hab) ⟨own_nn (by omega), own_lt hin (by omega)⟩ (by rw [own_clamp (by omega)]; simp [hin]) d_jdk_52_m21_12 rfl ?_
    refine own_istore K (Ls' := #[.val (.ref a), .val (.int (Int32.ofNat i)), .val (.ref b), .val (.int (Int32.ofNat i)), .val (.int (Int32.ofNat cs.length)), .val (.int (Int32.ofNat i)), .val (.int cs[i])]) d_jdk_52_m21_13 rfl (XS.store1 rfl hs6 rfl) ?_
    refine own_iload K d_jdk_52_m21_15 rfl rfl ?_
    refine own_sipush K (v := (255 : Int32)) d_jdk_52_m21_17 rfl rfl ?_
    by_cases hc : cs[i] < 256
    · skip
      refine own_icmpYes K d_jdk_52_m21_20 (pc' := 26) (by decide) (by decide) (flt (own_n255 ⟨(hok _ (List.getElem_mem hin)).1, hc⟩)).2.2.2 ?_
      refine own_aloadN K d_jdk_52_m21_26 rfl rfl rfl ?_
      refine own_iloadN K d_jdk_52_m21_27 rfl rfl ?_
      refine own_iload K d_jdk_52_m21_28 rfl rfl ?_
      refine own_i2b K d_jdk_52_m21_30 rfl ?_
      refine own_bastore K V ⟨own_nn (by omega), own_lt hin (by omega)⟩ i (own_clamp (by omega)) (by rw [List.length_append, own_by_len, List.length_take, List.length_replicate]; omega) (x' := (cs[i]).toInt8.toInt32) (own_nar_byte _) gb d_jdk_52_m21_31 rfl ?_
      intro T208 h208 K208 W208 V208
      refine own_iinc K208 (Ls' := #[.val (.ref a), .val (.int ((Int32.ofNat i) + (1 : Int32))), .val (.ref b), .val (.int (Int32.ofNat i)), .val (.int (Int32.ofNat cs.length)), .val (.int (Int32.ofNat i)), .val (.int cs[i])]) (x := (Int32.ofNat i)) (v := (Int32.ofNat i)) d_jdk_52_m21_32 rfl rfl rfl ?_
      refine own_iinc K208 (Ls' := #[.val (.ref a), .val (.int ((Int32.ofNat i) + (1 : Int32))), .val (.ref b), .val (.int ((Int32.ofNat i) + (1 : Int32))), .val (.int (Int32.ofNat cs.length)), .val (.int (Int32.ofNat i)), .val (.int cs[i])]) (x := (Int32.ofNat i)) (v := (Int32.ofNat i)) d_jdk_52_m21_35 rfl rfl rfl ?_
      refine own_iinc K208 (Ls' := #[.val (.ref a), .val (.int ((Int32.ofNat i) + (1 : Int32))), .val (.ref b), .val (.int ((Int32.ofNat i) + (1 : Int32))), .val (.int (Int32.ofNat cs.length)), .val (.int ((Int32.ofNat i) + (1 : Int32))), .val (.int cs[i])]) (x := (Int32.ofNat i)) (v := (Int32.ofNat i)) d_jdk_52_m21_38 rfl rfl rfl ?_
      refine own_goto K208 d_jdk_52_m21_41 (pc' := 3) (by decide) (by decide) ?_
      rw [own_one]
      exact ih (i + 1) (by omega) K208 (Kp.wr W208 (Or.inl (List.mem_singleton.mpr rfl))) (by rw [← own_fill hin]; exact V208) (by obtain ⟨q, hq, h1, h2⟩ := hbad; exact ⟨q, hq, Nat.lt_of_le_of_ne h1 (fun z => h2 (by subst z; exact hc)), h2⟩) (One.val rfl)
    · skip
      refine own_icmpNo K d_jdk_52_m21_20 rfl (tlt (own_g255 hc)).2.2.2 ?_
      exact ex _ _ _ K Kp i hin hc
end Lp
theorem d_jdk_52_m21_23 : decode jdk_52_method_21_code 23 = .ok (.iload 5, 2) := by decide +kernel
theorem d_jdk_52_m21_25 : decode jdk_52_method_21_code 25 = .ok (.ireturn, 1) := by decide +kernel
set_option maxRecDepth 65536 in
set_option maxHeartbeats 40000000 in
theorem rm_compress5X {l : Launch} {Z : State} {a0 : Array Value} (hw : ∀ d ∈ tables_1, d.before a0 Z = true) (hs : ∀ d ∈ jdkStatics_1, d.before a0 Z = true) {a : Addr} {b : Addr} {ka : ClassId} {kb : ClassId} {cs : List Int32} {h0 : Heap} (O0 : Ext Z.heap h0) (A : Arv Z h0 a ka .char (Int32.ofNat cs.length) (cs.map Value.int) (.int 0)) (B : Arv Z h0 b kb .byte (Int32.ofNat cs.length) (List.replicate cs.length (Value.int 0)) (.int 0)) (hab : a ∉ [b]) (gb : Z.heap.size ≤ b) (hok : own_ok true cs) (hlen : cs.length ≤ 4000) (hbad : ∃ q, ∃ hq : q < cs.length, ¬ cs[q] < 256) :
    own_Ct l Z (⟨"java/lang/StringUTF16", "compress", "([CI[BII)I"⟩ : MethodName) jdk_52_method_21_code 7 (some .int) [] ({ frames := 1, locals := 0, cells := 0, slots := 0 } : Room) #[(.ref a), (.int 0), (.ref b), (.int 0), (.int (Int32.ofNat cs.length))] h0 (fun v h => ∃ i, ∃ hi : i < cs.length, v = some (.int (Int32.ofNat i)) ∧ ¬ cs[i] < 256 ∧ Keep h0 h [b]) := by
  refine own_body (Ls := #[.val (.ref a), .val (.int 0), .val (.ref b), .val (.int 0), .val (.int (Int32.ofNat cs.length)), .unset, .unset]) (plainFor_of_name pn_java_lang_StringUTF16) (fun m => by first | (simp [entryFrame, mkF, argsToLocals, Value.category]; done) | rfl) O0 ?_
  intro p e s m below meth c T0 G K0
  refine own_iconst K0 (v := (0 : Int32)) d_jdk_52_m21_0 rfl rfl ?_
  refine own_istore K0 (Ls' := #[.val (.ref a), .val (.int 0), .val (.ref b), .val (.int 0), .val (.int (Int32.ofNat cs.length)), .val (.int (0 : Int32)), .unset]) d_jdk_52_m21_1 rfl rfl ?_
  refine lp_compress5X hw hs (by first | decide | (dsimp only; omega)) (by first | decide | (dsimp only; omega)) (by first | decide | (dsimp only; omega)) (by first | decide | (dsimp only; omega)) A hab gb hok hlen (fun T1 L1 h1 K1 q1 i hi hx => ?_) cs.length 0 (Nat.zero_add _) K0 (Keep.refl _ _) B (by obtain ⟨q, hq, z⟩ := hbad; exact ⟨q, hq, Nat.zero_le _, z⟩) One.u
  refine own_iload K1 d_jdk_52_m21_23 rfl rfl ?_
  exact own_retI K1 d_jdk_52_m21_25 rfl (by decide) (by decide) ⟨i, hi, rfl, hx, q1⟩
theorem d_jdk_52_m14_8 : decode jdk_52_method_14_code 8 = .ok (.iload 4, 2) := by decide +kernel
theorem d_jdk_52_m14_10 : decode jdk_52_method_14_code 10 = .ok (.iload_n 2, 1) := by decide +kernel
theorem d_jdk_52_m14_11 : decode jdk_52_method_14_code 11 = .ok (.if_icmp .ge 21, 3) := by decide +kernel
theorem d_jdk_52_m14_14 : decode jdk_52_method_14_code 14 = .ok (.aload_n 3, 1) := by decide +kernel
theorem d_jdk_52_m14_15 : decode jdk_52_method_14_code 15 = .ok (.iload 4, 2) := by decide +kernel
theorem d_jdk_52_m14_17 : decode jdk_52_method_14_code 17 = .ok (.aload_n 0, 1) := by decide +kernel
theorem d_jdk_52_m14_18 : decode jdk_52_method_14_code 18 = .ok (.iload_n 1, 1) := by decide +kernel
theorem d_jdk_52_m14_19 : decode jdk_52_method_14_code 19 = .ok (.caload, 1) := by decide +kernel
theorem d_jdk_52_m14_20 : decode jdk_52_method_14_code 20 = .ok (.invokestatic 111, 3) := by decide +kernel
theorem d_jdk_52_m14_23 : decode jdk_52_method_14_code 23 = .ok (.iinc 1 1, 3) := by decide +kernel
theorem d_jdk_52_m14_26 : decode jdk_52_method_14_code 26 = .ok (.iinc 4 1, 3) := by decide +kernel
theorem d_jdk_52_m14_29 : decode jdk_52_method_14_code 29 = .ok (.goto (-21), 3) := by decide +kernel
section Lp
variable {p : Program} {l : Launch} {e : Env} {R : Room} {s : State} {m : MethodId} {args : Array Value} {below : List Frame} {meth : Method} {c : Code} {nm : String} {ret : Option FieldType} {Q : Option Value → Heap → Prop} {G : State → Prop} {Z T : State} {L : List Loc} {k n : Nat} {h h0 : Heap} {a0 : Array Value}
set_option maxRecDepth 65536 in
set_option maxHeartbeats 40000000 in
theorem lp_toBytes (hw : ∀ d ∈ tables_1, d.before a0 Z = true) (hs : ∀ d ∈ jdkStatics_1, d.before a0 Z = true) (hRf : 1 ≤ R.frames) (hRl : 40 ≤ R.locals) (hRc : k ≤ R.cells) (hRs : n ≤ R.slots) {a : Addr} {b : Addr} {ka : ClassId} {kb : ClassId} {cs : List Int32} (A : Arv Z h0 a ka .char (Int32.ofNat cs.length) (cs.map Value.int) (.int 0)) (hab : a ∉ [b]) (gb : Z.heap.size ≤ b) (hlen : cs.length ≤ 4000)
    (ex : ∀ (T' : State) (L' : List Loc) (h' : Heap), own_K p l e R s m args below meth c jdk_52_method_14_code "java/lang/StringUTF16" nm 5 ret Q G Z T' L' k n h' → Keep h0 h' [b] ∧ Arv Z h' b kb .byte (Int32.ofNat (2 * cs.length)) (own_by2 cs) (.int 0) → ∀ (x1 x4 : Int32), G (T'.setTop (mkF m 32 #[.val (.ref a), .val (.int x1), .val (.int (Int32.ofNat cs.length)), .val (.ref b), .val (.int x4)] [])))
    (j : Nat) : ∀ (i : Nat), i + j = cs.length → ∀ {T : State} {L : List Loc} {h : Heap} , own_K p l e R s m args below meth c jdk_52_method_14_code "java/lang/StringUTF16" nm 5 ret Q G Z T L k n h → Keep h0 h [b] → Arv Z h b kb .byte (Int32.ofNat (2 * cs.length)) (own_by2 (cs.take i)) (.int 0) → G (T.setTop (mkF m 8 #[.val (.ref a), .val (.int (Int32.ofNat i)), .val (.int (Int32.ofNat cs.length)), .val (.ref b), .val (.int (Int32.ofNat i))] [])) := by
  induction j with
  | zero =>
    intro i hij T L h  K Kp V 
    refine own_iload K d_jdk_52_m14_8 rfl rfl ?_
    refine own_iloadN K d_jdk_52_m14_10 rfl rfl ?_
    refine own_icmpYes K d_jdk_52_m14_11 (pc' := 32) (by decide) (by decide) (flt (own_nlt (by omega) (by omega))).2.1 ?_
    exact ex _ _ _ K ⟨Kp, by rw [List.take_of_length_le (by omega)] at V; exact V⟩ _ _
  | succ j ih =>
    intro i hij T L h  K Kp V 
    have hin : i < cs.length := by omega
    refine own_iload K d_jdk_52_m14_8 rfl rfl ?_
    refine own_iloadN K d_jdk_52_m14_10 rfl rfl ?_
    refine own_icmpNo K d_jdk_52_m14_11 rfl (tlt (own_lt hin (by omega))).2.1 ?_
    refine own_aloadN K d_jdk_52_m14_14 rfl rfl rfl ?_
    refine own_iload K d_jdk_52_m14_15 rfl rfl ?_
    refine own_aloadN K d_jdk_52_m14_17 rfl rfl rfl ?_
    refine own_iloadN K d_jdk_52_m14_18 rfl rfl ?_
    refine own_caload K (x := cs[i]) (A.keep Kp hab) ⟨own_nn (by omega), own_lt hin (by omega)⟩ (by rw [own_clamp (by omega)]; simp [hin]) d_jdk_52_m14_19 rfl ?_
    have ht : (cs.take i).length = i := by rw [List.length_take]; omega
    rw [show Int32.ofNat i = Int32.ofNat (cs.take i).length by rw [ht]]
    refine own_callS K (wd213 hw) (wd214 hw) (rm_putChar hw hs (y := cs[i]) K.O V ⟨by omega, by omega⟩ gb) (wd215 hw) (wd116 hw) (by decide) (argsL := [(.ref b), (.int (Int32.ofNat (cs.take i).length)), (.int cs[i])]) (rest := []) rfl pd_285bBII29V rfl rfl (W := 0) rfl (by first | decide | (dsimp only; omega)) (by first | decide | (dsimp only; omega)) (by first | decide | (dsimp only; omega)) (by first | decide | (dsimp only; omega)) d_jdk_52_m14_20 rfl ?_
    intro T209 h209 L209 v209 K209 q209
    obtain ⟨rfl, Kq209, Vq209⟩ := q209
    show G (T209.setTop (mkF m 23 #[.val (.ref a), .val (.int (Int32.ofNat (cs.take i).length)), .val (.int (Int32.ofNat cs.length)), .val (.ref b), .val (.int (Int32.ofNat (cs.take i).length))] []))
    refine own_iinc K209 (Ls' := #[.val (.ref a), .val (.int ((Int32.ofNat (cs.take i).length) + (1 : Int32))), .val (.int (Int32.ofNat cs.length)), .val (.ref b), .val (.int (Int32.ofNat (cs.take i).length))]) (x := (Int32.ofNat (cs.take i).length)) (v := (Int32.ofNat (cs.take i).length)) d_jdk_52_m14_23 rfl rfl rfl ?_
    refine own_iinc K209 (Ls' := #[.val (.ref a), .val (.int ((Int32.ofNat (cs.take i).length) + (1 : Int32))), .val (.int (Int32.ofNat cs.length)), .val (.ref b), .val (.int ((Int32.ofNat (cs.take i).length) + (1 : Int32)))]) (x := (Int32.ofNat (cs.take i).length)) (v := (Int32.ofNat (cs.take i).length)) d_jdk_52_m14_26 rfl rfl rfl ?_
    refine own_goto K209 d_jdk_52_m14_29 (pc' := 8) (by decide) (by decide) ?_
    rw [ht, own_one]
    exact ih (i + 1) (by omega) K209 (Kp.trans Kq209 (fun x hx => Or.inl hx)) (by rw [List.take_add_one, List.getElem?_eq_getElem hin]; exact Vq209)
end Lp
theorem d_jdk_52_m14_0 : decode jdk_52_method_14_code 0 = .ok (.iload_n 2, 1) := by decide +kernel
theorem d_jdk_52_m14_1 : decode jdk_52_method_14_code 1 = .ok (.invokestatic 107, 3) := by decide +kernel
theorem wd206 {a0 : Array Value} {Z : State} (hw : ∀ d ∈ tables_1, d.before a0 Z = true) : (Jvm.Cond.methodLink "java/lang/StringUTF16" (107 : Nat) ({ cls := "java/lang/StringUTF16", name := "newBytesFor", desc := "(I)[B" } : Jvm.MethodName)).before a0 Z = true := hw _ (List.mem_of_getElem? (i := 206) rfl)
theorem d_jdk_52_m14_4 : decode jdk_52_method_14_code 4 = .ok (.astore_n 3, 1) := by decide +kernel
theorem d_jdk_52_m14_5 : decode jdk_52_method_14_code 5 = .ok (.iconst 0, 1) := by decide +kernel
theorem d_jdk_52_m14_6 : decode jdk_52_method_14_code 6 = .ok (.istore 4, 2) := by decide +kernel
theorem d_jdk_52_m14_32 : decode jdk_52_method_14_code 32 = .ok (.aload_n 3, 1) := by decide +kernel
theorem d_jdk_52_m14_33 : decode jdk_52_method_14_code 33 = .ok (.areturn, 1) := by decide +kernel
set_option maxRecDepth 65536 in
set_option maxHeartbeats 40000000 in
theorem rm_toBytes {l : Launch} {Z : State} {a0 : Array Value} (hw : ∀ d ∈ tables_1, d.before a0 Z = true) (hs : ∀ d ∈ jdkStatics_1, d.before a0 Z = true) {a : Addr} {ka : ClassId} {cs : List Int32} {cap : Nat} {h0 : Heap} (O0 : Ext Z.heap h0) (A : Arv Z h0 a ka .char (Int32.ofNat cs.length) (cs.map Value.int) (.int 0)) (hlen : cs.length ≤ 4000) (hcap : 2 * cs.length ≤ cap) (hcap2 : cap ≤ 8000) :
    own_Ct l Z (⟨"java/lang/StringUTF16", "toBytes", "([CII)[B"⟩ : MethodName) jdk_52_method_14_code 5 (some (.array .byte)) [] ({ frames := 2, locals := 40, cells := 1, slots := cap } : Room) #[(.ref a), (.int 0), (.int (Int32.ofNat cs.length))] h0 (fun v h => ∃ (b : Addr) (kb : ClassId), v = some (.ref b) ∧ b = h0.size ∧ Ext h0 h ∧ Arv Z h b kb .byte (Int32.ofNat (2 * cs.length)) (own_by2 cs) (.int 0)) := by
  refine own_body (Ls := #[.val (.ref a), .val (.int 0), .val (.int (Int32.ofNat cs.length)), .unset, .unset]) (plainFor_of_name pn_java_lang_StringUTF16) (fun m => by first | (simp [entryFrame, mkF, argsToLocals, Value.category]; done) | rfl) O0 ?_
  intro p e s m below meth c T0 G K0
  refine own_iloadN K0 d_jdk_52_m14_0 rfl rfl ?_
  refine own_callS K0 (wd206 hw) (wd207 hw) (rm_newBytesFor hw hs (cap := cap) K0.O (by omega) hcap (by omega)) (wd208 hw) (wd116 hw) (by decide) (argsL := [(.int (Int32.ofNat cs.length))]) (rest := []) rfl pd_28I295bB rfl rfl (W := 0) rfl (by first | decide | (dsimp only; omega)) (by first | decide | (dsimp only; omega)) (by first | decide | (dsimp only; omega)) (by first | decide | (dsimp only; omega)) d_jdk_52_m14_1 rfl ?_
  intro T210 h210 L210 v210 K210 q210
  obtain ⟨b210, kb210, rfl, gb210, E210, V210⟩ := q210
  show G (T210.setTop (mkF m 4 #[.val (.ref a), .val (.int 0), .val (.int (Int32.ofNat cs.length)), .unset, .unset] [(.ref b210)]))
  refine own_astoreN K210 (Ls' := #[.val (.ref a), .val (.int 0), .val (.int (Int32.ofNat cs.length)), .val (.ref b210), .unset]) d_jdk_52_m14_4 rfl rfl rfl ?_
  refine own_iconst K210 (v := (0 : Int32)) d_jdk_52_m14_5 rfl rfl ?_
  refine own_istore K210 (Ls' := #[.val (.ref a), .val (.int 0), .val (.int (Int32.ofNat cs.length)), .val (.ref b210), .val (.int (0 : Int32))]) d_jdk_52_m14_6 rfl rfl ?_
  have gz210 : Z.heap.size ≤ b210 := by rw [gb210]; exact K0.O.1
  have hab210 : a ∉ [b210] := fun q => Nat.ne_of_lt (Nat.lt_of_lt_of_le A.lt (Nat.le_of_eq gb210.symm)) (List.mem_singleton.mp q)
  refine lp_toBytes hw hs (by first | decide | (dsimp only; omega)) (by first | decide | (dsimp only; omega)) (by first | decide | (dsimp only; omega)) (by first | decide | (dsimp only; omega)) (A.ext E210) hab210 gz210 hlen (fun T1 L1 h1 K1 q1 x1 x4 => ?_) cs.length 0 (Nat.zero_add _) K210 (Keep.refl _ _) V210
  refine own_aloadN K1 d_jdk_52_m14_32 rfl rfl rfl ?_
  exact own_retA K1 d_jdk_52_m14_33 rfl rfl rfl rfl (by first | decide | (dsimp only; omega)) (by first | decide | (dsimp only; omega)) ⟨b210, kb210, rfl, gb210, own_ext_keep E210 q1.1 (fun y q => by cases List.mem_singleton.mp q; exact Nat.le_of_eq gb210.symm), q1.2⟩
theorem d_jdk_52_m16_0 : decode jdk_52_method_16_code 0 = .ok (.iload_n 2, 1) := by decide +kernel
theorem d_jdk_52_m16_1 : decode jdk_52_method_16_code 1 = .ok (.newarray .byte, 2) := by decide +kernel
theorem d_jdk_52_m16_3 : decode jdk_52_method_16_code 3 = .ok (.astore_n 3, 1) := by decide +kernel
theorem d_jdk_52_m16_4 : decode jdk_52_method_16_code 4 = .ok (.aload_n 0, 1) := by decide +kernel
theorem d_jdk_52_m16_5 : decode jdk_52_method_16_code 5 = .ok (.iload_n 1, 1) := by decide +kernel
theorem d_jdk_52_m16_6 : decode jdk_52_method_16_code 6 = .ok (.aload_n 3, 1) := by decide +kernel
theorem d_jdk_52_m16_7 : decode jdk_52_method_16_code 7 = .ok (.iconst 0, 1) := by decide +kernel
theorem d_jdk_52_m16_8 : decode jdk_52_method_16_code 8 = .ok (.iload_n 2, 1) := by decide +kernel
theorem d_jdk_52_m16_9 : decode jdk_52_method_16_code 9 = .ok (.invokestatic 115, 3) := by decide +kernel
theorem wd120 {a0 : Array Value} {Z : State} (hw : ∀ d ∈ tables_1, d.before a0 Z = true) : (Jvm.Cond.code ({ cls := "java/lang/StringUTF16", name := "compress", desc := "([CI[BII)I" } : Jvm.MethodName) jdk_52_method_21_code (7 : Nat) (Option.some Jvm.ClassFile.FieldType.int)).before a0 Z = true := hw _ (List.mem_of_getElem? (i := 120) rfl)
theorem pd_285bCI5bBII29I : parseMethodDescriptor "([CI[BII)I" = some ⟨[(.array .char), .int, (.array .byte), .int, .int], some .int⟩ := by decide +kernel
theorem wd118 {a0 : Array Value} {Z : State} (hw : ∀ d ∈ tables_1, d.before a0 Z = true) : (Jvm.Cond.methodLink "java/lang/StringUTF16" (115 : Nat) ({ cls := "java/lang/StringUTF16", name := "compress", desc := "([CI[BII)I" } : Jvm.MethodName)).before a0 Z = true := hw _ (List.mem_of_getElem? (i := 118) rfl)
theorem wd119 {a0 : Array Value} {Z : State} (hw : ∀ d ∈ tables_1, d.before a0 Z = true) : (Jvm.Cond.static ({ cls := "java/lang/StringUTF16", name := "compress", desc := "([CI[BII)I" } : Jvm.MethodName)).before a0 Z = true := hw _ (List.mem_of_getElem? (i := 119) rfl)
theorem d_jdk_52_m16_12 : decode jdk_52_method_16_code 12 = .ok (.istore 4, 2) := by decide +kernel
theorem d_jdk_52_m16_14 : decode jdk_52_method_16_code 14 = .ok (.iload 4, 2) := by decide +kernel
theorem d_jdk_52_m16_16 : decode jdk_52_method_16_code 16 = .ok (.iload_n 2, 1) := by decide +kernel
theorem d_jdk_52_m16_17 : decode jdk_52_method_16_code 17 = .ok (.if_icmp .eq 40, 3) := by decide +kernel
theorem d_jdk_52_m16_57 : decode jdk_52_method_16_code 57 = .ok (.aload_n 3, 1) := by decide +kernel
theorem d_jdk_52_m16_58 : decode jdk_52_method_16_code 58 = .ok (.areturn, 1) := by decide +kernel
theorem d_jdk_52_m16_20 : decode jdk_52_method_16_code 20 = .ok (.aload_n 0, 1) := by decide +kernel
theorem d_jdk_52_m16_21 : decode jdk_52_method_16_code 21 = .ok (.iload_n 1, 1) := by decide +kernel
theorem d_jdk_52_m16_22 : decode jdk_52_method_16_code 22 = .ok (.iload_n 2, 1) := by decide +kernel
theorem d_jdk_52_m16_23 : decode jdk_52_method_16_code 23 = .ok (.invokestatic 119, 3) := by decide +kernel
theorem wd205 {a0 : Array Value} {Z : State} (hw : ∀ d ∈ tables_1, d.before a0 Z = true) : (Jvm.Cond.code ({ cls := "java/lang/StringUTF16", name := "toBytes", desc := "([CII)[B" } : Jvm.MethodName) jdk_52_method_14_code (5 : Nat) (Option.some (Jvm.ClassFile.FieldType.array Jvm.ClassFile.FieldType.byte))).before a0 Z = true := hw _ (List.mem_of_getElem? (i := 205) rfl)
theorem pd_285bCII295bB : parseMethodDescriptor "([CII)[B" = some ⟨[(.array .char), .int, .int], some (.array .byte)⟩ := by decide +kernel
theorem wd203 {a0 : Array Value} {Z : State} (hw : ∀ d ∈ tables_1, d.before a0 Z = true) : (Jvm.Cond.methodLink "java/lang/StringUTF16" (119 : Nat) ({ cls := "java/lang/StringUTF16", name := "toBytes", desc := "([CII)[B" } : Jvm.MethodName)).before a0 Z = true := hw _ (List.mem_of_getElem? (i := 203) rfl)
theorem wd204 {a0 : Array Value} {Z : State} (hw : ∀ d ∈ tables_1, d.before a0 Z = true) : (Jvm.Cond.static ({ cls := "java/lang/StringUTF16", name := "toBytes", desc := "([CII)[B" } : Jvm.MethodName)).before a0 Z = true := hw _ (List.mem_of_getElem? (i := 204) rfl)
theorem d_jdk_52_m16_26 : decode jdk_52_method_16_code 26 = .ok (.astore 5, 2) := by decide +kernel
theorem d_jdk_52_m16_28 : decode jdk_52_method_16_code 28 = .ok (.aload 5, 2) := by decide +kernel
theorem d_jdk_52_m16_30 : decode jdk_52_method_16_code 30 = .ok (.iload 4, 2) := by decide +kernel
theorem d_jdk_52_m16_32 : decode jdk_52_method_16_code 32 = .ok (.invokestatic 71, 3) := by decide +kernel
theorem d_jdk_52_m16_35 : decode jdk_52_method_16_code 35 = .ok (.sipush 255, 3) := by decide +kernel
theorem d_jdk_52_m16_38 : decode jdk_52_method_16_code 38 = .ok (.if_icmp .gt 16, 3) := by decide +kernel
theorem d_jdk_52_m16_54 : decode jdk_52_method_16_code 54 = .ok (.aload 5, 2) := by decide +kernel
theorem d_jdk_52_m16_56 : decode jdk_52_method_16_code 56 = .ok (.areturn, 1) := by decide +kernel
set_option maxRecDepth 65536 in
set_option maxHeartbeats 40000000 in
theorem rm_compress3G {l : Launch} {Z : State} {a0 : Array Value} (hw : ∀ d ∈ tables_1, d.before a0 Z = true) (hs : ∀ d ∈ jdkStatics_1, d.before a0 Z = true) {a : Addr} {ka : ClassId} {u : Bool} {cs : List Int32} {cap : Nat} {h0 : Heap} (O0 : Ext Z.heap h0) (A : Arv Z h0 a ka .char (Int32.ofNat cs.length) (cs.map Value.int) (.int 0)) (hok : own_ok u cs) (hbad : u = true → ∃ q, ∃ hq : q < cs.length, ¬ cs[q] < 256) (hcap : cs.length ≤ cap) (hcap2 : cap ≤ 2000) :
    own_Ct l Z (⟨"java/lang/StringUTF16", "compress", "([CII)[B"⟩ : MethodName) jdk_52_method_16_code 6 (some (.array .byte)) [] ({ frames := 3, locals := 56, cells := 2, slots := 3 * cap } : Room) #[(.ref a), (.int 0), (.int (Int32.ofNat cs.length))] h0 (fun v h => ∃ (b : Addr) (kb : ClassId), v = some (.ref b) ∧ h0.size ≤ b ∧ Ext h0 h ∧ Arv Z h b kb .byte (Int32.ofNat (own_bn u cs.length)) (own_bs u cs) (.int 0)) := by
  refine own_body (Ls := #[.val (.ref a), .val (.int 0), .val (.int (Int32.ofNat cs.length)), .unset, .unset, .unset]) (plainFor_of_name pn_java_lang_StringUTF16) (fun m => by first | (simp [entryFrame, mkF, argsToLocals, Value.category]; done) | rfl) O0 ?_
  intro p e s m below meth c T0 G K0
  refine own_iloadN K0 d_jdk_52_m16_0 rfl rfl ?_
  refine own_newP K0 (aty := .byte) (wd19 hw) d_jdk_52_m16_1 (own_nn (by omega)) (cap := cap) (by rw [own_clamp (by omega)]; exact hcap) (by omega) (by first | decide | (dsimp only; omega)) (by first | decide | (dsimp only; omega)) rfl ?_
  intro T211 h211 a211 c211 K211 g211 E211 V211
  refine own_astoreN K211 (Ls' := #[.val (.ref a), .val (.int 0), .val (.int (Int32.ofNat cs.length)), .val (.ref a211), .unset, .unset]) d_jdk_52_m16_3 rfl rfl rfl ?_
  refine own_aloadN K211 d_jdk_52_m16_4 rfl rfl rfl ?_
  refine own_iloadN K211 d_jdk_52_m16_5 rfl rfl ?_
  refine own_aloadN K211 d_jdk_52_m16_6 rfl rfl rfl ?_
  refine own_iconst K211 (v := (0 : Int32)) d_jdk_52_m16_7 rfl rfl ?_
  refine own_iloadN K211 d_jdk_52_m16_8 rfl rfl ?_
  have gb211 : Z.heap.size ≤ a211 := by rw [g211]; exact K0.O.1
  have hab211 : a ∉ [a211] := fun q => Nat.ne_of_lt (Nat.lt_of_lt_of_le A.lt (Nat.le_of_eq g211.symm)) (List.mem_singleton.mp q)
  cases u with
  | false =>
    refine own_callS K211 (wd118 hw) (wd119 hw) (rm_compress5 hw hs K211.O (A.ext E211) (V211.pad (pad_rep [] _ cs.length)) hab211 gb211 hok (by omega)) (wd120 hw) (wd116 hw) (by decide) (argsL := [(.ref a), (.int 0), (.ref a211), (.int (0 : Int32)), (.int (Int32.ofNat cs.length))]) (rest := []) rfl pd_285bCI5bBII29I rfl rfl (W := 0) rfl (by first | decide | (dsimp only; omega)) (by first | decide | (dsimp only; omega)) (by first | decide | (dsimp only; omega)) (by first | decide | (dsimp only; omega)) d_jdk_52_m16_9 rfl ?_
    intro T212 h212 L212 v212 K212 q212
    obtain ⟨rfl, Kp212, V212⟩ := q212
    show G (T212.setTop (mkF m 12 #[.val (.ref a), .val (.int 0), .val (.int (Int32.ofNat cs.length)), .val (.ref a211), .unset, .unset] [(.int (Int32.ofNat cs.length))]))
    refine own_istore K212 (Ls' := #[.val (.ref a), .val (.int 0), .val (.int (Int32.ofNat cs.length)), .val (.ref a211), .val (.int (Int32.ofNat cs.length)), .unset]) d_jdk_52_m16_12 rfl rfl ?_
    refine own_iload K212 d_jdk_52_m16_14 rfl rfl ?_
    refine own_iloadN K212 d_jdk_52_m16_16 rfl rfl ?_
    refine own_icmpYes K212 d_jdk_52_m16_17 (pc' := 57) (by decide) (by decide) (teq rfl).1 ?_
    refine own_aloadN K212 d_jdk_52_m16_57 rfl rfl rfl ?_
    exact own_retA K212 d_jdk_52_m16_58 rfl rfl rfl rfl (by first | decide | (dsimp only; omega)) (by first | decide | (dsimp only; omega)) ⟨a211, c211, rfl, Nat.le_of_eq g211.symm, own_ext_keep E211 Kp212 (fun y q => by cases List.mem_singleton.mp q; exact Nat.le_of_eq g211.symm), V212⟩
  | true =>
    refine own_callS K211 (wd118 hw) (wd119 hw) (rm_compress5X hw hs K211.O (A.ext E211) (V211.pad (pad_rep [] _ cs.length)) hab211 gb211 hok (by omega) (hbad rfl)) (wd120 hw) (wd116 hw) (by decide) (argsL := [(.ref a), (.int 0), (.ref a211), (.int (0 : Int32)), (.int (Int32.ofNat cs.length))]) (rest := []) rfl pd_285bCI5bBII29I rfl rfl (W := 0) rfl (by first | decide | (dsimp only; omega)) (by first | decide | (dsimp only; omega)) (by first | decide | (dsimp only; omega)) (by first | decide | (dsimp only; omega)) d_jdk_52_m16_9 rfl ?_
    intro T213 h213 L213 v213 K213 q213
    obtain ⟨i213, hi213, rfl, hx213, Kp213⟩ := q213
    show G (T213.setTop (mkF m 12 #[.val (.ref a), .val (.int 0), .val (.int (Int32.ofNat cs.length)), .val (.ref a211), .unset, .unset] [(.int (Int32.ofNat i213))]))
    refine own_istore K213 (Ls' := #[.val (.ref a), .val (.int 0), .val (.int (Int32.ofNat cs.length)), .val (.ref a211), .val (.int (Int32.ofNat i213)), .unset]) d_jdk_52_m16_12 rfl rfl ?_
    refine own_iload K213 d_jdk_52_m16_14 rfl rfl ?_
    refine own_iloadN K213 d_jdk_52_m16_16 rfl rfl ?_
    refine own_icmpNo K213 d_jdk_52_m16_17 rfl (feq (fun q => by have := own_ofNat_inj (by omega) (by omega) q; omega)).1 ?_
    refine own_aloadN K213 d_jdk_52_m16_20 rfl rfl rfl ?_
    refine own_iloadN K213 d_jdk_52_m16_21 rfl rfl ?_
    refine own_iloadN K213 d_jdk_52_m16_22 rfl rfl ?_
    refine own_callS K213 (wd203 hw) (wd204 hw) (rm_toBytes hw hs (cap := 2 * cap) K213.O ((A.ext E211).keep Kp213 hab211) (by omega) (by omega) (by omega)) (wd205 hw) (wd116 hw) (by decide) (argsL := [(.ref a), (.int 0), (.int (Int32.ofNat cs.length))]) (rest := []) rfl pd_285bCII295bB rfl rfl (W := 0) rfl (by first | decide | (dsimp only; omega)) (by first | decide | (dsimp only; omega)) (by first | decide | (dsimp only; omega)) (by first | decide | (dsimp only; omega)) d_jdk_52_m16_23 rfl ?_
    intro T214 h214 L214 v214 K214 q214
    obtain ⟨b214, kb214, rfl, gb214, E214, V214⟩ := q214
    show G (T214.setTop (mkF m 26 #[.val (.ref a), .val (.int 0), .val (.int (Int32.ofNat cs.length)), .val (.ref a211), .val (.int (Int32.ofNat i213)), .unset] [(.ref b214)]))
    refine own_astore K214 (Ls' := #[.val (.ref a), .val (.int 0), .val (.int (Int32.ofNat cs.length)), .val (.ref a211), .val (.int (Int32.ofNat i213)), .val (.ref b214)]) d_jdk_52_m16_26 rfl rfl rfl ?_
    refine own_aload K214 d_jdk_52_m16_28 rfl rfl rfl ?_
    refine own_iload K214 d_jdk_52_m16_30 rfl rfl ?_
    refine own_callS K214 (wd219 hw) (wd220 hw) (rm_getChar hw hs K214.O V214 ⟨Nat.le_refl _, by omega⟩ hok hi213) (wd221 hw) (wd116 hw) (by decide) (argsL := [(.ref b214), (.int (Int32.ofNat i213))]) (rest := []) rfl pd_285bBI29C rfl rfl (W := 0) rfl (by first | decide | (dsimp only; omega)) (by first | decide | (dsimp only; omega)) (by first | decide | (dsimp only; omega)) (by first | decide | (dsimp only; omega)) d_jdk_52_m16_32 rfl ?_
    intro T215 h215 L215 v215 K215 q215
    obtain ⟨rfl, e215⟩ := q215
    have f215 := e215.symm
    subst f215
    show G (T215.setTop (mkF m 35 #[.val (.ref a), .val (.int 0), .val (.int (Int32.ofNat cs.length)), .val (.ref a211), .val (.int (Int32.ofNat i213)), .val (.ref b214)] [(.int cs[i213])]))
    refine own_sipush K215 (v := (255 : Int32)) d_jdk_52_m16_35 rfl rfl ?_
    refine own_icmpYes K215 d_jdk_52_m16_38 (pc' := 54) (by decide) (by decide) (tlt (own_g255 hx213)).2.2.1 ?_
    refine own_aload K215 d_jdk_52_m16_54 rfl rfl rfl ?_
    have Ex213 : Ext h0 h213 := own_ext_keep E211 Kp213 (fun y q => by cases List.mem_singleton.mp q; exact Nat.le_of_eq g211.symm)
    exact own_retA K215 d_jdk_52_m16_56 rfl rfl rfl rfl (by first | decide | (dsimp only; omega)) (by first | decide | (dsimp only; omega)) ⟨b214, kb214, rfl, by rw [gb214]; exact Ex213.1, own_ext_trans Ex213 E214, V214⟩
theorem own_coderG (u : Bool) {n : Nat} (h : 0 < n ∧ n ≤ 4000) : nar .byte ((((Int32.ofNat n - Int32.ofNat (own_bn u n)).toUInt32 >>> ((31 : Int32) &&& 31).toUInt32).toInt32).toInt8.toInt32) = own_cd u := by
  cases u
  · show nar .byte ((((Int32.ofNat n - Int32.ofNat n).toUInt32 >>> ((31 : Int32) &&& 31).toUInt32).toInt32).toInt8.toInt32) = 0
    rw [Int32.sub_self]; decide
  · have h1 := c_isub (Int32.ofNat n) (Int32.ofNat (2 * n))
    have h2 := c_iushr (Int32.ofNat n - Int32.ofNat (2 * n)) 31 31 (by decide) (by decide)
    have h3 : ∀ y : Int32, -2147483648 ≤ y.toInt ∧ y.toInt < 2147483648 := fun y => ⟨Int32.le_toInt y, Int32.toInt_lt y⟩
    have h4 := h3 (Int32.ofNat n - Int32.ofNat (2 * n))
    rw [Int32.toInt_ofNat_of_lt (by omega), Int32.toInt_ofNat_of_lt (by omega)] at h1
    show nar .byte ((((Int32.ofNat n - Int32.ofNat (2 * n)).toUInt32 >>> ((31 : Int32) &&& 31).toUInt32).toInt32).toInt8.toInt32) = 1
    have e : (((Int32.ofNat n - Int32.ofNat (2 * n)).toUInt32 >>> ((31 : Int32) &&& 31).toUInt32).toInt32) = 1 := by
      apply Int32.toInt_inj.mp
      rw [h2]; show _ = (1 : Int); omega
    rw [e]; decide
theorem d_jdk_52_m15_0 : decode jdk_52_method_15_code 0 = .ok (.iload_n 1, 1) := by decide +kernel
theorem d_jdk_52_m15_1 : decode jdk_52_method_15_code 1 = .ok (.aload_n 0, 1) := by decide +kernel
theorem d_jdk_52_m15_2 : decode jdk_52_method_15_code 2 = .ok (.arraylength, 1) := by decide +kernel
theorem d_jdk_52_m15_3 : decode jdk_52_method_15_code 3 = .ok (.isub, 1) := by decide +kernel
theorem d_jdk_52_m15_4 : decode jdk_52_method_15_code 4 = .ok (.bipush 31, 2) := by decide +kernel
theorem d_jdk_52_m15_6 : decode jdk_52_method_15_code 6 = .ok (.iushr, 1) := by decide +kernel
theorem d_jdk_52_m15_7 : decode jdk_52_method_15_code 7 = .ok (.i2b, 1) := by decide +kernel
theorem d_jdk_52_m15_8 : decode jdk_52_method_15_code 8 = .ok (.ireturn, 1) := by decide +kernel
set_option maxRecDepth 65536 in
set_option maxHeartbeats 40000000 in
theorem rm_coderFromG {l : Launch} {Z : State} {a0 : Array Value} (hw : ∀ d ∈ tables_1, d.before a0 Z = true) (hs : ∀ d ∈ jdkStatics_1, d.before a0 Z = true) {b : Addr} {kb : ClassId} {u : Bool} {nn : Nat} {vs : List Value} {dv : Value} {h0 : Heap} (O0 : Ext Z.heap h0) (B : Arv Z h0 b kb .byte (Int32.ofNat (own_bn u nn)) vs dv) (hn : 0 < nn ∧ nn ≤ 4000) :
    own_Ct l Z (⟨"java/lang/StringUTF16", "coderFromArrayLen", "([BI)B"⟩ : MethodName) jdk_52_method_15_code 2 (some .byte) [] ({ frames := 0, locals := 0, cells := 0, slots := 0 } : Room) #[(.ref b), (.int (Int32.ofNat nn))] h0 (fun v h => v = some (.int (own_cd u)) ∧ h = h0) := by
  refine own_body (Ls := #[.val (.ref b), .val (.int (Int32.ofNat nn))]) (plainFor_of_name pn_java_lang_StringUTF16) (fun m => by first | (simp [entryFrame, mkF, argsToLocals, Value.category]; done) | rfl) O0 ?_
  intro p e s m below meth c T0 G K0
  refine own_iloadN K0 d_jdk_52_m15_0 rfl rfl ?_
  refine own_aloadN K0 d_jdk_52_m15_1 rfl rfl rfl ?_
  refine own_arraylength K0 B d_jdk_52_m15_2 rfl ?_
  refine own_isub K0 d_jdk_52_m15_3 rfl ?_
  refine own_bipush K0 (v := (31 : Int32)) d_jdk_52_m15_4 rfl rfl ?_
  refine own_iushr K0 d_jdk_52_m15_6 rfl ?_
  refine own_i2b K0 d_jdk_52_m15_7 rfl ?_
  exact own_retN K0 (z' := own_cd u) d_jdk_52_m15_8 rfl (by simp) (own_coderG u hn) (by decide) (by decide) ⟨rfl, rfl⟩
theorem d_jdk_42_m149_27 : decode jdk_42_method_149_code 27 = .ok (.getstatic 38, 3) := by decide +kernel
theorem d_jdk_42_m149_30 : decode jdk_42_method_149_code 30 = .ok (.ifCond .eq 28, 3) := by decide +kernel
theorem d_jdk_42_m149_33 : decode jdk_42_method_149_code 33 = .ok (.aload_n 1, 1) := by decide +kernel
theorem d_jdk_42_m149_34 : decode jdk_42_method_149_code 34 = .ok (.iload_n 2, 1) := by decide +kernel
theorem d_jdk_42_m149_35 : decode jdk_42_method_149_code 35 = .ok (.iload_n 3, 1) := by decide +kernel
theorem d_jdk_42_m149_36 : decode jdk_42_method_149_code 36 = .ok (.invokestatic 177, 3) := by decide +kernel
theorem wd117 {a0 : Array Value} {Z : State} (hw : ∀ d ∈ tables_1, d.before a0 Z = true) : (Jvm.Cond.code ({ cls := "java/lang/StringUTF16", name := "compress", desc := "([CII)[B" } : Jvm.MethodName) jdk_52_method_16_code (6 : Nat) (Option.some (Jvm.ClassFile.FieldType.array Jvm.ClassFile.FieldType.byte))).before a0 Z = true := hw _ (List.mem_of_getElem? (i := 117) rfl)
theorem wd114 {a0 : Array Value} {Z : State} (hw : ∀ d ∈ tables_1, d.before a0 Z = true) : (Jvm.Cond.methodLink "java/lang/String" (177 : Nat) ({ cls := "java/lang/StringUTF16", name := "compress", desc := "([CII)[B" } : Jvm.MethodName)).before a0 Z = true := hw _ (List.mem_of_getElem? (i := 114) rfl)
theorem wd115 {a0 : Array Value} {Z : State} (hw : ∀ d ∈ tables_1, d.before a0 Z = true) : (Jvm.Cond.static ({ cls := "java/lang/StringUTF16", name := "compress", desc := "([CII)[B" } : Jvm.MethodName)).before a0 Z = true := hw _ (List.mem_of_getElem? (i := 115) rfl)
theorem d_jdk_42_m149_39 : decode jdk_42_method_149_code 39 = .ok (.astore 5, 2) := by decide +kernel
theorem d_jdk_42_m149_41 : decode jdk_42_method_149_code 41 = .ok (.aload_n 0, 1) := by decide +kernel
theorem d_jdk_42_m149_42 : decode jdk_42_method_149_code 42 = .ok (.aload 5, 2) := by decide +kernel
theorem d_jdk_42_m149_44 : decode jdk_42_method_149_code 44 = .ok (.iload_n 3, 1) := by decide +kernel
theorem d_jdk_42_m149_45 : decode jdk_42_method_149_code 45 = .ok (.invokestatic 47, 3) := by decide +kernel
theorem wd123 {a0 : Array Value} {Z : State} (hw : ∀ d ∈ tables_1, d.before a0 Z = true) : (Jvm.Cond.code ({ cls := "java/lang/StringUTF16", name := "coderFromArrayLen", desc := "([BI)B" } : Jvm.MethodName) jdk_52_method_15_code (2 : Nat) (Option.some Jvm.ClassFile.FieldType.byte)).before a0 Z = true := hw _ (List.mem_of_getElem? (i := 123) rfl)
theorem pd_285bBI29B : parseMethodDescriptor "([BI)B" = some ⟨[(.array .byte), .int], some .byte⟩ := by decide +kernel
theorem wd121 {a0 : Array Value} {Z : State} (hw : ∀ d ∈ tables_1, d.before a0 Z = true) : (Jvm.Cond.methodLink "java/lang/String" (47 : Nat) ({ cls := "java/lang/StringUTF16", name := "coderFromArrayLen", desc := "([BI)B" } : Jvm.MethodName)).before a0 Z = true := hw _ (List.mem_of_getElem? (i := 121) rfl)
theorem wd122 {a0 : Array Value} {Z : State} (hw : ∀ d ∈ tables_1, d.before a0 Z = true) : (Jvm.Cond.static ({ cls := "java/lang/StringUTF16", name := "coderFromArrayLen", desc := "([BI)B" } : Jvm.MethodName)).before a0 Z = true := hw _ (List.mem_of_getElem? (i := 122) rfl)
theorem d_jdk_42_m149_48 : decode jdk_42_method_149_code 48 = .ok (.putfield 15, 3) := by decide +kernel
theorem d_jdk_42_m149_51 : decode jdk_42_method_149_code 51 = .ok (.aload_n 0, 1) := by decide +kernel
theorem d_jdk_42_m149_52 : decode jdk_42_method_149_code 52 = .ok (.aload 5, 2) := by decide +kernel
theorem d_jdk_42_m149_54 : decode jdk_42_method_149_code 54 = .ok (.putfield 9, 3) := by decide +kernel
theorem d_jdk_42_m149_57 : decode jdk_42_method_149_code 57 = .ok (.return_, 1) := by decide +kernel
set_option maxRecDepth 65536 in
set_option maxHeartbeats 40000000 in
theorem rm_initC4G {l : Launch} {Z : State} {a0 : Array Value} (hw : ∀ d ∈ tables_1, d.before a0 Z = true) (hs : ∀ d ∈ jdkStatics_1, d.before a0 Z = true) {x : Addr} {a : Addr} {ka : ClassId} {u : Bool} {cs : List Int32} {cap : Nat} {u1 : Value} {u2 : Value} {h0 : Heap} (O0 : Ext Z.heap h0) (E : Exa Z h0 x "java/lang/String") (F1 : Fld Z h0 x "java/lang/String" "value" "[B" u1) (F2 : Fld Z h0 x "java/lang/String" "coder" "B" u2) (gx : Z.heap.size ≤ x) (A : Arv Z h0 a ka .char (Int32.ofNat cs.length) (cs.map Value.int) (.int 0)) (hok : own_ok u cs) (hbad : u = true → ∃ q, ∃ hq : q < cs.length, ¬ cs[q] < 256) (hpos : 0 < cs.length) (hcap : cs.length ≤ cap) (hcap2 : cap ≤ 2000) :
    own_Ct l Z (⟨"java/lang/String", "<init>", "([CIILjava/lang/Void;)V"⟩ : MethodName) jdk_42_method_149_code 6 none [] ({ frames := 4, locals := 73, cells := 2, slots := 0 + 3 * cap } : Room) #[(.ref x), (.ref a), (.int 0), (.int (Int32.ofNat cs.length)), .null] h0 (fun v h => v = none ∧ Keep h0 h [x] ∧ own_StrG Z h x u cs) := by
  obtain ⟨zc, SC, hzc⟩ := own_compact hs
  refine own_body (Ls := #[.val (.ref x), .val (.ref a), .val (.int 0), .val (.int (Int32.ofNat cs.length)), .val .null, .unset]) (plainFor_of_name pn_java_lang_String) (fun m => by first | (simp [entryFrame, mkF, argsToLocals, Value.category]; done) | rfl) O0 ?_
  intro p e s m below meth c T0 G K0
  refine own_aloadN K0 d_jdk_42_m149_0 rfl rfl rfl ?_
  refine own_initO K0 (W := 0) (wd15 hw) (wd16 hw) (wd17 hw) rfl rfl (by first | decide | (dsimp only; omega)) (by first | decide | (dsimp only; omega)) d_jdk_42_m149_1 rfl ?_
  intro T216 K216
  refine own_iloadN K216 d_jdk_42_m149_4 rfl rfl ?_
  refine own_ifYes K216 d_jdk_42_m149_5 (pc' := 27) (by decide) (by decide) ((if0 _ _).trans (feq (own_ne0 hpos (by omega))).2) ?_
  refine own_getS K216 (wd43 hw) Via.refl (SC.ext K216.O) d_jdk_42_m149_27 rfl ?_
  intro T217 K217
  refine own_ifNo K217 d_jdk_42_m149_30 rfl ((if0 _ _).trans (feq hzc).1) ?_
  refine own_aloadN K217 d_jdk_42_m149_33 rfl rfl rfl ?_
  refine own_iloadN K217 d_jdk_42_m149_34 rfl rfl ?_
  refine own_iloadN K217 d_jdk_42_m149_35 rfl rfl ?_
  refine own_callS K217 (wd114 hw) (wd115 hw) (rm_compress3G hw hs (cap := cap) K217.O A hok hbad hcap hcap2) (wd117 hw) (wd116 hw) (by decide) (argsL := [(.ref a), (.int 0), (.int (Int32.ofNat cs.length))]) (rest := []) rfl pd_285bCII295bB rfl rfl (W := 0) rfl (by first | decide | (dsimp only; omega)) (by first | decide | (dsimp only; omega)) (by first | decide | (dsimp only; omega)) (by first | decide | (dsimp only; omega)) d_jdk_42_m149_36 rfl ?_
  intro T218 h218 L218 v218 K218 q218
  obtain ⟨b218, kb218, rfl, gb218, E218, V218⟩ := q218
  show G (T218.setTop (mkF m 39 #[.val (.ref x), .val (.ref a), .val (.int 0), .val (.int (Int32.ofNat cs.length)), .val .null, .unset] [(.ref b218)]))
  refine own_astore K218 (Ls' := #[.val (.ref x), .val (.ref a), .val (.int 0), .val (.int (Int32.ofNat cs.length)), .val .null, .val (.ref b218)]) d_jdk_42_m149_39 rfl rfl rfl ?_
  refine own_aloadN K218 d_jdk_42_m149_41 rfl rfl rfl ?_
  refine own_aload K218 d_jdk_42_m149_42 rfl rfl rfl ?_
  refine own_iloadN K218 d_jdk_42_m149_44 rfl rfl ?_
  refine own_callS K218 (wd121 hw) (wd122 hw) (rm_coderFromG hw hs (u := u) (nn := cs.length) K218.O V218 ⟨hpos, by omega⟩) (wd123 hw) (wd116 hw) (by decide) (argsL := [(.ref b218), (.int (Int32.ofNat cs.length))]) (rest := [(.ref x)]) rfl pd_285bBI29B rfl rfl (W := 1) rfl (by first | decide | (dsimp only; omega)) (by first | decide | (dsimp only; omega)) (by first | decide | (dsimp only; omega)) (by first | decide | (dsimp only; omega)) d_jdk_42_m149_45 rfl ?_
  intro T219 h219 L219 v219 K219 q219
  obtain ⟨rfl, e219⟩ := q219
  have f219 := e219.symm
  subst f219
  show G (T219.setTop (mkF m 48 #[.val (.ref x), .val (.ref a), .val (.int 0), .val (.int (Int32.ofNat cs.length)), .val .null, .val (.ref b218)] [(.int (own_cd u)), (.ref x)]))
  refine own_putFN K219 (wd25 hw) Via.refl (F2.ext E218) (E.ext E218) (Or.inr ⟨(wd21 hw), rfl, rfl⟩) (wd5 hw) (ty := .byte) (v' := .int (own_cd u)) (by decide) (by cases u <;> rfl) (by cases u <;> rfl) gx d_jdk_42_m149_48 rfl ?_
  intro T220 h220 K220 W220
  refine own_aloadN K220 d_jdk_42_m149_51 rfl rfl rfl ?_
  refine own_aload K220 d_jdk_42_m149_52 rfl rfl rfl ?_
  refine own_putF K220 (host := "") (Or.inl (wd24 hw)) Via.refl ((F1.ext E218).other W220 (Or.inr (slot_ne (Or.inr (wd20 hw)) (Or.inr (wd21 hw)) (by decide) (t := (.array .byte)) (t' := .byte) (by decide) (by decide)))) ((E.ext E218).wr W220) (Or.inr ⟨(wd20 hw), rfl, rfl⟩) (wd5 hw) (ty := (.array .byte)) (by decide) rfl rfl gx d_jdk_42_m149_54 rfl ?_
  intro T221 h221 K221 W221
  have hne218 : b218 ≠ x := Nat.ne_of_gt (Nat.lt_of_lt_of_le E.lt gb218)
  exact own_ret0 K221 d_jdk_42_m149_57 rfl (by first | decide | (dsimp only; omega)) (by first | decide | (dsimp only; omega)) ⟨rfl, (((Keep.refl h0 [x]).ext E218).wr W220 (Or.inl (List.mem_singleton.mpr rfl))).wr W221 (Or.inl (List.mem_singleton.mpr rfl)), ((E.ext E218).wr W220).wr W221, ((F2.ext E218).same W220).other W221 (Or.inr (slot_ne (Or.inr (wd21 hw)) (Or.inr (wd20 hw)) (by decide) (t := .byte) (t' := (.array .byte)) (by decide) (by decide))), b218, kb218, ((F1.ext E218).other W220 (Or.inr (slot_ne (Or.inr (wd20 hw)) (Or.inr (wd21 hw)) (by decide) (t := (.array .byte)) (t' := .byte) (by decide) (by decide)))).same W221, (V218.other W220 hne218).other W221 hne218⟩
set_option maxRecDepth 65536 in
set_option maxHeartbeats 40000000 in
theorem rm_initCG {l : Launch} {Z : State} {a0 : Array Value} (hw : ∀ d ∈ tables_1, d.before a0 Z = true) (hs : ∀ d ∈ jdkStatics_1, d.before a0 Z = true) {x : Addr} {a : Addr} {ka : ClassId} {u : Bool} {cs : List Int32} {cap : Nat} {u1 : Value} {u2 : Value} {h0 : Heap} (O0 : Ext Z.heap h0) (E : Exa Z h0 x "java/lang/String") (F1 : Fld Z h0 x "java/lang/String" "value" "[B" u1) (F2 : Fld Z h0 x "java/lang/String" "coder" "B" u2) (gx : Z.heap.size ≤ x) (A : Arv Z h0 a ka .char (Int32.ofNat cs.length) (cs.map Value.int) (.int 0)) (hok : own_ok u cs) (hbad : u = true → ∃ q, ∃ hq : q < cs.length, ¬ cs[q] < 256) (hpos : 0 < cs.length) (hcap : cs.length ≤ cap) (hcap2 : cap ≤ 2000) :
    own_Ct l Z (⟨"java/lang/String", "<init>", "([C)V"⟩ : MethodName) jdk_42_method_3_code 2 none [] ({ frames := 5, locals := 90, cells := 2, slots := 0 + 0 + 3 * cap } : Room) #[(.ref x), (.ref a)] h0 (fun v h => v = none ∧ Keep h0 h [x] ∧ own_StrG Z h x u cs) := by
  refine own_body (Ls := #[.val (.ref x), .val (.ref a)]) (plainFor_of_name pn_java_lang_String) (fun m => by first | (simp [entryFrame, mkF, argsToLocals, Value.category]; done) | rfl) O0 ?_
  intro p e s m below meth c T0 G K0
  refine own_aloadN K0 d_jdk_42_m3_0 rfl rfl rfl ?_
  refine own_aloadN K0 d_jdk_42_m3_1 rfl rfl rfl ?_
  refine own_iconst K0 (v := (0 : Int32)) d_jdk_42_m3_2 rfl rfl ?_
  refine own_aloadN K0 d_jdk_42_m3_3 rfl rfl rfl ?_
  refine own_arraylength K0 A d_jdk_42_m3_4 rfl ?_
  refine own_aconstNull K0 d_jdk_42_m3_5 rfl ?_
  refine own_callI K0 (a := x) (wd11 hw) (wd12 hw) (rm_initC4G hw hs (cap := cap) K0.O E F1 F2 gx A hok hbad hpos hcap hcap2) (wd14 hw) (wd6 hw) (by decide) rfl (argsL := [(.ref a), (.int (0 : Int32)), (.int (Int32.ofNat cs.length)), .null]) (rest := []) rfl pd_285bCIILjava2flang2fVoid3b29V rfl rfl (W := 0) rfl (by first | decide | (dsimp only; omega)) (by first | decide | (dsimp only; omega)) (by first | decide | (dsimp only; omega)) (by first | decide | (dsimp only; omega)) d_jdk_42_m3_6 rfl ?_
  intro T222 h222 L222 v222 K222 q222
  obtain ⟨rfl, Kp222, S222⟩ := q222
  show G (T222.setTop (mkF m 9 #[.val (.ref x), .val (.ref a)] []))
  exact own_ret0 K222 d_jdk_42_m3_9 rfl (by first | decide | (dsimp only; omega)) (by first | decide | (dsimp only; omega)) ⟨rfl, Kp222, S222⟩
theorem wd3 {a0 : Array Value} {Z : State} (hw : ∀ d ∈ tables_1, d.before a0 Z = true) : (Jvm.Cond.code ({ cls := "com/example/reevemark/reevemark/connectors/ldap/LdapEscapeFilterValuePinLaw", name := "pick", desc := "(I)C" } : Jvm.MethodName) method_4_code (2 : Nat) (Option.some Jvm.ClassFile.FieldType.char)).before a0 Z = true := hw _ (List.mem_of_getElem? (i := 3) rfl)
theorem wd0 {a0 : Array Value} {Z : State} (hw : ∀ d ∈ tables_1, d.before a0 Z = true) : (Jvm.Cond.methodLink "com/example/reevemark/reevemark/connectors/ldap/LdapEscapeFilterValuePinLaw" (7 : Nat) ({ cls := "com/example/reevemark/reevemark/connectors/ldap/LdapEscapeFilterValuePinLaw", name := "pick", desc := "(I)C" } : Jvm.MethodName)).before a0 Z = true := hw _ (List.mem_of_getElem? (i := 0) rfl)
theorem wd1 {a0 : Array Value} {Z : State} (hw : ∀ d ∈ tables_1, d.before a0 Z = true) : (Jvm.Cond.static ({ cls := "com/example/reevemark/reevemark/connectors/ldap/LdapEscapeFilterValuePinLaw", name := "pick", desc := "(I)C" } : Jvm.MethodName)).before a0 Z = true := hw _ (List.mem_of_getElem? (i := 1) rfl)
theorem wd4 {a0 : Array Value} {Z : State} (hw : ∀ d ∈ tables_1, d.before a0 Z = true) : (Jvm.Cond.classLink "com/example/reevemark/reevemark/connectors/ldap/LdapEscapeFilterValuePinLaw" (13 : Nat) "java/lang/String").before a0 Z = true := hw _ (List.mem_of_getElem? (i := 4) rfl)
theorem wd7 {a0 : Array Value} {Z : State} (hw : ∀ d ∈ tables_1, d.before a0 Z = true) : (Jvm.Cond.arrayClass Jvm.ClassFile.FieldType.char).before a0 Z = true := hw _ (List.mem_of_getElem? (i := 7) rfl)
theorem wd10 {a0 : Array Value} {Z : State} (hw : ∀ d ∈ tables_1, d.before a0 Z = true) : (Jvm.Cond.code ({ cls := "java/lang/String", name := "<init>", desc := "([C)V" } : Jvm.MethodName) jdk_42_method_3_code (2 : Nat) (Option.none : Option Jvm.ClassFile.FieldType)).before a0 Z = true := hw _ (List.mem_of_getElem? (i := 10) rfl)
theorem pd_285bC29V : parseMethodDescriptor "([C)V" = some ⟨[(.array .char)], none⟩ := by decide +kernel
theorem wd8 {a0 : Array Value} {Z : State} (hw : ∀ d ∈ tables_1, d.before a0 Z = true) : (Jvm.Cond.methodLink "com/example/reevemark/reevemark/connectors/ldap/LdapEscapeFilterValuePinLaw" (15 : Nat) ({ cls := "java/lang/String", name := "<init>", desc := "([C)V" } : Jvm.MethodName)).before a0 Z = true := hw _ (List.mem_of_getElem? (i := 8) rfl)
theorem wd9 {a0 : Array Value} {Z : State} (hw : ∀ d ∈ tables_1, d.before a0 Z = true) : (Jvm.Cond.instanceMethod ({ cls := "java/lang/String", name := "<init>", desc := "([C)V" } : Jvm.MethodName)).before a0 Z = true := hw _ (List.mem_of_getElem? (i := 9) rfl)
theorem wd29 {a0 : Array Value} {Z : State} (hw : ∀ d ∈ tables_1, d.before a0 Z = true) : (Jvm.Cond.code ({ cls := "com/example/reevemark/reevemark/connectors/ldap/LdapEscape", name := "filterValue", desc := "(Ljava/lang/String;)Ljava/lang/String;" } : Jvm.MethodName) prog_3_method_3_code (4 : Nat) (Option.some (Jvm.ClassFile.FieldType.object "java/lang/String"))).before a0 Z = true := hw _ (List.mem_of_getElem? (i := 29) rfl)
theorem wd28 {a0 : Array Value} {Z : State} (hw : ∀ d ∈ tables_1, d.before a0 Z = true) : (Jvm.Cond.initialized "com/example/reevemark/reevemark/connectors/ldap/LdapEscape").before a0 Z = true := hw _ (List.mem_of_getElem? (i := 28) rfl)
theorem pd_28Ljava2flang2fString3b29Ljava2flang2fString3b : parseMethodDescriptor "(Ljava/lang/String;)Ljava/lang/String;" = some ⟨[(.object "java/lang/String")], some (.object "java/lang/String")⟩ := by decide +kernel
theorem wd26 {a0 : Array Value} {Z : State} (hw : ∀ d ∈ tables_1, d.before a0 Z = true) : (Jvm.Cond.methodLink "com/example/reevemark/reevemark/connectors/ldap/LdapEscapeFilterValuePinLaw" (22 : Nat) ({ cls := "com/example/reevemark/reevemark/connectors/ldap/LdapEscape", name := "filterValue", desc := "(Ljava/lang/String;)Ljava/lang/String;" } : Jvm.MethodName)).before a0 Z = true := hw _ (List.mem_of_getElem? (i := 26) rfl)
theorem wd27 {a0 : Array Value} {Z : State} (hw : ∀ d ∈ tables_1, d.before a0 Z = true) : (Jvm.Cond.static ({ cls := "com/example/reevemark/reevemark/connectors/ldap/LdapEscape", name := "filterValue", desc := "(Ljava/lang/String;)Ljava/lang/String;" } : Jvm.MethodName)).before a0 Z = true := hw _ (List.mem_of_getElem? (i := 27) rfl)
theorem wd110 {a0 : Array Value} {Z : State} (hw : ∀ d ∈ tables_1, d.before a0 Z = true) : (Jvm.Cond.methodLink "com/example/reevemark/reevemark/connectors/ldap/LdapEscapeFilterValuePinLaw" (28 : Nat) ({ cls := "java/lang/String", name := "length", desc := "()I" } : Jvm.MethodName)).before a0 Z = true := hw _ (List.mem_of_getElem? (i := 110) rfl)
theorem wd113 {a0 : Array Value} {Z : State} (hw : ∀ d ∈ tables_1, d.before a0 Z = true) : (Jvm.Cond.code ({ cls := "com/example/reevemark/reevemark/connectors/ldap/LdapEscapeFilterValuePinLaw", name := "at", desc := "(Ljava/lang/String;[CII)Z" } : Jvm.MethodName) method_3_code (4 : Nat) (Option.some Jvm.ClassFile.FieldType.boolean)).before a0 Z = true := hw _ (List.mem_of_getElem? (i := 113) rfl)
theorem pd_28Ljava2flang2fString3b5bCII29Z : parseMethodDescriptor "(Ljava/lang/String;[CII)Z" = some ⟨[(.object "java/lang/String"), (.array .char), .int, .int], some .boolean⟩ := by decide +kernel
theorem wd111 {a0 : Array Value} {Z : State} (hw : ∀ d ∈ tables_1, d.before a0 Z = true) : (Jvm.Cond.methodLink "com/example/reevemark/reevemark/connectors/ldap/LdapEscapeFilterValuePinLaw" (32 : Nat) ({ cls := "com/example/reevemark/reevemark/connectors/ldap/LdapEscapeFilterValuePinLaw", name := "at", desc := "(Ljava/lang/String;[CII)Z" } : Jvm.MethodName)).before a0 Z = true := hw _ (List.mem_of_getElem? (i := 111) rfl)
theorem wd112 {a0 : Array Value} {Z : State} (hw : ∀ d ∈ tables_1, d.before a0 Z = true) : (Jvm.Cond.static ({ cls := "com/example/reevemark/reevemark/connectors/ldap/LdapEscapeFilterValuePinLaw", name := "at", desc := "(Ljava/lang/String;[CII)Z" } : Jvm.MethodName)).before a0 Z = true := hw _ (List.mem_of_getElem? (i := 112) rfl)
theorem wd126 {a0 : Array Value} {Z : State} (hw : ∀ d ∈ tables_1, d.before a0 Z = true) : (Jvm.Cond.code ({ cls := "com/example/reevemark/reevemark/connectors/ldap/LdapEscapeFilterValuePinLaw", name := "put", desc := "([CIC)I" } : Jvm.MethodName) method_7_code (3 : Nat) (Option.some Jvm.ClassFile.FieldType.int)).before a0 Z = true := hw _ (List.mem_of_getElem? (i := 126) rfl)
theorem pd_285bCIC29I : parseMethodDescriptor "([CIC)I" = some ⟨[(.array .char), .int, .char], some .int⟩ := by decide +kernel
theorem wd124 {a0 : Array Value} {Z : State} (hw : ∀ d ∈ tables_1, d.before a0 Z = true) : (Jvm.Cond.methodLink "com/example/reevemark/reevemark/connectors/ldap/LdapEscapeFilterValuePinLaw" (18 : Nat) ({ cls := "com/example/reevemark/reevemark/connectors/ldap/LdapEscapeFilterValuePinLaw", name := "put", desc := "([CIC)I" } : Jvm.MethodName)).before a0 Z = true := hw _ (List.mem_of_getElem? (i := 124) rfl)
theorem wd125 {a0 : Array Value} {Z : State} (hw : ∀ d ∈ tables_1, d.before a0 Z = true) : (Jvm.Cond.static ({ cls := "com/example/reevemark/reevemark/connectors/ldap/LdapEscapeFilterValuePinLaw", name := "put", desc := "([CIC)I" } : Jvm.MethodName)).before a0 Z = true := hw _ (List.mem_of_getElem? (i := 125) rfl)
set_option maxRecDepth 65536 in
set_option maxHeartbeats 40000000 in
theorem rm_law {l : Launch} {Z : State} {a0 : Array Value} (hw : ∀ d ∈ tables_1, d.before a0 Z = true) (hs : ∀ d ∈ jdkStatics_1, d.before a0 Z = true) {p0 : Int32} {p1 : Int32} {p2 : Int32} {p3 : Int32} {h0 : Heap} (O0 : Ext Z.heap h0)  :
    own_CtW l Z consts_1 true false x code maxLocals ret tables_1 room_1 #[(.int p0), (.int p1), (.int p2), (.int p3)] h0 (fun v h => v = some (.int 1)) := by
  refine own_bodyW (Ls := #[.val (.int p0), .val (.int p1), .val (.int p2), .val (.int p3), .unset, .unset, .unset, .unset, .unset, .unset, .unset, .unset]) (own_EL hw) (plainFor_of_name pn_com_example_reevemark_reevemark_connectors_ldap_LdapEscapeFilterValuePinLaw) (fun m => by first | (simp [entryFrame, mkF, argsToLocals, Value.category, maxLocals]; done) | rfl) O0 ?_
  intro p e s m below meth c T0 G hkn hs0 W0
  refine own_iloadN W0.K at_0 rfl rfl ?_
  refine own_iconst W0.K (v := (3 : Int32)) at_1 rfl rfl ?_
  refine own_iand W0.K at_2 rfl ?_
  refine own_istore W0.K (Ls' := #[.val (.int p0), .val (.int p1), .val (.int p2), .val (.int p3), .val (.int (p0 &&& (3 : Int32))), .unset, .unset, .unset, .unset, .unset, .unset, .unset]) at_3 rfl rfl ?_
  refine own_iloadN W0.K at_5 rfl rfl ?_
  refine own_callS W0.K (wd0 hw) (wd1 hw) (rm_pick hw hs W0.K.O) (wd3 hw) (wd2 hw) (by decide) (argsL := [(.int p1)]) (rest := []) rfl pd_28I29C rfl rfl (W := 0) rfl (by decide) (by decide) (by decide) (by decide) at_6 rfl ?_
  intro T223 h223 L223 v223 K223 q223
  obtain ⟨c223, rfl, hc223, e223⟩ := q223
  have f223 := e223.symm
  subst f223
  show G (T223.setTop (mkF m 9 #[.val (.int p0), .val (.int p1), .val (.int p2), .val (.int p3), .val (.int (p0 &&& (3 : Int32))), .unset, .unset, .unset, .unset, .unset, .unset, .unset] [(.int c223)]))
  refine own_istore K223 (Ls' := #[.val (.int p0), .val (.int p1), .val (.int p2), .val (.int p3), .val (.int (p0 &&& (3 : Int32))), .val (.int c223), .unset, .unset, .unset, .unset, .unset, .unset]) at_9 rfl rfl ?_
  refine own_iloadN K223 at_11 rfl rfl ?_
  refine own_callS K223 (wd0 hw) (wd1 hw) (rm_pick hw hs K223.O) (wd3 hw) (wd2 hw) (by decide) (argsL := [(.int p2)]) (rest := []) rfl pd_28I29C rfl rfl (W := 0) rfl (by decide) (by decide) (by decide) (by decide) at_12 rfl ?_
  intro T224 h224 L224 v224 K224 q224
  obtain ⟨c224, rfl, hc224, e224⟩ := q224
  have f224 := e224.symm
  subst f224
  show G (T224.setTop (mkF m 15 #[.val (.int p0), .val (.int p1), .val (.int p2), .val (.int p3), .val (.int (p0 &&& (3 : Int32))), .val (.int c223), .unset, .unset, .unset, .unset, .unset, .unset] [(.int c224)]))
  refine own_istore K224 (Ls' := #[.val (.int p0), .val (.int p1), .val (.int p2), .val (.int p3), .val (.int (p0 &&& (3 : Int32))), .val (.int c223), .val (.int c224), .unset, .unset, .unset, .unset, .unset]) at_15 rfl rfl ?_
  refine own_iloadN K224 at_17 rfl rfl ?_
  refine own_callS K224 (wd0 hw) (wd1 hw) (rm_pick hw hs K224.O) (wd3 hw) (wd2 hw) (by decide) (argsL := [(.int p3)]) (rest := []) rfl pd_28I29C rfl rfl (W := 0) rfl (by decide) (by decide) (by decide) (by decide) at_18 rfl ?_
  intro T225 h225 L225 v225 K225 q225
  obtain ⟨c225, rfl, hc225, e225⟩ := q225
  have f225 := e225.symm
  subst f225
  show G (T225.setTop (mkF m 21 #[.val (.int p0), .val (.int p1), .val (.int p2), .val (.int p3), .val (.int (p0 &&& (3 : Int32))), .val (.int c223), .val (.int c224), .unset, .unset, .unset, .unset, .unset] [(.int c225)]))
  refine own_istore K225 (Ls' := #[.val (.int p0), .val (.int p1), .val (.int p2), .val (.int p3), .val (.int (p0 &&& (3 : Int32))), .val (.int c223), .val (.int c224), .val (.int c225), .unset, .unset, .unset, .unset]) at_21 rfl rfl ?_
  refine own_iload K225 at_23 rfl rfl ?_
  have W226 := W0.same K225
  rcases own_and3 p0 with hn | hn | hn | hn
  · skip
    rw [hn]
    refine own_ifNo W226.K at_25 rfl ((if0 _ _).trans (teq rfl).2) ?_
    refine own_newO W226.K (wd4 hw) (wd5 hw) (wd6 hw) at_28 (by decide) (by decide) rfl ?_
    intro T227 h227 a227 K227 g227 E227 A227 D227 U227
    have F_value_227 : Fld Z h227 a227 "java/lang/String" "value" "[B" .null := D227 (Or.inr (wd20 hw)) (ty := (.array .byte)) (by decide)
    have F_coder_227 : Fld Z h227 a227 "java/lang/String" "coder" "B" (.int (0 : Int32)) := D227 (Or.inr (wd21 hw)) (ty := .byte) (by decide)
    refine own_dup K227 at_31 rfl rfl ?_
    refine own_iconst K227 (v := (0 : Int32)) at_32 rfl rfl ?_
    refine own_newP K227 (aty := .char) (wd7 hw) at_33 (by decide) (cap := 0) (by decide) (by decide) (by decide) (by decide) rfl ?_
    intro T228 h228 a228 c228 K228 g228 E228 V228
    have gs227 : Z.heap.size ≤ a227 := by rw [g227]; exact W0.K.O.1
    have gj228 : Z.heap.size ≤ a228 := by rw [g228]; exact Nat.le_trans W0.K.O.1 E227.1
    have Y228 : Ext h227 h228 := E228
    have W229 := W226.ext K228 (own_ext_trans E227 Y228)
    refine own_callIW W229 (own_EL hw) (kn := false) (fun q => nomatch q) (a := a227) (wd8 hw) (wd9 hw) (rm_initCE hw hs W229.K.O (A227.ext Y228) (F_value_227.ext Y228) (F_coder_227.ext Y228) gs227 V228) (wd10 hw) (wd6 hw) (by decide) rfl (argsL := [(.ref a228)]) (rest := [(.ref a227)]) rfl pd_285bC29V rfl rfl (Wd := 1) rfl (by decide) (by decide) (by decide) (by decide) at_35 rfl ?_
    intro T230 h230 L230 v230 k1_230 W230 C230 q230
    obtain ⟨rfl, Kp230, S230⟩ := q230
    show G (T230.setTop (mkF m 38 #[.val (.int p0), .val (.int p1), .val (.int p2), .val (.int p3), .val (.int (0 : Int32)), .val (.int c223), .val (.int c224), .val (.int c225), .unset, .unset, .unset, .unset] [(.ref a227)]))
    have hU : own_ub [] = false := rfl
    have Z230 : Ext h0 h230 := own_ext_keep (own_ext_trans E227 Y228) Kp230 (fun y q => by cases List.mem_singleton.mp q; exact Nat.le_of_eq g227.symm)
    have hch : own_chs [] := fun _ q => nomatch q
    refine own_astore W230.K (Ls' := #[.val (.int p0), .val (.int p1), .val (.int p2), .val (.int p3), .val (.int (0 : Int32)), .val (.int c223), .val (.int c224), .val (.int c225), .val (.ref a227), .unset, .unset, .unset]) at_38 rfl rfl rfl ?_
    refine own_goto W230.K at_40 (pc' := 127) (by decide) (by decide) ?_
    refine own_bipush W230.K (v := (9 : Int32)) at_127 rfl rfl ?_
    refine own_newP W230.K (aty := .char) (wd7 hw) at_129 (by decide) (cap := 9) (by decide) (by decide) (by decide) (by decide) rfl ?_
    intro T231 h231 a231 c231 K231 g231 E231 V231
    have ge : Z.heap.size ≤ a231 := by rw [g231]; exact Nat.le_trans W0.K.O.1 Z230.1
    have Q231 : Ext h230 h231 := E231
    have V231 : Arv Z h231 a231 c231 .char 9 (([] : List Int32).map Value.int) (.int 0) := V231
    refine own_astore K231 (Ls' := #[.val (.int p0), .val (.int p1), .val (.int p2), .val (.int p3), .val (.int (0 : Int32)), .val (.int c223), .val (.int c224), .val (.int c225), .val (.ref a227), .val (.ref a231), .unset, .unset]) at_131 rfl rfl rfl ?_
    refine own_iconst K231 (v := (0 : Int32)) at_133 rfl rfl ?_
    refine own_istore K231 (Ls' := #[.val (.int p0), .val (.int p1), .val (.int p2), .val (.int p3), .val (.int (0 : Int32)), .val (.int c223), .val (.int c224), .val (.int c225), .val (.ref a227), .val (.ref a231), .val (.int (0 : Int32)), .unset]) at_134 rfl rfl ?_
    refine own_iload K231 at_136 rfl rfl ?_
    refine own_iconst K231 (v := (1 : Int32)) at_138 rfl rfl ?_
    refine own_icmpYes K231 at_139 (pc' := 153) (by decide) (by decide) (tlt (by decide)).1 ?_
    refine own_iload K231 at_153 rfl rfl ?_
    refine own_iconst K231 (v := (2 : Int32)) at_155 rfl rfl ?_
    refine own_icmpYes K231 at_156 (pc' := 170) (by decide) (by decide) (tlt (by decide)).1 ?_
    refine own_iload K231 at_170 rfl rfl ?_
    refine own_iconst K231 (v := (3 : Int32)) at_172 rfl rfl ?_
    refine own_icmpYes K231 at_173 (pc' := 187) (by decide) (by decide) (tlt (by decide)).1 ?_
    refine own_aload K231 at_187 rfl rfl rfl ?_
    have W232 := W230.ext K231 Q231
    have hes : ([] : List Int32) = own_esc ([] : List Int32) := by simp [own_esc]
    have hle : (own_esc ([] : List Int32)).length ≤ 9 := Nat.le_trans (own_esc_len _) (by simp)
    refine own_callSW W232 (own_EL hw) (kn := false) (fun q => nomatch q) (wd26 hw) (wd27 hw) (rm_filter hw hs W232.K.O (S230.ext Q231) (own_ub_ok (cs := []) (fun _ q => nomatch q)) hch (by simp)) (wd29 hw) (wd28 hw) (by decide) (argsL := [(.ref a227)]) (rest := []) rfl pd_28Ljava2flang2fString3b29Ljava2flang2fString3b rfl rfl (Wd := 0) rfl (by decide) (by decide) (by decide) (by decide) at_189 rfl ?_
    intro T233 h233 L233 v233 k1_233 W233 C233 q233
    obtain ⟨r233, rfl, X233, S233⟩ := q233
    show G (T233.setTop (mkF m 192 #[.val (.int p0), .val (.int p1), .val (.int p2), .val (.int p3), .val (.int (0 : Int32)), .val (.int c223), .val (.int c224), .val (.int c225), .val (.ref a227), .val (.ref a231), .val (.int (0 : Int32)), .unset] [(.ref r233)]))
    have VF := V231.ext X233
    refine own_astore W233.K (Ls' := #[.val (.int p0), .val (.int p1), .val (.int p2), .val (.int p3), .val (.int (0 : Int32)), .val (.int c223), .val (.int c224), .val (.int c225), .val (.ref a227), .val (.ref a231), .val (.int (0 : Int32)), .val (.ref r233)]) at_192 rfl rfl rfl ?_
    refine own_aload W233.K at_194 rfl rfl rfl ?_
    refine own_callV W233.K (a := r233) (x0 := (⟨"java/lang/String", "length", "()I"⟩ : MethodName)) (wd110 hw) (wd34 hw) (fun q => own_nfS (args := #[]) (mvT q (wd36 hw)) rfl) (wd36 hw) (wd35 hw) (rm_lengthS hw hs W233.K.O S233 (by omega)) (wd37 hw) (wd6 hw) (by decide) S233.exa (argsL := []) (rest := []) rfl pd_2829I rfl rfl (W := 0) rfl (by decide) (by decide) (by decide) (by decide) at_196 rfl ?_
    intro T234 h234 L234 v234 K234 q234
    obtain ⟨rfl, e234⟩ := q234
    have f234 := e234.symm
    subst f234
    show G (T234.setTop (mkF m 199 #[.val (.int p0), .val (.int p1), .val (.int p2), .val (.int p3), .val (.int (0 : Int32)), .val (.int c223), .val (.int c224), .val (.int c225), .val (.ref a227), .val (.ref a231), .val (.int (0 : Int32)), .val (.ref r233)] [(.int (Int32.ofNat (own_esc ([] : List Int32)).length))]))
    refine own_iload K234 at_199 rfl rfl ?_
    refine own_icmpYes K234 at_201 (pc' := 206) (by decide) (by decide) (teq rfl).1 ?_
    refine own_aload K234 at_206 rfl rfl rfl ?_
    refine own_aload K234 at_208 rfl rfl rfl ?_
    refine own_iload K234 at_210 rfl rfl ?_
    refine own_iconst K234 (v := (0 : Int32)) at_212 rfl rfl ?_
    refine own_callS K234 (wd111 hw) (wd112 hw) (rm_at hw hs (es := own_esc ([] : List Int32)) (i := 0) K234.O S233 (own_esc_ok hch) hle VF (by decide)) (wd113 hw) (wd2 hw) (by decide) (argsL := [(.ref r233), (.ref a231), (.int (0 : Int32)), (.int (0 : Int32))]) (rest := []) rfl pd_28Ljava2flang2fString3b5bCII29Z rfl rfl (W := 0) rfl (by decide) (by decide) (by decide) (by decide) at_213 rfl ?_
    intro T235 h235 L235 v235 K235 q235
    obtain ⟨rfl, e235⟩ := q235
    have f235 := e235.symm
    subst f235
    show G (T235.setTop (mkF m 216 #[.val (.int p0), .val (.int p1), .val (.int p2), .val (.int p3), .val (.int (0 : Int32)), .val (.int c223), .val (.int c224), .val (.int c225), .val (.ref a227), .val (.ref a231), .val (.int (0 : Int32)), .val (.ref r233)] [(.int (1 : Int32))]))
    refine own_ifNo K235 at_216 rfl ((if0 _ _).trans (feq (by decide)).1) ?_
    refine own_aload K235 at_219 rfl rfl rfl ?_
    refine own_aload K235 at_221 rfl rfl rfl ?_
    refine own_iload K235 at_223 rfl rfl ?_
    refine own_iconst K235 (v := (1 : Int32)) at_225 rfl rfl ?_
    refine own_callS K235 (wd111 hw) (wd112 hw) (rm_at hw hs (es := own_esc ([] : List Int32)) (i := 1) K235.O S233 (own_esc_ok hch) hle VF (by decide)) (wd113 hw) (wd2 hw) (by decide) (argsL := [(.ref r233), (.ref a231), (.int (0 : Int32)), (.int (1 : Int32))]) (rest := []) rfl pd_28Ljava2flang2fString3b5bCII29Z rfl rfl (W := 0) rfl (by decide) (by decide) (by decide) (by decide) at_226 rfl ?_
    intro T236 h236 L236 v236 K236 q236
    obtain ⟨rfl, e236⟩ := q236
    have f236 := e236.symm
    subst f236
    show G (T236.setTop (mkF m 229 #[.val (.int p0), .val (.int p1), .val (.int p2), .val (.int p3), .val (.int (0 : Int32)), .val (.int c223), .val (.int c224), .val (.int c225), .val (.ref a227), .val (.ref a231), .val (.int (0 : Int32)), .val (.ref r233)] [(.int (1 : Int32))]))
    refine own_ifNo K236 at_229 rfl ((if0 _ _).trans (feq (by decide)).1) ?_
    refine own_aload K236 at_232 rfl rfl rfl ?_
    refine own_aload K236 at_234 rfl rfl rfl ?_
    refine own_iload K236 at_236 rfl rfl ?_
    refine own_iconst K236 (v := (2 : Int32)) at_238 rfl rfl ?_
    refine own_callS K236 (wd111 hw) (wd112 hw) (rm_at hw hs (es := own_esc ([] : List Int32)) (i := 2) K236.O S233 (own_esc_ok hch) hle VF (by decide)) (wd113 hw) (wd2 hw) (by decide) (argsL := [(.ref r233), (.ref a231), (.int (0 : Int32)), (.int (2 : Int32))]) (rest := []) rfl pd_28Ljava2flang2fString3b5bCII29Z rfl rfl (W := 0) rfl (by decide) (by decide) (by decide) (by decide) at_239 rfl ?_
    intro T237 h237 L237 v237 K237 q237
    obtain ⟨rfl, e237⟩ := q237
    have f237 := e237.symm
    subst f237
    show G (T237.setTop (mkF m 242 #[.val (.int p0), .val (.int p1), .val (.int p2), .val (.int p3), .val (.int (0 : Int32)), .val (.int c223), .val (.int c224), .val (.int c225), .val (.ref a227), .val (.ref a231), .val (.int (0 : Int32)), .val (.ref r233)] [(.int (1 : Int32))]))
    refine own_ifNo K237 at_242 rfl ((if0 _ _).trans (feq (by decide)).1) ?_
    refine own_aload K237 at_245 rfl rfl rfl ?_
    refine own_aload K237 at_247 rfl rfl rfl ?_
    refine own_iload K237 at_249 rfl rfl ?_
    refine own_iconst K237 (v := (3 : Int32)) at_251 rfl rfl ?_
    refine own_callS K237 (wd111 hw) (wd112 hw) (rm_at hw hs (es := own_esc ([] : List Int32)) (i := 3) K237.O S233 (own_esc_ok hch) hle VF (by decide)) (wd113 hw) (wd2 hw) (by decide) (argsL := [(.ref r233), (.ref a231), (.int (0 : Int32)), (.int (3 : Int32))]) (rest := []) rfl pd_28Ljava2flang2fString3b5bCII29Z rfl rfl (W := 0) rfl (by decide) (by decide) (by decide) (by decide) at_252 rfl ?_
    intro T238 h238 L238 v238 K238 q238
    obtain ⟨rfl, e238⟩ := q238
    have f238 := e238.symm
    subst f238
    show G (T238.setTop (mkF m 255 #[.val (.int p0), .val (.int p1), .val (.int p2), .val (.int p3), .val (.int (0 : Int32)), .val (.int c223), .val (.int c224), .val (.int c225), .val (.ref a227), .val (.ref a231), .val (.int (0 : Int32)), .val (.ref r233)] [(.int (1 : Int32))]))
    refine own_ifNo K238 at_255 rfl ((if0 _ _).trans (feq (by decide)).1) ?_
    refine own_aload K238 at_258 rfl rfl rfl ?_
    refine own_aload K238 at_260 rfl rfl rfl ?_
    refine own_iload K238 at_262 rfl rfl ?_
    refine own_iconst K238 (v := (4 : Int32)) at_264 rfl rfl ?_
    refine own_callS K238 (wd111 hw) (wd112 hw) (rm_at hw hs (es := own_esc ([] : List Int32)) (i := 4) K238.O S233 (own_esc_ok hch) hle VF (by decide)) (wd113 hw) (wd2 hw) (by decide) (argsL := [(.ref r233), (.ref a231), (.int (0 : Int32)), (.int (4 : Int32))]) (rest := []) rfl pd_28Ljava2flang2fString3b5bCII29Z rfl rfl (W := 0) rfl (by decide) (by decide) (by decide) (by decide) at_265 rfl ?_
    intro T239 h239 L239 v239 K239 q239
    obtain ⟨rfl, e239⟩ := q239
    have f239 := e239.symm
    subst f239
    show G (T239.setTop (mkF m 268 #[.val (.int p0), .val (.int p1), .val (.int p2), .val (.int p3), .val (.int (0 : Int32)), .val (.int c223), .val (.int c224), .val (.int c225), .val (.ref a227), .val (.ref a231), .val (.int (0 : Int32)), .val (.ref r233)] [(.int (1 : Int32))]))
    refine own_ifNo K239 at_268 rfl ((if0 _ _).trans (feq (by decide)).1) ?_
    refine own_aload K239 at_271 rfl rfl rfl ?_
    refine own_aload K239 at_273 rfl rfl rfl ?_
    refine own_iload K239 at_275 rfl rfl ?_
    refine own_iconst K239 (v := (5 : Int32)) at_277 rfl rfl ?_
    refine own_callS K239 (wd111 hw) (wd112 hw) (rm_at hw hs (es := own_esc ([] : List Int32)) (i := 5) K239.O S233 (own_esc_ok hch) hle VF (by decide)) (wd113 hw) (wd2 hw) (by decide) (argsL := [(.ref r233), (.ref a231), (.int (0 : Int32)), (.int (5 : Int32))]) (rest := []) rfl pd_28Ljava2flang2fString3b5bCII29Z rfl rfl (W := 0) rfl (by decide) (by decide) (by decide) (by decide) at_278 rfl ?_
    intro T240 h240 L240 v240 K240 q240
    obtain ⟨rfl, e240⟩ := q240
    have f240 := e240.symm
    subst f240
    show G (T240.setTop (mkF m 281 #[.val (.int p0), .val (.int p1), .val (.int p2), .val (.int p3), .val (.int (0 : Int32)), .val (.int c223), .val (.int c224), .val (.int c225), .val (.ref a227), .val (.ref a231), .val (.int (0 : Int32)), .val (.ref r233)] [(.int (1 : Int32))]))
    refine own_ifNo K240 at_281 rfl ((if0 _ _).trans (feq (by decide)).1) ?_
    refine own_aload K240 at_284 rfl rfl rfl ?_
    refine own_aload K240 at_286 rfl rfl rfl ?_
    refine own_iload K240 at_288 rfl rfl ?_
    refine own_bipush K240 (v := (6 : Int32)) at_290 rfl rfl ?_
    refine own_callS K240 (wd111 hw) (wd112 hw) (rm_at hw hs (es := own_esc ([] : List Int32)) (i := 6) K240.O S233 (own_esc_ok hch) hle VF (by decide)) (wd113 hw) (wd2 hw) (by decide) (argsL := [(.ref r233), (.ref a231), (.int (0 : Int32)), (.int (6 : Int32))]) (rest := []) rfl pd_28Ljava2flang2fString3b5bCII29Z rfl rfl (W := 0) rfl (by decide) (by decide) (by decide) (by decide) at_292 rfl ?_
    intro T241 h241 L241 v241 K241 q241
    obtain ⟨rfl, e241⟩ := q241
    have f241 := e241.symm
    subst f241
    show G (T241.setTop (mkF m 295 #[.val (.int p0), .val (.int p1), .val (.int p2), .val (.int p3), .val (.int (0 : Int32)), .val (.int c223), .val (.int c224), .val (.int c225), .val (.ref a227), .val (.ref a231), .val (.int (0 : Int32)), .val (.ref r233)] [(.int (1 : Int32))]))
    refine own_ifNo K241 at_295 rfl ((if0 _ _).trans (feq (by decide)).1) ?_
    refine own_aload K241 at_298 rfl rfl rfl ?_
    refine own_aload K241 at_300 rfl rfl rfl ?_
    refine own_iload K241 at_302 rfl rfl ?_
    refine own_bipush K241 (v := (7 : Int32)) at_304 rfl rfl ?_
    refine own_callS K241 (wd111 hw) (wd112 hw) (rm_at hw hs (es := own_esc ([] : List Int32)) (i := 7) K241.O S233 (own_esc_ok hch) hle VF (by decide)) (wd113 hw) (wd2 hw) (by decide) (argsL := [(.ref r233), (.ref a231), (.int (0 : Int32)), (.int (7 : Int32))]) (rest := []) rfl pd_28Ljava2flang2fString3b5bCII29Z rfl rfl (W := 0) rfl (by decide) (by decide) (by decide) (by decide) at_306 rfl ?_
    intro T242 h242 L242 v242 K242 q242
    obtain ⟨rfl, e242⟩ := q242
    have f242 := e242.symm
    subst f242
    show G (T242.setTop (mkF m 309 #[.val (.int p0), .val (.int p1), .val (.int p2), .val (.int p3), .val (.int (0 : Int32)), .val (.int c223), .val (.int c224), .val (.int c225), .val (.ref a227), .val (.ref a231), .val (.int (0 : Int32)), .val (.ref r233)] [(.int (1 : Int32))]))
    refine own_ifNo K242 at_309 rfl ((if0 _ _).trans (feq (by decide)).1) ?_
    refine own_aload K242 at_312 rfl rfl rfl ?_
    refine own_aload K242 at_314 rfl rfl rfl ?_
    refine own_iload K242 at_316 rfl rfl ?_
    refine own_bipush K242 (v := (8 : Int32)) at_318 rfl rfl ?_
    refine own_callS K242 (wd111 hw) (wd112 hw) (rm_at hw hs (es := own_esc ([] : List Int32)) (i := 8) K242.O S233 (own_esc_ok hch) hle VF (by decide)) (wd113 hw) (wd2 hw) (by decide) (argsL := [(.ref r233), (.ref a231), (.int (0 : Int32)), (.int (8 : Int32))]) (rest := []) rfl pd_28Ljava2flang2fString3b5bCII29Z rfl rfl (W := 0) rfl (by decide) (by decide) (by decide) (by decide) at_320 rfl ?_
    intro T243 h243 L243 v243 K243 q243
    obtain ⟨rfl, e243⟩ := q243
    have f243 := e243.symm
    subst f243
    show G (T243.setTop (mkF m 323 #[.val (.int p0), .val (.int p1), .val (.int p2), .val (.int p3), .val (.int (0 : Int32)), .val (.int c223), .val (.int c224), .val (.int c225), .val (.ref a227), .val (.ref a231), .val (.int (0 : Int32)), .val (.ref r233)] [(.int (1 : Int32))]))
    refine own_ifNo K243 at_323 rfl ((if0 _ _).trans (feq (by decide)).1) ?_
    refine own_iconst K243 (v := (1 : Int32)) at_326 rfl rfl ?_
    refine own_goto K243 at_327 (pc' := 331) (by decide) (by decide) ?_
    have W244 := W233.same K243
    exact own_retN W244.K (z' := (1 : Int32)) at_331 rfl (by simp) (by decide) (by decide) (by decide) ⟨⟨rfl, W244.le⟩, fun _ => W244.C⟩
  · skip
    rw [hn]
    refine own_ifYes W226.K at_25 (pc' := 43) (by decide) (by decide) ((if0 _ _).trans (feq (by decide)).2) ?_
    refine own_iload W226.K at_43 rfl rfl ?_
    refine own_iconst W226.K (v := (1 : Int32)) at_45 rfl rfl ?_
    refine own_icmpNo W226.K at_46 rfl (teq rfl).2 ?_
    refine own_newO W226.K (wd4 hw) (wd5 hw) (wd6 hw) at_49 (by decide) (by decide) rfl ?_
    intro T245 h245 a245 K245 g245 E245 A245 D245 U245
    have F_value_245 : Fld Z h245 a245 "java/lang/String" "value" "[B" .null := D245 (Or.inr (wd20 hw)) (ty := (.array .byte)) (by decide)
    have F_coder_245 : Fld Z h245 a245 "java/lang/String" "coder" "B" (.int (0 : Int32)) := D245 (Or.inr (wd21 hw)) (ty := .byte) (by decide)
    refine own_dup K245 at_52 rfl rfl ?_
    refine own_iconst K245 (v := (1 : Int32)) at_53 rfl rfl ?_
    refine own_newP K245 (aty := .char) (wd7 hw) at_54 (by decide) (cap := 1) (by decide) (by decide) (by decide) (by decide) rfl ?_
    intro T246 h246 a246 c246 K246 g246 E246 V246
    refine own_dup K246 at_56 rfl rfl ?_
    refine own_iconst K246 (v := (0 : Int32)) at_57 rfl rfl ?_
    refine own_iload K246 at_58 rfl rfl ?_
    have gs245 : Z.heap.size ≤ a245 := by rw [g245]; exact W0.K.O.1
    have gj246 : Z.heap.size ≤ a246 := by rw [g246]; exact Nat.le_trans W0.K.O.1 E245.1
    have Y246 : Ext h245 h246 := E246
    refine own_castore K246 (V246.pad (pad_rep [] _ 1)) ⟨by decide, by decide⟩ 0 rfl (by simp) (x' := c223) (own_nar_char hc223) gj246 at_60 rfl ?_
    intro T247 h247 K247 W247 V247
    have Y247 : Ext h245 h247 := own_ext_wr Y246 W247 (Nat.le_of_eq g246.symm)
    have hch : own_chs [c223] := by intro c hc; simp only [List.mem_cons, List.not_mem_nil, or_false] at hc; rcases hc with rfl <;> assumption
    have A_ : Arv Z h247 a246 c246 .char (Int32.ofNat [c223].length) ([c223].map Value.int) (.int 0) := V247
    refine own_callI K247 (a := a245) (wd8 hw) (wd9 hw) (rm_initCG hw hs (u := own_ub [c223]) (cap := 1) K247.O (A245.ext Y247) (F_value_245.ext Y247) (F_coder_245.ext Y247) gs245 A_ (own_ub_ok hch) own_ub_bad (by simp) (by simp) (by simp)) (wd10 hw) (wd6 hw) (by decide) rfl (argsL := [(.ref a246)]) (rest := [(.ref a245)]) rfl pd_285bC29V rfl rfl (W := 1) rfl (by decide) (by decide) (by decide) (by decide) at_61 rfl ?_
    intro T248 h248 L248 v248 K248 q248
    obtain ⟨rfl, Kp248, S248⟩ := q248
    show G (T248.setTop (mkF m 64 #[.val (.int p0), .val (.int p1), .val (.int p2), .val (.int p3), .val (.int (1 : Int32)), .val (.int c223), .val (.int c224), .val (.int c225), .unset, .unset, .unset, .unset] [(.ref a245)]))
    have Z248 : Ext h0 h248 := own_ext_keep (own_ext_trans E245 Y247) Kp248 (fun y q => by cases List.mem_singleton.mp q; exact Nat.le_of_eq g245.symm)
    have W249 := W226.ext K248 Z248
    refine own_astore W249.K (Ls' := #[.val (.int p0), .val (.int p1), .val (.int p2), .val (.int p3), .val (.int (1 : Int32)), .val (.int c223), .val (.int c224), .val (.int c225), .val (.ref a245), .unset, .unset, .unset]) at_64 rfl rfl rfl ?_
    refine own_goto W249.K at_66 (pc' := 127) (by decide) (by decide) ?_
    refine own_bipush W249.K (v := (9 : Int32)) at_127 rfl rfl ?_
    refine own_newP W249.K (aty := .char) (wd7 hw) at_129 (by decide) (cap := 9) (by decide) (by decide) (by decide) (by decide) rfl ?_
    intro T250 h250 a250 c250 K250 g250 E250 V250
    have ge : Z.heap.size ≤ a250 := by rw [g250]; exact Nat.le_trans W0.K.O.1 Z248.1
    have Q250 : Ext h248 h250 := E250
    have V250 : Arv Z h250 a250 c250 .char 9 (([] : List Int32).map Value.int) (.int 0) := V250
    refine own_astore K250 (Ls' := #[.val (.int p0), .val (.int p1), .val (.int p2), .val (.int p3), .val (.int (1 : Int32)), .val (.int c223), .val (.int c224), .val (.int c225), .val (.ref a245), .val (.ref a250), .unset, .unset]) at_131 rfl rfl rfl ?_
    refine own_iconst K250 (v := (0 : Int32)) at_133 rfl rfl ?_
    refine own_istore K250 (Ls' := #[.val (.int p0), .val (.int p1), .val (.int p2), .val (.int p3), .val (.int (1 : Int32)), .val (.int c223), .val (.int c224), .val (.int c225), .val (.ref a245), .val (.ref a250), .val (.int (0 : Int32)), .unset]) at_134 rfl rfl ?_
    refine own_iload K250 at_136 rfl rfl ?_
    refine own_iconst K250 (v := (1 : Int32)) at_138 rfl rfl ?_
    refine own_icmpNo K250 at_139 rfl (flt (by decide)).1 ?_
    refine own_aload K250 at_142 rfl rfl rfl ?_
    refine own_iload K250 at_144 rfl rfl ?_
    refine own_iload K250 at_146 rfl rfl ?_
    have he0 : (([] : List Int32)).length ≤ 0 := by simp only [List.length_append, List.length_nil]; omega
    refine own_callS K250 (wd124 hw) (wd125 hw) (rm_put hw hs (es := ([] : List Int32)) K250.O V250 (by omega) hc223 ge) (wd126 hw) (wd2 hw) (by decide) (argsL := [(.ref a250), (.int (0 : Int32)), (.int c223)]) (rest := []) rfl pd_285bCIC29I rfl rfl (W := 0) rfl (by decide) (by decide) (by decide) (by decide) at_148 rfl ?_
    intro T251 h251 L251 v251 K251 q251
    obtain ⟨rfl, Ke251, Ve251⟩ := q251
    show G (T251.setTop (mkF m 151 #[.val (.int p0), .val (.int p1), .val (.int p2), .val (.int p3), .val (.int (1 : Int32)), .val (.int c223), .val (.int c224), .val (.int c225), .val (.ref a245), .val (.ref a250), .val (.int (0 : Int32)), .unset] [(.int (Int32.ofNat (([] : List Int32) ++ own_escC c223).length))]))
    have Q251 : Ext h248 h251 := own_ext_keep Q250 Ke251 (fun y q => by cases List.mem_singleton.mp q; exact Nat.le_of_eq g250.symm)
    refine own_istore K251 (Ls' := #[.val (.int p0), .val (.int p1), .val (.int p2), .val (.int p3), .val (.int (1 : Int32)), .val (.int c223), .val (.int c224), .val (.int c225), .val (.ref a245), .val (.ref a250), .val (.int (Int32.ofNat (([] : List Int32) ++ own_escC c223).length)), .unset]) at_151 rfl rfl ?_
    refine own_iload K251 at_153 rfl rfl ?_
    refine own_iconst K251 (v := (2 : Int32)) at_155 rfl rfl ?_
    refine own_icmpYes K251 at_156 (pc' := 170) (by decide) (by decide) (tlt (by decide)).1 ?_
    refine own_iload K251 at_170 rfl rfl ?_
    refine own_iconst K251 (v := (3 : Int32)) at_172 rfl rfl ?_
    refine own_icmpYes K251 at_173 (pc' := 187) (by decide) (by decide) (tlt (by decide)).1 ?_
    refine own_aload K251 at_187 rfl rfl rfl ?_
    have W252 := W249.ext K251 Q251
    have hes : (([] : List Int32) ++ own_escC c223) = own_esc [c223] := by simp [own_esc]
    have hle : (own_esc [c223]).length ≤ 9 := Nat.le_trans (own_esc_len _) (by simp)
    refine own_callSW W252 (own_EL hw) (kn := false) (fun q => nomatch q) (wd26 hw) (wd27 hw) (rm_filter hw hs W252.K.O (S248.ext Q251) (own_ub_ok hch) hch (by simp)) (wd29 hw) (wd28 hw) (by decide) (argsL := [(.ref a245)]) (rest := []) rfl pd_28Ljava2flang2fString3b29Ljava2flang2fString3b rfl rfl (Wd := 0) rfl (by decide) (by decide) (by decide) (by decide) at_189 rfl ?_
    intro T253 h253 L253 v253 k1_253 W253 C253 q253
    obtain ⟨r253, rfl, X253, S253⟩ := q253
    show G (T253.setTop (mkF m 192 #[.val (.int p0), .val (.int p1), .val (.int p2), .val (.int p3), .val (.int (1 : Int32)), .val (.int c223), .val (.int c224), .val (.int c225), .val (.ref a245), .val (.ref a250), .val (.int (Int32.ofNat (([] : List Int32) ++ own_escC c223).length)), .unset] [(.ref r253)]))
    have VF := Ve251.ext X253
    rw [hes] at VF
    rw [hes]
    refine own_astore W253.K (Ls' := #[.val (.int p0), .val (.int p1), .val (.int p2), .val (.int p3), .val (.int (1 : Int32)), .val (.int c223), .val (.int c224), .val (.int c225), .val (.ref a245), .val (.ref a250), .val (.int (Int32.ofNat (own_esc [c223]).length)), .val (.ref r253)]) at_192 rfl rfl rfl ?_
    refine own_aload W253.K at_194 rfl rfl rfl ?_
    refine own_callV W253.K (a := r253) (x0 := (⟨"java/lang/String", "length", "()I"⟩ : MethodName)) (wd110 hw) (wd34 hw) (fun q => own_nfS (args := #[]) (mvT q (wd36 hw)) rfl) (wd36 hw) (wd35 hw) (rm_lengthS hw hs W253.K.O S253 (by omega)) (wd37 hw) (wd6 hw) (by decide) S253.exa (argsL := []) (rest := []) rfl pd_2829I rfl rfl (W := 0) rfl (by decide) (by decide) (by decide) (by decide) at_196 rfl ?_
    intro T254 h254 L254 v254 K254 q254
    obtain ⟨rfl, e254⟩ := q254
    have f254 := e254.symm
    subst f254
    show G (T254.setTop (mkF m 199 #[.val (.int p0), .val (.int p1), .val (.int p2), .val (.int p3), .val (.int (1 : Int32)), .val (.int c223), .val (.int c224), .val (.int c225), .val (.ref a245), .val (.ref a250), .val (.int (Int32.ofNat (own_esc [c223]).length)), .val (.ref r253)] [(.int (Int32.ofNat (own_esc [c223]).length))]))
    refine own_iload K254 at_199 rfl rfl ?_
    refine own_icmpYes K254 at_201 (pc' := 206) (by decide) (by decide) (teq rfl).1 ?_
    refine own_aload K254 at_206 rfl rfl rfl ?_
    refine own_aload K254 at_208 rfl rfl rfl ?_
    refine own_iload K254 at_210 rfl rfl ?_
    refine own_iconst K254 (v := (0 : Int32)) at_212 rfl rfl ?_
    refine own_callS K254 (wd111 hw) (wd112 hw) (rm_at hw hs (es := own_esc [c223]) (i := 0) K254.O S253 (own_esc_ok hch) hle VF (by decide)) (wd113 hw) (wd2 hw) (by decide) (argsL := [(.ref r253), (.ref a250), (.int (Int32.ofNat (own_esc [c223]).length)), (.int (0 : Int32))]) (rest := []) rfl pd_28Ljava2flang2fString3b5bCII29Z rfl rfl (W := 0) rfl (by decide) (by decide) (by decide) (by decide) at_213 rfl ?_
    intro T255 h255 L255 v255 K255 q255
    obtain ⟨rfl, e255⟩ := q255
    have f255 := e255.symm
    subst f255
    show G (T255.setTop (mkF m 216 #[.val (.int p0), .val (.int p1), .val (.int p2), .val (.int p3), .val (.int (1 : Int32)), .val (.int c223), .val (.int c224), .val (.int c225), .val (.ref a245), .val (.ref a250), .val (.int (Int32.ofNat (own_esc [c223]).length)), .val (.ref r253)] [(.int (1 : Int32))]))
    refine own_ifNo K255 at_216 rfl ((if0 _ _).trans (feq (by decide)).1) ?_
    refine own_aload K255 at_219 rfl rfl rfl ?_
    refine own_aload K255 at_221 rfl rfl rfl ?_
    refine own_iload K255 at_223 rfl rfl ?_
    refine own_iconst K255 (v := (1 : Int32)) at_225 rfl rfl ?_
    refine own_callS K255 (wd111 hw) (wd112 hw) (rm_at hw hs (es := own_esc [c223]) (i := 1) K255.O S253 (own_esc_ok hch) hle VF (by decide)) (wd113 hw) (wd2 hw) (by decide) (argsL := [(.ref r253), (.ref a250), (.int (Int32.ofNat (own_esc [c223]).length)), (.int (1 : Int32))]) (rest := []) rfl pd_28Ljava2flang2fString3b5bCII29Z rfl rfl (W := 0) rfl (by decide) (by decide) (by decide) (by decide) at_226 rfl ?_
    intro T256 h256 L256 v256 K256 q256
    obtain ⟨rfl, e256⟩ := q256
    have f256 := e256.symm
    subst f256
    show G (T256.setTop (mkF m 229 #[.val (.int p0), .val (.int p1), .val (.int p2), .val (.int p3), .val (.int (1 : Int32)), .val (.int c223), .val (.int c224), .val (.int c225), .val (.ref a245), .val (.ref a250), .val (.int (Int32.ofNat (own_esc [c223]).length)), .val (.ref r253)] [(.int (1 : Int32))]))
    refine own_ifNo K256 at_229 rfl ((if0 _ _).trans (feq (by decide)).1) ?_
    refine own_aload K256 at_232 rfl rfl rfl ?_
    refine own_aload K256 at_234 rfl rfl rfl ?_
    refine own_iload K256 at_236 rfl rfl ?_
    refine own_iconst K256 (v := (2 : Int32)) at_238 rfl rfl ?_
    refine own_callS K256 (wd111 hw) (wd112 hw) (rm_at hw hs (es := own_esc [c223]) (i := 2) K256.O S253 (own_esc_ok hch) hle VF (by decide)) (wd113 hw) (wd2 hw) (by decide) (argsL := [(.ref r253), (.ref a250), (.int (Int32.ofNat (own_esc [c223]).length)), (.int (2 : Int32))]) (rest := []) rfl pd_28Ljava2flang2fString3b5bCII29Z rfl rfl (W := 0) rfl (by decide) (by decide) (by decide) (by decide) at_239 rfl ?_
    intro T257 h257 L257 v257 K257 q257
    obtain ⟨rfl, e257⟩ := q257
    have f257 := e257.symm
    subst f257
    show G (T257.setTop (mkF m 242 #[.val (.int p0), .val (.int p1), .val (.int p2), .val (.int p3), .val (.int (1 : Int32)), .val (.int c223), .val (.int c224), .val (.int c225), .val (.ref a245), .val (.ref a250), .val (.int (Int32.ofNat (own_esc [c223]).length)), .val (.ref r253)] [(.int (1 : Int32))]))
    refine own_ifNo K257 at_242 rfl ((if0 _ _).trans (feq (by decide)).1) ?_
    refine own_aload K257 at_245 rfl rfl rfl ?_
    refine own_aload K257 at_247 rfl rfl rfl ?_
    refine own_iload K257 at_249 rfl rfl ?_
    refine own_iconst K257 (v := (3 : Int32)) at_251 rfl rfl ?_
    refine own_callS K257 (wd111 hw) (wd112 hw) (rm_at hw hs (es := own_esc [c223]) (i := 3) K257.O S253 (own_esc_ok hch) hle VF (by decide)) (wd113 hw) (wd2 hw) (by decide) (argsL := [(.ref r253), (.ref a250), (.int (Int32.ofNat (own_esc [c223]).length)), (.int (3 : Int32))]) (rest := []) rfl pd_28Ljava2flang2fString3b5bCII29Z rfl rfl (W := 0) rfl (by decide) (by decide) (by decide) (by decide) at_252 rfl ?_
    intro T258 h258 L258 v258 K258 q258
    obtain ⟨rfl, e258⟩ := q258
    have f258 := e258.symm
    subst f258
    show G (T258.setTop (mkF m 255 #[.val (.int p0), .val (.int p1), .val (.int p2), .val (.int p3), .val (.int (1 : Int32)), .val (.int c223), .val (.int c224), .val (.int c225), .val (.ref a245), .val (.ref a250), .val (.int (Int32.ofNat (own_esc [c223]).length)), .val (.ref r253)] [(.int (1 : Int32))]))
    refine own_ifNo K258 at_255 rfl ((if0 _ _).trans (feq (by decide)).1) ?_
    refine own_aload K258 at_258 rfl rfl rfl ?_
    refine own_aload K258 at_260 rfl rfl rfl ?_
    refine own_iload K258 at_262 rfl rfl ?_
    refine own_iconst K258 (v := (4 : Int32)) at_264 rfl rfl ?_
    refine own_callS K258 (wd111 hw) (wd112 hw) (rm_at hw hs (es := own_esc [c223]) (i := 4) K258.O S253 (own_esc_ok hch) hle VF (by decide)) (wd113 hw) (wd2 hw) (by decide) (argsL := [(.ref r253), (.ref a250), (.int (Int32.ofNat (own_esc [c223]).length)), (.int (4 : Int32))]) (rest := []) rfl pd_28Ljava2flang2fString3b5bCII29Z rfl rfl (W := 0) rfl (by decide) (by decide) (by decide) (by decide) at_265 rfl ?_
    intro T259 h259 L259 v259 K259 q259
    obtain ⟨rfl, e259⟩ := q259
    have f259 := e259.symm
    subst f259
    show G (T259.setTop (mkF m 268 #[.val (.int p0), .val (.int p1), .val (.int p2), .val (.int p3), .val (.int (1 : Int32)), .val (.int c223), .val (.int c224), .val (.int c225), .val (.ref a245), .val (.ref a250), .val (.int (Int32.ofNat (own_esc [c223]).length)), .val (.ref r253)] [(.int (1 : Int32))]))
    refine own_ifNo K259 at_268 rfl ((if0 _ _).trans (feq (by decide)).1) ?_
    refine own_aload K259 at_271 rfl rfl rfl ?_
    refine own_aload K259 at_273 rfl rfl rfl ?_
    refine own_iload K259 at_275 rfl rfl ?_
    refine own_iconst K259 (v := (5 : Int32)) at_277 rfl rfl ?_
    refine own_callS K259 (wd111 hw) (wd112 hw) (rm_at hw hs (es := own_esc [c223]) (i := 5) K259.O S253 (own_esc_ok hch) hle VF (by decide)) (wd113 hw) (wd2 hw) (by decide) (argsL := [(.ref r253), (.ref a250), (.int (Int32.ofNat (own_esc [c223]).length)), (.int (5 : Int32))]) (rest := []) rfl pd_28Ljava2flang2fString3b5bCII29Z rfl rfl (W := 0) rfl (by decide) (by decide) (by decide) (by decide) at_278 rfl ?_
    intro T260 h260 L260 v260 K260 q260
    obtain ⟨rfl, e260⟩ := q260
    have f260 := e260.symm
    subst f260
    show G (T260.setTop (mkF m 281 #[.val (.int p0), .val (.int p1), .val (.int p2), .val (.int p3), .val (.int (1 : Int32)), .val (.int c223), .val (.int c224), .val (.int c225), .val (.ref a245), .val (.ref a250), .val (.int (Int32.ofNat (own_esc [c223]).length)), .val (.ref r253)] [(.int (1 : Int32))]))
    refine own_ifNo K260 at_281 rfl ((if0 _ _).trans (feq (by decide)).1) ?_
    refine own_aload K260 at_284 rfl rfl rfl ?_
    refine own_aload K260 at_286 rfl rfl rfl ?_
    refine own_iload K260 at_288 rfl rfl ?_
    refine own_bipush K260 (v := (6 : Int32)) at_290 rfl rfl ?_
    refine own_callS K260 (wd111 hw) (wd112 hw) (rm_at hw hs (es := own_esc [c223]) (i := 6) K260.O S253 (own_esc_ok hch) hle VF (by decide)) (wd113 hw) (wd2 hw) (by decide) (argsL := [(.ref r253), (.ref a250), (.int (Int32.ofNat (own_esc [c223]).length)), (.int (6 : Int32))]) (rest := []) rfl pd_28Ljava2flang2fString3b5bCII29Z rfl rfl (W := 0) rfl (by decide) (by decide) (by decide) (by decide) at_292 rfl ?_
    intro T261 h261 L261 v261 K261 q261
    obtain ⟨rfl, e261⟩ := q261
    have f261 := e261.symm
    subst f261
    show G (T261.setTop (mkF m 295 #[.val (.int p0), .val (.int p1), .val (.int p2), .val (.int p3), .val (.int (1 : Int32)), .val (.int c223), .val (.int c224), .val (.int c225), .val (.ref a245), .val (.ref a250), .val (.int (Int32.ofNat (own_esc [c223]).length)), .val (.ref r253)] [(.int (1 : Int32))]))
    refine own_ifNo K261 at_295 rfl ((if0 _ _).trans (feq (by decide)).1) ?_
    refine own_aload K261 at_298 rfl rfl rfl ?_
    refine own_aload K261 at_300 rfl rfl rfl ?_
    refine own_iload K261 at_302 rfl rfl ?_
    refine own_bipush K261 (v := (7 : Int32)) at_304 rfl rfl ?_
    refine own_callS K261 (wd111 hw) (wd112 hw) (rm_at hw hs (es := own_esc [c223]) (i := 7) K261.O S253 (own_esc_ok hch) hle VF (by decide)) (wd113 hw) (wd2 hw) (by decide) (argsL := [(.ref r253), (.ref a250), (.int (Int32.ofNat (own_esc [c223]).length)), (.int (7 : Int32))]) (rest := []) rfl pd_28Ljava2flang2fString3b5bCII29Z rfl rfl (W := 0) rfl (by decide) (by decide) (by decide) (by decide) at_306 rfl ?_
    intro T262 h262 L262 v262 K262 q262
    obtain ⟨rfl, e262⟩ := q262
    have f262 := e262.symm
    subst f262
    show G (T262.setTop (mkF m 309 #[.val (.int p0), .val (.int p1), .val (.int p2), .val (.int p3), .val (.int (1 : Int32)), .val (.int c223), .val (.int c224), .val (.int c225), .val (.ref a245), .val (.ref a250), .val (.int (Int32.ofNat (own_esc [c223]).length)), .val (.ref r253)] [(.int (1 : Int32))]))
    refine own_ifNo K262 at_309 rfl ((if0 _ _).trans (feq (by decide)).1) ?_
    refine own_aload K262 at_312 rfl rfl rfl ?_
    refine own_aload K262 at_314 rfl rfl rfl ?_
    refine own_iload K262 at_316 rfl rfl ?_
    refine own_bipush K262 (v := (8 : Int32)) at_318 rfl rfl ?_
    refine own_callS K262 (wd111 hw) (wd112 hw) (rm_at hw hs (es := own_esc [c223]) (i := 8) K262.O S253 (own_esc_ok hch) hle VF (by decide)) (wd113 hw) (wd2 hw) (by decide) (argsL := [(.ref r253), (.ref a250), (.int (Int32.ofNat (own_esc [c223]).length)), (.int (8 : Int32))]) (rest := []) rfl pd_28Ljava2flang2fString3b5bCII29Z rfl rfl (W := 0) rfl (by decide) (by decide) (by decide) (by decide) at_320 rfl ?_
    intro T263 h263 L263 v263 K263 q263
    obtain ⟨rfl, e263⟩ := q263
    have f263 := e263.symm
    subst f263
    show G (T263.setTop (mkF m 323 #[.val (.int p0), .val (.int p1), .val (.int p2), .val (.int p3), .val (.int (1 : Int32)), .val (.int c223), .val (.int c224), .val (.int c225), .val (.ref a245), .val (.ref a250), .val (.int (Int32.ofNat (own_esc [c223]).length)), .val (.ref r253)] [(.int (1 : Int32))]))
    refine own_ifNo K263 at_323 rfl ((if0 _ _).trans (feq (by decide)).1) ?_
    refine own_iconst K263 (v := (1 : Int32)) at_326 rfl rfl ?_
    refine own_goto K263 at_327 (pc' := 331) (by decide) (by decide) ?_
    have W264 := W253.same K263
    exact own_retN W264.K (z' := (1 : Int32)) at_331 rfl (by simp) (by decide) (by decide) (by decide) ⟨⟨rfl, W264.le⟩, fun _ => W264.C⟩
  · skip
    rw [hn]
    refine own_ifYes W226.K at_25 (pc' := 43) (by decide) (by decide) ((if0 _ _).trans (feq (by decide)).2) ?_
    refine own_iload W226.K at_43 rfl rfl ?_
    refine own_iconst W226.K (v := (1 : Int32)) at_45 rfl rfl ?_
    refine own_icmpYes W226.K at_46 (pc' := 69) (by decide) (by decide) (feq (by decide)).2 ?_
    refine own_iload W226.K at_69 rfl rfl ?_
    refine own_iconst W226.K (v := (2 : Int32)) at_71 rfl rfl ?_
    refine own_icmpNo W226.K at_72 rfl (teq rfl).2 ?_
    refine own_newO W226.K (wd4 hw) (wd5 hw) (wd6 hw) at_75 (by decide) (by decide) rfl ?_
    intro T265 h265 a265 K265 g265 E265 A265 D265 U265
    have F_value_265 : Fld Z h265 a265 "java/lang/String" "value" "[B" .null := D265 (Or.inr (wd20 hw)) (ty := (.array .byte)) (by decide)
    have F_coder_265 : Fld Z h265 a265 "java/lang/String" "coder" "B" (.int (0 : Int32)) := D265 (Or.inr (wd21 hw)) (ty := .byte) (by decide)
    refine own_dup K265 at_78 rfl rfl ?_
    refine own_iconst K265 (v := (2 : Int32)) at_79 rfl rfl ?_
    refine own_newP K265 (aty := .char) (wd7 hw) at_80 (by decide) (cap := 2) (by decide) (by decide) (by decide) (by decide) rfl ?_
    intro T266 h266 a266 c266 K266 g266 E266 V266
    refine own_dup K266 at_82 rfl rfl ?_
    refine own_iconst K266 (v := (0 : Int32)) at_83 rfl rfl ?_
    refine own_iload K266 at_84 rfl rfl ?_
    have gs265 : Z.heap.size ≤ a265 := by rw [g265]; exact W0.K.O.1
    have gj266 : Z.heap.size ≤ a266 := by rw [g266]; exact Nat.le_trans W0.K.O.1 E265.1
    have Y266 : Ext h265 h266 := E266
    refine own_castore K266 (V266.pad (pad_rep [] _ 2)) ⟨by decide, by decide⟩ 0 rfl (by simp) (x' := c223) (own_nar_char hc223) gj266 at_86 rfl ?_
    intro T267 h267 K267 W267 V267
    have Y267 : Ext h265 h267 := own_ext_wr Y266 W267 (Nat.le_of_eq g266.symm)
    refine own_dup K267 at_87 rfl rfl ?_
    refine own_iconst K267 (v := (1 : Int32)) at_88 rfl rfl ?_
    refine own_iload K267 at_89 rfl rfl ?_
    refine own_castore K267 V267 ⟨by decide, by decide⟩ 1 rfl (by simp) (x' := c224) (own_nar_char hc224) gj266 at_91 rfl ?_
    intro T268 h268 K268 W268 V268
    have Y268 : Ext h265 h268 := own_ext_wr Y267 W268 (Nat.le_of_eq g266.symm)
    have hch : own_chs [c223, c224] := by intro c hc; simp only [List.mem_cons, List.not_mem_nil, or_false] at hc; rcases hc with rfl | rfl <;> assumption
    have A_ : Arv Z h268 a266 c266 .char (Int32.ofNat [c223, c224].length) ([c223, c224].map Value.int) (.int 0) := V268
    refine own_callI K268 (a := a265) (wd8 hw) (wd9 hw) (rm_initCG hw hs (u := own_ub [c223, c224]) (cap := 2) K268.O (A265.ext Y268) (F_value_265.ext Y268) (F_coder_265.ext Y268) gs265 A_ (own_ub_ok hch) own_ub_bad (by simp) (by simp) (by simp)) (wd10 hw) (wd6 hw) (by decide) rfl (argsL := [(.ref a266)]) (rest := [(.ref a265)]) rfl pd_285bC29V rfl rfl (W := 1) rfl (by decide) (by decide) (by decide) (by decide) at_92 rfl ?_
    intro T269 h269 L269 v269 K269 q269
    obtain ⟨rfl, Kp269, S269⟩ := q269
    show G (T269.setTop (mkF m 95 #[.val (.int p0), .val (.int p1), .val (.int p2), .val (.int p3), .val (.int (2 : Int32)), .val (.int c223), .val (.int c224), .val (.int c225), .unset, .unset, .unset, .unset] [(.ref a265)]))
    have Z269 : Ext h0 h269 := own_ext_keep (own_ext_trans E265 Y268) Kp269 (fun y q => by cases List.mem_singleton.mp q; exact Nat.le_of_eq g265.symm)
    have W270 := W226.ext K269 Z269
    refine own_astore W270.K (Ls' := #[.val (.int p0), .val (.int p1), .val (.int p2), .val (.int p3), .val (.int (2 : Int32)), .val (.int c223), .val (.int c224), .val (.int c225), .val (.ref a265), .unset, .unset, .unset]) at_95 rfl rfl rfl ?_
    refine own_goto W270.K at_97 (pc' := 127) (by decide) (by decide) ?_
    refine own_bipush W270.K (v := (9 : Int32)) at_127 rfl rfl ?_
    refine own_newP W270.K (aty := .char) (wd7 hw) at_129 (by decide) (cap := 9) (by decide) (by decide) (by decide) (by decide) rfl ?_
    intro T271 h271 a271 c271 K271 g271 E271 V271
    have ge : Z.heap.size ≤ a271 := by rw [g271]; exact Nat.le_trans W0.K.O.1 Z269.1
    have Q271 : Ext h269 h271 := E271
    have V271 : Arv Z h271 a271 c271 .char 9 (([] : List Int32).map Value.int) (.int 0) := V271
    refine own_astore K271 (Ls' := #[.val (.int p0), .val (.int p1), .val (.int p2), .val (.int p3), .val (.int (2 : Int32)), .val (.int c223), .val (.int c224), .val (.int c225), .val (.ref a265), .val (.ref a271), .unset, .unset]) at_131 rfl rfl rfl ?_
    refine own_iconst K271 (v := (0 : Int32)) at_133 rfl rfl ?_
    refine own_istore K271 (Ls' := #[.val (.int p0), .val (.int p1), .val (.int p2), .val (.int p3), .val (.int (2 : Int32)), .val (.int c223), .val (.int c224), .val (.int c225), .val (.ref a265), .val (.ref a271), .val (.int (0 : Int32)), .unset]) at_134 rfl rfl ?_
    refine own_iload K271 at_136 rfl rfl ?_
    refine own_iconst K271 (v := (1 : Int32)) at_138 rfl rfl ?_
    refine own_icmpNo K271 at_139 rfl (flt (by decide)).1 ?_
    refine own_aload K271 at_142 rfl rfl rfl ?_
    refine own_iload K271 at_144 rfl rfl ?_
    refine own_iload K271 at_146 rfl rfl ?_
    have he0 : (([] : List Int32)).length ≤ 0 := by simp only [List.length_append, List.length_nil]; omega
    refine own_callS K271 (wd124 hw) (wd125 hw) (rm_put hw hs (es := ([] : List Int32)) K271.O V271 (by omega) hc223 ge) (wd126 hw) (wd2 hw) (by decide) (argsL := [(.ref a271), (.int (0 : Int32)), (.int c223)]) (rest := []) rfl pd_285bCIC29I rfl rfl (W := 0) rfl (by decide) (by decide) (by decide) (by decide) at_148 rfl ?_
    intro T272 h272 L272 v272 K272 q272
    obtain ⟨rfl, Ke272, Ve272⟩ := q272
    show G (T272.setTop (mkF m 151 #[.val (.int p0), .val (.int p1), .val (.int p2), .val (.int p3), .val (.int (2 : Int32)), .val (.int c223), .val (.int c224), .val (.int c225), .val (.ref a265), .val (.ref a271), .val (.int (0 : Int32)), .unset] [(.int (Int32.ofNat (([] : List Int32) ++ own_escC c223).length))]))
    have Q272 : Ext h269 h272 := own_ext_keep Q271 Ke272 (fun y q => by cases List.mem_singleton.mp q; exact Nat.le_of_eq g271.symm)
    refine own_istore K272 (Ls' := #[.val (.int p0), .val (.int p1), .val (.int p2), .val (.int p3), .val (.int (2 : Int32)), .val (.int c223), .val (.int c224), .val (.int c225), .val (.ref a265), .val (.ref a271), .val (.int (Int32.ofNat (([] : List Int32) ++ own_escC c223).length)), .unset]) at_151 rfl rfl ?_
    refine own_iload K272 at_153 rfl rfl ?_
    refine own_iconst K272 (v := (2 : Int32)) at_155 rfl rfl ?_
    refine own_icmpNo K272 at_156 rfl (flt (by decide)).1 ?_
    refine own_aload K272 at_159 rfl rfl rfl ?_
    refine own_iload K272 at_161 rfl rfl ?_
    refine own_iload K272 at_163 rfl rfl ?_
    have he1 : ((([] : List Int32) ++ own_escC c223)).length ≤ 3 := by simp only [List.length_append, List.length_nil]; have := own_escC_len c223; omega
    refine own_callS K272 (wd124 hw) (wd125 hw) (rm_put hw hs (es := (([] : List Int32) ++ own_escC c223)) K272.O Ve272 (by omega) hc224 ge) (wd126 hw) (wd2 hw) (by decide) (argsL := [(.ref a271), (.int (Int32.ofNat (([] : List Int32) ++ own_escC c223).length)), (.int c224)]) (rest := []) rfl pd_285bCIC29I rfl rfl (W := 0) rfl (by decide) (by decide) (by decide) (by decide) at_165 rfl ?_
    intro T273 h273 L273 v273 K273 q273
    obtain ⟨rfl, Ke273, Ve273⟩ := q273
    show G (T273.setTop (mkF m 168 #[.val (.int p0), .val (.int p1), .val (.int p2), .val (.int p3), .val (.int (2 : Int32)), .val (.int c223), .val (.int c224), .val (.int c225), .val (.ref a265), .val (.ref a271), .val (.int (Int32.ofNat (([] : List Int32) ++ own_escC c223).length)), .unset] [(.int (Int32.ofNat ((([] : List Int32) ++ own_escC c223) ++ own_escC c224).length))]))
    have Q273 : Ext h269 h273 := own_ext_keep Q272 Ke273 (fun y q => by cases List.mem_singleton.mp q; exact Nat.le_of_eq g271.symm)
    refine own_istore K273 (Ls' := #[.val (.int p0), .val (.int p1), .val (.int p2), .val (.int p3), .val (.int (2 : Int32)), .val (.int c223), .val (.int c224), .val (.int c225), .val (.ref a265), .val (.ref a271), .val (.int (Int32.ofNat ((([] : List Int32) ++ own_escC c223) ++ own_escC c224).length)), .unset]) at_168 rfl rfl ?_
    refine own_iload K273 at_170 rfl rfl ?_
    refine own_iconst K273 (v := (3 : Int32)) at_172 rfl rfl ?_
    refine own_icmpYes K273 at_173 (pc' := 187) (by decide) (by decide) (tlt (by decide)).1 ?_
    refine own_aload K273 at_187 rfl rfl rfl ?_
    have W274 := W270.ext K273 Q273
    have hes : ((([] : List Int32) ++ own_escC c223) ++ own_escC c224) = own_esc [c223, c224] := by simp [own_esc]
    have hle : (own_esc [c223, c224]).length ≤ 9 := Nat.le_trans (own_esc_len _) (by simp)
    refine own_callSW W274 (own_EL hw) (kn := false) (fun q => nomatch q) (wd26 hw) (wd27 hw) (rm_filter hw hs W274.K.O (S269.ext Q273) (own_ub_ok hch) hch (by simp)) (wd29 hw) (wd28 hw) (by decide) (argsL := [(.ref a265)]) (rest := []) rfl pd_28Ljava2flang2fString3b29Ljava2flang2fString3b rfl rfl (Wd := 0) rfl (by decide) (by decide) (by decide) (by decide) at_189 rfl ?_
    intro T275 h275 L275 v275 k1_275 W275 C275 q275
    obtain ⟨r275, rfl, X275, S275⟩ := q275
    show G (T275.setTop (mkF m 192 #[.val (.int p0), .val (.int p1), .val (.int p2), .val (.int p3), .val (.int (2 : Int32)), .val (.int c223), .val (.int c224), .val (.int c225), .val (.ref a265), .val (.ref a271), .val (.int (Int32.ofNat ((([] : List Int32) ++ own_escC c223) ++ own_escC c224).length)), .unset] [(.ref r275)]))
    have VF := Ve273.ext X275
    rw [hes] at VF
    rw [hes]
    refine own_astore W275.K (Ls' := #[.val (.int p0), .val (.int p1), .val (.int p2), .val (.int p3), .val (.int (2 : Int32)), .val (.int c223), .val (.int c224), .val (.int c225), .val (.ref a265), .val (.ref a271), .val (.int (Int32.ofNat (own_esc [c223, c224]).length)), .val (.ref r275)]) at_192 rfl rfl rfl ?_
    refine own_aload W275.K at_194 rfl rfl rfl ?_
    refine own_callV W275.K (a := r275) (x0 := (⟨"java/lang/String", "length", "()I"⟩ : MethodName)) (wd110 hw) (wd34 hw) (fun q => own_nfS (args := #[]) (mvT q (wd36 hw)) rfl) (wd36 hw) (wd35 hw) (rm_lengthS hw hs W275.K.O S275 (by omega)) (wd37 hw) (wd6 hw) (by decide) S275.exa (argsL := []) (rest := []) rfl pd_2829I rfl rfl (W := 0) rfl (by decide) (by decide) (by decide) (by decide) at_196 rfl ?_
    intro T276 h276 L276 v276 K276 q276
    obtain ⟨rfl, e276⟩ := q276
    have f276 := e276.symm
    subst f276
    show G (T276.setTop (mkF m 199 #[.val (.int p0), .val (.int p1), .val (.int p2), .val (.int p3), .val (.int (2 : Int32)), .val (.int c223), .val (.int c224), .val (.int c225), .val (.ref a265), .val (.ref a271), .val (.int (Int32.ofNat (own_esc [c223, c224]).length)), .val (.ref r275)] [(.int (Int32.ofNat (own_esc [c223, c224]).length))]))
    refine own_iload K276 at_199 rfl rfl ?_
    refine own_icmpYes K276 at_201 (pc' := 206) (by decide) (by decide) (teq rfl).1 ?_
    refine own_aload K276 at_206 rfl rfl rfl ?_
    refine own_aload K276 at_208 rfl rfl rfl ?_
    refine own_iload K276 at_210 rfl rfl ?_
    refine own_iconst K276 (v := (0 : Int32)) at_212 rfl rfl ?_
    refine own_callS K276 (wd111 hw) (wd112 hw) (rm_at hw hs (es := own_esc [c223, c224]) (i := 0) K276.O S275 (own_esc_ok hch) hle VF (by decide)) (wd113 hw) (wd2 hw) (by decide) (argsL := [(.ref r275), (.ref a271), (.int (Int32.ofNat (own_esc [c223, c224]).length)), (.int (0 : Int32))]) (rest := []) rfl pd_28Ljava2flang2fString3b5bCII29Z rfl rfl (W := 0) rfl (by decide) (by decide) (by decide) (by decide) at_213 rfl ?_
    intro T277 h277 L277 v277 K277 q277
    obtain ⟨rfl, e277⟩ := q277
    have f277 := e277.symm
    subst f277
    show G (T277.setTop (mkF m 216 #[.val (.int p0), .val (.int p1), .val (.int p2), .val (.int p3), .val (.int (2 : Int32)), .val (.int c223), .val (.int c224), .val (.int c225), .val (.ref a265), .val (.ref a271), .val (.int (Int32.ofNat (own_esc [c223, c224]).length)), .val (.ref r275)] [(.int (1 : Int32))]))
    refine own_ifNo K277 at_216 rfl ((if0 _ _).trans (feq (by decide)).1) ?_
    refine own_aload K277 at_219 rfl rfl rfl ?_
    refine own_aload K277 at_221 rfl rfl rfl ?_
    refine own_iload K277 at_223 rfl rfl ?_
    refine own_iconst K277 (v := (1 : Int32)) at_225 rfl rfl ?_
    refine own_callS K277 (wd111 hw) (wd112 hw) (rm_at hw hs (es := own_esc [c223, c224]) (i := 1) K277.O S275 (own_esc_ok hch) hle VF (by decide)) (wd113 hw) (wd2 hw) (by decide) (argsL := [(.ref r275), (.ref a271), (.int (Int32.ofNat (own_esc [c223, c224]).length)), (.int (1 : Int32))]) (rest := []) rfl pd_28Ljava2flang2fString3b5bCII29Z rfl rfl (W := 0) rfl (by decide) (by decide) (by decide) (by decide) at_226 rfl ?_
    intro T278 h278 L278 v278 K278 q278
    obtain ⟨rfl, e278⟩ := q278
    have f278 := e278.symm
    subst f278
    show G (T278.setTop (mkF m 229 #[.val (.int p0), .val (.int p1), .val (.int p2), .val (.int p3), .val (.int (2 : Int32)), .val (.int c223), .val (.int c224), .val (.int c225), .val (.ref a265), .val (.ref a271), .val (.int (Int32.ofNat (own_esc [c223, c224]).length)), .val (.ref r275)] [(.int (1 : Int32))]))
    refine own_ifNo K278 at_229 rfl ((if0 _ _).trans (feq (by decide)).1) ?_
    refine own_aload K278 at_232 rfl rfl rfl ?_
    refine own_aload K278 at_234 rfl rfl rfl ?_
    refine own_iload K278 at_236 rfl rfl ?_
    refine own_iconst K278 (v := (2 : Int32)) at_238 rfl rfl ?_
    refine own_callS K278 (wd111 hw) (wd112 hw) (rm_at hw hs (es := own_esc [c223, c224]) (i := 2) K278.O S275 (own_esc_ok hch) hle VF (by decide)) (wd113 hw) (wd2 hw) (by decide) (argsL := [(.ref r275), (.ref a271), (.int (Int32.ofNat (own_esc [c223, c224]).length)), (.int (2 : Int32))]) (rest := []) rfl pd_28Ljava2flang2fString3b5bCII29Z rfl rfl (W := 0) rfl (by decide) (by decide) (by decide) (by decide) at_239 rfl ?_
    intro T279 h279 L279 v279 K279 q279
    obtain ⟨rfl, e279⟩ := q279
    have f279 := e279.symm
    subst f279
    show G (T279.setTop (mkF m 242 #[.val (.int p0), .val (.int p1), .val (.int p2), .val (.int p3), .val (.int (2 : Int32)), .val (.int c223), .val (.int c224), .val (.int c225), .val (.ref a265), .val (.ref a271), .val (.int (Int32.ofNat (own_esc [c223, c224]).length)), .val (.ref r275)] [(.int (1 : Int32))]))
    refine own_ifNo K279 at_242 rfl ((if0 _ _).trans (feq (by decide)).1) ?_
    refine own_aload K279 at_245 rfl rfl rfl ?_
    refine own_aload K279 at_247 rfl rfl rfl ?_
    refine own_iload K279 at_249 rfl rfl ?_
    refine own_iconst K279 (v := (3 : Int32)) at_251 rfl rfl ?_
    refine own_callS K279 (wd111 hw) (wd112 hw) (rm_at hw hs (es := own_esc [c223, c224]) (i := 3) K279.O S275 (own_esc_ok hch) hle VF (by decide)) (wd113 hw) (wd2 hw) (by decide) (argsL := [(.ref r275), (.ref a271), (.int (Int32.ofNat (own_esc [c223, c224]).length)), (.int (3 : Int32))]) (rest := []) rfl pd_28Ljava2flang2fString3b5bCII29Z rfl rfl (W := 0) rfl (by decide) (by decide) (by decide) (by decide) at_252 rfl ?_
    intro T280 h280 L280 v280 K280 q280
    obtain ⟨rfl, e280⟩ := q280
    have f280 := e280.symm
    subst f280
    show G (T280.setTop (mkF m 255 #[.val (.int p0), .val (.int p1), .val (.int p2), .val (.int p3), .val (.int (2 : Int32)), .val (.int c223), .val (.int c224), .val (.int c225), .val (.ref a265), .val (.ref a271), .val (.int (Int32.ofNat (own_esc [c223, c224]).length)), .val (.ref r275)] [(.int (1 : Int32))]))
    refine own_ifNo K280 at_255 rfl ((if0 _ _).trans (feq (by decide)).1) ?_
    refine own_aload K280 at_258 rfl rfl rfl ?_
    refine own_aload K280 at_260 rfl rfl rfl ?_
    refine own_iload K280 at_262 rfl rfl ?_
    refine own_iconst K280 (v := (4 : Int32)) at_264 rfl rfl ?_
    refine own_callS K280 (wd111 hw) (wd112 hw) (rm_at hw hs (es := own_esc [c223, c224]) (i := 4) K280.O S275 (own_esc_ok hch) hle VF (by decide)) (wd113 hw) (wd2 hw) (by decide) (argsL := [(.ref r275), (.ref a271), (.int (Int32.ofNat (own_esc [c223, c224]).length)), (.int (4 : Int32))]) (rest := []) rfl pd_28Ljava2flang2fString3b5bCII29Z rfl rfl (W := 0) rfl (by decide) (by decide) (by decide) (by decide) at_265 rfl ?_
    intro T281 h281 L281 v281 K281 q281
    obtain ⟨rfl, e281⟩ := q281
    have f281 := e281.symm
    subst f281
    show G (T281.setTop (mkF m 268 #[.val (.int p0), .val (.int p1), .val (.int p2), .val (.int p3), .val (.int (2 : Int32)), .val (.int c223), .val (.int c224), .val (.int c225), .val (.ref a265), .val (.ref a271), .val (.int (Int32.ofNat (own_esc [c223, c224]).length)), .val (.ref r275)] [(.int (1 : Int32))]))
    refine own_ifNo K281 at_268 rfl ((if0 _ _).trans (feq (by decide)).1) ?_
    refine own_aload K281 at_271 rfl rfl rfl ?_
    refine own_aload K281 at_273 rfl rfl rfl ?_
    refine own_iload K281 at_275 rfl rfl ?_
    refine own_iconst K281 (v := (5 : Int32)) at_277 rfl rfl ?_
    refine own_callS K281 (wd111 hw) (wd112 hw) (rm_at hw hs (es := own_esc [c223, c224]) (i := 5) K281.O S275 (own_esc_ok hch) hle VF (by decide)) (wd113 hw) (wd2 hw) (by decide) (argsL := [(.ref r275), (.ref a271), (.int (Int32.ofNat (own_esc [c223, c224]).length)), (.int (5 : Int32))]) (rest := []) rfl pd_28Ljava2flang2fString3b5bCII29Z rfl rfl (W := 0) rfl (by decide) (by decide) (by decide) (by decide) at_278 rfl ?_
    intro T282 h282 L282 v282 K282 q282
    obtain ⟨rfl, e282⟩ := q282
    have f282 := e282.symm
    subst f282
    show G (T282.setTop (mkF m 281 #[.val (.int p0), .val (.int p1), .val (.int p2), .val (.int p3), .val (.int (2 : Int32)), .val (.int c223), .val (.int c224), .val (.int c225), .val (.ref a265), .val (.ref a271), .val (.int (Int32.ofNat (own_esc [c223, c224]).length)), .val (.ref r275)] [(.int (1 : Int32))]))
    refine own_ifNo K282 at_281 rfl ((if0 _ _).trans (feq (by decide)).1) ?_
    refine own_aload K282 at_284 rfl rfl rfl ?_
    refine own_aload K282 at_286 rfl rfl rfl ?_
    refine own_iload K282 at_288 rfl rfl ?_
    refine own_bipush K282 (v := (6 : Int32)) at_290 rfl rfl ?_
    refine own_callS K282 (wd111 hw) (wd112 hw) (rm_at hw hs (es := own_esc [c223, c224]) (i := 6) K282.O S275 (own_esc_ok hch) hle VF (by decide)) (wd113 hw) (wd2 hw) (by decide) (argsL := [(.ref r275), (.ref a271), (.int (Int32.ofNat (own_esc [c223, c224]).length)), (.int (6 : Int32))]) (rest := []) rfl pd_28Ljava2flang2fString3b5bCII29Z rfl rfl (W := 0) rfl (by decide) (by decide) (by decide) (by decide) at_292 rfl ?_
    intro T283 h283 L283 v283 K283 q283
    obtain ⟨rfl, e283⟩ := q283
    have f283 := e283.symm
    subst f283
    show G (T283.setTop (mkF m 295 #[.val (.int p0), .val (.int p1), .val (.int p2), .val (.int p3), .val (.int (2 : Int32)), .val (.int c223), .val (.int c224), .val (.int c225), .val (.ref a265), .val (.ref a271), .val (.int (Int32.ofNat (own_esc [c223, c224]).length)), .val (.ref r275)] [(.int (1 : Int32))]))
    refine own_ifNo K283 at_295 rfl ((if0 _ _).trans (feq (by decide)).1) ?_
    refine own_aload K283 at_298 rfl rfl rfl ?_
    refine own_aload K283 at_300 rfl rfl rfl ?_
    refine own_iload K283 at_302 rfl rfl ?_
    refine own_bipush K283 (v := (7 : Int32)) at_304 rfl rfl ?_
    refine own_callS K283 (wd111 hw) (wd112 hw) (rm_at hw hs (es := own_esc [c223, c224]) (i := 7) K283.O S275 (own_esc_ok hch) hle VF (by decide)) (wd113 hw) (wd2 hw) (by decide) (argsL := [(.ref r275), (.ref a271), (.int (Int32.ofNat (own_esc [c223, c224]).length)), (.int (7 : Int32))]) (rest := []) rfl pd_28Ljava2flang2fString3b5bCII29Z rfl rfl (W := 0) rfl (by decide) (by decide) (by decide) (by decide) at_306 rfl ?_
    intro T284 h284 L284 v284 K284 q284
    obtain ⟨rfl, e284⟩ := q284
    have f284 := e284.symm
    subst f284
    show G (T284.setTop (mkF m 309 #[.val (.int p0), .val (.int p1), .val (.int p2), .val (.int p3), .val (.int (2 : Int32)), .val (.int c223), .val (.int c224), .val (.int c225), .val (.ref a265), .val (.ref a271), .val (.int (Int32.ofNat (own_esc [c223, c224]).length)), .val (.ref r275)] [(.int (1 : Int32))]))
    refine own_ifNo K284 at_309 rfl ((if0 _ _).trans (feq (by decide)).1) ?_
    refine own_aload K284 at_312 rfl rfl rfl ?_
    refine own_aload K284 at_314 rfl rfl rfl ?_
    refine own_iload K284 at_316 rfl rfl ?_
    refine own_bipush K284 (v := (8 : Int32)) at_318 rfl rfl ?_
    refine own_callS K284 (wd111 hw) (wd112 hw) (rm_at hw hs (es := own_esc [c223, c224]) (i := 8) K284.O S275 (own_esc_ok hch) hle VF (by decide)) (wd113 hw) (wd2 hw) (by decide) (argsL := [(.ref r275), (.ref a271), (.int (Int32.ofNat (own_esc [c223, c224]).length)), (.int (8 : Int32))]) (rest := []) rfl pd_28Ljava2flang2fString3b5bCII29Z rfl rfl (W := 0) rfl (by decide) (by decide) (by decide) (by decide) at_320 rfl ?_
    intro T285 h285 L285 v285 K285 q285
    obtain ⟨rfl, e285⟩ := q285
    have f285 := e285.symm
    subst f285
    show G (T285.setTop (mkF m 323 #[.val (.int p0), .val (.int p1), .val (.int p2), .val (.int p3), .val (.int (2 : Int32)), .val (.int c223), .val (.int c224), .val (.int c225), .val (.ref a265), .val (.ref a271), .val (.int (Int32.ofNat (own_esc [c223, c224]).length)), .val (.ref r275)] [(.int (1 : Int32))]))
    refine own_ifNo K285 at_323 rfl ((if0 _ _).trans (feq (by decide)).1) ?_
    refine own_iconst K285 (v := (1 : Int32)) at_326 rfl rfl ?_
    refine own_goto K285 at_327 (pc' := 331) (by decide) (by decide) ?_
    have W286 := W275.same K285
    exact own_retN W286.K (z' := (1 : Int32)) at_331 rfl (by simp) (by decide) (by decide) (by decide) ⟨⟨rfl, W286.le⟩, fun _ => W286.C⟩
  · skip
    rw [hn]
    refine own_ifYes W226.K at_25 (pc' := 43) (by decide) (by decide) ((if0 _ _).trans (feq (by decide)).2) ?_
    refine own_iload W226.K at_43 rfl rfl ?_
    refine own_iconst W226.K (v := (1 : Int32)) at_45 rfl rfl ?_
    refine own_icmpYes W226.K at_46 (pc' := 69) (by decide) (by decide) (feq (by decide)).2 ?_
    refine own_iload W226.K at_69 rfl rfl ?_
    refine own_iconst W226.K (v := (2 : Int32)) at_71 rfl rfl ?_
    refine own_icmpYes W226.K at_72 (pc' := 100) (by decide) (by decide) (feq (by decide)).2 ?_
    refine own_newO W226.K (wd4 hw) (wd5 hw) (wd6 hw) at_100 (by decide) (by decide) rfl ?_
    intro T287 h287 a287 K287 g287 E287 A287 D287 U287
    have F_value_287 : Fld Z h287 a287 "java/lang/String" "value" "[B" .null := D287 (Or.inr (wd20 hw)) (ty := (.array .byte)) (by decide)
    have F_coder_287 : Fld Z h287 a287 "java/lang/String" "coder" "B" (.int (0 : Int32)) := D287 (Or.inr (wd21 hw)) (ty := .byte) (by decide)
    refine own_dup K287 at_103 rfl rfl ?_
    refine own_iconst K287 (v := (3 : Int32)) at_104 rfl rfl ?_
    refine own_newP K287 (aty := .char) (wd7 hw) at_105 (by decide) (cap := 3) (by decide) (by decide) (by decide) (by decide) rfl ?_
    intro T288 h288 a288 c288 K288 g288 E288 V288
    refine own_dup K288 at_107 rfl rfl ?_
    refine own_iconst K288 (v := (0 : Int32)) at_108 rfl rfl ?_
    refine own_iload K288 at_109 rfl rfl ?_
    have gs287 : Z.heap.size ≤ a287 := by rw [g287]; exact W0.K.O.1
    have gj288 : Z.heap.size ≤ a288 := by rw [g288]; exact Nat.le_trans W0.K.O.1 E287.1
    have Y288 : Ext h287 h288 := E288
    refine own_castore K288 (V288.pad (pad_rep [] _ 3)) ⟨by decide, by decide⟩ 0 rfl (by simp) (x' := c223) (own_nar_char hc223) gj288 at_111 rfl ?_
    intro T289 h289 K289 W289 V289
    have Y289 : Ext h287 h289 := own_ext_wr Y288 W289 (Nat.le_of_eq g288.symm)
    refine own_dup K289 at_112 rfl rfl ?_
    refine own_iconst K289 (v := (1 : Int32)) at_113 rfl rfl ?_
    refine own_iload K289 at_114 rfl rfl ?_
    refine own_castore K289 V289 ⟨by decide, by decide⟩ 1 rfl (by simp) (x' := c224) (own_nar_char hc224) gj288 at_116 rfl ?_
    intro T290 h290 K290 W290 V290
    have Y290 : Ext h287 h290 := own_ext_wr Y289 W290 (Nat.le_of_eq g288.symm)
    refine own_dup K290 at_117 rfl rfl ?_
    refine own_iconst K290 (v := (2 : Int32)) at_118 rfl rfl ?_
    refine own_iload K290 at_119 rfl rfl ?_
    refine own_castore K290 V290 ⟨by decide, by decide⟩ 2 rfl (by simp) (x' := c225) (own_nar_char hc225) gj288 at_121 rfl ?_
    intro T291 h291 K291 W291 V291
    have Y291 : Ext h287 h291 := own_ext_wr Y290 W291 (Nat.le_of_eq g288.symm)
    have hch : own_chs [c223, c224, c225] := by intro c hc; simp only [List.mem_cons, List.not_mem_nil, or_false] at hc; rcases hc with rfl | rfl | rfl <;> assumption
    have A_ : Arv Z h291 a288 c288 .char (Int32.ofNat [c223, c224, c225].length) ([c223, c224, c225].map Value.int) (.int 0) := V291
    refine own_callI K291 (a := a287) (wd8 hw) (wd9 hw) (rm_initCG hw hs (u := own_ub [c223, c224, c225]) (cap := 3) K291.O (A287.ext Y291) (F_value_287.ext Y291) (F_coder_287.ext Y291) gs287 A_ (own_ub_ok hch) own_ub_bad (by simp) (by simp) (by simp)) (wd10 hw) (wd6 hw) (by decide) rfl (argsL := [(.ref a288)]) (rest := [(.ref a287)]) rfl pd_285bC29V rfl rfl (W := 1) rfl (by decide) (by decide) (by decide) (by decide) at_122 rfl ?_
    intro T292 h292 L292 v292 K292 q292
    obtain ⟨rfl, Kp292, S292⟩ := q292
    show G (T292.setTop (mkF m 125 #[.val (.int p0), .val (.int p1), .val (.int p2), .val (.int p3), .val (.int (3 : Int32)), .val (.int c223), .val (.int c224), .val (.int c225), .unset, .unset, .unset, .unset] [(.ref a287)]))
    have Z292 : Ext h0 h292 := own_ext_keep (own_ext_trans E287 Y291) Kp292 (fun y q => by cases List.mem_singleton.mp q; exact Nat.le_of_eq g287.symm)
    have W293 := W226.ext K292 Z292
    refine own_astore W293.K (Ls' := #[.val (.int p0), .val (.int p1), .val (.int p2), .val (.int p3), .val (.int (3 : Int32)), .val (.int c223), .val (.int c224), .val (.int c225), .val (.ref a287), .unset, .unset, .unset]) at_125 rfl rfl rfl ?_
    refine own_bipush W293.K (v := (9 : Int32)) at_127 rfl rfl ?_
    refine own_newP W293.K (aty := .char) (wd7 hw) at_129 (by decide) (cap := 9) (by decide) (by decide) (by decide) (by decide) rfl ?_
    intro T294 h294 a294 c294 K294 g294 E294 V294
    have ge : Z.heap.size ≤ a294 := by rw [g294]; exact Nat.le_trans W0.K.O.1 Z292.1
    have Q294 : Ext h292 h294 := E294
    have V294 : Arv Z h294 a294 c294 .char 9 (([] : List Int32).map Value.int) (.int 0) := V294
    refine own_astore K294 (Ls' := #[.val (.int p0), .val (.int p1), .val (.int p2), .val (.int p3), .val (.int (3 : Int32)), .val (.int c223), .val (.int c224), .val (.int c225), .val (.ref a287), .val (.ref a294), .unset, .unset]) at_131 rfl rfl rfl ?_
    refine own_iconst K294 (v := (0 : Int32)) at_133 rfl rfl ?_
    refine own_istore K294 (Ls' := #[.val (.int p0), .val (.int p1), .val (.int p2), .val (.int p3), .val (.int (3 : Int32)), .val (.int c223), .val (.int c224), .val (.int c225), .val (.ref a287), .val (.ref a294), .val (.int (0 : Int32)), .unset]) at_134 rfl rfl ?_
    refine own_iload K294 at_136 rfl rfl ?_
    refine own_iconst K294 (v := (1 : Int32)) at_138 rfl rfl ?_
    refine own_icmpNo K294 at_139 rfl (flt (by decide)).1 ?_
    refine own_aload K294 at_142 rfl rfl rfl ?_
    refine own_iload K294 at_144 rfl rfl ?_
    refine own_iload K294 at_146 rfl rfl ?_
    have he0 : (([] : List Int32)).length ≤ 0 := by simp only [List.length_append, List.length_nil]; omega
    refine own_callS K294 (wd124 hw) (wd125 hw) (rm_put hw hs (es := ([] : List Int32)) K294.O V294 (by omega) hc223 ge) (wd126 hw) (wd2 hw) (by decide) (argsL := [(.ref a294), (.int (0 : Int32)), (.int c223)]) (rest := []) rfl pd_285bCIC29I rfl rfl (W := 0) rfl (by decide) (by decide) (by decide) (by decide) at_148 rfl ?_
    intro T295 h295 L295 v295 K295 q295
    obtain ⟨rfl, Ke295, Ve295⟩ := q295
    show G (T295.setTop (mkF m 151 #[.val (.int p0), .val (.int p1), .val (.int p2), .val (.int p3), .val (.int (3 : Int32)), .val (.int c223), .val (.int c224), .val (.int c225), .val (.ref a287), .val (.ref a294), .val (.int (0 : Int32)), .unset] [(.int (Int32.ofNat (([] : List Int32) ++ own_escC c223).length))]))
    have Q295 : Ext h292 h295 := own_ext_keep Q294 Ke295 (fun y q => by cases List.mem_singleton.mp q; exact Nat.le_of_eq g294.symm)
    refine own_istore K295 (Ls' := #[.val (.int p0), .val (.int p1), .val (.int p2), .val (.int p3), .val (.int (3 : Int32)), .val (.int c223), .val (.int c224), .val (.int c225), .val (.ref a287), .val (.ref a294), .val (.int (Int32.ofNat (([] : List Int32) ++ own_escC c223).length)), .unset]) at_151 rfl rfl ?_
    refine own_iload K295 at_153 rfl rfl ?_
    refine own_iconst K295 (v := (2 : Int32)) at_155 rfl rfl ?_
    refine own_icmpNo K295 at_156 rfl (flt (by decide)).1 ?_
    refine own_aload K295 at_159 rfl rfl rfl ?_
    refine own_iload K295 at_161 rfl rfl ?_
    refine own_iload K295 at_163 rfl rfl ?_
    have he1 : ((([] : List Int32) ++ own_escC c223)).length ≤ 3 := by simp only [List.length_append, List.length_nil]; have := own_escC_len c223; omega
    refine own_callS K295 (wd124 hw) (wd125 hw) (rm_put hw hs (es := (([] : List Int32) ++ own_escC c223)) K295.O Ve295 (by omega) hc224 ge) (wd126 hw) (wd2 hw) (by decide) (argsL := [(.ref a294), (.int (Int32.ofNat (([] : List Int32) ++ own_escC c223).length)), (.int c224)]) (rest := []) rfl pd_285bCIC29I rfl rfl (W := 0) rfl (by decide) (by decide) (by decide) (by decide) at_165 rfl ?_
    intro T296 h296 L296 v296 K296 q296
    obtain ⟨rfl, Ke296, Ve296⟩ := q296
    show G (T296.setTop (mkF m 168 #[.val (.int p0), .val (.int p1), .val (.int p2), .val (.int p3), .val (.int (3 : Int32)), .val (.int c223), .val (.int c224), .val (.int c225), .val (.ref a287), .val (.ref a294), .val (.int (Int32.ofNat (([] : List Int32) ++ own_escC c223).length)), .unset] [(.int (Int32.ofNat ((([] : List Int32) ++ own_escC c223) ++ own_escC c224).length))]))
    have Q296 : Ext h292 h296 := own_ext_keep Q295 Ke296 (fun y q => by cases List.mem_singleton.mp q; exact Nat.le_of_eq g294.symm)
    refine own_istore K296 (Ls' := #[.val (.int p0), .val (.int p1), .val (.int p2), .val (.int p3), .val (.int (3 : Int32)), .val (.int c223), .val (.int c224), .val (.int c225), .val (.ref a287), .val (.ref a294), .val (.int (Int32.ofNat ((([] : List Int32) ++ own_escC c223) ++ own_escC c224).length)), .unset]) at_168 rfl rfl ?_
    refine own_iload K296 at_170 rfl rfl ?_
    refine own_iconst K296 (v := (3 : Int32)) at_172 rfl rfl ?_
    refine own_icmpNo K296 at_173 rfl (flt (by decide)).1 ?_
    refine own_aload K296 at_176 rfl rfl rfl ?_
    refine own_iload K296 at_178 rfl rfl ?_
    refine own_iload K296 at_180 rfl rfl ?_
    have he2 : (((([] : List Int32) ++ own_escC c223) ++ own_escC c224)).length ≤ 6 := by simp only [List.length_append, List.length_nil]; have := own_escC_len c223; have := own_escC_len c224; omega
    refine own_callS K296 (wd124 hw) (wd125 hw) (rm_put hw hs (es := ((([] : List Int32) ++ own_escC c223) ++ own_escC c224)) K296.O Ve296 (by omega) hc225 ge) (wd126 hw) (wd2 hw) (by decide) (argsL := [(.ref a294), (.int (Int32.ofNat ((([] : List Int32) ++ own_escC c223) ++ own_escC c224).length)), (.int c225)]) (rest := []) rfl pd_285bCIC29I rfl rfl (W := 0) rfl (by decide) (by decide) (by decide) (by decide) at_182 rfl ?_
    intro T297 h297 L297 v297 K297 q297
    obtain ⟨rfl, Ke297, Ve297⟩ := q297
    show G (T297.setTop (mkF m 185 #[.val (.int p0), .val (.int p1), .val (.int p2), .val (.int p3), .val (.int (3 : Int32)), .val (.int c223), .val (.int c224), .val (.int c225), .val (.ref a287), .val (.ref a294), .val (.int (Int32.ofNat ((([] : List Int32) ++ own_escC c223) ++ own_escC c224).length)), .unset] [(.int (Int32.ofNat (((([] : List Int32) ++ own_escC c223) ++ own_escC c224) ++ own_escC c225).length))]))
    have Q297 : Ext h292 h297 := own_ext_keep Q296 Ke297 (fun y q => by cases List.mem_singleton.mp q; exact Nat.le_of_eq g294.symm)
    refine own_istore K297 (Ls' := #[.val (.int p0), .val (.int p1), .val (.int p2), .val (.int p3), .val (.int (3 : Int32)), .val (.int c223), .val (.int c224), .val (.int c225), .val (.ref a287), .val (.ref a294), .val (.int (Int32.ofNat (((([] : List Int32) ++ own_escC c223) ++ own_escC c224) ++ own_escC c225).length)), .unset]) at_185 rfl rfl ?_
    refine own_aload K297 at_187 rfl rfl rfl ?_
    have W298 := W293.ext K297 Q297
    have hes : (((([] : List Int32) ++ own_escC c223) ++ own_escC c224) ++ own_escC c225) = own_esc [c223, c224, c225] := by simp [own_esc]
    have hle : (own_esc [c223, c224, c225]).length ≤ 9 := Nat.le_trans (own_esc_len _) (by simp)
    refine own_callSW W298 (own_EL hw) (kn := false) (fun q => nomatch q) (wd26 hw) (wd27 hw) (rm_filter hw hs W298.K.O (S292.ext Q297) (own_ub_ok hch) hch (by simp)) (wd29 hw) (wd28 hw) (by decide) (argsL := [(.ref a287)]) (rest := []) rfl pd_28Ljava2flang2fString3b29Ljava2flang2fString3b rfl rfl (Wd := 0) rfl (by decide) (by decide) (by decide) (by decide) at_189 rfl ?_
    intro T299 h299 L299 v299 k1_299 W299 C299 q299
    obtain ⟨r299, rfl, X299, S299⟩ := q299
    show G (T299.setTop (mkF m 192 #[.val (.int p0), .val (.int p1), .val (.int p2), .val (.int p3), .val (.int (3 : Int32)), .val (.int c223), .val (.int c224), .val (.int c225), .val (.ref a287), .val (.ref a294), .val (.int (Int32.ofNat (((([] : List Int32) ++ own_escC c223) ++ own_escC c224) ++ own_escC c225).length)), .unset] [(.ref r299)]))
    have VF := Ve297.ext X299
    rw [hes] at VF
    rw [hes]
    refine own_astore W299.K (Ls' := #[.val (.int p0), .val (.int p1), .val (.int p2), .val (.int p3), .val (.int (3 : Int32)), .val (.int c223), .val (.int c224), .val (.int c225), .val (.ref a287), .val (.ref a294), .val (.int (Int32.ofNat (own_esc [c223, c224, c225]).length)), .val (.ref r299)]) at_192 rfl rfl rfl ?_
    refine own_aload W299.K at_194 rfl rfl rfl ?_
    refine own_callV W299.K (a := r299) (x0 := (⟨"java/lang/String", "length", "()I"⟩ : MethodName)) (wd110 hw) (wd34 hw) (fun q => own_nfS (args := #[]) (mvT q (wd36 hw)) rfl) (wd36 hw) (wd35 hw) (rm_lengthS hw hs W299.K.O S299 (by omega)) (wd37 hw) (wd6 hw) (by decide) S299.exa (argsL := []) (rest := []) rfl pd_2829I rfl rfl (W := 0) rfl (by decide) (by decide) (by decide) (by decide) at_196 rfl ?_
    intro T300 h300 L300 v300 K300 q300
    obtain ⟨rfl, e300⟩ := q300
    have f300 := e300.symm
    subst f300
    show G (T300.setTop (mkF m 199 #[.val (.int p0), .val (.int p1), .val (.int p2), .val (.int p3), .val (.int (3 : Int32)), .val (.int c223), .val (.int c224), .val (.int c225), .val (.ref a287), .val (.ref a294), .val (.int (Int32.ofNat (own_esc [c223, c224, c225]).length)), .val (.ref r299)] [(.int (Int32.ofNat (own_esc [c223, c224, c225]).length))]))
    refine own_iload K300 at_199 rfl rfl ?_
    refine own_icmpYes K300 at_201 (pc' := 206) (by decide) (by decide) (teq rfl).1 ?_
    refine own_aload K300 at_206 rfl rfl rfl ?_
    refine own_aload K300 at_208 rfl rfl rfl ?_
    refine own_iload K300 at_210 rfl rfl ?_
    refine own_iconst K300 (v := (0 : Int32)) at_212 rfl rfl ?_
    refine own_callS K300 (wd111 hw) (wd112 hw) (rm_at hw hs (es := own_esc [c223, c224, c225]) (i := 0) K300.O S299 (own_esc_ok hch) hle VF (by decide)) (wd113 hw) (wd2 hw) (by decide) (argsL := [(.ref r299), (.ref a294), (.int (Int32.ofNat (own_esc [c223, c224, c225]).length)), (.int (0 : Int32))]) (rest := []) rfl pd_28Ljava2flang2fString3b5bCII29Z rfl rfl (W := 0) rfl (by decide) (by decide) (by decide) (by decide) at_213 rfl ?_
    intro T301 h301 L301 v301 K301 q301
    obtain ⟨rfl, e301⟩ := q301
    have f301 := e301.symm
    subst f301
    show G (T301.setTop (mkF m 216 #[.val (.int p0), .val (.int p1), .val (.int p2), .val (.int p3), .val (.int (3 : Int32)), .val (.int c223), .val (.int c224), .val (.int c225), .val (.ref a287), .val (.ref a294), .val (.int (Int32.ofNat (own_esc [c223, c224, c225]).length)), .val (.ref r299)] [(.int (1 : Int32))]))
    refine own_ifNo K301 at_216 rfl ((if0 _ _).trans (feq (by decide)).1) ?_
    refine own_aload K301 at_219 rfl rfl rfl ?_
    refine own_aload K301 at_221 rfl rfl rfl ?_
    refine own_iload K301 at_223 rfl rfl ?_
    refine own_iconst K301 (v := (1 : Int32)) at_225 rfl rfl ?_
    refine own_callS K301 (wd111 hw) (wd112 hw) (rm_at hw hs (es := own_esc [c223, c224, c225]) (i := 1) K301.O S299 (own_esc_ok hch) hle VF (by decide)) (wd113 hw) (wd2 hw) (by decide) (argsL := [(.ref r299), (.ref a294), (.int (Int32.ofNat (own_esc [c223, c224, c225]).length)), (.int (1 : Int32))]) (rest := []) rfl pd_28Ljava2flang2fString3b5bCII29Z rfl rfl (W := 0) rfl (by decide) (by decide) (by decide) (by decide) at_226 rfl ?_
    intro T302 h302 L302 v302 K302 q302
    obtain ⟨rfl, e302⟩ := q302
    have f302 := e302.symm
    subst f302
    show G (T302.setTop (mkF m 229 #[.val (.int p0), .val (.int p1), .val (.int p2), .val (.int p3), .val (.int (3 : Int32)), .val (.int c223), .val (.int c224), .val (.int c225), .val (.ref a287), .val (.ref a294), .val (.int (Int32.ofNat (own_esc [c223, c224, c225]).length)), .val (.ref r299)] [(.int (1 : Int32))]))
    refine own_ifNo K302 at_229 rfl ((if0 _ _).trans (feq (by decide)).1) ?_
    refine own_aload K302 at_232 rfl rfl rfl ?_
    refine own_aload K302 at_234 rfl rfl rfl ?_
    refine own_iload K302 at_236 rfl rfl ?_
    refine own_iconst K302 (v := (2 : Int32)) at_238 rfl rfl ?_
    refine own_callS K302 (wd111 hw) (wd112 hw) (rm_at hw hs (es := own_esc [c223, c224, c225]) (i := 2) K302.O S299 (own_esc_ok hch) hle VF (by decide)) (wd113 hw) (wd2 hw) (by decide) (argsL := [(.ref r299), (.ref a294), (.int (Int32.ofNat (own_esc [c223, c224, c225]).length)), (.int (2 : Int32))]) (rest := []) rfl pd_28Ljava2flang2fString3b5bCII29Z rfl rfl (W := 0) rfl (by decide) (by decide) (by decide) (by decide) at_239 rfl ?_
    intro T303 h303 L303 v303 K303 q303
    obtain ⟨rfl, e303⟩ := q303
    have f303 := e303.symm
    subst f303
    show G (T303.setTop (mkF m 242 #[.val (.int p0), .val (.int p1), .val (.int p2), .val (.int p3), .val (.int (3 : Int32)), .val (.int c223), .val (.int c224), .val (.int c225), .val (.ref a287), .val (.ref a294), .val (.int (Int32.ofNat (own_esc [c223, c224, c225]).length)), .val (.ref r299)] [(.int (1 : Int32))]))
    refine own_ifNo K303 at_242 rfl ((if0 _ _).trans (feq (by decide)).1) ?_
    refine own_aload K303 at_245 rfl rfl rfl ?_
    refine own_aload K303 at_247 rfl rfl rfl ?_
    refine own_iload K303 at_249 rfl rfl ?_
    refine own_iconst K303 (v := (3 : Int32)) at_251 rfl rfl ?_
    refine own_callS K303 (wd111 hw) (wd112 hw) (rm_at hw hs (es := own_esc [c223, c224, c225]) (i := 3) K303.O S299 (own_esc_ok hch) hle VF (by decide)) (wd113 hw) (wd2 hw) (by decide) (argsL := [(.ref r299), (.ref a294), (.int (Int32.ofNat (own_esc [c223, c224, c225]).length)), (.int (3 : Int32))]) (rest := []) rfl pd_28Ljava2flang2fString3b5bCII29Z rfl rfl (W := 0) rfl (by decide) (by decide) (by decide) (by decide) at_252 rfl ?_
    intro T304 h304 L304 v304 K304 q304
    obtain ⟨rfl, e304⟩ := q304
    have f304 := e304.symm
    subst f304
    show G (T304.setTop (mkF m 255 #[.val (.int p0), .val (.int p1), .val (.int p2), .val (.int p3), .val (.int (3 : Int32)), .val (.int c223), .val (.int c224), .val (.int c225), .val (.ref a287), .val (.ref a294), .val (.int (Int32.ofNat (own_esc [c223, c224, c225]).length)), .val (.ref r299)] [(.int (1 : Int32))]))
    refine own_ifNo K304 at_255 rfl ((if0 _ _).trans (feq (by decide)).1) ?_
    refine own_aload K304 at_258 rfl rfl rfl ?_
    refine own_aload K304 at_260 rfl rfl rfl ?_
    refine own_iload K304 at_262 rfl rfl ?_
    refine own_iconst K304 (v := (4 : Int32)) at_264 rfl rfl ?_
    refine own_callS K304 (wd111 hw) (wd112 hw) (rm_at hw hs (es := own_esc [c223, c224, c225]) (i := 4) K304.O S299 (own_esc_ok hch) hle VF (by decide)) (wd113 hw) (wd2 hw) (by decide) (argsL := [(.ref r299), (.ref a294), (.int (Int32.ofNat (own_esc [c223, c224, c225]).length)), (.int (4 : Int32))]) (rest := []) rfl pd_28Ljava2flang2fString3b5bCII29Z rfl rfl (W := 0) rfl (by decide) (by decide) (by decide) (by decide) at_265 rfl ?_
    intro T305 h305 L305 v305 K305 q305
    obtain ⟨rfl, e305⟩ := q305
    have f305 := e305.symm
    subst f305
    show G (T305.setTop (mkF m 268 #[.val (.int p0), .val (.int p1), .val (.int p2), .val (.int p3), .val (.int (3 : Int32)), .val (.int c223), .val (.int c224), .val (.int c225), .val (.ref a287), .val (.ref a294), .val (.int (Int32.ofNat (own_esc [c223, c224, c225]).length)), .val (.ref r299)] [(.int (1 : Int32))]))
    refine own_ifNo K305 at_268 rfl ((if0 _ _).trans (feq (by decide)).1) ?_
    refine own_aload K305 at_271 rfl rfl rfl ?_
    refine own_aload K305 at_273 rfl rfl rfl ?_
    refine own_iload K305 at_275 rfl rfl ?_
    refine own_iconst K305 (v := (5 : Int32)) at_277 rfl rfl ?_
    refine own_callS K305 (wd111 hw) (wd112 hw) (rm_at hw hs (es := own_esc [c223, c224, c225]) (i := 5) K305.O S299 (own_esc_ok hch) hle VF (by decide)) (wd113 hw) (wd2 hw) (by decide) (argsL := [(.ref r299), (.ref a294), (.int (Int32.ofNat (own_esc [c223, c224, c225]).length)), (.int (5 : Int32))]) (rest := []) rfl pd_28Ljava2flang2fString3b5bCII29Z rfl rfl (W := 0) rfl (by decide) (by decide) (by decide) (by decide) at_278 rfl ?_
    intro T306 h306 L306 v306 K306 q306
    obtain ⟨rfl, e306⟩ := q306
    have f306 := e306.symm
    subst f306
    show G (T306.setTop (mkF m 281 #[.val (.int p0), .val (.int p1), .val (.int p2), .val (.int p3), .val (.int (3 : Int32)), .val (.int c223), .val (.int c224), .val (.int c225), .val (.ref a287), .val (.ref a294), .val (.int (Int32.ofNat (own_esc [c223, c224, c225]).length)), .val (.ref r299)] [(.int (1 : Int32))]))
    refine own_ifNo K306 at_281 rfl ((if0 _ _).trans (feq (by decide)).1) ?_
    refine own_aload K306 at_284 rfl rfl rfl ?_
    refine own_aload K306 at_286 rfl rfl rfl ?_
    refine own_iload K306 at_288 rfl rfl ?_
    refine own_bipush K306 (v := (6 : Int32)) at_290 rfl rfl ?_
    refine own_callS K306 (wd111 hw) (wd112 hw) (rm_at hw hs (es := own_esc [c223, c224, c225]) (i := 6) K306.O S299 (own_esc_ok hch) hle VF (by decide)) (wd113 hw) (wd2 hw) (by decide) (argsL := [(.ref r299), (.ref a294), (.int (Int32.ofNat (own_esc [c223, c224, c225]).length)), (.int (6 : Int32))]) (rest := []) rfl pd_28Ljava2flang2fString3b5bCII29Z rfl rfl (W := 0) rfl (by decide) (by decide) (by decide) (by decide) at_292 rfl ?_
    intro T307 h307 L307 v307 K307 q307
    obtain ⟨rfl, e307⟩ := q307
    have f307 := e307.symm
    subst f307
    show G (T307.setTop (mkF m 295 #[.val (.int p0), .val (.int p1), .val (.int p2), .val (.int p3), .val (.int (3 : Int32)), .val (.int c223), .val (.int c224), .val (.int c225), .val (.ref a287), .val (.ref a294), .val (.int (Int32.ofNat (own_esc [c223, c224, c225]).length)), .val (.ref r299)] [(.int (1 : Int32))]))
    refine own_ifNo K307 at_295 rfl ((if0 _ _).trans (feq (by decide)).1) ?_
    refine own_aload K307 at_298 rfl rfl rfl ?_
    refine own_aload K307 at_300 rfl rfl rfl ?_
    refine own_iload K307 at_302 rfl rfl ?_
    refine own_bipush K307 (v := (7 : Int32)) at_304 rfl rfl ?_
    refine own_callS K307 (wd111 hw) (wd112 hw) (rm_at hw hs (es := own_esc [c223, c224, c225]) (i := 7) K307.O S299 (own_esc_ok hch) hle VF (by decide)) (wd113 hw) (wd2 hw) (by decide) (argsL := [(.ref r299), (.ref a294), (.int (Int32.ofNat (own_esc [c223, c224, c225]).length)), (.int (7 : Int32))]) (rest := []) rfl pd_28Ljava2flang2fString3b5bCII29Z rfl rfl (W := 0) rfl (by decide) (by decide) (by decide) (by decide) at_306 rfl ?_
    intro T308 h308 L308 v308 K308 q308
    obtain ⟨rfl, e308⟩ := q308
    have f308 := e308.symm
    subst f308
    show G (T308.setTop (mkF m 309 #[.val (.int p0), .val (.int p1), .val (.int p2), .val (.int p3), .val (.int (3 : Int32)), .val (.int c223), .val (.int c224), .val (.int c225), .val (.ref a287), .val (.ref a294), .val (.int (Int32.ofNat (own_esc [c223, c224, c225]).length)), .val (.ref r299)] [(.int (1 : Int32))]))
    refine own_ifNo K308 at_309 rfl ((if0 _ _).trans (feq (by decide)).1) ?_
    refine own_aload K308 at_312 rfl rfl rfl ?_
    refine own_aload K308 at_314 rfl rfl rfl ?_
    refine own_iload K308 at_316 rfl rfl ?_
    refine own_bipush K308 (v := (8 : Int32)) at_318 rfl rfl ?_
    refine own_callS K308 (wd111 hw) (wd112 hw) (rm_at hw hs (es := own_esc [c223, c224, c225]) (i := 8) K308.O S299 (own_esc_ok hch) hle VF (by decide)) (wd113 hw) (wd2 hw) (by decide) (argsL := [(.ref r299), (.ref a294), (.int (Int32.ofNat (own_esc [c223, c224, c225]).length)), (.int (8 : Int32))]) (rest := []) rfl pd_28Ljava2flang2fString3b5bCII29Z rfl rfl (W := 0) rfl (by decide) (by decide) (by decide) (by decide) at_320 rfl ?_
    intro T309 h309 L309 v309 K309 q309
    obtain ⟨rfl, e309⟩ := q309
    have f309 := e309.symm
    subst f309
    show G (T309.setTop (mkF m 323 #[.val (.int p0), .val (.int p1), .val (.int p2), .val (.int p3), .val (.int (3 : Int32)), .val (.int c223), .val (.int c224), .val (.int c225), .val (.ref a287), .val (.ref a294), .val (.int (Int32.ofNat (own_esc [c223, c224, c225]).length)), .val (.ref r299)] [(.int (1 : Int32))]))
    refine own_ifNo K309 at_323 rfl ((if0 _ _).trans (feq (by decide)).1) ?_
    refine own_iconst K309 (v := (1 : Int32)) at_326 rfl rfl ?_
    refine own_goto K309 at_327 (pc' := 331) (by decide) (by decide) ?_
    have W310 := W299.same K309
    exact own_retN W310.K (z' := (1 : Int32)) at_331 rfl (by simp) (by decide) (by decide) (by decide) ⟨⟨rfl, W310.le⟩, fun _ => W310.C⟩
set_option maxRecDepth 65536 in
set_option maxHeartbeats 40000000 in
theorem comes_1 {Post : Tables → Env → Array Value → State → Outcome → State → Prop} (hpost : ∀ tb e args s v u, (limb_1_1.after args s (.returned v) u = true ∧ limb_1_2.after args s (.returned v) u = true ∧ True) → ReturnedEndW s (.returned v) u (Jvm.fieldLocs frame_1_writes args s ++ Jvm.arrayLocs frame_1_arrays args s ++ Jvm.staticLocs frame_1_statics s) 40 6400 → Post tb e args s (.returned v) u) :
    ArmFor flags0 classFile x code maxLocals ret World_1 tables_1 room_1 Calls_1 rest_1 Pre_1 Post := by
  intro l hfl _ _ p e ha hc hk s m args below hf hA hF happ hP
  obtain ⟨hcalls, hrest, hpre⟩ := hP
  obtain ⟨-, -, -, hnamed, -, -, -, hat⟩ := (Spec.applies_iff hf).mp happ
  obtain ⟨hg, hn⟩ := and_e (Cond.before_iff.mp (show (Jvm.Cond.and given_1 narrow_1).before args s = true from hpre))
  obtain ⟨gg1, gg2⟩ := and_e hg
  obtain ⟨gg3, gg4⟩ := and_e gg2
  obtain ⟨gg5, gg6⟩ := and_e gg4
  obtain ⟨gg7, gg8⟩ := and_e gg6
  obtain ⟨w0, w1, w2, w3, rfl⟩ : ∃ w0 w1 w2 w3 : Value, args = #[w0, w1, w2, w3] := by
    have hs : args.size = 4 := by simpa [Cond.value, given_1] using gg1
    obtain ⟨L⟩ := args
    match L, hs with
    | [w0, w1, w2, w3], _ => exact ⟨w0, w1, w2, w3, rfl⟩
  have hw := fun d (hd : d ∈ tables_1) => atoms_spec (ws := Jvm.Cond.code x code maxLocals ret :: tables_1) hat d (List.mem_cons_of_mem _ hd)
  have hfit : Fit s := fun {y c} hc i hi => by
    obtain ⟨ha, rfl⟩ := Array.getElem?_eq_some_iff.mp hc
    have q := List.all_eq_true.mp ((Array.all_eq_true_iff_forall_mem.mp hF) _ (Array.getElem_mem ha)) i (List.mem_range.mpr hi)
    simpa [Array.getElem?_eq_getElem hi] using q
  obtain ⟨hsets, hown0⟩ := atoms_of _ (rest_1_c_eq ▸ (show rest_1_c.before _ s = true from hrest))
  obtain ⟨i0, ei0⟩ := is_v gg3
  obtain rfl : w0 = (.int i0) := Option.some.inj ei0
  obtain ⟨i1, ei1⟩ := is_v gg5
  obtain rfl : w1 = (.int i1) := Option.some.inj ei1
  obtain ⟨i2, ei2⟩ := is_v gg7
  obtain rfl : w2 = (.int i2) := Option.some.inj ei2
  obtain ⟨i3, ei3⟩ := is_v gg8
  obtain rfl : w3 = (.int i3) := Option.some.inj ei3
  have hCH : CHv s consts_1 s.vm s.heap := CHv.start (own_EL hw) hcalls.1 (st2 hsets) (wd19 hw) (wd5 hw)
  obtain ⟨n, o, h1, h2, h3, _, L, rfl, ⟨N, O, rfl⟩, -, hq⟩ := rm_law hw hsets (own_ext_refl s.heap)  p e ha hc hk s m _ below hf ((Spec.applies_iff_loose hf).mp happ).1 ⟨rfl, State.Warmed39.refl s, rfl, hCH⟩ (fun q => nomatch q)
  refine ⟨n, _, h1, h2, h3, hpost _ _ _ _ _ _ ⟨Cond.after_iff.mpr rfl, Cond.after_iff.mpr (eq_i res_at (Term.int_eval (1)) rfl), trivial⟩ ⟨hq.1, hq.2.1, hq.2.2.1, (hq.2.2.2.sift fun y hy => Or.inr (N y hy)).mono (by decide) (by decide)⟩⟩
theorem main_1_1 : Claimed_1_1 := comes_1 fun _ _ _ _ _ _ h hF => ⟨h.1, hF⟩
theorem main_1_2 : Claimed_1_2 := comes_1 fun _ _ _ _ _ _ h hF => ⟨h.2.1, hF⟩
end Jvm.Pilot.@@N@@
namespace Jvm.Pilot.@@N@@
open Jvm Jvm.ClassFile Sem Op Lib Jvm.Free Jvm.Stand Jvm.Pilot.@@N@@.Jvm.D
/-! MADE BY PROGRAM (witnessworld.py) out of the Statement's table words and the real class files: 26 classes; the members and pool entries that the words name. The judged class is class 1, her method 1. -/
namespace start1
open Jvm.ClassFile
def u (s : String) : CpInfo := .utf8 (stringToUtf16 s)
/-- a pool by its gaps: so many unusable entries, then the entry; so many at the end -/
def gap : Nat → List CpInfo → List CpInfo
  | 0, r => r
  | n + 1, r => .unusable :: gap n r
def poolList (es : List (Nat × CpInfo)) (last : Nat) : List CpInfo := es.foldr (fun e r => gap e.1 (e.2 :: r)) (gap last [])
def pool (es : List (Nat × CpInfo)) (last : Nat) : Array CpInfo := ⟨poolList es last⟩
def fileOf (pool : Array CpInfo) (this : Nat) (attrs : Array Attribute := #[]) (ms : Array MethodInfo := #[]) (fl : Nat := 33) (sup : Nat := 0) (ifs : Array Nat := #[]) (fds : Array FieldInfo := #[]) : ClassFile where
  minorVersion := 0
  majorVersion := 65
  constantPool := pool
  accessFlags := fl
  thisClass := this
  superClass := sup
  interfaces := ifs
  fields := fds
  methods := ms
  attributes := attrs
def plain (name : String) (sup : Option ClassId) : Class where
  name := name
  kind := .ordinary
  loader := none
  accessFlags := 33
  super := sup
  interfaces := #[]
  cf := none
  fields := #[]
  methods := #[]
  instanceTypes := #[]
  staticTypes := #[]
  resolved := #[]
  callSites := []
  init := .initialized
  statics := none
  mirror := none

def pool0 : Array CpInfo := pool [(5, u "<init>"), (0, u "()V"), (1, .class_ 10), (1, u "java/lang/Object")] 113

def k0c0 : Code := { maxStack := 0, maxLocals := 1, code := object_method_1_code, exceptionTable := #[], attributes := #[] }
def k0m0 : Method := { name := "<init>", desc := "()V", sig := { parameters := [], returnType := none }, accessFlags := 1, code := some k0c0 }
/-- java/lang/Object -/
def k0 : Class := { plain "java/lang/Object" none with
  accessFlags := 33
  interfaces := #[]
  cf := some (fileOf pool0 8 #[] #[{ accessFlags := 1, nameIndex := 5, descriptorIndex := 6, attributes := #[] }] 33 0 #[] #[])
  fields := #[]
  methods := #[k0m0]
  instanceTypes := #[]
  staticTypes := #[]
  resolved := Array.replicate 124 none
  statics := none }

def pool1 : Array CpInfo := pool [(2, .class_ 4), (1, u "java/lang/Object"), (0, u "<init>"), (0, u "()V"), (0, .methodref 8 9), (0, .class_ 10), (0, .nameAndType 11 12), (0, u "com/example/reevemark/reevemark/connectors/ldap/LdapEscapeFilterValuePinLaw"), (0, u "pick"), (0, u "(I)C"), (0, .class_ 14), (0, u "java/lang/String"), (0, .methodref 13 16), (0, .nameAndType 5 17), (0, u "([C)V"), (0, .methodref 8 19), (0, .nameAndType 20 21), (0, u "put"), (0, u "([CIC)I"), (0, .methodref 23 24), (0, .class_ 25), (0, .nameAndType 26 27), (0, u "com/example/reevemark/reevemark/connectors/ldap/LdapEscape"), (0, u "filterValue"), (0, u "(Ljava/lang/String;)Ljava/lang/String;"), (0, .methodref 13 29), (0, .nameAndType 30 31), (0, u "length"), (0, u "()I"), (0, .methodref 8 33), (0, .nameAndType 34 35), (0, u "at"), (0, u "(Ljava/lang/String;[CII)Z"), (0, .methodref 13 37), (0, .nameAndType 38 12), (0, u "charAt"), (0, .methodref 8 40), (0, .nameAndType 41 42), (0, u "special"), (0, u "(C)Z"), (0, .methodref 8 44), (0, .nameAndType 45 12), (0, u "hex"), (2, u "law"), (0, u "(IIII)Z")] 5

def k1m0 : Method := { name := "<init>", desc := "()V", sig := { parameters := [], returnType := none }, accessFlags := 2, code := none }
def k1c1 : Code := { maxStack := 6, maxLocals := 12, code := code, exceptionTable := #[], attributes := #[] }
def k1m1 : Method := { name := "law", desc := "(IIII)Z", sig := { parameters := [.int, .int, .int, .int], returnType := some .boolean }, accessFlags := 9, code := some k1c1 }
def k1c2 : Code := { maxStack := 3, maxLocals := 4, code := method_3_code, exceptionTable := #[], attributes := #[] }
def k1m2 : Method := { name := "at", desc := "(Ljava/lang/String;[CII)Z", sig := { parameters := [(.object "java/lang/String"), (.array .char), .int, .int], returnType := some .boolean }, accessFlags := 10, code := some k1c2 }
def k1c3 : Code := { maxStack := 2, maxLocals := 2, code := method_4_code, exceptionTable := #[], attributes := #[] }
def k1m3 : Method := { name := "pick", desc := "(I)C", sig := { parameters := [.int], returnType := some .char }, accessFlags := 10, code := some k1c3 }
def k1c4 : Code := { maxStack := 2, maxLocals := 1, code := method_5_code, exceptionTable := #[], attributes := #[] }
def k1m4 : Method := { name := "special", desc := "(C)Z", sig := { parameters := [.char], returnType := some .boolean }, accessFlags := 10, code := some k1c4 }
def k1c5 : Code := { maxStack := 3, maxLocals := 1, code := method_6_code, exceptionTable := #[], attributes := #[] }
def k1m5 : Method := { name := "hex", desc := "(I)C", sig := { parameters := [.int], returnType := some .char }, accessFlags := 10, code := some k1c5 }
def k1c6 : Code := { maxStack := 4, maxLocals := 3, code := method_7_code, exceptionTable := #[], attributes := #[] }
def k1m6 : Method := { name := "put", desc := "([CIC)I", sig := { parameters := [(.array .char), .int, .char], returnType := some .int }, accessFlags := 10, code := some k1c6 }
/-- com/example/reevemark/reevemark/connectors/ldap/LdapEscapeFilterValuePinLaw -/
def k1 : Class := { plain "com/example/reevemark/reevemark/connectors/ldap/LdapEscapeFilterValuePinLaw" (some 0) with
  accessFlags := 49
  interfaces := #[]
  cf := some (fileOf pool1 8 #[] #[{ accessFlags := 2, nameIndex := 5, descriptorIndex := 6, attributes := #[] }, { accessFlags := 9, nameIndex := 48, descriptorIndex := 49, attributes := #[] }, { accessFlags := 10, nameIndex := 34, descriptorIndex := 35, attributes := #[] }, { accessFlags := 10, nameIndex := 11, descriptorIndex := 12, attributes := #[] }, { accessFlags := 10, nameIndex := 41, descriptorIndex := 42, attributes := #[] }, { accessFlags := 10, nameIndex := 45, descriptorIndex := 12, attributes := #[] }, { accessFlags := 10, nameIndex := 20, descriptorIndex := 21, attributes := #[] }] 49 2 #[] #[])
  fields := #[]
  methods := #[k1m0, k1m1, k1m2, k1m3, k1m4, k1m5, k1m6]
  instanceTypes := #[]
  staticTypes := #[]
  resolved := Array.replicate 55 none
  statics := none }

def pool2 : Array CpInfo := pool [(1, .class_ 2), (0, u "java/io/Serializable"), (0, .class_ 4), (0, u "java/lang/Object")] 2

/-- java/io/Serializable -/
def k2 : Class := { plain "java/io/Serializable" (some 0) with
  accessFlags := 1537
  interfaces := #[]
  cf := some (fileOf pool2 1 #[] #[] 1537 3 #[] #[])
  fields := #[]
  methods := #[]
  instanceTypes := #[]
  staticTypes := #[]
  resolved := Array.replicate 7 none
  statics := none }

def pool3 : Array CpInfo := pool [(1, .class_ 2), (0, u "java/lang/Comparable"), (0, .class_ 4), (0, u "java/lang/Object")] 7

/-- java/lang/Comparable -/
def k3 : Class := { plain "java/lang/Comparable" (some 0) with
  accessFlags := 1537
  interfaces := #[]
  cf := some (fileOf pool3 1 #[] #[] 1537 3 #[] #[])
  fields := #[]
  methods := #[]
  instanceTypes := #[]
  staticTypes := #[]
  resolved := Array.replicate 12 none
  statics := none }

def pool4 : Array CpInfo := pool [(2, .class_ 4), (1, u "java/lang/CharSequence"), (42, .class_ 48), (0, u "java/lang/CharSequence$1CodePointIterator"), (10, .class_ 60), (0, u "java/lang/CharSequence$1CharIterator"), (5, .class_ 67), (0, u "java/lang/Object")] 63

/-- java/lang/CharSequence -/
def k4 : Class := { plain "java/lang/CharSequence" (some 0) with
  accessFlags := 1537
  interfaces := #[]
  cf := some (fileOf pool4 2 #[.nestMembers #[47, 59]] #[] 1537 66 #[] #[])
  fields := #[]
  methods := #[]
  instanceTypes := #[]
  staticTypes := #[]
  resolved := Array.replicate 131 none
  statics := none }

def pool5 : Array CpInfo := pool [(1, .class_ 2), (0, u "java/lang/constant/Constable"), (0, .class_ 4), (0, u "java/lang/Object")] 6

/-- java/lang/constant/Constable -/
def k5 : Class := { plain "java/lang/constant/Constable" (some 0) with
  accessFlags := 1537
  interfaces := #[]
  cf := some (fileOf pool5 1 #[] #[] 1537 3 #[] #[])
  fields := #[]
  methods := #[]
  instanceTypes := #[]
  staticTypes := #[]
  resolved := Array.replicate 11 none
  statics := none }

def pool6 : Array CpInfo := pool [(1, .class_ 2), (0, u "java/lang/constant/ConstantDesc"), (0, .class_ 4), (0, u "java/lang/Object")] 32

/-- java/lang/constant/ConstantDesc -/
def k6 : Class := { plain "java/lang/constant/ConstantDesc" (some 0) with
  accessFlags := 1537
  interfaces := #[]
  cf := some (fileOf pool6 1 #[] #[] 1537 3 #[] #[])
  fields := #[]
  methods := #[]
  instanceTypes := #[]
  staticTypes := #[]
  resolved := Array.replicate 37 none
  statics := none }

def pool7 : Array CpInfo := pool [(1, .methodref 2 3), (0, .class_ 4), (0, .nameAndType 5 6), (0, u "java/lang/Object"), (0, u "<init>"), (0, u "()V"), (0, .string 8), (0, u ""), (0, .fieldref 10 11), (0, .class_ 12), (0, .nameAndType 13 14), (0, u "java/lang/String"), (0, u "value"), (0, u "[B"), (0, .fieldref 10 16), (0, .nameAndType 17 18), (0, u "coder"), (0, u "B"), (2, u "hash"), (0, u "I"), (2, u "hashIsZero"), (0, u "Z"), (0, .methodref 10 28), (0, .nameAndType 5 29), (0, u "([CIILjava/lang/Void;)V"), (6, u "checkBoundsOffCount"), (0, u "(III)I"), (0, .fieldref 10 39), (0, .nameAndType 40 26), (0, u "COMPACT_STRINGS"), (1, .class_ 44), (1, u "java/lang/StringUTF16"), (0, u "compress"), (1, .methodref 42 48), (0, .nameAndType 49 50), (0, u "coderFromArrayLen"), (0, u "([BI)B"), (3, .methodref 55 56), (0, .class_ 57), (0, .nameAndType 58 59), (0, u "java/util/Arrays"), (0, u "copyOfRange"), (0, u "([BII)[B"), (46, .methodref 107 108), (0, .class_ 109), (0, .nameAndType 110 111), (0, u "java/lang/StringLatin1"), (0, u "inflate"), (0, u "([BI[BII)V"), (30, u "()Z"), (34, .methodref 42 178), (0, .nameAndType 45 179), (0, u "([CII)[B"), (13, .class_ 195), (1, u "java/lang/System"), (16, .methodref 193 213), (0, .nameAndType 214 215), (0, u "arraycopy"), (0, u "(Ljava/lang/Object;ILjava/lang/Object;II)V"), (118, u "()I"), (0, .methodref 10 336), (0, .nameAndType 17 337), (0, u "()B"), (2, u "()[B"), (22, u "([BI)C"), (27, u "(II)V"), (35, u "(I)C"), (61, .methodref 10 490), (0, .nameAndType 5 491), (0, u "(Ljava/lang/AbstractStringBuilder;Ljava/lang/Void;)V"), (0, .methodref 10 493), (0, .nameAndType 494 142), (0, u "isLatin1"), (0, .methodref 107 496), (0, .nameAndType 497 363), (0, u "charAt"), (0, .methodref 42 496), (2, u "checkIndex"), (4, .nameAndType 507 334), (0, u "length"), (24, u "getBytes"), (16, .methodref 550 506), (0, .class_ 551), (0, u "java/lang/AbstractStringBuilder"), (0, .methodref 550 553), (0, .nameAndType 554 340), (0, u "getValue"), (20, .class_ 576), (0, u "java/lang/CharSequence"), (22, u "CASE_INSENSITIVE_ORDER"), (0, u "Ljava/util/Comparator;"), (220, u "([BIB)V"), (188, u "([C)V"), (36, .methodref 550 493), (0, .fieldref 550 1049), (0, .nameAndType 1050 26), (0, u "maybeLatin1"), (2, .fieldref 1054 1055), (0, .class_ 1056), (0, .nameAndType 1057 1058), (0, u "jdk/internal/util/Preconditions"), (0, u "SIOOBE_FORMATTER"), (0, u "Ljava/util/function/BiFunction;"), (0, .methodref 1054 1060), (0, .nameAndType 501 1061), (0, u "(IILjava/util/function/BiFunction;)I"), (2, u "(IIILjava/util/function/BiFunction;)I"), (0, .methodref 1054 1066), (0, .nameAndType 1067 1064), (0, u "checkFromIndexSize"), (33, u "serialPersistentFields"), (0, u "[Ljava/io/ObjectStreamField;"), (0, .class_ 1104), (0, u "java/lang/String$CaseInsensitiveComparator"), (1, .class_ 1107), (0, u "java/io/Serializable"), (0, .class_ 1109), (0, u "java/lang/Comparable"), (0, .class_ 1111), (0, u "java/lang/constant/Constable"), (0, .class_ 1113), (0, u "java/lang/constant/ConstantDesc"), (2, u "serialVersionUID"), (0, u "J"), (3, u "REPL"), (0, u "C"), (2, u "LATIN1"), (1, u "UTF16"), (105, u "(Ljava/lang/StringBuilder;)V")] 217

def k7m0 : Method := { name := "<init>", desc := "()V", sig := { parameters := [], returnType := none }, accessFlags := 1, code := none }
def k7c1 : Code := { maxStack := 5, maxLocals := 2, code := jdk_42_method_3_code, exceptionTable := #[], attributes := #[] }
def k7m1 : Method := { name := "<init>", desc := "([C)V", sig := { parameters := [(.array .char)], returnType := none }, accessFlags := 1, code := some k7c1 }
def k7c2 : Code := { maxStack := 3, maxLocals := 2, code := jdk_42_method_53_code, exceptionTable := #[], attributes := #[] }
def k7m2 : Method := { name := "<init>", desc := "(Ljava/lang/StringBuilder;)V", sig := { parameters := [(.object "java/lang/StringBuilder")], returnType := none }, accessFlags := 1, code := some k7c2 }
def k7c3 : Code := { maxStack := 2, maxLocals := 1, code := jdk_42_method_54_code, exceptionTable := #[], attributes := #[] }
def k7m3 : Method := { name := "length", desc := "()I", sig := { parameters := [], returnType := some .int }, accessFlags := 1, code := some k7c3 }
def k7c4 : Code := { maxStack := 2, maxLocals := 2, code := jdk_42_method_56_code, exceptionTable := #[], attributes := #[] }
def k7m4 : Method := { name := "charAt", desc := "(I)C", sig := { parameters := [.int], returnType := some .char }, accessFlags := 1, code := some k7c4 }
def k7c5 : Code := { maxStack := 5, maxLocals := 4, code := jdk_42_method_147_code, exceptionTable := #[], attributes := #[] }
def k7m5 : Method := { name := "getBytes", desc := "([BIB)V", sig := { parameters := [(.array .byte), .int, .byte], returnType := none }, accessFlags := 0, code := some k7c5 }
def k7c6 : Code := { maxStack := 4, maxLocals := 6, code := jdk_42_method_149_code, exceptionTable := #[], attributes := #[] }
def k7m6 : Method := { name := "<init>", desc := "([CIILjava/lang/Void;)V", sig := { parameters := [(.array .char), .int, .int, (.object "java/lang/Void")], returnType := none }, accessFlags := 2, code := some k7c6 }
def k7c7 : Code := { maxStack := 5, maxLocals := 5, code := jdk_42_method_150_code, exceptionTable := #[], attributes := #[] }
def k7m7 : Method := { name := "<init>", desc := "(Ljava/lang/AbstractStringBuilder;Ljava/lang/Void;)V", sig := { parameters := [(.object "java/lang/AbstractStringBuilder"), (.object "java/lang/Void")], returnType := none }, accessFlags := 0, code := some k7c7 }
def k7c8 : Code := { maxStack := 1, maxLocals := 1, code := jdk_42_method_152_code, exceptionTable := #[], attributes := #[] }
def k7m8 : Method := { name := "coder", desc := "()B", sig := { parameters := [], returnType := some .byte }, accessFlags := 0, code := some k7c8 }
def k7c9 : Code := { maxStack := 1, maxLocals := 1, code := jdk_42_method_154_code, exceptionTable := #[], attributes := #[] }
def k7m9 : Method := { name := "isLatin1", desc := "()Z", sig := { parameters := [], returnType := some .boolean }, accessFlags := 0, code := some k7c9 }
def k7c10 : Code := { maxStack := 3, maxLocals := 2, code := jdk_42_method_155_code, exceptionTable := #[], attributes := #[] }
def k7m10 : Method := { name := "checkIndex", desc := "(II)V", sig := { parameters := [.int, .int], returnType := none }, accessFlags := 8, code := some k7c10 }
def k7c11 : Code := { maxStack := 4, maxLocals := 3, code := jdk_42_method_157_code, exceptionTable := #[], attributes := #[] }
def k7m11 : Method := { name := "checkBoundsOffCount", desc := "(III)I", sig := { parameters := [.int, .int, .int], returnType := some .int }, accessFlags := 8, code := some k7c11 }
/-- java/lang/String -/
def k7 : Class := { plain "java/lang/String" (some 0) with
  accessFlags := 49
  interfaces := #[2, 3, 4, 5, 6]
  cf := some (fileOf pool7 10 #[.nestMembers #[1103]] #[{ accessFlags := 1, nameIndex := 5, descriptorIndex := 6, attributes := #[] }, { accessFlags := 1, nameIndex := 5, descriptorIndex := 1010, attributes := #[] }, { accessFlags := 1, nameIndex := 5, descriptorIndex := 1233, attributes := #[] }, { accessFlags := 1, nameIndex := 507, descriptorIndex := 334, attributes := #[] }, { accessFlags := 1, nameIndex := 497, descriptorIndex := 427, attributes := #[] }, { accessFlags := 0, nameIndex := 532, descriptorIndex := 821, attributes := #[] }, { accessFlags := 2, nameIndex := 5, descriptorIndex := 29, attributes := #[] }, { accessFlags := 0, nameIndex := 5, descriptorIndex := 491, attributes := #[] }, { accessFlags := 0, nameIndex := 17, descriptorIndex := 337, attributes := #[] }, { accessFlags := 0, nameIndex := 494, descriptorIndex := 142, attributes := #[] }, { accessFlags := 8, nameIndex := 501, descriptorIndex := 391, attributes := #[] }, { accessFlags := 8, nameIndex := 36, descriptorIndex := 37, attributes := #[] }] 49 2 #[1106, 1108, 575, 1110, 1112] #[{ accessFlags := 18, nameIndex := 13, descriptorIndex := 14, attributes := #[] }, { accessFlags := 18, nameIndex := 17, descriptorIndex := 18, attributes := #[] }, { accessFlags := 2, nameIndex := 21, descriptorIndex := 22, attributes := #[] }, { accessFlags := 2, nameIndex := 25, descriptorIndex := 26, attributes := #[] }, { accessFlags := 26, nameIndex := 1116, descriptorIndex := 1117, attributes := #[] }, { accessFlags := 24, nameIndex := 40, descriptorIndex := 26, attributes := #[] }, { accessFlags := 26, nameIndex := 1101, descriptorIndex := 1102, attributes := #[] }, { accessFlags := 26, nameIndex := 1121, descriptorIndex := 1122, attributes := #[] }, { accessFlags := 25, nameIndex := 599, descriptorIndex := 600, attributes := #[] }, { accessFlags := 24, nameIndex := 1125, descriptorIndex := 18, attributes := #[] }, { accessFlags := 24, nameIndex := 1127, descriptorIndex := 18, attributes := #[] }])
  fields := #[{ name := "value", type := (.array .byte), accessFlags := 18, slot := 0, constantValue := 0 }, { name := "coder", type := .byte, accessFlags := 18, slot := 1, constantValue := 0 }, { name := "hash", type := .int, accessFlags := 2, slot := 2, constantValue := 0 }, { name := "hashIsZero", type := .boolean, accessFlags := 2, slot := 3, constantValue := 0 }, { name := "serialVersionUID", type := .long, accessFlags := 26, slot := 0, constantValue := 0 }, { name := "COMPACT_STRINGS", type := .boolean, accessFlags := 24, slot := 1, constantValue := 0 }, { name := "serialPersistentFields", type := (.array (.object "java/io/ObjectStreamField")), accessFlags := 26, slot := 2, constantValue := 0 }, { name := "REPL", type := .char, accessFlags := 26, slot := 3, constantValue := 0 }, { name := "CASE_INSENSITIVE_ORDER", type := (.object "java/util/Comparator"), accessFlags := 25, slot := 4, constantValue := 0 }, { name := "LATIN1", type := .byte, accessFlags := 24, slot := 5, constantValue := 0 }, { name := "UTF16", type := .byte, accessFlags := 24, slot := 6, constantValue := 0 }]
  methods := #[k7m0, k7m1, k7m2, k7m3, k7m4, k7m5, k7m6, k7m7, k7m8, k7m9, k7m10, k7m11]
  instanceTypes := #[(.array .byte), .byte, .int, .boolean]
  staticTypes := #[.long, .boolean, (.array (.object "java/io/ObjectStreamField")), .char, (.object "java/util/Comparator"), .byte, .byte]
  resolved := Array.replicate 1451 none
  statics := some 0 }

def pool8 : Array CpInfo := pool [(2, .class_ 4), (1, u "java/lang/Object"), (0, u "<init>"), (0, u "()V"), (0, .class_ 8), (0, u "java/lang/StringBuilder"), (0, .methodref 10 11), (0, .class_ 12), (0, .nameAndType 13 14), (0, u "java/lang/String"), (0, u "length"), (0, u "()I"), (0, .methodref 7 16), (0, .nameAndType 5 17), (0, u "(I)V"), (0, .methodref 10 19), (0, .nameAndType 20 21), (0, u "charAt"), (0, u "(I)C"), (0, .methodref 7 23), (0, .nameAndType 24 25), (0, u "append"), (0, u "(C)Ljava/lang/StringBuilder;"), (0, .string 27), (0, u "\\00"), (0, .methodref 7 29), (0, .nameAndType 24 30), (0, u "(Ljava/lang/String;)Ljava/lang/StringBuilder;"), (0, .methodref 7 32), (0, .nameAndType 33 34), (0, u "toString"), (0, u "()Ljava/lang/String;"), (0, .string 36), (0, u "\\2a"), (0, .string 38), (0, u "\\28"), (0, .string 40), (0, u "\\29"), (0, .string 42), (0, u "\\5c"), (0, .class_ 44), (0, u "com/example/reevemark/reevemark/connectors/ldap/LdapEscape"), (3, u "(Ljava/lang/String;)Ljava/lang/String;"), (1, u "filterValue")] 2

def k8m0 : Method := { name := "<init>", desc := "()V", sig := { parameters := [], returnType := none }, accessFlags := 2, code := none }
def k8c1 : Code := { maxStack := 4, maxLocals := 4, code := prog_3_method_3_code, exceptionTable := #[], attributes := #[] }
def k8m1 : Method := { name := "filterValue", desc := "(Ljava/lang/String;)Ljava/lang/String;", sig := { parameters := [(.object "java/lang/String")], returnType := some (.object "java/lang/String") }, accessFlags := 9, code := some k8c1 }
/-- com/example/reevemark/reevemark/connectors/ldap/LdapEscape -/
def k8 : Class := { plain "com/example/reevemark/reevemark/connectors/ldap/LdapEscape" (some 0) with
  accessFlags := 49
  interfaces := #[]
  cf := some (fileOf pool8 43 #[] #[{ accessFlags := 2, nameIndex := 5, descriptorIndex := 6, attributes := #[] }, { accessFlags := 9, nameIndex := 50, descriptorIndex := 48, attributes := #[] }] 49 2 #[] #[])
  fields := #[]
  methods := #[k8m0, k8m1]
  instanceTypes := #[]
  staticTypes := #[]
  resolved := Array.replicate 53 none
  statics := none }

def pool9 : Array CpInfo := pool [(1, .class_ 2), (0, u "java/lang/Appendable"), (0, .class_ 4), (0, u "java/lang/Object")] 9

/-- java/lang/Appendable -/
def k9 : Class := { plain "java/lang/Appendable" (some 0) with
  accessFlags := 1537
  interfaces := #[]
  cf := some (fileOf pool9 1 #[] #[] 1537 3 #[] #[])
  fields := #[]
  methods := #[]
  instanceTypes := #[]
  staticTypes := #[]
  resolved := Array.replicate 14 none
  statics := none }

def pool10 : Array CpInfo := pool [(1, .class_ 2), (0, u "java/lang/String"), (0, .methodref 4 5), (0, .class_ 6), (0, .nameAndType 7 8), (0, u "java/lang/Object"), (0, u "<init>"), (0, u "()V"), (1, .class_ 12), (1, u "java/lang/AbstractStringBuilder"), (0, u "EMPTYVALUE"), (0, u "[B"), (0, .fieldref 10 16), (0, .nameAndType 17 14), (0, u "value"), (0, .fieldref 1 19), (0, .nameAndType 20 21), (0, u "COMPACT_STRINGS"), (0, u "Z"), (0, .fieldref 10 23), (0, .nameAndType 24 25), (0, u "coder"), (0, u "B"), (0, .methodref 27 28), (0, .class_ 29), (0, .nameAndType 30 31), (0, u "java/lang/StringUTF16"), (0, u "newBytesFor"), (0, u "(I)[B"), (0, .methodref 1 33), (0, .nameAndType 34 35), (0, u "length"), (0, u "()I"), (4, .methodref 1 41), (0, .nameAndType 24 42), (0, u "()B"), (2, u "append"), (0, u "(Ljava/lang/String;)Ljava/lang/AbstractStringBuilder;"), (1, .class_ 49), (0, u "java/lang/CharSequence"), (19, u "(Ljava/lang/String;)V"), (5, u "maybeLatin1"), (3, .fieldref 10 80), (0, .nameAndType 81 82), (0, u "count"), (0, u "I"), (0, .methodref 10 84), (0, .nameAndType 85 86), (0, u "isLatin1"), (0, u "()Z"), (1, .class_ 90), (1, u "java/lang/StringLatin1"), (9, .methodref 10 101), (0, .nameAndType 102 103), (0, u "ensureCapacityInternal"), (0, u "(I)V"), (21, .methodref 88 126), (0, .nameAndType 127 128), (0, u "inflate"), (0, u "([BI[BII)V"), (7, u "([BII)V"), (54, .methodref 88 192), (0, .nameAndType 193 194), (0, u "canEncode"), (0, u "(C)Z"), (0, .methodref 10 196), (0, .nameAndType 127 8), (0, .methodref 27 198), (0, .nameAndType 199 136), (0, u "putCharSB"), (8, .methodref 10 209), (0, .nameAndType 210 211), (0, u "putStringAt"), (0, u "(ILjava/lang/String;)V"), (5, u "inflateIfNeededFor"), (2, .nameAndType 221 222), (0, u "getBytes"), (0, u "([BIB)V"), (69, u "(C)Ljava/lang/AbstractStringBuilder;"), (104, .methodref 10 398), (0, .nameAndType 217 69), (0, .methodref 1 220), (3, u "()[B"), (40, .class_ 445), (0, u "java/lang/Appendable"), (106, u "getValue")] 56

def k10m0 : Method := { name := "<init>", desc := "()V", sig := { parameters := [], returnType := none }, accessFlags := 0, code := none }
def k10c1 : Code := { maxStack := 2, maxLocals := 2, code := jdk_68_method_2_code, exceptionTable := #[], attributes := #[] }
def k10m1 : Method := { name := "<init>", desc := "(I)V", sig := { parameters := [.int], returnType := none }, accessFlags := 0, code := some k10c1 }
def k10c2 : Code := { maxStack := 1, maxLocals := 1, code := jdk_68_method_6_code, exceptionTable := #[], attributes := #[] }
def k10m2 : Method := { name := "length", desc := "()I", sig := { parameters := [], returnType := some .int }, accessFlags := 1, code := some k10c2 }
def k10c3 : Code := { maxStack := 4, maxLocals := 3, code := jdk_68_method_9_code, exceptionTable := #[], attributes := #[] }
def k10m3 : Method := { name := "ensureCapacityInternal", desc := "(I)V", sig := { parameters := [.int], returnType := none }, accessFlags := 2, code := some k10c3 }
def k10c4 : Code := { maxStack := 5, maxLocals := 2, code := jdk_68_method_11_code, exceptionTable := #[], attributes := #[] }
def k10m4 : Method := { name := "inflate", desc := "()V", sig := { parameters := [], returnType := none }, accessFlags := 2, code := some k10c4 }
def k10c5 : Code := { maxStack := 3, maxLocals := 3, code := jdk_68_method_22_code, exceptionTable := #[], attributes := #[] }
def k10m5 : Method := { name := "append", desc := "(Ljava/lang/String;)Ljava/lang/AbstractStringBuilder;", sig := { parameters := [(.object "java/lang/String")], returnType := some (.object "java/lang/AbstractStringBuilder") }, accessFlags := 1, code := some k10c5 }
def k10c6 : Code := { maxStack := 5, maxLocals := 2, code := jdk_68_method_31_code, exceptionTable := #[], attributes := #[] }
def k10m6 : Method := { name := "append", desc := "(C)Ljava/lang/AbstractStringBuilder;", sig := { parameters := [.char], returnType := some (.object "java/lang/AbstractStringBuilder") }, accessFlags := 1, code := some k10c6 }
def k10c7 : Code := { maxStack := 1, maxLocals := 1, code := jdk_68_method_64_code, exceptionTable := #[], attributes := #[] }
def k10m7 : Method := { name := "getValue", desc := "()[B", sig := { parameters := [], returnType := some (.array .byte) }, accessFlags := 16, code := some k10c7 }
def k10c8 : Code := { maxStack := 1, maxLocals := 1, code := jdk_68_method_68_code, exceptionTable := #[], attributes := #[] }
def k10m8 : Method := { name := "isLatin1", desc := "()Z", sig := { parameters := [], returnType := some .boolean }, accessFlags := 16, code := some k10c8 }
def k10c9 : Code := { maxStack := 2, maxLocals := 2, code := jdk_68_method_71_code, exceptionTable := #[], attributes := #[] }
def k10m9 : Method := { name := "inflateIfNeededFor", desc := "(Ljava/lang/String;)V", sig := { parameters := [(.object "java/lang/String")], returnType := none }, accessFlags := 2, code := some k10c9 }
def k10c10 : Code := { maxStack := 4, maxLocals := 3, code := jdk_68_method_73_code, exceptionTable := #[], attributes := #[] }
def k10m10 : Method := { name := "putStringAt", desc := "(ILjava/lang/String;)V", sig := { parameters := [.int, (.object "java/lang/String")], returnType := none }, accessFlags := 2, code := some k10c10 }
/-- java/lang/AbstractStringBuilder -/
def k10 : Class := { plain "java/lang/AbstractStringBuilder" (some 0) with
  accessFlags := 1056
  interfaces := #[9, 4]
  cf := some (fileOf pool10 10 #[] #[{ accessFlags := 0, nameIndex := 7, descriptorIndex := 8, attributes := #[] }, { accessFlags := 0, nameIndex := 7, descriptorIndex := 103, attributes := #[] }, { accessFlags := 1, nameIndex := 34, descriptorIndex := 35, attributes := #[] }, { accessFlags := 2, nameIndex := 102, descriptorIndex := 103, attributes := #[] }, { accessFlags := 2, nameIndex := 127, descriptorIndex := 8, attributes := #[] }, { accessFlags := 1, nameIndex := 45, descriptorIndex := 46, attributes := #[] }, { accessFlags := 1, nameIndex := 45, descriptorIndex := 292, attributes := #[] }, { accessFlags := 16, nameIndex := 552, descriptorIndex := 403, attributes := #[] }, { accessFlags := 16, nameIndex := 85, descriptorIndex := 86, attributes := #[] }, { accessFlags := 2, nameIndex := 217, descriptorIndex := 69, attributes := #[] }, { accessFlags := 2, nameIndex := 210, descriptorIndex := 211, attributes := #[] }] 1056 4 #[444, 48] #[{ accessFlags := 0, nameIndex := 17, descriptorIndex := 14, attributes := #[] }, { accessFlags := 0, nameIndex := 24, descriptorIndex := 25, attributes := #[] }, { accessFlags := 0, nameIndex := 75, descriptorIndex := 21, attributes := #[] }, { accessFlags := 0, nameIndex := 81, descriptorIndex := 82, attributes := #[] }, { accessFlags := 26, nameIndex := 13, descriptorIndex := 14, attributes := #[] }])
  fields := #[{ name := "value", type := (.array .byte), accessFlags := 0, slot := 0, constantValue := 0 }, { name := "coder", type := .byte, accessFlags := 0, slot := 1, constantValue := 0 }, { name := "maybeLatin1", type := .boolean, accessFlags := 0, slot := 2, constantValue := 0 }, { name := "count", type := .int, accessFlags := 0, slot := 3, constantValue := 0 }, { name := "EMPTYVALUE", type := (.array .byte), accessFlags := 26, slot := 0, constantValue := 0 }]
  methods := #[k10m0, k10m1, k10m2, k10m3, k10m4, k10m5, k10m6, k10m7, k10m8, k10m9, k10m10]
  instanceTypes := #[(.array .byte), .byte, .boolean, .int]
  staticTypes := #[(.array .byte)]
  resolved := Array.replicate 609 none
  statics := none }

def pool11 : Array CpInfo := pool [(1, .methodref 2 3), (0, .class_ 4), (0, .nameAndType 5 6), (0, u "java/lang/AbstractStringBuilder"), (0, u "<init>"), (0, u "(I)V"), (11, .class_ 20), (1, u "java/lang/String"), (3, .class_ 26), (1, u "java/lang/StringBuilder"), (0, u "append"), (0, u "(Ljava/lang/String;)Ljava/lang/StringBuilder;"), (0, .methodref 2 30), (0, .nameAndType 27 31), (0, u "(Ljava/lang/String;)Ljava/lang/AbstractStringBuilder;"), (18, .methodref 2 51), (0, .nameAndType 27 52), (0, u "(C)Ljava/lang/AbstractStringBuilder;"), (84, .methodref 18 138), (0, .nameAndType 5 139), (0, u "(Ljava/lang/StringBuilder;)V"), (5, u "()V"), (10, u "()I"), (129, u "(C)Ljava/lang/StringBuilder;"), (56, .methodref 2 344), (0, .nameAndType 345 156), (0, u "length"), (3, .class_ 350), (0, u "java/lang/Appendable"), (0, .class_ 352), (0, u "java/io/Serializable"), (0, .class_ 354), (0, u "java/lang/Comparable"), (0, .class_ 356), (0, u "java/lang/CharSequence"), (0, u "serialVersionUID"), (0, u "J"), (40, u "toString"), (0, u "()Ljava/lang/String;")] 21

def k11m0 : Method := { name := "<init>", desc := "()V", sig := { parameters := [], returnType := none }, accessFlags := 1, code := none }
def k11c1 : Code := { maxStack := 2, maxLocals := 2, code := jdk_67_method_2_code, exceptionTable := #[], attributes := #[] }
def k11m1 : Method := { name := "<init>", desc := "(I)V", sig := { parameters := [.int], returnType := none }, accessFlags := 1, code := some k11c1 }
def k11c2 : Code := { maxStack := 2, maxLocals := 2, code := jdk_67_method_7_code, exceptionTable := #[], attributes := #[] }
def k11m2 : Method := { name := "append", desc := "(Ljava/lang/String;)Ljava/lang/StringBuilder;", sig := { parameters := [(.object "java/lang/String")], returnType := some (.object "java/lang/StringBuilder") }, accessFlags := 1, code := some k11c2 }
def k11c3 : Code := { maxStack := 2, maxLocals := 2, code := jdk_67_method_14_code, exceptionTable := #[], attributes := #[] }
def k11m3 : Method := { name := "append", desc := "(C)Ljava/lang/StringBuilder;", sig := { parameters := [.char], returnType := some (.object "java/lang/StringBuilder") }, accessFlags := 1, code := some k11c3 }
def k11c4 : Code := { maxStack := 3, maxLocals := 1, code := jdk_67_method_42_code, exceptionTable := #[], attributes := #[] }
def k11m4 : Method := { name := "toString", desc := "()Ljava/lang/String;", sig := { parameters := [], returnType := some (.object "java/lang/String") }, accessFlags := 1, code := some k11c4 }
def k11c5 : Code := { maxStack := 1, maxLocals := 1, code := jdk_67_method_93_code, exceptionTable := #[], attributes := #[] }
def k11m5 : Method := { name := "length", desc := "()I", sig := { parameters := [], returnType := some .int }, accessFlags := 4161, code := some k11c5 }
/-- java/lang/StringBuilder -/
def k11 : Class := { plain "java/lang/StringBuilder" (some 10) with
  accessFlags := 49
  interfaces := #[9, 2, 3, 4]
  cf := some (fileOf pool11 24 #[] #[{ accessFlags := 1, nameIndex := 5, descriptorIndex := 145, attributes := #[] }, { accessFlags := 1, nameIndex := 5, descriptorIndex := 6, attributes := #[] }, { accessFlags := 1, nameIndex := 27, descriptorIndex := 28, attributes := #[] }, { accessFlags := 1, nameIndex := 27, descriptorIndex := 286, attributes := #[] }, { accessFlags := 1, nameIndex := 399, descriptorIndex := 400, attributes := #[] }, { accessFlags := 4161, nameIndex := 345, descriptorIndex := 156, attributes := #[] }] 49 2 #[349, 351, 353, 355] #[{ accessFlags := 24, nameIndex := 357, descriptorIndex := 358, attributes := #[] }])
  fields := #[{ name := "serialVersionUID", type := .long, accessFlags := 24, slot := 0, constantValue := 0 }]
  methods := #[k11m0, k11m1, k11m2, k11m3, k11m4, k11m5]
  instanceTypes := #[(.array .byte), .byte, .boolean, .int]
  staticTypes := #[.long]
  resolved := Array.replicate 422 none
  statics := none }

def pool12 : Array CpInfo := pool [(2, .class_ 4), (1, u "java/lang/Object"), (0, u "<init>"), (0, u "()V"), (7, .class_ 16), (1, u "java/util/Arrays"), (57, .class_ 76), (1, u "java/util/Arrays$NaturalOrder"), (36, .class_ 115), (1, u "java/util/Arrays$LegacyMergeSort"), (1, u "Z"), (21, u "copyOfRange"), (10, .methodref 151 152), (0, .class_ 153), (0, .nameAndType 154 155), (0, u "java/lang/System"), (0, u "arraycopy"), (0, u "(Ljava/lang/Object;ILjava/lang/Object;II)V"), (148, .methodref 305 306), (0, .class_ 307), (0, .nameAndType 308 309), (0, u "java/lang/Math"), (0, u "min"), (0, u "(II)I"), (29, .methodref 14 340), (0, .nameAndType 341 342), (0, u "copyOfRangeByte"), (0, u "([BII)[B"), (0, .methodref 14 344), (0, .nameAndType 345 346), (0, u "checkLength"), (0, u "(II)V"), (28, .class_ 376), (0, u "java/util/Arrays$ArrayList"), (68, u "$assertionsDisabled"), (269, u "MIN_ARRAY_SORT_GRAN"), (0, u "I"), (2, u "INSERTIONSORT_THRESHOLD"), (255, .class_ 976), (0, u "java/util/Arrays$ArrayItr")] 52

def k12m0 : Method := { name := "<init>", desc := "()V", sig := { parameters := [], returnType := none }, accessFlags := 2, code := none }
def k12c1 : Code := { maxStack := 4, maxLocals := 2, code := jdk_65_method_131_code, exceptionTable := #[], attributes := #[] }
def k12m1 : Method := { name := "checkLength", desc := "(II)V", sig := { parameters := [.int, .int], returnType := none }, accessFlags := 10, code := some k12c1 }
def k12c2 : Code := { maxStack := 3, maxLocals := 3, code := jdk_65_method_132_code, exceptionTable := #[], attributes := #[] }
def k12m2 : Method := { name := "copyOfRange", desc := "([BII)[B", sig := { parameters := [(.array .byte), .int, .int], returnType := some (.array .byte) }, accessFlags := 9, code := some k12c2 }
def k12c3 : Code := { maxStack := 6, maxLocals := 5, code := jdk_65_method_133_code, exceptionTable := #[], attributes := #[] }
def k12m3 : Method := { name := "copyOfRangeByte", desc := "([BII)[B", sig := { parameters := [(.array .byte), .int, .int], returnType := some (.array .byte) }, accessFlags := 10, code := some k12c3 }
/-- java/util/Arrays -/
def k12 : Class := { plain "java/util/Arrays" (some 0) with
  accessFlags := 49
  interfaces := #[]
  cf := some (fileOf pool12 14 #[.nestMembers #[975, 375, 113, 74]] #[{ accessFlags := 2, nameIndex := 5, descriptorIndex := 6, attributes := #[] }, { accessFlags := 10, nameIndex := 345, descriptorIndex := 346, attributes := #[] }, { accessFlags := 9, nameIndex := 139, descriptorIndex := 342, attributes := #[] }, { accessFlags := 10, nameIndex := 341, descriptorIndex := 342, attributes := #[] }] 49 2 #[] #[{ accessFlags := 26, nameIndex := 715, descriptorIndex := 716, attributes := #[] }, { accessFlags := 26, nameIndex := 719, descriptorIndex := 716, attributes := #[] }, { accessFlags := 4120, nameIndex := 445, descriptorIndex := 117, attributes := #[] }])
  fields := #[{ name := "MIN_ARRAY_SORT_GRAN", type := .int, accessFlags := 26, slot := 0, constantValue := 0 }, { name := "INSERTIONSORT_THRESHOLD", type := .int, accessFlags := 26, slot := 1, constantValue := 0 }, { name := "$assertionsDisabled", type := .boolean, accessFlags := 4120, slot := 2, constantValue := 0 }]
  methods := #[k12m0, k12m1, k12m2, k12m3]
  instanceTypes := #[]
  staticTypes := #[.int, .int, .boolean]
  resolved := Array.replicate 1029 none
  statics := none }

def pool13 : Array CpInfo := pool [(1, .class_ 2), (0, u "java/lang/Math"), (1, .class_ 6), (1, u "java/lang/Object"), (0, u "<init>"), (0, u "()V"), (89, .class_ 100), (1, u "java/lang/Math$RandomNumberGeneratorHolder"), (71, u "negativeZeroFloatBits"), (0, u "J"), (2, u "negativeZeroDoubleBits"), (24, u "min"), (43, u "$assertionsDisabled"), (0, u "Z"), (88, u "(II)I"), (2, u "twoToTheDoubleScaleDown"), (0, u "D"), (4, u "twoToTheDoubleScaleUp"), (9, u "E"), (3, u "PI"), (2, u "TAU"), (2, u "DEGREES_TO_RADIANS"), (0, u "RADIANS_TO_DEGREES")] 94

def k13m0 : Method := { name := "<init>", desc := "()V", sig := { parameters := [], returnType := none }, accessFlags := 2, code := none }
def k13c1 : Code := { maxStack := 2, maxLocals := 2, code := jdk_29_method_69_code, exceptionTable := #[], attributes := #[] }
def k13m1 : Method := { name := "min", desc := "(II)I", sig := { parameters := [.int, .int], returnType := some .int }, accessFlags := 9, code := some k13c1 }
/-- java/lang/Math -/
def k13 : Class := { plain "java/lang/Math" (some 0) with
  accessFlags := 49
  interfaces := #[]
  cf := some (fileOf pool13 1 #[.nestMembers #[98]] #[{ accessFlags := 2, nameIndex := 7, descriptorIndex := 8, attributes := #[] }, { accessFlags := 9, nameIndex := 201, descriptorIndex := 335, attributes := #[] }] 49 4 #[] #[{ accessFlags := 25, nameIndex := 354, descriptorIndex := 339, attributes := #[] }, { accessFlags := 25, nameIndex := 358, descriptorIndex := 339, attributes := #[] }, { accessFlags := 25, nameIndex := 361, descriptorIndex := 339, attributes := #[] }, { accessFlags := 26, nameIndex := 364, descriptorIndex := 339, attributes := #[] }, { accessFlags := 26, nameIndex := 365, descriptorIndex := 339, attributes := #[] }, { accessFlags := 26, nameIndex := 172, descriptorIndex := 173, attributes := #[] }, { accessFlags := 26, nameIndex := 176, descriptorIndex := 173, attributes := #[] }, { accessFlags := 8, nameIndex := 344, descriptorIndex := 339, attributes := #[] }, { accessFlags := 8, nameIndex := 338, descriptorIndex := 339, attributes := #[] }, { accessFlags := 4120, nameIndex := 245, descriptorIndex := 246, attributes := #[] }])
  fields := #[{ name := "E", type := .double, accessFlags := 25, slot := 0, constantValue := 0 }, { name := "PI", type := .double, accessFlags := 25, slot := 1, constantValue := 0 }, { name := "TAU", type := .double, accessFlags := 25, slot := 2, constantValue := 0 }, { name := "DEGREES_TO_RADIANS", type := .double, accessFlags := 26, slot := 3, constantValue := 0 }, { name := "RADIANS_TO_DEGREES", type := .double, accessFlags := 26, slot := 4, constantValue := 0 }, { name := "negativeZeroFloatBits", type := .long, accessFlags := 26, slot := 5, constantValue := 0 }, { name := "negativeZeroDoubleBits", type := .long, accessFlags := 26, slot := 6, constantValue := 0 }, { name := "twoToTheDoubleScaleUp", type := .double, accessFlags := 8, slot := 7, constantValue := 0 }, { name := "twoToTheDoubleScaleDown", type := .double, accessFlags := 8, slot := 8, constantValue := 0 }, { name := "$assertionsDisabled", type := .boolean, accessFlags := 4120, slot := 9, constantValue := 0 }]
  methods := #[k13m0, k13m1]
  instanceTypes := #[]
  staticTypes := #[.double, .double, .double, .double, .double, .long, .long, .double, .double, .boolean]
  resolved := Array.replicate 460 none
  statics := none }

def pool14 : Array CpInfo := pool [(2, .class_ 4), (1, u "java/lang/Object"), (0, u "<init>"), (0, u "()V"), (1, .class_ 10), (1, u "java/lang/System"), (0, u "allowSecurityManager"), (0, u "I"), (16, u "cons"), (0, u "Ljava/io/Console;"), (77, .class_ 110), (1, u "java/lang/System$CallersHolder"), (43, u "initialErrStream"), (0, u "Ljava/io/PrintStream;"), (19, u "security"), (0, u "Ljava/lang/SecurityManager;"), (31, .class_ 209), (0, u "java/lang/System$1"), (7, u "props"), (0, u "Ljava/util/Properties;"), (2, u "lineSeparator"), (0, u "Ljava/lang/String;"), (96, .class_ 321), (1, u "java/lang/System$LoggerFinder"), (5, .class_ 328), (0, u "java/lang/System$Logger"), (67, u "err"), (2, u "out"), (91, u "notSupportedJnuEncoding"), (15, u "in"), (17, u "initialIn"), (0, u "Ljava/io/InputStream;"), (35, u "bootLayer"), (0, u "Ljava/lang/ModuleLayer;"), (99, .class_ 664), (0, u "java/lang/System$2"), (9, u "NEVER"), (2, u "MAYBE"), (49, u "arraycopy"), (0, u "(Ljava/lang/Object;ILjava/lang/Object;II)V"), (72, .class_ 802), (0, u "java/lang/System$Logger$Level")] 31

def k14m0 : Method := { name := "<init>", desc := "()V", sig := { parameters := [], returnType := none }, accessFlags := 2, code := none }
def k14m1 : Method := { name := "arraycopy", desc := "(Ljava/lang/Object;ILjava/lang/Object;II)V", sig := { parameters := [(.object "java/lang/Object"), .int, (.object "java/lang/Object"), .int, .int], returnType := none }, accessFlags := 265, code := none }
/-- java/lang/System -/
def k14 : Class := { plain "java/lang/System" (some 0) with
  accessFlags := 49
  interfaces := #[]
  cf := some (fileOf pool14 8 #[.nestMembers #[319, 327, 801, 108, 663, 208]] #[{ accessFlags := 2, nameIndex := 5, descriptorIndex := 6, attributes := #[] }, { accessFlags := 265, nameIndex := 727, descriptorIndex := 728, attributes := #[] }] 49 2 #[] #[{ accessFlags := 25, nameIndex := 507, descriptorIndex := 526, attributes := #[] }, { accessFlags := 25, nameIndex := 399, descriptorIndex := 155, attributes := #[] }, { accessFlags := 25, nameIndex := 396, descriptorIndex := 155, attributes := #[] }, { accessFlags := 10, nameIndex := 525, descriptorIndex := 526, attributes := #[] }, { accessFlags := 26, nameIndex := 674, descriptorIndex := 12, attributes := #[] }, { accessFlags := 26, nameIndex := 677, descriptorIndex := 12, attributes := #[] }, { accessFlags := 10, nameIndex := 11, descriptorIndex := 12, attributes := #[] }, { accessFlags := 74, nameIndex := 175, descriptorIndex := 176, attributes := #[] }, { accessFlags := 10, nameIndex := 491, descriptorIndex := 222, attributes := #[] }, { accessFlags := 74, nameIndex := 29, descriptorIndex := 30, attributes := #[] }, { accessFlags := 74, nameIndex := 154, descriptorIndex := 155, attributes := #[] }, { accessFlags := 10, nameIndex := 217, descriptorIndex := 218, attributes := #[] }, { accessFlags := 10, nameIndex := 221, descriptorIndex := 222, attributes := #[] }, { accessFlags := 8, nameIndex := 562, descriptorIndex := 563, attributes := #[] }])
  fields := #[{ name := "in", type := (.object "java/io/InputStream"), accessFlags := 25, slot := 0, constantValue := 0 }, { name := "out", type := (.object "java/io/PrintStream"), accessFlags := 25, slot := 1, constantValue := 0 }, { name := "err", type := (.object "java/io/PrintStream"), accessFlags := 25, slot := 2, constantValue := 0 }, { name := "initialIn", type := (.object "java/io/InputStream"), accessFlags := 10, slot := 3, constantValue := 0 }, { name := "NEVER", type := .int, accessFlags := 26, slot := 4, constantValue := 0 }, { name := "MAYBE", type := .int, accessFlags := 26, slot := 5, constantValue := 0 }, { name := "allowSecurityManager", type := .int, accessFlags := 10, slot := 6, constantValue := 0 }, { name := "security", type := (.object "java/lang/SecurityManager"), accessFlags := 74, slot := 7, constantValue := 0 }, { name := "notSupportedJnuEncoding", type := (.object "java/lang/String"), accessFlags := 10, slot := 8, constantValue := 0 }, { name := "cons", type := (.object "java/io/Console"), accessFlags := 74, slot := 9, constantValue := 0 }, { name := "initialErrStream", type := (.object "java/io/PrintStream"), accessFlags := 74, slot := 10, constantValue := 0 }, { name := "props", type := (.object "java/util/Properties"), accessFlags := 10, slot := 11, constantValue := 0 }, { name := "lineSeparator", type := (.object "java/lang/String"), accessFlags := 10, slot := 12, constantValue := 0 }, { name := "bootLayer", type := (.object "java/lang/ModuleLayer"), accessFlags := 8, slot := 13, constantValue := 0 }]
  methods := #[k14m0, k14m1]
  instanceTypes := #[]
  staticTypes := #[(.object "java/io/InputStream"), (.object "java/io/PrintStream"), (.object "java/io/PrintStream"), (.object "java/io/InputStream"), .int, .int, .int, (.object "java/lang/SecurityManager"), (.object "java/lang/String"), (.object "java/io/Console"), (.object "java/io/PrintStream"), (.object "java/util/Properties"), (.object "java/lang/String"), (.object "java/lang/ModuleLayer")]
  resolved := Array.replicate 834 none
  statics := none }

def pool15 : Array CpInfo := pool [(3, .class_ 4), (0, u "java/lang/String"), (1, .class_ 8), (1, u "java/lang/Object"), (0, u "<init>"), (0, u "()V"), (0, .methodref 12 13), (0, .class_ 14), (0, .nameAndType 15 16), (0, u "java/lang/StringUTF16"), (0, u "newBytesLength"), (0, u "(I)I"), (3, .integer 1073741823), (23, .fieldref 12 45), (0, .nameAndType 46 47), (0, u "$assertionsDisabled"), (0, u "Z"), (0, .methodref 12 49), (0, .nameAndType 50 51), (0, u "length"), (0, u "([B)I"), (7, .fieldref 12 60), (0, .nameAndType 61 62), (0, u "HI_BYTE_SHIFT"), (0, u "I"), (0, .fieldref 12 64), (0, .nameAndType 65 62), (0, u "LO_BYTE_SHIFT"), (1, .methodref 12 68), (0, .nameAndType 69 70), (0, u "checkIndex"), (0, u "(I[B)V"), (0, .methodref 12 72), (0, .nameAndType 73 74), (0, u "getChar"), (0, u "([BI)C"), (24, u "(II[B)V"), (7, .methodref 12 108), (0, .nameAndType 109 110), (0, u "newBytesFor"), (0, u "(I)[B"), (0, .methodref 12 112), (0, .nameAndType 113 114), (0, u "putChar"), (0, u "([BII)V"), (0, .methodref 12 116), (0, .nameAndType 117 118), (0, u "compress"), (0, u "([CI[BII)I"), (0, .methodref 12 120), (0, .nameAndType 121 122), (0, u "toBytes"), (0, u "([CII)[B"), (17, u "inflate"), (0, u "([BI[BII)V"), (31, .methodref 12 174), (0, .nameAndType 175 99), (0, u "checkBoundsOffCount"), (85, u "coderFromArrayLen"), (0, u "([BI)B"), (18, u "(III)I"), (87, .class_ 371), (1, u "java/lang/StringUTF16$LinesSpliterator"), (20, u "charAt"), (21, .methodref 3 415), (0, .nameAndType 69 416), (0, u "(II)V"), (2, .methodref 3 420), (0, .nameAndType 175 281), (9, u "MAX_LENGTH"), (155, u "putCharSB"), (40, .class_ 628), (0, u "java/lang/StringUTF16$CodePointsSpliterator"), (0, .class_ 630), (0, u "java/lang/StringUTF16$CharsSpliterator")] 4

def k15m0 : Method := { name := "<init>", desc := "()V", sig := { parameters := [], returnType := none }, accessFlags := 0, code := none }
def k15c1 : Code := { maxStack := 1, maxLocals := 1, code := jdk_52_method_2_code, exceptionTable := #[], attributes := #[] }
def k15m1 : Method := { name := "newBytesFor", desc := "(I)[B", sig := { parameters := [.int], returnType := some (.array .byte) }, accessFlags := 9, code := some k15c1 }
def k15c2 : Code := { maxStack := 4, maxLocals := 1, code := jdk_52_method_3_code, exceptionTable := #[], attributes := #[] }
def k15m2 : Method := { name := "newBytesLength", desc := "(I)I", sig := { parameters := [.int], returnType := some .int }, accessFlags := 9, code := some k15c2 }
def k15c3 : Code := { maxStack := 4, maxLocals := 3, code := jdk_52_method_4_code, exceptionTable := #[], attributes := #[] }
def k15m3 : Method := { name := "putChar", desc := "([BII)V", sig := { parameters := [(.array .byte), .int, .int], returnType := none }, accessFlags := 8, code := some k15c3 }
def k15c4 : Code := { maxStack := 3, maxLocals := 2, code := jdk_52_method_5_code, exceptionTable := #[], attributes := #[] }
def k15m4 : Method := { name := "getChar", desc := "([BI)C", sig := { parameters := [(.array .byte), .int], returnType := some .char }, accessFlags := 8, code := some k15c4 }
def k15c5 : Code := { maxStack := 2, maxLocals := 1, code := jdk_52_method_6_code, exceptionTable := #[], attributes := #[] }
def k15m5 : Method := { name := "length", desc := "([B)I", sig := { parameters := [(.array .byte)], returnType := some .int }, accessFlags := 9, code := some k15c5 }
def k15c6 : Code := { maxStack := 4, maxLocals := 5, code := jdk_52_method_14_code, exceptionTable := #[], attributes := #[] }
def k15m6 : Method := { name := "toBytes", desc := "([CII)[B", sig := { parameters := [(.array .char), .int, .int], returnType := some (.array .byte) }, accessFlags := 9, code := some k15c6 }
def k15c7 : Code := { maxStack := 2, maxLocals := 2, code := jdk_52_method_15_code, exceptionTable := #[], attributes := #[] }
def k15m7 : Method := { name := "coderFromArrayLen", desc := "([BI)B", sig := { parameters := [(.array .byte), .int], returnType := some .byte }, accessFlags := 8, code := some k15c7 }
def k15c8 : Code := { maxStack := 5, maxLocals := 6, code := jdk_52_method_16_code, exceptionTable := #[], attributes := #[] }
def k15m8 : Method := { name := "compress", desc := "([CII)[B", sig := { parameters := [(.array .char), .int, .int], returnType := some (.array .byte) }, accessFlags := 9, code := some k15c8 }
def k15c9 : Code := { maxStack := 3, maxLocals := 7, code := jdk_52_method_21_code, exceptionTable := #[], attributes := #[] }
def k15m9 : Method := { name := "compress", desc := "([CI[BII)I", sig := { parameters := [(.array .char), .int, (.array .byte), .int, .int], returnType := some .int }, accessFlags := 9, code := some k15c9 }
def k15c10 : Code := { maxStack := 3, maxLocals := 3, code := jdk_52_method_71_code, exceptionTable := #[], attributes := #[] }
def k15m10 : Method := { name := "putCharSB", desc := "([BII)V", sig := { parameters := [(.array .byte), .int, .int], returnType := none }, accessFlags := 9, code := some k15c10 }
def k15c11 : Code := { maxStack := 2, maxLocals := 2, code := jdk_52_method_83_code, exceptionTable := #[], attributes := #[] }
def k15m11 : Method := { name := "charAt", desc := "([BI)C", sig := { parameters := [(.array .byte), .int], returnType := some .char }, accessFlags := 9, code := some k15c11 }
def k15c12 : Code := { maxStack := 4, maxLocals := 6, code := jdk_52_method_86_code, exceptionTable := #[], attributes := #[] }
def k15m12 : Method := { name := "inflate", desc := "([BI[BII)V", sig := { parameters := [(.array .byte), .int, (.array .byte), .int, .int], returnType := none }, accessFlags := 9, code := some k15c12 }
def k15c13 : Code := { maxStack := 2, maxLocals := 2, code := jdk_52_method_91_code, exceptionTable := #[], attributes := #[] }
def k15m13 : Method := { name := "checkIndex", desc := "(I[B)V", sig := { parameters := [.int, (.array .byte)], returnType := none }, accessFlags := 9, code := some k15c13 }
def k15c14 : Code := { maxStack := 3, maxLocals := 3, code := jdk_52_method_94_code, exceptionTable := #[], attributes := #[] }
def k15m14 : Method := { name := "checkBoundsOffCount", desc := "(II[B)V", sig := { parameters := [.int, .int, (.array .byte)], returnType := none }, accessFlags := 9, code := some k15c14 }
/-- java/lang/StringUTF16 -/
def k15 : Class := { plain "java/lang/StringUTF16" (some 0) with
  accessFlags := 48
  interfaces := #[]
  cf := some (fileOf pool15 12 #[.nestMembers #[627, 629, 369]] #[{ accessFlags := 0, nameIndex := 9, descriptorIndex := 10, attributes := #[] }, { accessFlags := 9, nameIndex := 109, descriptorIndex := 110, attributes := #[] }, { accessFlags := 9, nameIndex := 15, descriptorIndex := 16, attributes := #[] }, { accessFlags := 8, nameIndex := 113, descriptorIndex := 114, attributes := #[] }, { accessFlags := 8, nameIndex := 73, descriptorIndex := 74, attributes := #[] }, { accessFlags := 9, nameIndex := 50, descriptorIndex := 51, attributes := #[] }, { accessFlags := 9, nameIndex := 121, descriptorIndex := 122, attributes := #[] }, { accessFlags := 8, nameIndex := 261, descriptorIndex := 262, attributes := #[] }, { accessFlags := 9, nameIndex := 117, descriptorIndex := 122, attributes := #[] }, { accessFlags := 9, nameIndex := 117, descriptorIndex := 118, attributes := #[] }, { accessFlags := 9, nameIndex := 586, descriptorIndex := 114, attributes := #[] }, { accessFlags := 9, nameIndex := 392, descriptorIndex := 74, attributes := #[] }, { accessFlags := 9, nameIndex := 140, descriptorIndex := 141, attributes := #[] }, { accessFlags := 9, nameIndex := 69, descriptorIndex := 70, attributes := #[] }, { accessFlags := 9, nameIndex := 175, descriptorIndex := 99, attributes := #[] }] 48 6 #[] #[{ accessFlags := 26, nameIndex := 61, descriptorIndex := 62, attributes := #[] }, { accessFlags := 26, nameIndex := 65, descriptorIndex := 62, attributes := #[] }, { accessFlags := 24, nameIndex := 430, descriptorIndex := 62, attributes := #[] }, { accessFlags := 4120, nameIndex := 46, descriptorIndex := 47, attributes := #[] }])
  fields := #[{ name := "HI_BYTE_SHIFT", type := .int, accessFlags := 26, slot := 0, constantValue := 0 }, { name := "LO_BYTE_SHIFT", type := .int, accessFlags := 26, slot := 1, constantValue := 0 }, { name := "MAX_LENGTH", type := .int, accessFlags := 24, slot := 2, constantValue := 0 }, { name := "$assertionsDisabled", type := .boolean, accessFlags := 4120, slot := 3, constantValue := 0 }]
  methods := #[k15m0, k15m1, k15m2, k15m3, k15m4, k15m5, k15m6, k15m7, k15m8, k15m9, k15m10, k15m11, k15m12, k15m13, k15m14]
  instanceTypes := #[]
  staticTypes := #[.int, .int, .int, .boolean]
  resolved := Array.replicate 635 none
  statics := some 1 }

def pool16 : Array CpInfo := pool [(1, .class_ 2), (0, u "java/lang/String"), (1, .class_ 6), (1, u "java/lang/Object"), (0, u "<init>"), (0, u "()V"), (0, .methodref 1 10), (0, .nameAndType 11 12), (0, u "checkIndex"), (0, u "(II)V"), (1, .class_ 16), (1, u "java/lang/StringLatin1"), (0, u "inflate"), (2, .class_ 22), (1, u "java/lang/StringUTF16"), (3, .nameAndType 17 27), (0, u "([BI[BII)V"), (25, u "([BI)C"), (36, u "canEncode"), (14, u "(C)Z"), (15, u "$assertionsDisabled"), (0, u "Z"), (98, .class_ 223), (1, u "java/lang/StringLatin1$LinesSpliterator"), (16, .methodref 20 26), (11, u "charAt"), (137, .class_ 391), (0, u "java/lang/StringLatin1$CharsSpliterator")] 3

def k16m0 : Method := { name := "<init>", desc := "()V", sig := { parameters := [], returnType := none }, accessFlags := 0, code := none }
def k16c1 : Code := { maxStack := 2, maxLocals := 2, code := jdk_43_method_2_code, exceptionTable := #[], attributes := #[] }
def k16m1 : Method := { name := "charAt", desc := "([BI)C", sig := { parameters := [(.array .byte), .int], returnType := some .char }, accessFlags := 9, code := some k16c1 }
def k16c2 : Code := { maxStack := 2, maxLocals := 1, code := jdk_43_method_3_code, exceptionTable := #[], attributes := #[] }
def k16m2 : Method := { name := "canEncode", desc := "(C)Z", sig := { parameters := [.char], returnType := some .boolean }, accessFlags := 9, code := some k16c2 }
def k16c3 : Code := { maxStack := 5, maxLocals := 5, code := jdk_43_method_50_code, exceptionTable := #[], attributes := #[] }
def k16m3 : Method := { name := "inflate", desc := "([BI[BII)V", sig := { parameters := [(.array .byte), .int, (.array .byte), .int, .int], returnType := none }, accessFlags := 9, code := some k16c3 }
/-- java/lang/StringLatin1 -/
def k16 : Class := { plain "java/lang/StringLatin1" (some 0) with
  accessFlags := 48
  interfaces := #[]
  cf := some (fileOf pool16 14 #[.nestMembers #[390, 221]] #[{ accessFlags := 0, nameIndex := 7, descriptorIndex := 8, attributes := #[] }, { accessFlags := 9, nameIndex := 252, descriptorIndex := 53, attributes := #[] }, { accessFlags := 9, nameIndex := 90, descriptorIndex := 105, attributes := #[] }, { accessFlags := 9, nameIndex := 17, descriptorIndex := 27, attributes := #[] }] 48 4 #[] #[{ accessFlags := 4120, nameIndex := 121, descriptorIndex := 122, attributes := #[] }])
  fields := #[{ name := "$assertionsDisabled", type := .boolean, accessFlags := 4120, slot := 0, constantValue := 0 }]
  methods := #[k16m0, k16m1, k16m2, k16m3]
  instanceTypes := #[]
  staticTypes := #[.boolean]
  resolved := Array.replicate 395 none
  statics := none }

def pool17 : Array CpInfo := pool [(2, .class_ 4), (1, u "java/lang/Object"), (0, u "<init>"), (0, u "()V"), (17, .class_ 26), (1, u "jdk/internal/util/Preconditions"), (6, u "checkIndex"), (15, u "checkFromIndexSize"), (5, .class_ 56), (0, u "jdk/internal/util/Preconditions$4"), (57, .class_ 115), (0, u "jdk/internal/util/Preconditions$1"), (7, u "SIOOBE_FORMATTER"), (0, u "Ljava/util/function/BiFunction;"), (0, .class_ 126), (0, u "jdk/internal/util/Preconditions$2"), (3, u "AIOOBE_FORMATTER"), (0, .class_ 132), (0, u "jdk/internal/util/Preconditions$3"), (3, u "IOOBE_FORMATTER"), (41, u "(IILjava/util/function/BiFunction;)I"), (4, u "(IIILjava/util/function/BiFunction;)I")] 10

def k17m0 : Method := { name := "<init>", desc := "()V", sig := { parameters := [], returnType := none }, accessFlags := 1, code := none }
def k17c1 : Code := { maxStack := 3, maxLocals := 3, code := jdk_41_method_11_code, exceptionTable := #[], attributes := #[] }
def k17m1 : Method := { name := "checkIndex", desc := "(IILjava/util/function/BiFunction;)I", sig := { parameters := [.int, .int, (.object "java/util/function/BiFunction")], returnType := some .int }, accessFlags := 9, code := some k17c1 }
def k17c2 : Code := { maxStack := 4, maxLocals := 4, code := jdk_41_method_13_code, exceptionTable := #[], attributes := #[] }
def k17m2 : Method := { name := "checkFromIndexSize", desc := "(IIILjava/util/function/BiFunction;)I", sig := { parameters := [.int, .int, .int, (.object "java/util/function/BiFunction")], returnType := some .int }, accessFlags := 9, code := some k17c2 }
/-- jdk/internal/util/Preconditions -/
def k17 : Class := { plain "jdk/internal/util/Preconditions" (some 0) with
  accessFlags := 33
  interfaces := #[]
  cf := some (fileOf pool17 24 #[.nestMembers #[55, 131, 125, 114]] #[{ accessFlags := 1, nameIndex := 5, descriptorIndex := 6, attributes := #[] }, { accessFlags := 9, nameIndex := 33, descriptorIndex := 178, attributes := #[] }, { accessFlags := 9, nameIndex := 49, descriptorIndex := 183, attributes := #[] }] 33 2 #[] #[{ accessFlags := 25, nameIndex := 123, descriptorIndex := 124, attributes := #[] }, { accessFlags := 25, nameIndex := 130, descriptorIndex := 124, attributes := #[] }, { accessFlags := 25, nameIndex := 136, descriptorIndex := 124, attributes := #[] }])
  fields := #[{ name := "SIOOBE_FORMATTER", type := (.object "java/util/function/BiFunction"), accessFlags := 25, slot := 0, constantValue := 0 }, { name := "AIOOBE_FORMATTER", type := (.object "java/util/function/BiFunction"), accessFlags := 25, slot := 1, constantValue := 0 }, { name := "IOOBE_FORMATTER", type := (.object "java/util/function/BiFunction"), accessFlags := 25, slot := 2, constantValue := 0 }]
  methods := #[k17m0, k17m1, k17m2]
  instanceTypes := #[]
  staticTypes := #[(.object "java/util/function/BiFunction"), (.object "java/util/function/BiFunction"), (.object "java/util/function/BiFunction")]
  resolved := Array.replicate 194 none
  statics := some 2 }

def pool18 : Array CpInfo := pool [(9, u "<init>"), (6, .class_ 18), (1, u "java/lang/Object"), (0, u "()V"), (1, .class_ 23), (1, u "jdk/internal/util/ArraysSupport"), (0, u "LOG2_ARRAY_LONG_INDEX_SCALE"), (0, u "I"), (2, u "U"), (0, u "Ljdk/internal/misc/Unsafe;"), (8, u "BIG_ENDIAN"), (0, u "Z"), (8, u "LOG2_BYTE_BIT_SIZE"), (4, u "LOG2_ARRAY_INT_INDEX_SCALE"), (54, u "JLA"), (0, u "Ljdk/internal/access/JavaLangAccess;"), (11, u "LOG2_ARRAY_BOOLEAN_INDEX_SCALE"), (9, u "LOG2_ARRAY_BYTE_INDEX_SCALE"), (5, u "LOG2_ARRAY_CHAR_INDEX_SCALE"), (5, u "LOG2_ARRAY_SHORT_INDEX_SCALE"), (18, u "LOG2_ARRAY_FLOAT_INDEX_SCALE"), (24, u "LOG2_ARRAY_DOUBLE_INDEX_SCALE"), (89, u "T_BOOLEAN"), (2, u "T_CHAR"), (1, u "T_FLOAT"), (1, u "T_DOUBLE"), (1, u "T_BYTE"), (1, u "T_SHORT"), (1, u "T_INT"), (1, u "T_LONG"), (1, u "SOFT_MAX_ARRAY_LENGTH")] 83

def k18m0 : Method := { name := "<init>", desc := "()V", sig := { parameters := [], returnType := none }, accessFlags := 2, code := none }
/-- jdk/internal/util/ArraysSupport -/
def k18 : Class := { plain "jdk/internal/util/ArraysSupport" (some 0) with
  accessFlags := 33
  interfaces := #[]
  cf := some (fileOf pool18 21 #[] #[{ accessFlags := 2, nameIndex := 9, descriptorIndex := 19, attributes := #[] }] 33 16 #[] #[{ accessFlags := 24, nameIndex := 28, descriptorIndex := 29, attributes := #[] }, { accessFlags := 26, nameIndex := 38, descriptorIndex := 39, attributes := #[] }, { accessFlags := 25, nameIndex := 121, descriptorIndex := 25, attributes := #[] }, { accessFlags := 25, nameIndex := 131, descriptorIndex := 25, attributes := #[] }, { accessFlags := 25, nameIndex := 137, descriptorIndex := 25, attributes := #[] }, { accessFlags := 25, nameIndex := 143, descriptorIndex := 25, attributes := #[] }, { accessFlags := 25, nameIndex := 53, descriptorIndex := 25, attributes := #[] }, { accessFlags := 25, nameIndex := 24, descriptorIndex := 25, attributes := #[] }, { accessFlags := 25, nameIndex := 162, descriptorIndex := 25, attributes := #[] }, { accessFlags := 25, nameIndex := 187, descriptorIndex := 25, attributes := #[] }, { accessFlags := 26, nameIndex := 48, descriptorIndex := 25, attributes := #[] }, { accessFlags := 25, nameIndex := 277, descriptorIndex := 25, attributes := #[] }, { accessFlags := 25, nameIndex := 280, descriptorIndex := 25, attributes := #[] }, { accessFlags := 25, nameIndex := 282, descriptorIndex := 25, attributes := #[] }, { accessFlags := 25, nameIndex := 284, descriptorIndex := 25, attributes := #[] }, { accessFlags := 25, nameIndex := 286, descriptorIndex := 25, attributes := #[] }, { accessFlags := 25, nameIndex := 288, descriptorIndex := 25, attributes := #[] }, { accessFlags := 25, nameIndex := 290, descriptorIndex := 25, attributes := #[] }, { accessFlags := 25, nameIndex := 292, descriptorIndex := 25, attributes := #[] }, { accessFlags := 26, nameIndex := 108, descriptorIndex := 109, attributes := #[] }, { accessFlags := 25, nameIndex := 294, descriptorIndex := 25, attributes := #[] }])
  fields := #[{ name := "U", type := (.object "jdk/internal/misc/Unsafe"), accessFlags := 24, slot := 0, constantValue := 0 }, { name := "BIG_ENDIAN", type := .boolean, accessFlags := 26, slot := 1, constantValue := 0 }, { name := "LOG2_ARRAY_BOOLEAN_INDEX_SCALE", type := .int, accessFlags := 25, slot := 2, constantValue := 0 }, { name := "LOG2_ARRAY_BYTE_INDEX_SCALE", type := .int, accessFlags := 25, slot := 3, constantValue := 0 }, { name := "LOG2_ARRAY_CHAR_INDEX_SCALE", type := .int, accessFlags := 25, slot := 4, constantValue := 0 }, { name := "LOG2_ARRAY_SHORT_INDEX_SCALE", type := .int, accessFlags := 25, slot := 5, constantValue := 0 }, { name := "LOG2_ARRAY_INT_INDEX_SCALE", type := .int, accessFlags := 25, slot := 6, constantValue := 0 }, { name := "LOG2_ARRAY_LONG_INDEX_SCALE", type := .int, accessFlags := 25, slot := 7, constantValue := 0 }, { name := "LOG2_ARRAY_FLOAT_INDEX_SCALE", type := .int, accessFlags := 25, slot := 8, constantValue := 0 }, { name := "LOG2_ARRAY_DOUBLE_INDEX_SCALE", type := .int, accessFlags := 25, slot := 9, constantValue := 0 }, { name := "LOG2_BYTE_BIT_SIZE", type := .int, accessFlags := 26, slot := 10, constantValue := 0 }, { name := "T_BOOLEAN", type := .int, accessFlags := 25, slot := 11, constantValue := 0 }, { name := "T_CHAR", type := .int, accessFlags := 25, slot := 12, constantValue := 0 }, { name := "T_FLOAT", type := .int, accessFlags := 25, slot := 13, constantValue := 0 }, { name := "T_DOUBLE", type := .int, accessFlags := 25, slot := 14, constantValue := 0 }, { name := "T_BYTE", type := .int, accessFlags := 25, slot := 15, constantValue := 0 }, { name := "T_SHORT", type := .int, accessFlags := 25, slot := 16, constantValue := 0 }, { name := "T_INT", type := .int, accessFlags := 25, slot := 17, constantValue := 0 }, { name := "T_LONG", type := .int, accessFlags := 25, slot := 18, constantValue := 0 }, { name := "JLA", type := (.object "jdk/internal/access/JavaLangAccess"), accessFlags := 26, slot := 19, constantValue := 0 }, { name := "SOFT_MAX_ARRAY_LENGTH", type := .int, accessFlags := 25, slot := 20, constantValue := 0 }]
  methods := #[k18m0]
  instanceTypes := #[]
  staticTypes := #[(.object "jdk/internal/misc/Unsafe"), .boolean, .int, .int, .int, .int, .int, .int, .int, .int, .int, .int, .int, .int, .int, .int, .int, .int, .int, (.object "jdk/internal/access/JavaLangAccess"), .int]
  resolved := Array.replicate 378 none
  statics := none }

def pool19 : Array CpInfo := pool [(1, u "java/lang/Cloneable"), (0, .class_ 1), (0, u "java/lang/Object"), (0, .class_ 3)] 3

/-- java/lang/Cloneable -/
def k19 : Class := { plain "java/lang/Cloneable" (some 0) with
  accessFlags := 1537
  interfaces := #[]
  cf := some (fileOf pool19 2 #[] #[] 1537 4 #[] #[])
  fields := #[]
  methods := #[]
  instanceTypes := #[]
  staticTypes := #[]
  resolved := Array.replicate 8 none
  statics := none }

/-- the primitive byte -/
def k20 : Class := { plain "byte" none with kind := .primitive 'B', accessFlags := 0x411 }
/-- [B -/
def k21 : Class := { plain "[B" (some 0) with kind := .array 20 .byte, interfaces := #[19, 2], accessFlags := 1041 }

/-- the primitive char -/
def k22 : Class := { plain "char" none with kind := .primitive 'C', accessFlags := 0x411 }
/-- [C -/
def k23 : Class := { plain "[C" (some 0) with kind := .array 22 .char, interfaces := #[19, 2], accessFlags := 1041 }

/-- the primitive int -/
def k24 : Class := { plain "int" none with kind := .primitive 'I', accessFlags := 0x411 }
/-- [I -/
def k25 : Class := { plain "[I" (some 0) with kind := .array 24 .int, interfaces := #[19, 2], accessFlags := 1041 }

def heap : Heap := #[{ cls := 7, slots := #[.long 0, .int 1, .null, .int 0, .null, .int 0, .int 0], vm := .statics 7 },
  { cls := 15, slots := #[.int 0, .int 8, .int 0, .int 1], vm := .statics 15 },
  { cls := 17, slots := #[.null, .null, .null], vm := .statics 17 }]
def classes : Array Class := #[k0, k1, k2, k3, k4, k5, k6, k7, k8, k9, k10, k11, k12, k13, k14, k15, k16, k17, k18, k19, k20, k21, k22, k23, k24, k25]
def interned : List (Array UInt16 × Addr) := []
def slotsUsed : Nat := 14
def theMethod : MethodId := ⟨1, 1⟩
def args0 : Array Value := #[.int 1, .int 8, .int 16, .int 24]
def aboutOver (below : List Frame) : State where
  vm := { classes := classes, interned := interned.toArray }
  heap := heap
  slotsUsed := slotsUsed
  threads := #[{ frames := .invoking theMethod args0 :: below }]
def below0 : List Frame := [.native { method := ⟨0, 0⟩, args := #[] }]
def about1 : State := aboutOver below0
def p0 : Program := .bare "" "" ""
def e0 : Env := launch0.env 0 0 0
theorem w_frames : about1.frames = Frame.invoking theMethod args0 :: below0 := rfl
set_option maxRecDepth 65536 in
theorem w_args : argsFit about1.vm theMethod args0 = true := by decide +kernel
set_option maxRecDepth 65536 in
theorem w_heap : heapFits about1 = true := by decide +kernel
set_option maxRecDepth 65536 in
theorem w_runnable : about1.curStatus? = some .runnable := by decide +kernel
set_option maxRecDepth 65536 in
theorem w_alone : about1.alone = true := by decide +kernel
set_option maxRecDepth 65536 in
theorem w_named : about1.methodNamed? x = some theMethod := by decide +kernel
set_option maxRecDepth 65536 in
theorem w_hears : about1.hears theMethod below0 = true := by decide +kernel
set_option maxRecDepth 65536 in
theorem w_ripe : about1.ripe theMethod args0 below0 = true := by decide +kernel
theorem w_running : about1.status = .running := rfl
set_option maxRecDepth 65536 in
theorem w_room : about1.hasRoom e0.platform room_1 = true :=
  launch0.hasRoom_least _ room_1 (by decide +kernel) (by decide +kernel) (by decide +kernel) (by decide +kernel) (by decide +kernel) (by decide +kernel)
theorem allAtoms_all (ts : List Jvm.Cond) (a : Array Jvm.Value) (st : Jvm.State) : (allAtoms ts).before a st = ts.all (fun c => c.before a st) := by
  induction ts with
  | nil => rfl
  | cons c t ih =>
    show (Jvm.Cond.and c (allAtoms t)).before a st = _
    rw [Jvm.Cond.before_and, ih, List.all_cons]
def words1 : List Jvm.Cond := Jvm.Cond.code x code maxLocals ret :: tables_1
/-- a 'code' word, met by the world's own term for the bytes: nothing is compared byte by byte -/
theorem code_word {y : MethodName} {bytes : ByteArray} {mx : Nat} {rt : Option FieldType} {a : Array Value} {s : State} {m : MethodId} {meth : Method} {c : Code} (h1 : s.methodNamed? y = some m) (h2 : s.vm.method? m = some meth) (h3 : meth.code = some c) (h4 : c.code = bytes)
    (h5 : (c.maxLocals == mx && c.exceptionTable.isEmpty && decide (c.maxStack ≤ mostOperands) && decide (meth.sig.returnType = rt) && !meth.locks && decide (parseMethodDescriptor y.desc = some meth.sig)) = true) : (Jvm.Cond.code y bytes mx rt).before a s = true := by
  simp only [Bool.and_eq_true, beq_iff_eq, Bool.not_eq_true', decide_eq_true_eq] at h5
  obtain ⟨⟨⟨⟨⟨g1, g2⟩, g3⟩, g4⟩, g5⟩, g6⟩ := h5
  simp [Cond.before, Cond.holds, Cond.value, h1, h2, h3, h4, g1, g2, g3, g4, g5, g6]
def isCode : Jvm.Cond → Bool
  | .code _ _ _ _ => true
  | _ => false
theorem all_split {L : List Jvm.Cond} {P : Jvm.Cond → Bool} (h1 : L.all (fun c => isCode c || P c) = true) (h2 : ∀ c ∈ L.filter isCode, P c = true) : L.all P = true := by
  refine List.all_eq_true.mpr fun c hc => ?_
  have h := List.all_eq_true.mp h1 c hc
  rcases Bool.eq_false_or_eq_true (isCode c) with hi | hi
  · exact h2 c (List.mem_filter.mpr ⟨hc, hi⟩)
  · simpa [hi] using h
set_option maxRecDepth 65536 in
theorem w_c0 : (Jvm.Cond.code x code maxLocals ret).before args0 about1 = true := code_word (m := ⟨1, 1⟩) (meth := k1m1) (c := k1c1) (by decide +kernel) rfl rfl rfl (by decide +kernel)
set_option maxRecDepth 65536 in
theorem w_c1 : (Jvm.Cond.code ({ cls := "com/example/reevemark/reevemark/connectors/ldap/LdapEscapeFilterValuePinLaw", name := "pick", desc := "(I)C" } : Jvm.MethodName) method_4_code (2 : Nat) (Option.some Jvm.ClassFile.FieldType.char)).before args0 about1 = true := code_word (m := ⟨1, 3⟩) (meth := k1m3) (c := k1c3) (by decide +kernel) rfl rfl rfl (by decide +kernel)
set_option maxRecDepth 65536 in
theorem w_c2 : (Jvm.Cond.code ({ cls := "java/lang/String", name := "<init>", desc := "([C)V" } : Jvm.MethodName) jdk_42_method_3_code (2 : Nat) (Option.none : Option Jvm.ClassFile.FieldType)).before args0 about1 = true := code_word (m := ⟨7, 1⟩) (meth := k7m1) (c := k7c1) (by decide +kernel) rfl rfl rfl (by decide +kernel)
set_option maxRecDepth 65536 in
theorem w_c3 : (Jvm.Cond.code ({ cls := "java/lang/String", name := "<init>", desc := "([CIILjava/lang/Void;)V" } : Jvm.MethodName) jdk_42_method_149_code (6 : Nat) (Option.none : Option Jvm.ClassFile.FieldType)).before args0 about1 = true := code_word (m := ⟨7, 6⟩) (meth := k7m6) (c := k7c6) (by decide +kernel) rfl rfl rfl (by decide +kernel)
set_option maxRecDepth 65536 in
theorem w_c4 : (Jvm.Cond.code ({ cls := "java/lang/Object", name := "<init>", desc := "()V" } : Jvm.MethodName) object_method_1_code (1 : Nat) (Option.none : Option Jvm.ClassFile.FieldType)).before args0 about1 = true := code_word (m := ⟨0, 0⟩) (meth := k0m0) (c := k0c0) (by decide +kernel) rfl rfl rfl (by decide +kernel)
set_option maxRecDepth 65536 in
theorem w_c5 : (Jvm.Cond.code ({ cls := "com/example/reevemark/reevemark/connectors/ldap/LdapEscape", name := "filterValue", desc := "(Ljava/lang/String;)Ljava/lang/String;" } : Jvm.MethodName) prog_3_method_3_code (4 : Nat) (Option.some (Jvm.ClassFile.FieldType.object "java/lang/String"))).before args0 about1 = true := code_word (m := ⟨8, 1⟩) (meth := k8m1) (c := k8c1) (by decide +kernel) rfl rfl rfl (by decide +kernel)
set_option maxRecDepth 65536 in
theorem w_c6 : (Jvm.Cond.code ({ cls := "java/lang/String", name := "length", desc := "()I" } : Jvm.MethodName) jdk_42_method_54_code (1 : Nat) (Option.some Jvm.ClassFile.FieldType.int)).before args0 about1 = true := code_word (m := ⟨7, 3⟩) (meth := k7m3) (c := k7c3) (by decide +kernel) rfl rfl rfl (by decide +kernel)
set_option maxRecDepth 65536 in
theorem w_c7 : (Jvm.Cond.code ({ cls := "java/lang/String", name := "coder", desc := "()B" } : Jvm.MethodName) jdk_42_method_152_code (1 : Nat) (Option.some Jvm.ClassFile.FieldType.byte)).before args0 about1 = true := code_word (m := ⟨7, 8⟩) (meth := k7m8) (c := k7c8) (by decide +kernel) rfl rfl rfl (by decide +kernel)
set_option maxRecDepth 65536 in
theorem w_c8 : (Jvm.Cond.code ({ cls := "java/lang/StringBuilder", name := "<init>", desc := "(I)V" } : Jvm.MethodName) jdk_67_method_2_code (2 : Nat) (Option.none : Option Jvm.ClassFile.FieldType)).before args0 about1 = true := code_word (m := ⟨11, 1⟩) (meth := k11m1) (c := k11c1) (by decide +kernel) rfl rfl rfl (by decide +kernel)
set_option maxRecDepth 65536 in
theorem w_c9 : (Jvm.Cond.code ({ cls := "java/lang/AbstractStringBuilder", name := "<init>", desc := "(I)V" } : Jvm.MethodName) jdk_68_method_2_code (2 : Nat) (Option.none : Option Jvm.ClassFile.FieldType)).before args0 about1 = true := code_word (m := ⟨10, 1⟩) (meth := k10m1) (c := k10c1) (by decide +kernel) rfl rfl rfl (by decide +kernel)
set_option maxRecDepth 65536 in
theorem w_c10 : (Jvm.Cond.code ({ cls := "java/lang/StringBuilder", name := "toString", desc := "()Ljava/lang/String;" } : Jvm.MethodName) jdk_67_method_42_code (1 : Nat) (Option.some (Jvm.ClassFile.FieldType.object "java/lang/String"))).before args0 about1 = true := code_word (m := ⟨11, 4⟩) (meth := k11m4) (c := k11c4) (by decide +kernel) rfl rfl rfl (by decide +kernel)
set_option maxRecDepth 65536 in
theorem w_c11 : (Jvm.Cond.code ({ cls := "java/lang/String", name := "<init>", desc := "(Ljava/lang/StringBuilder;)V" } : Jvm.MethodName) jdk_42_method_53_code (2 : Nat) (Option.none : Option Jvm.ClassFile.FieldType)).before args0 about1 = true := code_word (m := ⟨7, 2⟩) (meth := k7m2) (c := k7c2) (by decide +kernel) rfl rfl rfl (by decide +kernel)
set_option maxRecDepth 65536 in
theorem w_c12 : (Jvm.Cond.code ({ cls := "java/lang/String", name := "<init>", desc := "(Ljava/lang/AbstractStringBuilder;Ljava/lang/Void;)V" } : Jvm.MethodName) jdk_42_method_150_code (5 : Nat) (Option.none : Option Jvm.ClassFile.FieldType)).before args0 about1 = true := code_word (m := ⟨7, 7⟩) (meth := k7m7) (c := k7c7) (by decide +kernel) rfl rfl rfl (by decide +kernel)
set_option maxRecDepth 65536 in
theorem w_c13 : (Jvm.Cond.code ({ cls := "java/lang/AbstractStringBuilder", name := "getValue", desc := "()[B" } : Jvm.MethodName) jdk_68_method_64_code (1 : Nat) (Option.some (Jvm.ClassFile.FieldType.array Jvm.ClassFile.FieldType.byte))).before args0 about1 = true := code_word (m := ⟨10, 7⟩) (meth := k10m7) (c := k10c7) (by decide +kernel) rfl rfl rfl (by decide +kernel)
set_option maxRecDepth 65536 in
theorem w_c14 : (Jvm.Cond.code ({ cls := "java/lang/StringBuilder", name := "length", desc := "()I" } : Jvm.MethodName) jdk_67_method_93_code (1 : Nat) (Option.some Jvm.ClassFile.FieldType.int)).before args0 about1 = true := code_word (m := ⟨11, 5⟩) (meth := k11m5) (c := k11c5) (by decide +kernel) rfl rfl rfl (by decide +kernel)
set_option maxRecDepth 65536 in
theorem w_c15 : (Jvm.Cond.code ({ cls := "java/lang/AbstractStringBuilder", name := "length", desc := "()I" } : Jvm.MethodName) jdk_68_method_6_code (1 : Nat) (Option.some Jvm.ClassFile.FieldType.int)).before args0 about1 = true := code_word (m := ⟨10, 2⟩) (meth := k10m2) (c := k10c2) (by decide +kernel) rfl rfl rfl (by decide +kernel)
set_option maxRecDepth 65536 in
theorem w_c16 : (Jvm.Cond.code ({ cls := "java/lang/AbstractStringBuilder", name := "isLatin1", desc := "()Z" } : Jvm.MethodName) jdk_68_method_68_code (1 : Nat) (Option.some Jvm.ClassFile.FieldType.boolean)).before args0 about1 = true := code_word (m := ⟨10, 8⟩) (meth := k10m8) (c := k10c8) (by decide +kernel) rfl rfl rfl (by decide +kernel)
set_option maxRecDepth 65536 in
theorem w_c17 : (Jvm.Cond.code ({ cls := "java/util/Arrays", name := "copyOfRange", desc := "([BII)[B" } : Jvm.MethodName) jdk_65_method_132_code (3 : Nat) (Option.some (Jvm.ClassFile.FieldType.array Jvm.ClassFile.FieldType.byte))).before args0 about1 = true := code_word (m := ⟨12, 2⟩) (meth := k12m2) (c := k12c2) (by decide +kernel) rfl rfl rfl (by decide +kernel)
set_option maxRecDepth 65536 in
theorem w_c18 : (Jvm.Cond.code ({ cls := "java/util/Arrays", name := "copyOfRangeByte", desc := "([BII)[B" } : Jvm.MethodName) jdk_65_method_133_code (5 : Nat) (Option.some (Jvm.ClassFile.FieldType.array Jvm.ClassFile.FieldType.byte))).before args0 about1 = true := code_word (m := ⟨12, 3⟩) (meth := k12m3) (c := k12c3) (by decide +kernel) rfl rfl rfl (by decide +kernel)
set_option maxRecDepth 65536 in
theorem w_c19 : (Jvm.Cond.code ({ cls := "java/util/Arrays", name := "checkLength", desc := "(II)V" } : Jvm.MethodName) jdk_65_method_131_code (2 : Nat) (Option.none : Option Jvm.ClassFile.FieldType)).before args0 about1 = true := code_word (m := ⟨12, 1⟩) (meth := k12m1) (c := k12c1) (by decide +kernel) rfl rfl rfl (by decide +kernel)
set_option maxRecDepth 65536 in
theorem w_c20 : (Jvm.Cond.code ({ cls := "java/lang/Math", name := "min", desc := "(II)I" } : Jvm.MethodName) jdk_29_method_69_code (2 : Nat) (Option.some Jvm.ClassFile.FieldType.int)).before args0 about1 = true := code_word (m := ⟨13, 1⟩) (meth := k13m1) (c := k13c1) (by decide +kernel) rfl rfl rfl (by decide +kernel)
set_option maxRecDepth 65536 in
theorem w_c21 : (Jvm.Cond.code ({ cls := "com/example/reevemark/reevemark/connectors/ldap/LdapEscapeFilterValuePinLaw", name := "at", desc := "(Ljava/lang/String;[CII)Z" } : Jvm.MethodName) method_3_code (4 : Nat) (Option.some Jvm.ClassFile.FieldType.boolean)).before args0 about1 = true := code_word (m := ⟨1, 2⟩) (meth := k1m2) (c := k1c2) (by decide +kernel) rfl rfl rfl (by decide +kernel)
set_option maxRecDepth 65536 in
theorem w_c22 : (Jvm.Cond.code ({ cls := "java/lang/StringUTF16", name := "compress", desc := "([CII)[B" } : Jvm.MethodName) jdk_52_method_16_code (6 : Nat) (Option.some (Jvm.ClassFile.FieldType.array Jvm.ClassFile.FieldType.byte))).before args0 about1 = true := code_word (m := ⟨15, 8⟩) (meth := k15m8) (c := k15c8) (by decide +kernel) rfl rfl rfl (by decide +kernel)
set_option maxRecDepth 65536 in
theorem w_c23 : (Jvm.Cond.code ({ cls := "java/lang/StringUTF16", name := "compress", desc := "([CI[BII)I" } : Jvm.MethodName) jdk_52_method_21_code (7 : Nat) (Option.some Jvm.ClassFile.FieldType.int)).before args0 about1 = true := code_word (m := ⟨15, 9⟩) (meth := k15m9) (c := k15c9) (by decide +kernel) rfl rfl rfl (by decide +kernel)
set_option maxRecDepth 65536 in
theorem w_c24 : (Jvm.Cond.code ({ cls := "java/lang/StringUTF16", name := "coderFromArrayLen", desc := "([BI)B" } : Jvm.MethodName) jdk_52_method_15_code (2 : Nat) (Option.some Jvm.ClassFile.FieldType.byte)).before args0 about1 = true := code_word (m := ⟨15, 7⟩) (meth := k15m7) (c := k15c7) (by decide +kernel) rfl rfl rfl (by decide +kernel)
set_option maxRecDepth 65536 in
theorem w_c25 : (Jvm.Cond.code ({ cls := "com/example/reevemark/reevemark/connectors/ldap/LdapEscapeFilterValuePinLaw", name := "put", desc := "([CIC)I" } : Jvm.MethodName) method_7_code (3 : Nat) (Option.some Jvm.ClassFile.FieldType.int)).before args0 about1 = true := code_word (m := ⟨1, 6⟩) (meth := k1m6) (c := k1c6) (by decide +kernel) rfl rfl rfl (by decide +kernel)
set_option maxRecDepth 65536 in
theorem w_c26 : (Jvm.Cond.code ({ cls := "com/example/reevemark/reevemark/connectors/ldap/LdapEscapeFilterValuePinLaw", name := "special", desc := "(C)Z" } : Jvm.MethodName) method_5_code (1 : Nat) (Option.some Jvm.ClassFile.FieldType.boolean)).before args0 about1 = true := code_word (m := ⟨1, 4⟩) (meth := k1m4) (c := k1c4) (by decide +kernel) rfl rfl rfl (by decide +kernel)
set_option maxRecDepth 65536 in
theorem w_c27 : (Jvm.Cond.code ({ cls := "com/example/reevemark/reevemark/connectors/ldap/LdapEscapeFilterValuePinLaw", name := "hex", desc := "(I)C" } : Jvm.MethodName) method_6_code (1 : Nat) (Option.some Jvm.ClassFile.FieldType.char)).before args0 about1 = true := code_word (m := ⟨1, 5⟩) (meth := k1m5) (c := k1c5) (by decide +kernel) rfl rfl rfl (by decide +kernel)
set_option maxRecDepth 65536 in
theorem w_c28 : (Jvm.Cond.code ({ cls := "java/lang/String", name := "charAt", desc := "(I)C" } : Jvm.MethodName) jdk_42_method_56_code (2 : Nat) (Option.some Jvm.ClassFile.FieldType.char)).before args0 about1 = true := code_word (m := ⟨7, 4⟩) (meth := k7m4) (c := k7c4) (by decide +kernel) rfl rfl rfl (by decide +kernel)
set_option maxRecDepth 65536 in
theorem w_c29 : (Jvm.Cond.code ({ cls := "java/lang/String", name := "isLatin1", desc := "()Z" } : Jvm.MethodName) jdk_42_method_154_code (1 : Nat) (Option.some Jvm.ClassFile.FieldType.boolean)).before args0 about1 = true := code_word (m := ⟨7, 9⟩) (meth := k7m9) (c := k7c9) (by decide +kernel) rfl rfl rfl (by decide +kernel)
set_option maxRecDepth 65536 in
theorem w_c30 : (Jvm.Cond.code ({ cls := "java/lang/StringLatin1", name := "charAt", desc := "([BI)C" } : Jvm.MethodName) jdk_43_method_2_code (2 : Nat) (Option.some Jvm.ClassFile.FieldType.char)).before args0 about1 = true := code_word (m := ⟨16, 1⟩) (meth := k16m1) (c := k16c1) (by decide +kernel) rfl rfl rfl (by decide +kernel)
set_option maxRecDepth 65536 in
theorem w_c31 : (Jvm.Cond.code ({ cls := "java/lang/String", name := "checkIndex", desc := "(II)V" } : Jvm.MethodName) jdk_42_method_155_code (2 : Nat) (Option.none : Option Jvm.ClassFile.FieldType)).before args0 about1 = true := code_word (m := ⟨7, 10⟩) (meth := k7m10) (c := k7c10) (by decide +kernel) rfl rfl rfl (by decide +kernel)
set_option maxRecDepth 65536 in
theorem w_c32 : (Jvm.Cond.code ({ cls := "jdk/internal/util/Preconditions", name := "checkIndex", desc := "(IILjava/util/function/BiFunction;)I" } : Jvm.MethodName) jdk_41_method_11_code (3 : Nat) (Option.some Jvm.ClassFile.FieldType.int)).before args0 about1 = true := code_word (m := ⟨17, 1⟩) (meth := k17m1) (c := k17c1) (by decide +kernel) rfl rfl rfl (by decide +kernel)
set_option maxRecDepth 65536 in
theorem w_c33 : (Jvm.Cond.code ({ cls := "java/lang/StringBuilder", name := "append", desc := "(C)Ljava/lang/StringBuilder;" } : Jvm.MethodName) jdk_67_method_14_code (2 : Nat) (Option.some (Jvm.ClassFile.FieldType.object "java/lang/StringBuilder"))).before args0 about1 = true := code_word (m := ⟨11, 3⟩) (meth := k11m3) (c := k11c3) (by decide +kernel) rfl rfl rfl (by decide +kernel)
set_option maxRecDepth 65536 in
theorem w_c34 : (Jvm.Cond.code ({ cls := "java/lang/AbstractStringBuilder", name := "append", desc := "(C)Ljava/lang/AbstractStringBuilder;" } : Jvm.MethodName) jdk_68_method_31_code (2 : Nat) (Option.some (Jvm.ClassFile.FieldType.object "java/lang/AbstractStringBuilder"))).before args0 about1 = true := code_word (m := ⟨10, 6⟩) (meth := k10m6) (c := k10c6) (by decide +kernel) rfl rfl rfl (by decide +kernel)
set_option maxRecDepth 65536 in
theorem w_c35 : (Jvm.Cond.code ({ cls := "java/lang/AbstractStringBuilder", name := "ensureCapacityInternal", desc := "(I)V" } : Jvm.MethodName) jdk_68_method_9_code (3 : Nat) (Option.none : Option Jvm.ClassFile.FieldType)).before args0 about1 = true := code_word (m := ⟨10, 3⟩) (meth := k10m3) (c := k10c3) (by decide +kernel) rfl rfl rfl (by decide +kernel)
set_option maxRecDepth 65536 in
theorem w_c36 : (Jvm.Cond.code ({ cls := "java/lang/StringLatin1", name := "canEncode", desc := "(C)Z" } : Jvm.MethodName) jdk_43_method_3_code (1 : Nat) (Option.some Jvm.ClassFile.FieldType.boolean)).before args0 about1 = true := code_word (m := ⟨16, 2⟩) (meth := k16m2) (c := k16c2) (by decide +kernel) rfl rfl rfl (by decide +kernel)
set_option maxRecDepth 65536 in
theorem w_c37 : (Jvm.Cond.code ({ cls := "java/lang/StringBuilder", name := "append", desc := "(Ljava/lang/String;)Ljava/lang/StringBuilder;" } : Jvm.MethodName) jdk_67_method_7_code (2 : Nat) (Option.some (Jvm.ClassFile.FieldType.object "java/lang/StringBuilder"))).before args0 about1 = true := code_word (m := ⟨11, 2⟩) (meth := k11m2) (c := k11c2) (by decide +kernel) rfl rfl rfl (by decide +kernel)
set_option maxRecDepth 65536 in
theorem w_c38 : (Jvm.Cond.code ({ cls := "java/lang/AbstractStringBuilder", name := "append", desc := "(Ljava/lang/String;)Ljava/lang/AbstractStringBuilder;" } : Jvm.MethodName) jdk_68_method_22_code (3 : Nat) (Option.some (Jvm.ClassFile.FieldType.object "java/lang/AbstractStringBuilder"))).before args0 about1 = true := code_word (m := ⟨10, 5⟩) (meth := k10m5) (c := k10c5) (by decide +kernel) rfl rfl rfl (by decide +kernel)
set_option maxRecDepth 65536 in
theorem w_c39 : (Jvm.Cond.code ({ cls := "java/lang/AbstractStringBuilder", name := "putStringAt", desc := "(ILjava/lang/String;)V" } : Jvm.MethodName) jdk_68_method_73_code (3 : Nat) (Option.none : Option Jvm.ClassFile.FieldType)).before args0 about1 = true := code_word (m := ⟨10, 10⟩) (meth := k10m10) (c := k10c10) (by decide +kernel) rfl rfl rfl (by decide +kernel)
set_option maxRecDepth 65536 in
theorem w_c40 : (Jvm.Cond.code ({ cls := "java/lang/AbstractStringBuilder", name := "inflateIfNeededFor", desc := "(Ljava/lang/String;)V" } : Jvm.MethodName) jdk_68_method_71_code (2 : Nat) (Option.none : Option Jvm.ClassFile.FieldType)).before args0 about1 = true := code_word (m := ⟨10, 9⟩) (meth := k10m9) (c := k10c9) (by decide +kernel) rfl rfl rfl (by decide +kernel)
set_option maxRecDepth 65536 in
theorem w_c41 : (Jvm.Cond.code ({ cls := "java/lang/String", name := "getBytes", desc := "([BIB)V" } : Jvm.MethodName) jdk_42_method_147_code (4 : Nat) (Option.none : Option Jvm.ClassFile.FieldType)).before args0 about1 = true := code_word (m := ⟨7, 5⟩) (meth := k7m5) (c := k7c5) (by decide +kernel) rfl rfl rfl (by decide +kernel)
set_option maxRecDepth 65536 in
theorem w_c42 : (Jvm.Cond.code ({ cls := "java/lang/StringUTF16", name := "toBytes", desc := "([CII)[B" } : Jvm.MethodName) jdk_52_method_14_code (5 : Nat) (Option.some (Jvm.ClassFile.FieldType.array Jvm.ClassFile.FieldType.byte))).before args0 about1 = true := code_word (m := ⟨15, 6⟩) (meth := k15m6) (c := k15c6) (by decide +kernel) rfl rfl rfl (by decide +kernel)
set_option maxRecDepth 65536 in
theorem w_c43 : (Jvm.Cond.code ({ cls := "java/lang/StringUTF16", name := "newBytesFor", desc := "(I)[B" } : Jvm.MethodName) jdk_52_method_2_code (1 : Nat) (Option.some (Jvm.ClassFile.FieldType.array Jvm.ClassFile.FieldType.byte))).before args0 about1 = true := code_word (m := ⟨15, 1⟩) (meth := k15m1) (c := k15c1) (by decide +kernel) rfl rfl rfl (by decide +kernel)
set_option maxRecDepth 65536 in
theorem w_c44 : (Jvm.Cond.code ({ cls := "java/lang/StringUTF16", name := "newBytesLength", desc := "(I)I" } : Jvm.MethodName) jdk_52_method_3_code (1 : Nat) (Option.some Jvm.ClassFile.FieldType.int)).before args0 about1 = true := code_word (m := ⟨15, 2⟩) (meth := k15m2) (c := k15c2) (by decide +kernel) rfl rfl rfl (by decide +kernel)
set_option maxRecDepth 65536 in
theorem w_c45 : (Jvm.Cond.code ({ cls := "java/lang/StringUTF16", name := "putChar", desc := "([BII)V" } : Jvm.MethodName) jdk_52_method_4_code (3 : Nat) (Option.none : Option Jvm.ClassFile.FieldType)).before args0 about1 = true := code_word (m := ⟨15, 3⟩) (meth := k15m3) (c := k15c3) (by decide +kernel) rfl rfl rfl (by decide +kernel)
set_option maxRecDepth 65536 in
theorem w_c46 : (Jvm.Cond.code ({ cls := "java/lang/StringUTF16", name := "getChar", desc := "([BI)C" } : Jvm.MethodName) jdk_52_method_5_code (2 : Nat) (Option.some Jvm.ClassFile.FieldType.char)).before args0 about1 = true := code_word (m := ⟨15, 4⟩) (meth := k15m4) (c := k15c4) (by decide +kernel) rfl rfl rfl (by decide +kernel)
set_option maxRecDepth 65536 in
theorem w_c47 : (Jvm.Cond.code ({ cls := "java/lang/StringUTF16", name := "charAt", desc := "([BI)C" } : Jvm.MethodName) jdk_52_method_83_code (2 : Nat) (Option.some Jvm.ClassFile.FieldType.char)).before args0 about1 = true := code_word (m := ⟨15, 11⟩) (meth := k15m11) (c := k15c11) (by decide +kernel) rfl rfl rfl (by decide +kernel)
set_option maxRecDepth 65536 in
theorem w_c48 : (Jvm.Cond.code ({ cls := "java/lang/StringUTF16", name := "checkIndex", desc := "(I[B)V" } : Jvm.MethodName) jdk_52_method_91_code (2 : Nat) (Option.none : Option Jvm.ClassFile.FieldType)).before args0 about1 = true := code_word (m := ⟨15, 13⟩) (meth := k15m13) (c := k15c13) (by decide +kernel) rfl rfl rfl (by decide +kernel)
set_option maxRecDepth 65536 in
theorem w_c49 : (Jvm.Cond.code ({ cls := "java/lang/StringUTF16", name := "length", desc := "([B)I" } : Jvm.MethodName) jdk_52_method_6_code (1 : Nat) (Option.some Jvm.ClassFile.FieldType.int)).before args0 about1 = true := code_word (m := ⟨15, 5⟩) (meth := k15m5) (c := k15c5) (by decide +kernel) rfl rfl rfl (by decide +kernel)
set_option maxRecDepth 65536 in
theorem w_c50 : (Jvm.Cond.code ({ cls := "java/lang/AbstractStringBuilder", name := "inflate", desc := "()V" } : Jvm.MethodName) jdk_68_method_11_code (2 : Nat) (Option.none : Option Jvm.ClassFile.FieldType)).before args0 about1 = true := code_word (m := ⟨10, 4⟩) (meth := k10m4) (c := k10c4) (by decide +kernel) rfl rfl rfl (by decide +kernel)
set_option maxRecDepth 65536 in
theorem w_c51 : (Jvm.Cond.code ({ cls := "java/lang/StringLatin1", name := "inflate", desc := "([BI[BII)V" } : Jvm.MethodName) jdk_43_method_50_code (5 : Nat) (Option.none : Option Jvm.ClassFile.FieldType)).before args0 about1 = true := code_word (m := ⟨16, 3⟩) (meth := k16m3) (c := k16c3) (by decide +kernel) rfl rfl rfl (by decide +kernel)
set_option maxRecDepth 65536 in
theorem w_c52 : (Jvm.Cond.code ({ cls := "java/lang/StringUTF16", name := "inflate", desc := "([BI[BII)V" } : Jvm.MethodName) jdk_52_method_86_code (6 : Nat) (Option.none : Option Jvm.ClassFile.FieldType)).before args0 about1 = true := code_word (m := ⟨15, 12⟩) (meth := k15m12) (c := k15c12) (by decide +kernel) rfl rfl rfl (by decide +kernel)
set_option maxRecDepth 65536 in
theorem w_c53 : (Jvm.Cond.code ({ cls := "java/lang/StringUTF16", name := "checkBoundsOffCount", desc := "(II[B)V" } : Jvm.MethodName) jdk_52_method_94_code (3 : Nat) (Option.none : Option Jvm.ClassFile.FieldType)).before args0 about1 = true := code_word (m := ⟨15, 14⟩) (meth := k15m14) (c := k15c14) (by decide +kernel) rfl rfl rfl (by decide +kernel)
set_option maxRecDepth 65536 in
theorem w_c54 : (Jvm.Cond.code ({ cls := "java/lang/String", name := "checkBoundsOffCount", desc := "(III)I" } : Jvm.MethodName) jdk_42_method_157_code (3 : Nat) (Option.some Jvm.ClassFile.FieldType.int)).before args0 about1 = true := code_word (m := ⟨7, 11⟩) (meth := k7m11) (c := k7c11) (by decide +kernel) rfl rfl rfl (by decide +kernel)
set_option maxRecDepth 65536 in
theorem w_c55 : (Jvm.Cond.code ({ cls := "jdk/internal/util/Preconditions", name := "checkFromIndexSize", desc := "(IIILjava/util/function/BiFunction;)I" } : Jvm.MethodName) jdk_41_method_13_code (4 : Nat) (Option.some Jvm.ClassFile.FieldType.int)).before args0 about1 = true := code_word (m := ⟨17, 2⟩) (meth := k17m2) (c := k17c2) (by decide +kernel) rfl rfl rfl (by decide +kernel)
set_option maxRecDepth 65536 in
theorem w_c56 : (Jvm.Cond.code ({ cls := "java/lang/StringUTF16", name := "putCharSB", desc := "([BII)V" } : Jvm.MethodName) jdk_52_method_71_code (3 : Nat) (Option.none : Option Jvm.ClassFile.FieldType)).before args0 about1 = true := code_word (m := ⟨15, 10⟩) (meth := k15m10) (c := k15c10) (by decide +kernel) rfl rfl rfl (by decide +kernel)
def codes1 : List Jvm.Cond := [Jvm.Cond.code x code maxLocals ret, Jvm.Cond.code ({ cls := "com/example/reevemark/reevemark/connectors/ldap/LdapEscapeFilterValuePinLaw", name := "pick", desc := "(I)C" } : Jvm.MethodName) method_4_code (2 : Nat) (Option.some Jvm.ClassFile.FieldType.char), Jvm.Cond.code ({ cls := "java/lang/String", name := "<init>", desc := "([C)V" } : Jvm.MethodName) jdk_42_method_3_code (2 : Nat) (Option.none : Option Jvm.ClassFile.FieldType), Jvm.Cond.code ({ cls := "java/lang/String", name := "<init>", desc := "([CIILjava/lang/Void;)V" } : Jvm.MethodName) jdk_42_method_149_code (6 : Nat) (Option.none : Option Jvm.ClassFile.FieldType), Jvm.Cond.code ({ cls := "java/lang/Object", name := "<init>", desc := "()V" } : Jvm.MethodName) object_method_1_code (1 : Nat) (Option.none : Option Jvm.ClassFile.FieldType), Jvm.Cond.code ({ cls := "com/example/reevemark/reevemark/connectors/ldap/LdapEscape", name := "filterValue", desc := "(Ljava/lang/String;)Ljava/lang/String;" } : Jvm.MethodName) prog_3_method_3_code (4 : Nat) (Option.some (Jvm.ClassFile.FieldType.object "java/lang/String")), Jvm.Cond.code ({ cls := "java/lang/String", name := "length", desc := "()I" } : Jvm.MethodName) jdk_42_method_54_code (1 : Nat) (Option.some Jvm.ClassFile.FieldType.int), Jvm.Cond.code ({ cls := "java/lang/String", name := "coder", desc := "()B" } : Jvm.MethodName) jdk_42_method_152_code (1 : Nat) (Option.some Jvm.ClassFile.FieldType.byte), Jvm.Cond.code ({ cls := "java/lang/StringBuilder", name := "<init>", desc := "(I)V" } : Jvm.MethodName) jdk_67_method_2_code (2 : Nat) (Option.none : Option Jvm.ClassFile.FieldType), Jvm.Cond.code ({ cls := "java/lang/AbstractStringBuilder", name := "<init>", desc := "(I)V" } : Jvm.MethodName) jdk_68_method_2_code (2 : Nat) (Option.none : Option Jvm.ClassFile.FieldType), Jvm.Cond.code ({ cls := "java/lang/StringBuilder", name := "toString", desc := "()Ljava/lang/String;" } : Jvm.MethodName) jdk_67_method_42_code (1 : Nat) (Option.some (Jvm.ClassFile.FieldType.object "java/lang/String")), Jvm.Cond.code ({ cls := "java/lang/String", name := "<init>", desc := "(Ljava/lang/StringBuilder;)V" } : Jvm.MethodName) jdk_42_method_53_code (2 : Nat) (Option.none : Option Jvm.ClassFile.FieldType), Jvm.Cond.code ({ cls := "java/lang/String", name := "<init>", desc := "(Ljava/lang/AbstractStringBuilder;Ljava/lang/Void;)V" } : Jvm.MethodName) jdk_42_method_150_code (5 : Nat) (Option.none : Option Jvm.ClassFile.FieldType), Jvm.Cond.code ({ cls := "java/lang/AbstractStringBuilder", name := "getValue", desc := "()[B" } : Jvm.MethodName) jdk_68_method_64_code (1 : Nat) (Option.some (Jvm.ClassFile.FieldType.array Jvm.ClassFile.FieldType.byte)), Jvm.Cond.code ({ cls := "java/lang/StringBuilder", name := "length", desc := "()I" } : Jvm.MethodName) jdk_67_method_93_code (1 : Nat) (Option.some Jvm.ClassFile.FieldType.int), Jvm.Cond.code ({ cls := "java/lang/AbstractStringBuilder", name := "length", desc := "()I" } : Jvm.MethodName) jdk_68_method_6_code (1 : Nat) (Option.some Jvm.ClassFile.FieldType.int), Jvm.Cond.code ({ cls := "java/lang/AbstractStringBuilder", name := "isLatin1", desc := "()Z" } : Jvm.MethodName) jdk_68_method_68_code (1 : Nat) (Option.some Jvm.ClassFile.FieldType.boolean), Jvm.Cond.code ({ cls := "java/util/Arrays", name := "copyOfRange", desc := "([BII)[B" } : Jvm.MethodName) jdk_65_method_132_code (3 : Nat) (Option.some (Jvm.ClassFile.FieldType.array Jvm.ClassFile.FieldType.byte)), Jvm.Cond.code ({ cls := "java/util/Arrays", name := "copyOfRangeByte", desc := "([BII)[B" } : Jvm.MethodName) jdk_65_method_133_code (5 : Nat) (Option.some (Jvm.ClassFile.FieldType.array Jvm.ClassFile.FieldType.byte)), Jvm.Cond.code ({ cls := "java/util/Arrays", name := "checkLength", desc := "(II)V" } : Jvm.MethodName) jdk_65_method_131_code (2 : Nat) (Option.none : Option Jvm.ClassFile.FieldType), Jvm.Cond.code ({ cls := "java/lang/Math", name := "min", desc := "(II)I" } : Jvm.MethodName) jdk_29_method_69_code (2 : Nat) (Option.some Jvm.ClassFile.FieldType.int), Jvm.Cond.code ({ cls := "com/example/reevemark/reevemark/connectors/ldap/LdapEscapeFilterValuePinLaw", name := "at", desc := "(Ljava/lang/String;[CII)Z" } : Jvm.MethodName) method_3_code (4 : Nat) (Option.some Jvm.ClassFile.FieldType.boolean), Jvm.Cond.code ({ cls := "java/lang/StringUTF16", name := "compress", desc := "([CII)[B" } : Jvm.MethodName) jdk_52_method_16_code (6 : Nat) (Option.some (Jvm.ClassFile.FieldType.array Jvm.ClassFile.FieldType.byte)), Jvm.Cond.code ({ cls := "java/lang/StringUTF16", name := "compress", desc := "([CI[BII)I" } : Jvm.MethodName) jdk_52_method_21_code (7 : Nat) (Option.some Jvm.ClassFile.FieldType.int), Jvm.Cond.code ({ cls := "java/lang/StringUTF16", name := "coderFromArrayLen", desc := "([BI)B" } : Jvm.MethodName) jdk_52_method_15_code (2 : Nat) (Option.some Jvm.ClassFile.FieldType.byte), Jvm.Cond.code ({ cls := "com/example/reevemark/reevemark/connectors/ldap/LdapEscapeFilterValuePinLaw", name := "put", desc := "([CIC)I" } : Jvm.MethodName) method_7_code (3 : Nat) (Option.some Jvm.ClassFile.FieldType.int), Jvm.Cond.code ({ cls := "com/example/reevemark/reevemark/connectors/ldap/LdapEscapeFilterValuePinLaw", name := "special", desc := "(C)Z" } : Jvm.MethodName) method_5_code (1 : Nat) (Option.some Jvm.ClassFile.FieldType.boolean), Jvm.Cond.code ({ cls := "com/example/reevemark/reevemark/connectors/ldap/LdapEscapeFilterValuePinLaw", name := "hex", desc := "(I)C" } : Jvm.MethodName) method_6_code (1 : Nat) (Option.some Jvm.ClassFile.FieldType.char), Jvm.Cond.code ({ cls := "java/lang/String", name := "charAt", desc := "(I)C" } : Jvm.MethodName) jdk_42_method_56_code (2 : Nat) (Option.some Jvm.ClassFile.FieldType.char), Jvm.Cond.code ({ cls := "java/lang/String", name := "isLatin1", desc := "()Z" } : Jvm.MethodName) jdk_42_method_154_code (1 : Nat) (Option.some Jvm.ClassFile.FieldType.boolean), Jvm.Cond.code ({ cls := "java/lang/StringLatin1", name := "charAt", desc := "([BI)C" } : Jvm.MethodName) jdk_43_method_2_code (2 : Nat) (Option.some Jvm.ClassFile.FieldType.char), Jvm.Cond.code ({ cls := "java/lang/String", name := "checkIndex", desc := "(II)V" } : Jvm.MethodName) jdk_42_method_155_code (2 : Nat) (Option.none : Option Jvm.ClassFile.FieldType), Jvm.Cond.code ({ cls := "jdk/internal/util/Preconditions", name := "checkIndex", desc := "(IILjava/util/function/BiFunction;)I" } : Jvm.MethodName) jdk_41_method_11_code (3 : Nat) (Option.some Jvm.ClassFile.FieldType.int), Jvm.Cond.code ({ cls := "java/lang/StringBuilder", name := "append", desc := "(C)Ljava/lang/StringBuilder;" } : Jvm.MethodName) jdk_67_method_14_code (2 : Nat) (Option.some (Jvm.ClassFile.FieldType.object "java/lang/StringBuilder")), Jvm.Cond.code ({ cls := "java/lang/AbstractStringBuilder", name := "append", desc := "(C)Ljava/lang/AbstractStringBuilder;" } : Jvm.MethodName) jdk_68_method_31_code (2 : Nat) (Option.some (Jvm.ClassFile.FieldType.object "java/lang/AbstractStringBuilder")), Jvm.Cond.code ({ cls := "java/lang/AbstractStringBuilder", name := "ensureCapacityInternal", desc := "(I)V" } : Jvm.MethodName) jdk_68_method_9_code (3 : Nat) (Option.none : Option Jvm.ClassFile.FieldType), Jvm.Cond.code ({ cls := "java/lang/StringLatin1", name := "canEncode", desc := "(C)Z" } : Jvm.MethodName) jdk_43_method_3_code (1 : Nat) (Option.some Jvm.ClassFile.FieldType.boolean), Jvm.Cond.code ({ cls := "java/lang/StringBuilder", name := "append", desc := "(Ljava/lang/String;)Ljava/lang/StringBuilder;" } : Jvm.MethodName) jdk_67_method_7_code (2 : Nat) (Option.some (Jvm.ClassFile.FieldType.object "java/lang/StringBuilder")), Jvm.Cond.code ({ cls := "java/lang/AbstractStringBuilder", name := "append", desc := "(Ljava/lang/String;)Ljava/lang/AbstractStringBuilder;" } : Jvm.MethodName) jdk_68_method_22_code (3 : Nat) (Option.some (Jvm.ClassFile.FieldType.object "java/lang/AbstractStringBuilder")), Jvm.Cond.code ({ cls := "java/lang/AbstractStringBuilder", name := "putStringAt", desc := "(ILjava/lang/String;)V" } : Jvm.MethodName) jdk_68_method_73_code (3 : Nat) (Option.none : Option Jvm.ClassFile.FieldType), Jvm.Cond.code ({ cls := "java/lang/AbstractStringBuilder", name := "inflateIfNeededFor", desc := "(Ljava/lang/String;)V" } : Jvm.MethodName) jdk_68_method_71_code (2 : Nat) (Option.none : Option Jvm.ClassFile.FieldType), Jvm.Cond.code ({ cls := "java/lang/String", name := "getBytes", desc := "([BIB)V" } : Jvm.MethodName) jdk_42_method_147_code (4 : Nat) (Option.none : Option Jvm.ClassFile.FieldType), Jvm.Cond.code ({ cls := "java/lang/StringUTF16", name := "toBytes", desc := "([CII)[B" } : Jvm.MethodName) jdk_52_method_14_code (5 : Nat) (Option.some (Jvm.ClassFile.FieldType.array Jvm.ClassFile.FieldType.byte)), Jvm.Cond.code ({ cls := "java/lang/StringUTF16", name := "newBytesFor", desc := "(I)[B" } : Jvm.MethodName) jdk_52_method_2_code (1 : Nat) (Option.some (Jvm.ClassFile.FieldType.array Jvm.ClassFile.FieldType.byte)), Jvm.Cond.code ({ cls := "java/lang/StringUTF16", name := "newBytesLength", desc := "(I)I" } : Jvm.MethodName) jdk_52_method_3_code (1 : Nat) (Option.some Jvm.ClassFile.FieldType.int), Jvm.Cond.code ({ cls := "java/lang/StringUTF16", name := "putChar", desc := "([BII)V" } : Jvm.MethodName) jdk_52_method_4_code (3 : Nat) (Option.none : Option Jvm.ClassFile.FieldType), Jvm.Cond.code ({ cls := "java/lang/StringUTF16", name := "getChar", desc := "([BI)C" } : Jvm.MethodName) jdk_52_method_5_code (2 : Nat) (Option.some Jvm.ClassFile.FieldType.char), Jvm.Cond.code ({ cls := "java/lang/StringUTF16", name := "charAt", desc := "([BI)C" } : Jvm.MethodName) jdk_52_method_83_code (2 : Nat) (Option.some Jvm.ClassFile.FieldType.char), Jvm.Cond.code ({ cls := "java/lang/StringUTF16", name := "checkIndex", desc := "(I[B)V" } : Jvm.MethodName) jdk_52_method_91_code (2 : Nat) (Option.none : Option Jvm.ClassFile.FieldType), Jvm.Cond.code ({ cls := "java/lang/StringUTF16", name := "length", desc := "([B)I" } : Jvm.MethodName) jdk_52_method_6_code (1 : Nat) (Option.some Jvm.ClassFile.FieldType.int), Jvm.Cond.code ({ cls := "java/lang/AbstractStringBuilder", name := "inflate", desc := "()V" } : Jvm.MethodName) jdk_68_method_11_code (2 : Nat) (Option.none : Option Jvm.ClassFile.FieldType), Jvm.Cond.code ({ cls := "java/lang/StringLatin1", name := "inflate", desc := "([BI[BII)V" } : Jvm.MethodName) jdk_43_method_50_code (5 : Nat) (Option.none : Option Jvm.ClassFile.FieldType), Jvm.Cond.code ({ cls := "java/lang/StringUTF16", name := "inflate", desc := "([BI[BII)V" } : Jvm.MethodName) jdk_52_method_86_code (6 : Nat) (Option.none : Option Jvm.ClassFile.FieldType), Jvm.Cond.code ({ cls := "java/lang/StringUTF16", name := "checkBoundsOffCount", desc := "(II[B)V" } : Jvm.MethodName) jdk_52_method_94_code (3 : Nat) (Option.none : Option Jvm.ClassFile.FieldType), Jvm.Cond.code ({ cls := "java/lang/String", name := "checkBoundsOffCount", desc := "(III)I" } : Jvm.MethodName) jdk_42_method_157_code (3 : Nat) (Option.some Jvm.ClassFile.FieldType.int), Jvm.Cond.code ({ cls := "jdk/internal/util/Preconditions", name := "checkFromIndexSize", desc := "(IIILjava/util/function/BiFunction;)I" } : Jvm.MethodName) jdk_41_method_13_code (4 : Nat) (Option.some Jvm.ClassFile.FieldType.int), Jvm.Cond.code ({ cls := "java/lang/StringUTF16", name := "putCharSB", desc := "([BII)V" } : Jvm.MethodName) jdk_52_method_71_code (3 : Nat) (Option.none : Option Jvm.ClassFile.FieldType)]
set_option maxRecDepth 65536 in
theorem codes_eq : words1.filter isCode = codes1 := rfl
theorem w_codes : ∀ c ∈ words1.filter isCode, c.before args0 about1 = true := by
  rw [codes_eq]
  intro c hc
  simp only [codes1, List.mem_cons, List.not_mem_nil, or_false] at hc
  rcases hc with rfl | rfl | rfl | rfl | rfl | rfl | rfl | rfl | rfl | rfl | rfl | rfl | rfl | rfl | rfl | rfl | rfl | rfl | rfl | rfl | rfl | rfl | rfl | rfl | rfl | rfl | rfl | rfl | rfl | rfl | rfl | rfl | rfl | rfl | rfl | rfl | rfl | rfl | rfl | rfl | rfl | rfl | rfl | rfl | rfl | rfl | rfl | rfl | rfl | rfl | rfl | rfl | rfl | rfl | rfl | rfl | rfl
  · exact w_c0
  · exact w_c1
  · exact w_c2
  · exact w_c3
  · exact w_c4
  · exact w_c5
  · exact w_c6
  · exact w_c7
  · exact w_c8
  · exact w_c9
  · exact w_c10
  · exact w_c11
  · exact w_c12
  · exact w_c13
  · exact w_c14
  · exact w_c15
  · exact w_c16
  · exact w_c17
  · exact w_c18
  · exact w_c19
  · exact w_c20
  · exact w_c21
  · exact w_c22
  · exact w_c23
  · exact w_c24
  · exact w_c25
  · exact w_c26
  · exact w_c27
  · exact w_c28
  · exact w_c29
  · exact w_c30
  · exact w_c31
  · exact w_c32
  · exact w_c33
  · exact w_c34
  · exact w_c35
  · exact w_c36
  · exact w_c37
  · exact w_c38
  · exact w_c39
  · exact w_c40
  · exact w_c41
  · exact w_c42
  · exact w_c43
  · exact w_c44
  · exact w_c45
  · exact w_c46
  · exact w_c47
  · exact w_c48
  · exact w_c49
  · exact w_c50
  · exact w_c51
  · exact w_c52
  · exact w_c53
  · exact w_c54
  · exact w_c55
  · exact w_c56
set_option maxRecDepth 65536 in
theorem w_t1 : (words1.take 24).all (fun c => isCode c || c.before args0 about1) = true := by decide +kernel
set_option maxRecDepth 65536 in
theorem w_t2 : ((words1.drop 24).take 24).all (fun c => isCode c || c.before args0 about1) = true := by decide +kernel
set_option maxRecDepth 65536 in
theorem w_t3 : (((words1.drop 24).drop 24).take 24).all (fun c => isCode c || c.before args0 about1) = true := by decide +kernel
set_option maxRecDepth 65536 in
theorem w_t4 : ((((words1.drop 24).drop 24).drop 24).take 24).all (fun c => isCode c || c.before args0 about1) = true := by decide +kernel
set_option maxRecDepth 65536 in
theorem w_t5 : (((((words1.drop 24).drop 24).drop 24).drop 24).take 24).all (fun c => isCode c || c.before args0 about1) = true := by decide +kernel
set_option maxRecDepth 65536 in
theorem w_t6 : ((((((words1.drop 24).drop 24).drop 24).drop 24).drop 24).take 24).all (fun c => isCode c || c.before args0 about1) = true := by decide +kernel
set_option maxRecDepth 65536 in
theorem w_t7 : (((((((words1.drop 24).drop 24).drop 24).drop 24).drop 24).drop 24).take 24).all (fun c => isCode c || c.before args0 about1) = true := by decide +kernel
set_option maxRecDepth 65536 in
theorem w_t8 : ((((((((words1.drop 24).drop 24).drop 24).drop 24).drop 24).drop 24).drop 24).take 24).all (fun c => isCode c || c.before args0 about1) = true := by decide +kernel
set_option maxRecDepth 65536 in
theorem w_t9 : (((((((((words1.drop 24).drop 24).drop 24).drop 24).drop 24).drop 24).drop 24).drop 24).take 24).all (fun c => isCode c || c.before args0 about1) = true := by decide +kernel
set_option maxRecDepth 65536 in
theorem w_t10 : ((((((((((words1.drop 24).drop 24).drop 24).drop 24).drop 24).drop 24).drop 24).drop 24).drop 24).take 24).all (fun c => isCode c || c.before args0 about1) = true := by decide +kernel
set_option maxRecDepth 65536 in
theorem w_t11 : ((((((((((words1.drop 24).drop 24).drop 24).drop 24).drop 24).drop 24).drop 24).drop 24).drop 24).drop 24).all (fun c => isCode c || c.before args0 about1) = true := by decide +kernel
theorem w_tables : (allAtoms (Jvm.Cond.code x code maxLocals ret :: tables_1)).before args0 about1 = true := by
  rw [allAtoms_all]
  show words1.all (fun c => c.before args0 about1) = true
  refine all_split ?_ w_codes
  rw [← List.take_append_drop 24 words1, List.all_append, w_t1, ← List.take_append_drop 24 (words1.drop 24), List.all_append, w_t2, ← List.take_append_drop 24 ((words1.drop 24).drop 24), List.all_append, w_t3, ← List.take_append_drop 24 (((words1.drop 24).drop 24).drop 24), List.all_append, w_t4, ← List.take_append_drop 24 ((((words1.drop 24).drop 24).drop 24).drop 24), List.all_append, w_t5, ← List.take_append_drop 24 (((((words1.drop 24).drop 24).drop 24).drop 24).drop 24), List.all_append, w_t6, ← List.take_append_drop 24 ((((((words1.drop 24).drop 24).drop 24).drop 24).drop 24).drop 24), List.all_append, w_t7, ← List.take_append_drop 24 (((((((words1.drop 24).drop 24).drop 24).drop 24).drop 24).drop 24).drop 24), List.all_append, w_t8, ← List.take_append_drop 24 ((((((((words1.drop 24).drop 24).drop 24).drop 24).drop 24).drop 24).drop 24).drop 24), List.all_append, w_t9, ← List.take_append_drop 24 (((((((((words1.drop 24).drop 24).drop 24).drop 24).drop 24).drop 24).drop 24).drop 24).drop 24), List.all_append, w_t10, w_t11]
  rfl
set_option maxRecDepth 65536 in
theorem w_rest : rest_1_c.before args0 about1 = true := by decide +kernel
set_option maxRecDepth 65536 in
theorem w_case : (Jvm.Cond.and given_1 narrow_1).before args0 about1 = true := by decide +kernel
set_option maxRecDepth 65536 in
theorem w_consts : constsHeld consts_1 about1 := Jvm.Lit.constsHeldB_iff.mp (by decide +kernel)
theorem w_applies : (headSpec (Jvm.Cond.code x code maxLocals ret :: tables_1) room_1).applies x e0.platform about1 = true :=
  (Spec.applies_iff w_frames).mpr ⟨w_running, w_runnable, w_alone, w_named, w_hears, w_ripe, w_room, w_tables⟩
theorem atStart : AtStart classFile x code maxLocals ret World_1 tables_1 room_1 Calls_1 rest_1 Pre_1 launch0 p0 e0 about1 theMethod args0 below0 :=
  ⟨lists_1, trivial, launch0.admits_env _ _ _, launch0.least_env, fairChoices_fair.cas, fairChoices_fair.clock, w_frames, w_args, w_heap, w_applies, ⟨w_consts, trivial⟩, w_rest, w_case⟩
end start1
theorem witness_1 : WitnessClaimed_1 := ⟨start1.p0, start1.e0, start1.about1, start1.theMethod, start1.args0, start1.below0, start1.atStart⟩
end Jvm.Pilot.@@N@@
