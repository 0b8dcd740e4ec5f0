import JvmDerived
import JvmDerived.Pilot.@@N@@Statement
import JvmDerived.Pilot.@@N@@Code
set_option linter.unusedVariables false
set_option linter.unusedSimpArgs false
namespace Jvm.Pilot.@@N@@
open Jvm Jvm.ClassFile Sem Op Lib Jvm.Free Jvm.Stand Jvm.LawKit Jvm.RoadKit Bundle Jvm.Pilot.@@N@@.Jvm.D

section Own
variable {p : Program} {l : Launch} {e : Env} {R : Room} {s : State} {m : MethodId} {args : Array Value} {below : List Frame} {meth : Method} {c : Code} {T : State} {locs : List Loc} {cells slots : Nat} {Z : State} {a0 : Array Value} {h : Heap} {own nm : String} {cd : ByteArray} {mx : Nat} {rt : Option FieldType} {G : State → Prop} {pc pc' : Nat} {Ls Ls' : Array Slot} {st : List Value}
/-- what a walk carries: the goal is closed under steps taken backwards; the body's own facts -/
def ow_K (p : Program) (e : Env) (below : List Frame) (s : State) (m : MethodId) (meth : Method) (c : Code) (Z : State) (own : String) (cd : ByteArray) (mx : Nat) (rt : Option FieldType) (nm : String) (G : State → Prop) : Prop :=
  (∀ A B, (∀ t, Steps p.tables e below B t → Steps p.tables e below A t) → G B → G A) ∧ p.tables.exec = Jvm.exec ∧ c.code = cd ∧ c.maxLocals = mx ∧ s.vm.findClass own = some m.cls ∧ Z.Warmed39 s.vm ∧ meth.sig.returnType = rt ∧ meth.locks = false ∧ meth.name = nm
/-- the goal of a body: it returns, and Q holds of what it returns, of the heap and of the places written -/
def ow_Gl (p : Program) (e : Env) (below : List Frame) (s : State) (Q : Option Value → Heap → List Loc → Prop) (ce sl : Nat) (S : State) : Prop :=
  ∃ s₂ o, Steps p.tables e below S s₂ ∧ s₂.status = .running ∧ Ended s₂ below o ∧ ∃ v L, o = .returned v ∧ Q v s₂.heap L ∧ FrameEnd s o s₂ L ce sl
theorem ow_Gl_bc {Q : Option Value → Heap → List Loc → Prop} {ce sl : Nat} : ∀ A B, (∀ t, Steps p.tables e below B t → Steps p.tables e below A t) → ow_Gl p e below s Q ce sl B → ow_Gl p e below s Q ce sl A := fun A B hs hG => by
  obtain ⟨s₂, o, h1, h2⟩ := hG
  exact ⟨s₂, o, hs _ h1, h2⟩
theorem ow_entry {Q : Option Value → Heap → List Loc → Prop} {ce sl : Nat} {n : Nat} {g : JFrame} (q : entryFrame m args n = g) (hG : ow_Gl p e below s Q ce sl (T.setTop g)) : ow_Gl p e below s Q ce sl (T.setTop (entryFrame m args n)) := q ▸ hG
theorem ow_ne {a b n : Nat} (h : b < n) (g : a = n) : b ≠ a := fun q => by omega
theorem ow_at {g : JFrame} (hG : G (T.setTop g)) : G (T.setTop g) := hG

theorem ow_iload (K : ow_K p e below s m meth c Z own cd mx rt nm G) (X : Stand p l e R s m args below meth c T locs cells slots) {k : Nat} (v : Int32) (hd : decode cd pc = .ok (.iload k, 2)) (hp : pc' = pc + 2) (hl : Ls[k]? = some (.val (.int v))) (hr : G (T.setTop (mkF m pc' Ls (.int v :: st)))) : G (T.setTop (mkF m pc Ls (st))) := by
  subst hp
  exact K.1 _ _ (fun t q => XS.iload X.here K.2.1 rfl (hb K.2.2.1 hd) hl q) hr
theorem ow_iloadN (K : ow_K p e below s m meth c Z own cd mx rt nm G) (X : Stand p l e R s m args below meth c T locs cells slots) {k : Fin 4} (v : Int32) (hd : decode cd pc = .ok (.iload_n k, 1)) (hp : pc' = pc + 1) (hl : Ls[k.val]? = some (.val (.int v))) (hr : G (T.setTop (mkF m pc' Ls (.int v :: st)))) : G (T.setTop (mkF m pc Ls (st))) := by
  subst hp
  exact K.1 _ _ (fun t q => XS.iloadN X.here K.2.1 rfl (hb K.2.2.1 hd) hl q) hr
theorem ow_lload (K : ow_K p e below s m meth c Z own cd mx rt nm G) (X : Stand p l e R s m args below meth c T locs cells slots) {k : Nat} (v : Int64) (hd : decode cd pc = .ok (.lload k, 2)) (hp : pc' = pc + 2) (hl : Ls[k]? = some (.val (.long v))) (hr : G (T.setTop (mkF m pc' Ls (.long v :: st)))) : G (T.setTop (mkF m pc Ls (st))) := by
  subst hp
  exact K.1 _ _ (fun t q => XT.lload X.here K.2.1 rfl (hb K.2.2.1 hd) hl q) hr
theorem ow_lloadN (K : ow_K p e below s m meth c Z own cd mx rt nm G) (X : Stand p l e R s m args below meth c T locs cells slots) {k : Fin 4} (v : Int64) (hd : decode cd pc = .ok (.lload_n k, 1)) (hp : pc' = pc + 1) (hl : Ls[k.val]? = some (.val (.long v))) (hr : G (T.setTop (mkF m pc' Ls (.long v :: st)))) : G (T.setTop (mkF m pc Ls (st))) := by
  subst hp
  exact K.1 _ _ (fun t q => XT.lloadN X.here K.2.1 rfl (hb K.2.2.1 hd) hl q) hr
theorem ow_aload (K : ow_K p e below s m meth c Z own cd mx rt nm G) (X : Stand p l e R s m args below meth c T locs cells slots) {k : Nat} (v : Addr) (hd : decode cd pc = .ok (.aload k, 2)) (hp : pc' = pc + 2) (hl : Ls[k]? = some (.val (.ref v))) (hr : G (T.setTop (mkF m pc' Ls (.ref v :: st)))) : G (T.setTop (mkF m pc Ls (st))) := by
  subst hp
  exact K.1 _ _ (fun t q => XS.aload X.here K.2.1 rfl (hb K.2.2.1 hd) hl rfl q) hr
theorem ow_aloadN (K : ow_K p e below s m meth c Z own cd mx rt nm G) (X : Stand p l e R s m args below meth c T locs cells slots) {k : Fin 4} (v : Addr) (hd : decode cd pc = .ok (.aload_n k, 1)) (hp : pc' = pc + 1) (hl : Ls[k.val]? = some (.val (.ref v))) (hr : G (T.setTop (mkF m pc' Ls (.ref v :: st)))) : G (T.setTop (mkF m pc Ls (st))) := by
  subst hp
  exact K.1 _ _ (fun t q => XS.aloadN X.here K.2.1 rfl (hb K.2.2.1 hd) hl rfl q) hr
theorem ow_istore (K : ow_K p e below s m meth c Z own cd mx rt nm G) (X : Stand p l e R s m args below meth c T locs cells slots) {k : Nat} {v : Int32} (hd : decode cd pc = .ok (.istore k, 2)) (hp : pc' = pc + 2) (hl : storeLocals Ls k (.int v) = some Ls') (hr : G (T.setTop (mkF m pc' Ls' (st)))) : G (T.setTop (mkF m pc Ls (.int v :: st))) := by
  subst hp
  exact K.1 _ _ (fun t q => XS.istore X.here K.2.1 rfl (hb K.2.2.1 hd) rfl hl q) hr
theorem ow_istoreN (K : ow_K p e below s m meth c Z own cd mx rt nm G) (X : Stand p l e R s m args below meth c T locs cells slots) {k : Fin 4} {v : Int32} (hd : decode cd pc = .ok (.istore_n k, 1)) (hp : pc' = pc + 1) (hl : storeLocals Ls k.val (.int v) = some Ls') (hr : G (T.setTop (mkF m pc' Ls' (st)))) : G (T.setTop (mkF m pc Ls (.int v :: st))) := by
  subst hp
  exact K.1 _ _ (fun t q => XS.istoreN X.here K.2.1 rfl (hb K.2.2.1 hd) rfl hl q) hr
theorem ow_lstore (K : ow_K p e below s m meth c Z own cd mx rt nm G) (X : Stand p l e R s m args below meth c T locs cells slots) {k : Nat} {v : Int64} (hd : decode cd pc = .ok (.lstore k, 2)) (hp : pc' = pc + 2) (hl : storeLocals Ls k (.long v) = some Ls') (hr : G (T.setTop (mkF m pc' Ls' (st)))) : G (T.setTop (mkF m pc Ls (.long v :: st))) := by
  subst hp
  exact K.1 _ _ (fun t q => XT.lstore X.here K.2.1 rfl (hb K.2.2.1 hd) rfl hl q) hr
theorem ow_lstoreN (K : ow_K p e below s m meth c Z own cd mx rt nm G) (X : Stand p l e R s m args below meth c T locs cells slots) {k : Fin 4} {v : Int64} (hd : decode cd pc = .ok (.lstore_n k, 1)) (hp : pc' = pc + 1) (hl : storeLocals Ls k.val (.long v) = some Ls') (hr : G (T.setTop (mkF m pc' Ls' (st)))) : G (T.setTop (mkF m pc Ls (.long v :: st))) := by
  subst hp
  exact K.1 _ _ (fun t q => XT.lstoreN X.here K.2.1 rfl (hb K.2.2.1 hd) rfl hl q) hr
theorem ow_astore (K : ow_K p e below s m meth c Z own cd mx rt nm G) (X : Stand p l e R s m args below meth c T locs cells slots) {k : Nat} {v : Addr} (hd : decode cd pc = .ok (.astore k, 2)) (hp : pc' = pc + 2) (hl : storeLocals Ls k (.ref v) = some Ls') (hr : G (T.setTop (mkF m pc' Ls' (st)))) : G (T.setTop (mkF m pc Ls (.ref v :: st))) := by
  subst hp
  exact K.1 _ _ (fun t q => XS.astore X.here K.2.1 rfl (hb K.2.2.1 hd) rfl rfl hl q) hr
theorem ow_astoreN (K : ow_K p e below s m meth c Z own cd mx rt nm G) (X : Stand p l e R s m args below meth c T locs cells slots) {k : Fin 4} {v : Addr} (hd : decode cd pc = .ok (.astore_n k, 1)) (hp : pc' = pc + 1) (hl : storeLocals Ls k.val (.ref v) = some Ls') (hr : G (T.setTop (mkF m pc' Ls' (st)))) : G (T.setTop (mkF m pc Ls (.ref v :: st))) := by
  subst hp
  exact K.1 _ _ (fun t q => XS.astoreN X.here K.2.1 rfl (hb K.2.2.1 hd) rfl rfl hl q) hr
theorem ow_iinc (K : ow_K p e below s m meth c Z own cd mx rt nm G) (X : Stand p l e R s m args below meth c T locs cells slots) {k : Nat} {i : Int} {x : Int32} (y v : Int32) (hd : decode cd pc = .ok (.iinc k i, 3)) (hp : pc' = pc + 3) (hy : Int32.ofInt i = y) (hx : Ls[k]? = some (.val (.int x))) (hv : x + y = v) (hl : storeLocals Ls k (.int v) = some Ls') (hr : G (T.setTop (mkF m pc' Ls' (st)))) : G (T.setTop (mkF m pc Ls (st))) := by
  subst hp
  exact K.1 _ _ (fun t q => XT.iincV X.here K.2.1 rfl y (hb K.2.2.1 hd) hy hx (hv ▸ hl) q) hr
theorem ow_iconst (K : ow_K p e below s m meth c Z own cd mx rt nm G) (X : Stand p l e R s m args below meth c T locs cells slots) {i : Int} (v : Int32) (hd : decode cd pc = .ok (.iconst i, 1)) (hp : pc' = pc + 1) (hv : Int32.ofInt i = v) (hr : G (T.setTop (mkF m pc' Ls (.int v :: st)))) : G (T.setTop (mkF m pc Ls (st))) := by
  subst hp
  exact K.1 _ _ (fun t q => XT.iconstV X.here K.2.1 rfl v (hb K.2.2.1 hd) hv q) hr
theorem ow_bipush (K : ow_K p e below s m meth c Z own cd mx rt nm G) (X : Stand p l e R s m args below meth c T locs cells slots) {i : Int} (v : Int32) (hd : decode cd pc = .ok (.bipush i, 2)) (hp : pc' = pc + 2) (hv : (Int8.ofInt i).toInt32 = v) (hr : G (T.setTop (mkF m pc' Ls (.int v :: st)))) : G (T.setTop (mkF m pc Ls (st))) := by
  subst hp
  exact K.1 _ _ (fun t q => XT.bipushV X.here K.2.1 rfl v (hb K.2.2.1 hd) hv q) hr
theorem ow_sipush (K : ow_K p e below s m meth c Z own cd mx rt nm G) (X : Stand p l e R s m args below meth c T locs cells slots) {i : Int} (v : Int32) (hd : decode cd pc = .ok (.sipush i, 3)) (hp : pc' = pc + 3) (hv : (Int16.ofInt i).toInt32 = v) (hr : G (T.setTop (mkF m pc' Ls (.int v :: st)))) : G (T.setTop (mkF m pc Ls (st))) := by
  subst hp
  exact K.1 _ _ (fun t q => XT.sipushV X.here K.2.1 rfl v (hb K.2.2.1 hd) hv q) hr
theorem ow_lconst (K : ow_K p e below s m meth c Z own cd mx rt nm G) (X : Stand p l e R s m args below meth c T locs cells slots) {k : Fin 2} (v : Int64) (hd : decode cd pc = .ok (.lconst k, 1)) (hp : pc' = pc + 1) (hv : Int64.ofNat k = v) (hr : G (T.setTop (mkF m pc' Ls (.long v :: st)))) : G (T.setTop (mkF m pc Ls (st))) := by
  subst hp
  exact K.1 _ _ (fun t q => XT.lconstV X.here K.2.1 rfl v (hb K.2.2.1 hd) hv q) hr
theorem ow_ldcI (K : ow_K p e below s m meth c Z own cd mx rt nm G) (X : Stand p l e R s m args below meth c T locs cells slots) {i : Nat} (v : Int32) (hd : decode cd pc = .ok (.ldc i, 2)) (hp : pc' = pc + 2) (w : (Jvm.Cond.constant own i v).before a0 Z = true) (hr : G (T.setTop (mkF m pc' Ls (.int v :: st)))) : G (T.setTop (mkF m pc Ls (st))) := by
  subst hp
  exact K.1 _ _ (fun t q => X.ldcI K.2.1 K.2.2.2.2.1 (mvT K.2.2.2.2.2.1 w) rfl (hb K.2.2.1 hd) q) hr
theorem ow_ldcWI (K : ow_K p e below s m meth c Z own cd mx rt nm G) (X : Stand p l e R s m args below meth c T locs cells slots) {i : Nat} (v : Int32) (hd : decode cd pc = .ok (.ldc_w i, 3)) (hp : pc' = pc + 3) (w : (Jvm.Cond.constant own i v).before a0 Z = true) (hr : G (T.setTop (mkF m pc' Ls (.int v :: st)))) : G (T.setTop (mkF m pc Ls (st))) := by
  subst hp
  exact K.1 _ _ (fun t q => X.ldcWI K.2.1 K.2.2.2.2.1 (mvT K.2.2.2.2.2.1 w) rfl (hb K.2.2.1 hd) q) hr
theorem ow_ldc2 (K : ow_K p e below s m meth c Z own cd mx rt nm G) (X : Stand p l e R s m args below meth c T locs cells slots) {i : Nat} (v : Int64) (hd : decode cd pc = .ok (.ldc2_w i, 3)) (hp : pc' = pc + 3) (w : (Jvm.Cond.constantLong own i v).before a0 Z = true) (hr : G (T.setTop (mkF m pc' Ls (.long v :: st)))) : G (T.setTop (mkF m pc Ls (st))) := by
  subst hp
  exact K.1 _ _ (fun t q => X.ldc2J K.2.1 K.2.2.2.2.1 (mvT K.2.2.2.2.2.1 w) rfl (hb K.2.2.1 hd) q) hr
theorem ow_iadd (K : ow_K p e below s m meth c Z own cd mx rt nm G) (X : Stand p l e R s m args below meth c T locs cells slots) {x y : Int32} (v : Int32) (hd : decode cd pc = .ok (.iadd, 1)) (hp : pc' = pc + 1) (hv : x + y = v) (hr : G (T.setTop (mkF m pc' Ls (.int v :: st)))) : G (T.setTop (mkF m pc Ls (.int y :: .int x :: st))) := by
  subst hp
  exact K.1 _ _ (fun t q => XS.iadd X.here K.2.1 rfl (hb K.2.2.1 hd) rfl (hv ▸ q)) hr
theorem ow_isub (K : ow_K p e below s m meth c Z own cd mx rt nm G) (X : Stand p l e R s m args below meth c T locs cells slots) {x y : Int32} (v : Int32) (hd : decode cd pc = .ok (.isub, 1)) (hp : pc' = pc + 1) (hv : x - y = v) (hr : G (T.setTop (mkF m pc' Ls (.int v :: st)))) : G (T.setTop (mkF m pc Ls (.int y :: .int x :: st))) := by
  subst hp
  exact K.1 _ _ (fun t q => XS.isub X.here K.2.1 rfl (hb K.2.2.1 hd) rfl (hv ▸ q)) hr
theorem ow_imul (K : ow_K p e below s m meth c Z own cd mx rt nm G) (X : Stand p l e R s m args below meth c T locs cells slots) {x y : Int32} (v : Int32) (hd : decode cd pc = .ok (.imul, 1)) (hp : pc' = pc + 1) (hv : x * y = v) (hr : G (T.setTop (mkF m pc' Ls (.int v :: st)))) : G (T.setTop (mkF m pc Ls (.int y :: .int x :: st))) := by
  subst hp
  exact K.1 _ _ (fun t q => XS.imul X.here K.2.1 rfl (hb K.2.2.1 hd) rfl (hv ▸ q)) hr
theorem ow_iand (K : ow_K p e below s m meth c Z own cd mx rt nm G) (X : Stand p l e R s m args below meth c T locs cells slots) {x y : Int32} (v : Int32) (hd : decode cd pc = .ok (.iand, 1)) (hp : pc' = pc + 1) (hv : x &&& y = v) (hr : G (T.setTop (mkF m pc' Ls (.int v :: st)))) : G (T.setTop (mkF m pc Ls (.int y :: .int x :: st))) := by
  subst hp
  exact K.1 _ _ (fun t q => XS.iand X.here K.2.1 rfl (hb K.2.2.1 hd) rfl (hv ▸ q)) hr
theorem ow_ixor (K : ow_K p e below s m meth c Z own cd mx rt nm G) (X : Stand p l e R s m args below meth c T locs cells slots) {x y : Int32} (v : Int32) (hd : decode cd pc = .ok (.ixor, 1)) (hp : pc' = pc + 1) (hv : x ^^^ y = v) (hr : G (T.setTop (mkF m pc' Ls (.int v :: st)))) : G (T.setTop (mkF m pc Ls (.int y :: .int x :: st))) := by
  subst hp
  exact K.1 _ _ (fun t q => XT.ixor X.here K.2.1 rfl (hb K.2.2.1 hd) rfl (hv ▸ q)) hr
theorem ow_ior (K : ow_K p e below s m meth c Z own cd mx rt nm G) (X : Stand p l e R s m args below meth c T locs cells slots) {x y : Int32} (v : Int32) (hd : decode cd pc = .ok (.ior, 1)) (hp : pc' = pc + 1) (hv : x ||| y = v) (hr : G (T.setTop (mkF m pc' Ls (.int v :: st)))) : G (T.setTop (mkF m pc Ls (.int y :: .int x :: st))) := by
  subst hp
  exact K.1 _ _ (fun t q => XT.ior X.here K.2.1 rfl (hb K.2.2.1 hd) rfl (hv ▸ q)) hr
theorem ow_ishl (K : ow_K p e below s m meth c Z own cd mx rt nm G) (X : Stand p l e R s m args below meth c T locs cells slots) {x y : Int32} (v : Int32) (hd : decode cd pc = .ok (.ishl, 1)) (hp : pc' = pc + 1) (hv : x <<< (y &&& 31) = v) (hr : G (T.setTop (mkF m pc' Ls (.int v :: st)))) : G (T.setTop (mkF m pc Ls (.int y :: .int x :: st))) := by
  subst hp
  exact K.1 _ _ (fun t q => XT.ishl X.here K.2.1 rfl (hb K.2.2.1 hd) rfl (hv ▸ q)) hr
theorem ow_ishr (K : ow_K p e below s m meth c Z own cd mx rt nm G) (X : Stand p l e R s m args below meth c T locs cells slots) {x y : Int32} (v : Int32) (hd : decode cd pc = .ok (.ishr, 1)) (hp : pc' = pc + 1) (hv : x >>> (y &&& 31) = v) (hr : G (T.setTop (mkF m pc' Ls (.int v :: st)))) : G (T.setTop (mkF m pc Ls (.int y :: .int x :: st))) := by
  subst hp
  exact K.1 _ _ (fun t q => XT.ishr X.here K.2.1 rfl (hb K.2.2.1 hd) rfl (hv ▸ q)) hr
theorem ow_iushr (K : ow_K p e below s m meth c Z own cd mx rt nm G) (X : Stand p l e R s m args below meth c T locs cells slots) {x y : Int32} (v : Int32) (hd : decode cd pc = .ok (.iushr, 1)) (hp : pc' = pc + 1) (hv : XT.ushr x y = v) (hr : G (T.setTop (mkF m pc' Ls (.int v :: st)))) : G (T.setTop (mkF m pc Ls (.int y :: .int x :: st))) := by
  subst hp
  exact K.1 _ _ (fun t q => XT.iushr X.here K.2.1 rfl (hb K.2.2.1 hd) rfl (hv ▸ q)) hr
theorem ow_irem (K : ow_K p e below s m meth c Z own cd mx rt nm G) (X : Stand p l e R s m args below meth c T locs cells slots) {x y : Int32} (v : Int32) (hd : decode cd pc = .ok (.irem, 1)) (hp : pc' = pc + 1) (hy : y ≠ 0) (hv : x - (x / y) * y = v) (hr : G (T.setTop (mkF m pc' Ls (.int v :: st)))) : G (T.setTop (mkF m pc Ls (.int y :: .int x :: st))) := by
  subst hp
  exact K.1 _ _ (fun t q => XS.irem X.here K.2.1 rfl (hb K.2.2.1 hd) rfl hy (hv ▸ q)) hr
theorem ow_ladd (K : ow_K p e below s m meth c Z own cd mx rt nm G) (X : Stand p l e R s m args below meth c T locs cells slots) {x y : Int64} (v : Int64) (hd : decode cd pc = .ok (.ladd, 1)) (hp : pc' = pc + 1) (hv : x + y = v) (hr : G (T.setTop (mkF m pc' Ls (.long v :: st)))) : G (T.setTop (mkF m pc Ls (.long y :: .long x :: st))) := by
  subst hp
  exact K.1 _ _ (fun t q => XT.ladd X.here K.2.1 rfl (hb K.2.2.1 hd) rfl (hv ▸ q)) hr
theorem ow_lsub (K : ow_K p e below s m meth c Z own cd mx rt nm G) (X : Stand p l e R s m args below meth c T locs cells slots) {x y : Int64} (v : Int64) (hd : decode cd pc = .ok (.lsub, 1)) (hp : pc' = pc + 1) (hv : x - y = v) (hr : G (T.setTop (mkF m pc' Ls (.long v :: st)))) : G (T.setTop (mkF m pc Ls (.long y :: .long x :: st))) := by
  subst hp
  exact K.1 _ _ (fun t q => XT.lsub X.here K.2.1 rfl (hb K.2.2.1 hd) rfl (hv ▸ q)) hr
theorem ow_lmul (K : ow_K p e below s m meth c Z own cd mx rt nm G) (X : Stand p l e R s m args below meth c T locs cells slots) {x y : Int64} (v : Int64) (hd : decode cd pc = .ok (.lmul, 1)) (hp : pc' = pc + 1) (hv : x * y = v) (hr : G (T.setTop (mkF m pc' Ls (.long v :: st)))) : G (T.setTop (mkF m pc Ls (.long y :: .long x :: st))) := by
  subst hp
  exact K.1 _ _ (fun t q => XT.lmul X.here K.2.1 rfl (hb K.2.2.1 hd) rfl (hv ▸ q)) hr
theorem ow_land (K : ow_K p e below s m meth c Z own cd mx rt nm G) (X : Stand p l e R s m args below meth c T locs cells slots) {x y : Int64} (v : Int64) (hd : decode cd pc = .ok (.land, 1)) (hp : pc' = pc + 1) (hv : x &&& y = v) (hr : G (T.setTop (mkF m pc' Ls (.long v :: st)))) : G (T.setTop (mkF m pc Ls (.long y :: .long x :: st))) := by
  subst hp
  exact K.1 _ _ (fun t q => XT.land X.here K.2.1 rfl (hb K.2.2.1 hd) rfl (hv ▸ q)) hr
theorem ow_lor (K : ow_K p e below s m meth c Z own cd mx rt nm G) (X : Stand p l e R s m args below meth c T locs cells slots) {x y : Int64} (v : Int64) (hd : decode cd pc = .ok (.lor, 1)) (hp : pc' = pc + 1) (hv : x ||| y = v) (hr : G (T.setTop (mkF m pc' Ls (.long v :: st)))) : G (T.setTop (mkF m pc Ls (.long y :: .long x :: st))) := by
  subst hp
  exact K.1 _ _ (fun t q => XT.lor X.here K.2.1 rfl (hb K.2.2.1 hd) rfl (hv ▸ q)) hr
theorem ow_lxor (K : ow_K p e below s m meth c Z own cd mx rt nm G) (X : Stand p l e R s m args below meth c T locs cells slots) {x y : Int64} (v : Int64) (hd : decode cd pc = .ok (.lxor, 1)) (hp : pc' = pc + 1) (hv : x ^^^ y = v) (hr : G (T.setTop (mkF m pc' Ls (.long v :: st)))) : G (T.setTop (mkF m pc Ls (.long y :: .long x :: st))) := by
  subst hp
  exact K.1 _ _ (fun t q => XT.lxor X.here K.2.1 rfl (hb K.2.2.1 hd) rfl (hv ▸ q)) hr
theorem ow_lrem (K : ow_K p e below s m meth c Z own cd mx rt nm G) (X : Stand p l e R s m args below meth c T locs cells slots) {x y : Int64} (v : Int64) (hd : decode cd pc = .ok (.lrem, 1)) (hp : pc' = pc + 1) (hy : y ≠ 0) (hv : x - (x / y) * y = v) (hr : G (T.setTop (mkF m pc' Ls (.long v :: st)))) : G (T.setTop (mkF m pc Ls (.long y :: .long x :: st))) := by
  subst hp
  exact K.1 _ _ (fun t q => XT.lrem X.here K.2.1 rfl (hb K.2.2.1 hd) rfl hy (hv ▸ q)) hr
theorem ow_lshl (K : ow_K p e below s m meth c Z own cd mx rt nm G) (X : Stand p l e R s m args below meth c T locs cells slots) {x : Int64} {y : Int32} (v : Int64) (hd : decode cd pc = .ok (.lshl, 1)) (hp : pc' = pc + 1) (hv : x <<< (y.toInt64 &&& 63) = v) (hr : G (T.setTop (mkF m pc' Ls (.long v :: st)))) : G (T.setTop (mkF m pc Ls (.int y :: .long x :: st))) := by
  subst hp
  exact K.1 _ _ (fun t q => XT.lshl X.here K.2.1 rfl (hb K.2.2.1 hd) rfl (hv ▸ q)) hr
theorem ow_lshr (K : ow_K p e below s m meth c Z own cd mx rt nm G) (X : Stand p l e R s m args below meth c T locs cells slots) {x : Int64} {y : Int32} (v : Int64) (hd : decode cd pc = .ok (.lshr, 1)) (hp : pc' = pc + 1) (hv : x >>> (y.toInt64 &&& 63) = v) (hr : G (T.setTop (mkF m pc' Ls (.long v :: st)))) : G (T.setTop (mkF m pc Ls (.int y :: .long x :: st))) := by
  subst hp
  exact K.1 _ _ (fun t q => XT.lshr X.here K.2.1 rfl (hb K.2.2.1 hd) rfl (hv ▸ q)) hr
theorem ow_lushr (K : ow_K p e below s m meth c Z own cd mx rt nm G) (X : Stand p l e R s m args below meth c T locs cells slots) {x : Int64} {y : Int32} (v : Int64) (hd : decode cd pc = .ok (.lushr, 1)) (hp : pc' = pc + 1) (hv : XT.ushrL x y = v) (hr : G (T.setTop (mkF m pc' Ls (.long v :: st)))) : G (T.setTop (mkF m pc Ls (.int y :: .long x :: st))) := by
  subst hp
  exact K.1 _ _ (fun t q => XT.lushr X.here K.2.1 rfl (hb K.2.2.1 hd) rfl (hv ▸ q)) hr
theorem ow_lcmp (K : ow_K p e below s m meth c Z own cd mx rt nm G) (X : Stand p l e R s m args below meth c T locs cells slots) {x y : Int64} (v : Int32) (hd : decode cd pc = .ok (.lcmp, 1)) (hp : pc' = pc + 1) (hv : XT.cmpL x y = v) (hr : G (T.setTop (mkF m pc' Ls (.int v :: st)))) : G (T.setTop (mkF m pc Ls (.long y :: .long x :: st))) := by
  subst hp
  exact K.1 _ _ (fun t q => XT.lcmp X.here K.2.1 rfl (hb K.2.2.1 hd) rfl (hv ▸ q)) hr
theorem ow_ineg (K : ow_K p e below s m meth c Z own cd mx rt nm G) (X : Stand p l e R s m args below meth c T locs cells slots) {x : Int32} (v : Int32) (hd : decode cd pc = .ok (.ineg, 1)) (hp : pc' = pc + 1) (hv : -x = v) (hr : G (T.setTop (mkF m pc' Ls (.int v :: st)))) : G (T.setTop (mkF m pc Ls (.int x :: st))) := by
  subst hp
  exact K.1 _ _ (fun t q => XS.ineg X.here K.2.1 rfl (hb K.2.2.1 hd) rfl (hv ▸ q)) hr
theorem ow_i2b (K : ow_K p e below s m meth c Z own cd mx rt nm G) (X : Stand p l e R s m args below meth c T locs cells slots) {x : Int32} (v : Int32) (hd : decode cd pc = .ok (.i2b, 1)) (hp : pc' = pc + 1) (hv : x.toInt8.toInt32 = v) (hr : G (T.setTop (mkF m pc' Ls (.int v :: st)))) : G (T.setTop (mkF m pc Ls (.int x :: st))) := by
  subst hp
  exact K.1 _ _ (fun t q => XT.i2b X.here K.2.1 rfl (hb K.2.2.1 hd) rfl (hv ▸ q)) hr
theorem ow_i2l (K : ow_K p e below s m meth c Z own cd mx rt nm G) (X : Stand p l e R s m args below meth c T locs cells slots) {x : Int32} (v : Int64) (hd : decode cd pc = .ok (.i2l, 1)) (hp : pc' = pc + 1) (hv : x.toInt64 = v) (hr : G (T.setTop (mkF m pc' Ls (.long v :: st)))) : G (T.setTop (mkF m pc Ls (.int x :: st))) := by
  subst hp
  exact K.1 _ _ (fun t q => XT.i2l X.here K.2.1 rfl (hb K.2.2.1 hd) rfl (hv ▸ q)) hr
theorem ow_l2i (K : ow_K p e below s m meth c Z own cd mx rt nm G) (X : Stand p l e R s m args below meth c T locs cells slots) {x : Int64} (v : Int32) (hd : decode cd pc = .ok (.l2i, 1)) (hp : pc' = pc + 1) (hv : x.toInt32 = v) (hr : G (T.setTop (mkF m pc' Ls (.int v :: st)))) : G (T.setTop (mkF m pc Ls (.long x :: st))) := by
  subst hp
  exact K.1 _ _ (fun t q => XT.l2i X.here K.2.1 rfl (hb K.2.2.1 hd) rfl (hv ▸ q)) hr
theorem ow_dup (K : ow_K p e below s m meth c Z own cd mx rt nm G) (X : Stand p l e R s m args below meth c T locs cells slots) {v : Value} (hd : decode cd pc = .ok (.dup, 1)) (hp : pc' = pc + 1) (hc : v.category = 1) (hr : G (T.setTop (mkF m pc' Ls (v :: v :: st)))) : G (T.setTop (mkF m pc Ls (v :: st))) := by
  subst hp
  exact K.1 _ _ (fun t q => XS.dup X.here K.2.1 rfl (hb K.2.2.1 hd) rfl hc q) hr
theorem ow_pop (K : ow_K p e below s m meth c Z own cd mx rt nm G) (X : Stand p l e R s m args below meth c T locs cells slots) {v : Value} (hd : decode cd pc = .ok (.pop, 1)) (hp : pc' = pc + 1) (hc : v.category = 1) (hr : G (T.setTop (mkF m pc' Ls (st)))) : G (T.setTop (mkF m pc Ls (v :: st))) := by
  subst hp
  exact K.1 _ _ (fun t q => XT.pop X.here K.2.1 rfl (hb K.2.2.1 hd) rfl hc q) hr
theorem ow_dupX1 (K : ow_K p e below s m meth c Z own cd mx rt nm G) (X : Stand p l e R s m args below meth c T locs cells slots) {v w : Value} (hd : decode cd pc = .ok (.dup_x1, 1)) (hp : pc' = pc + 1) (hc : v.category = 1) (hc' : w.category = 1) (hr : G (T.setTop (mkF m pc' Ls (v :: w :: v :: st)))) : G (T.setTop (mkF m pc Ls (v :: w :: st))) := by
  subst hp
  exact K.1 _ _ (fun t q => XT.dupX1 X.here K.2.1 rfl (hb K.2.2.1 hd) rfl hc hc' q) hr
theorem ow_dup2 (K : ow_K p e below s m meth c Z own cd mx rt nm G) (X : Stand p l e R s m args below meth c T locs cells slots) {v w : Value} (hd : decode cd pc = .ok (.dup2, 1)) (hp : pc' = pc + 1) (hc : v.category = 1) (hc' : w.category = 1) (hr : G (T.setTop (mkF m pc' Ls (v :: w :: v :: w :: st)))) : G (T.setTop (mkF m pc Ls (v :: w :: st))) := by
  subst hp
  exact K.1 _ _ (fun t q => XT.dup2 X.here K.2.1 rfl (hb K.2.2.1 hd) rfl hc hc' q) hr
theorem ow_goto (K : ow_K p e below s m meth c Z own cd mx rt nm G) (X : Stand p l e R s m args below meth c T locs cells slots)  {o : Int} (hd : decode cd pc = .ok (.goto o, 3))  (ho : 0 ≤ (pc : Int) + o) (hp : ((pc : Int) + o).toNat = pc') (hr : G (T.setTop (mkF m pc' Ls (st)))) : G (T.setTop (mkF m pc Ls (st))) := K.1 _ _ (fun t q => XS.goto X.here K.2.1 rfl (pc0 := pc) rfl (hb K.2.2.1 hd) ho hp q) hr
theorem ow_ifY (K : ow_K p e below s m meth c Z own cd mx rt nm G) (X : Stand p l e R s m args below meth c T locs cells slots) {cc : ClassFile.Cond} {x : Int32} {o : Int} (hd : decode cd pc = .ok (.ifCond cc o, 3)) (hc : ifCond.holds cc x = true) (ho : 0 ≤ (pc : Int) + o) (hp : ((pc : Int) + o).toNat = pc') (hr : G (T.setTop (mkF m pc' Ls (st)))) : G (T.setTop (mkF m pc Ls (.int x :: st))) := K.1 _ _ (fun t q => XS.ifYes X.here K.2.1 rfl (pc0 := pc) rfl (hb K.2.2.1 hd) rfl hc ho hp q) hr
theorem ow_icmpY (K : ow_K p e below s m meth c Z own cd mx rt nm G) (X : Stand p l e R s m args below meth c T locs cells slots) {cc : ClassFile.Cond} {x y : Int32} {o : Int} (hd : decode cd pc = .ok (.if_icmp cc o, 3)) (hc : if_icmp.holds cc x y = true) (ho : 0 ≤ (pc : Int) + o) (hp : ((pc : Int) + o).toNat = pc') (hr : G (T.setTop (mkF m pc' Ls (st)))) : G (T.setTop (mkF m pc Ls (.int y :: .int x :: st))) := K.1 _ _ (fun t q => XS.icmpYes X.here K.2.1 rfl (pc0 := pc) rfl (hb K.2.2.1 hd) rfl hc ho hp q) hr
theorem ow_ifN (K : ow_K p e below s m meth c Z own cd mx rt nm G) (X : Stand p l e R s m args below meth c T locs cells slots) {cc : ClassFile.Cond} {x : Int32} {o : Int} (hd : decode cd pc = .ok (.ifCond cc o, 3)) (hp : pc' = pc + 3) (hc : ifCond.holds cc x = false) (hr : G (T.setTop (mkF m pc' Ls (st)))) : G (T.setTop (mkF m pc Ls (.int x :: st))) := by
  subst hp
  exact K.1 _ _ (fun t q => XS.ifNo X.here K.2.1 rfl (hb K.2.2.1 hd) rfl hc q) hr
theorem ow_icmpN (K : ow_K p e below s m meth c Z own cd mx rt nm G) (X : Stand p l e R s m args below meth c T locs cells slots) {cc : ClassFile.Cond} {x y : Int32} {o : Int} (hd : decode cd pc = .ok (.if_icmp cc o, 3)) (hp : pc' = pc + 3) (hc : if_icmp.holds cc x y = false) (hr : G (T.setTop (mkF m pc' Ls (st)))) : G (T.setTop (mkF m pc Ls (.int y :: .int x :: st))) := by
  subst hp
  exact K.1 _ _ (fun t q => XS.icmpNo X.here K.2.1 rfl (hb K.2.2.1 hd) rfl hc q) hr
/-- an index as an int and as a natural -/
def ow_Ix (j : Int32) (i : Nat) : Prop := ¬ j < 0 ∧ j.toNatClampNeg = i
theorem ow_ix_nat {i : Nat} (hi : i < 2 ^ 31) : ow_Ix (Int32.ofNat i) i := by
  have q : (Int32.ofNat i).toInt = i := Int32.toInt_ofNat_of_lt hi
  refine ⟨?_, ?_⟩
  · rw [Int32.lt_iff_toInt_lt, q]; show ¬ (i : Int) < 0; omega
  · simp only [Int32.toNatClampNeg, q]; rfl
theorem ow_in {cl : Cell} {z j : Int32} {i : Nat} (S : cl.slots.size = z.toNatClampNeg) (J : ow_Ix j i) (hi : i < z.toNatClampNeg) : ¬ (j < 0 ∨ cl.slots.size ≤ j.toNatClampNeg) := fun q => q.elim J.1 fun q => by rw [S, J.2] at q; omega
theorem ow_iaload (K : ow_K p e below s m meth c Z own cd mx rt nm G) (X : Stand p l e R s m args below meth c T locs cells slots) (eT : T.heap = h) {a : Addr} {k : ClassId} {z j : Int32} {vs : List Value} {dv : Value} (F : Arv Z h a k .int z vs dv) (i : Nat) (v : Value) (J : ow_Ix j i) (hi : i < z.toNatClampNeg) (hv : vs.getD i dv = v) (hd : decode cd pc = .ok (.iaload, 1)) (hp : pc' = pc + 1) (hr : G (T.setTop (mkF m pc' Ls (v :: st)))) : G (T.setTop (mkF m pc Ls (.int j :: .ref a :: st))) := by
  subst hp
  obtain ⟨cl, A, -, S, -, H, -⟩ := F
  exact K.1 _ _ (fun t q => X.iaload K.2.1 (j := j) (v := v) (by rw [eT]; exact A.1) (State.isArrayOf_alike K.2.2.2.2.2.1.alike A.2.1) A.2.2 (ow_in S J hi) (Has.at H (ow_in S J hi) (by rw [J.2]; exact hv)) (g := mkF m pc Ls (.int j :: .ref a :: st)) rfl rfl (hb K.2.2.1 hd) t q) hr
theorem ow_baload (K : ow_K p e below s m meth c Z own cd mx rt nm G) (X : Stand p l e R s m args below meth c T locs cells slots) (eT : T.heap = h) {a : Addr} {k : ClassId} {z j : Int32} {vs : List Value} {dv : Value} (F : Arv Z h a k .byte z vs dv) (i : Nat) (v : Value) (J : ow_Ix j i) (hi : i < z.toNatClampNeg) (hv : vs.getD i dv = v) (hd : decode cd pc = .ok (.baload, 1)) (hp : pc' = pc + 1) (hr : G (T.setTop (mkF m pc' Ls (v :: st)))) : G (T.setTop (mkF m pc Ls (.int j :: .ref a :: st))) := by
  subst hp
  obtain ⟨cl, A, -, S, -, H, -⟩ := F
  exact K.1 _ _ (fun t q => X.baloadBytes K.2.1 (j := j) (v := v) (by rw [eT]; exact A.1) (State.isArrayOf_alike K.2.2.2.2.2.1.alike A.2.1) A.2.2 (ow_in S J hi) (Has.at H (ow_in S J hi) (by rw [J.2]; exact hv)) (g := mkF m pc Ls (.int j :: .ref a :: st)) rfl rfl (hb K.2.2.1 hd) t q) hr
theorem ow_laload (K : ow_K p e below s m meth c Z own cd mx rt nm G) (X : Stand p l e R s m args below meth c T locs cells slots) (eT : T.heap = h) {a : Addr} {k : ClassId} {z j : Int32} {vs : List Value} {dv : Value} (F : Arv Z h a k .long z vs dv) (i : Nat) (v : Value) (J : ow_Ix j i) (hi : i < z.toNatClampNeg) (hv : vs.getD i dv = v) (hd : decode cd pc = .ok (.laload, 1)) (hp : pc' = pc + 1) (hr : G (T.setTop (mkF m pc' Ls (v :: st)))) : G (T.setTop (mkF m pc Ls (.int j :: .ref a :: st))) := by
  subst hp
  obtain ⟨cl, A, -, S, -, H, -⟩ := F
  exact K.1 _ _ (fun t q => X.laload K.2.1 (j := j) (v := v) (by rw [eT]; exact A.1) (State.isArrayOf_alike K.2.2.2.2.2.1.alike A.2.1) A.2.2 (ow_in S J hi) (Has.at H (ow_in S J hi) (by rw [J.2]; exact hv)) (g := mkF m pc Ls (.int j :: .ref a :: st)) rfl rfl (hb K.2.2.1 hd) t q) hr
theorem ow_len (K : ow_K p e below s m meth c Z own cd mx rt nm G) (X : Stand p l e R s m args below meth c T locs cells slots) (eT : T.heap = h) {a : Addr} {k : ClassId} {ty : FieldType} {z : Int32} {vs : List Value} {dv : Value} (F : Arv Z h a k ty z vs dv) (hd : decode cd pc = .ok (.arraylength, 1)) (hp : pc' = pc + 1) (hr : G (T.setTop (mkF m pc' Ls (.int z :: st)))) : G (T.setTop (mkF m pc Ls (.ref a :: st))) := by
  subst hp
  obtain ⟨cl, A, -, S, M, -, -⟩ := F
  exact K.1 _ _ (fun t q => X.arraylength K.2.1 (cell := cl) (by rw [eT]; exact A.1) (State.isArrayOf_alike K.2.2.2.2.2.1.alike A.2.1) (g := mkF m pc Ls (.ref a :: st)) rfl (rest := st) rfl (hb K.2.2.1 hd) t (by rw [len_of S M]; exact q)) hr
theorem ow_iastore (K : ow_K p e below s m meth c Z own cd mx rt nm G) (X : Stand p l e R s m args below meth c T locs cells slots) (eT : T.heap = h) {a : Addr} {k : ClassId} {z j : Int32} {vs : List Value} {dv : Value} {x : Int32} (F : Arv Z h a k .int z vs dv) (i : Nat) (vs' : List Value) (J : ow_Ix j i) (hi : i < z.toNatClampNeg) (hi' : i < vs.length) (hs : vs.set i (.int x) = vs') (hd : decode cd pc = .ok (.iastore, 1)) (hp : pc' = pc + 1)
    (hr : ∀ T' h', Stand p l e R s m args below meth c T' (locs ++ [⟨a, i⟩]) cells slots → T'.heap = h' → Wr h h' a i (.int x) → Arv Z h' a k .int z vs' dv → G (T'.setTop (mkF m pc' Ls st))) : G (T.setTop (mkF m pc Ls (.int x :: .int j :: .ref a :: st))) := by
  subst hp hs
  obtain ⟨cl, A, q1, S, q3, H, F⟩ := F
  obtain ⟨T', h', X', e', W', st'⟩ := stI X K.2.1 K.2.2.2.2.2.1 eT A (j := j) (x := x) (ow_in S J hi) (g := mkF m pc Ls (.int x :: .int j :: .ref a :: st)) rfl rfl (hb K.2.2.1 hd)
  have V := Arv.set A q1 S q3 H F (rfl) W' i J.2 hi'
  rw [J.2] at X' W'
  exact K.1 _ _ st' (hr T' h' X' e' W' V)
theorem ow_bastore (K : ow_K p e below s m meth c Z own cd mx rt nm G) (X : Stand p l e R s m args below meth c T locs cells slots) (eT : T.heap = h) {a : Addr} {k : ClassId} {z j : Int32} {vs : List Value} {dv : Value} {x : Int32} (F : Arv Z h a k .byte z vs dv) (i : Nat) (vs' : List Value) (J : ow_Ix j i) (hi : i < z.toNatClampNeg) (hi' : i < vs.length) (hs : vs.set i (.int (nar .byte x)) = vs') (hd : decode cd pc = .ok (.bastore, 1)) (hp : pc' = pc + 1)
    (hr : ∀ T' h', Stand p l e R s m args below meth c T' (locs ++ [⟨a, i⟩]) cells slots → T'.heap = h' → Wr h h' a i (.int (nar .byte x)) → Arv Z h' a k .byte z vs' dv → G (T'.setTop (mkF m pc' Ls st))) : G (T.setTop (mkF m pc Ls (.int x :: .int j :: .ref a :: st))) := by
  subst hp hs
  obtain ⟨cl, A, q1, S, q3, H, F⟩ := F
  obtain ⟨T', h', X', e', W', st'⟩ := stB X K.2.1 K.2.2.2.2.2.1 eT A (j := j) (x := x) (ow_in S J hi) (g := mkF m pc Ls (.int x :: .int j :: .ref a :: st)) rfl rfl (hb K.2.2.1 hd)
  have V := Arv.set A q1 S q3 H F (fits_nar_byte x) W' i J.2 hi'
  rw [J.2] at X' W'
  exact K.1 _ _ st' (hr T' h' X' e' W' V)
theorem ow_lastore (K : ow_K p e below s m meth c Z own cd mx rt nm G) (X : Stand p l e R s m args below meth c T locs cells slots) (eT : T.heap = h) {a : Addr} {k : ClassId} {z j : Int32} {vs : List Value} {dv : Value} {x : Int64} (F : Arv Z h a k .long z vs dv) (i : Nat) (vs' : List Value) (J : ow_Ix j i) (hi : i < z.toNatClampNeg) (hi' : i < vs.length) (hs : vs.set i (.long x) = vs') (hd : decode cd pc = .ok (.lastore, 1)) (hp : pc' = pc + 1)
    (hr : ∀ T' h', Stand p l e R s m args below meth c T' (locs ++ [⟨a, i⟩]) cells slots → T'.heap = h' → Wr h h' a i (.long x) → Arv Z h' a k .long z vs' dv → G (T'.setTop (mkF m pc' Ls st))) : G (T.setTop (mkF m pc Ls (.long x :: .int j :: .ref a :: st))) := by
  subst hp hs
  obtain ⟨cl, A, q1, S, q3, H, F⟩ := F
  obtain ⟨T', h', X', e', W', st'⟩ := stJ X K.2.1 K.2.2.2.2.2.1 eT A (j := j) (x := x) (ow_in S J hi) (g := mkF m pc Ls (.long x :: .int j :: .ref a :: st)) rfl rfl (hb K.2.2.1 hd)
  have V := Arv.set A q1 S q3 H F (rfl) W' i J.2 hi'
  rw [J.2] at X' W'
  exact K.1 _ _ st' (hr T' h' X' e' W' V)
theorem ow_newP (K : ow_K p e below s m meth c Z own cd mx rt nm G) (X : Stand p l e R s m args below meth c T locs cells slots) (eT : T.heap = h) {aty : ArrayType} {n : Int32} (w : (Jvm.Cond.arrayClass (newarray.typeOf aty)).before a0 Z = true) (hn : ¬ n < 0) (cap : Nat) (hcap : n.toNatClampNeg ≤ cap) (hbb : cap * 8 ≤ 536870912) (hc : cells + 1 ≤ R.cells) (hl : slots + cap ≤ R.slots) (hd : decode cd pc = .ok (.newarray aty, 2)) (hp : pc' = pc + 2)
    (hr : ∀ T' h' k a, Stand p l e R s m args below meth c T' locs (cells + 1) (slots + cap) → T'.heap = h' → Ext h h' → a = h.size → Arv Z h' a k (newarray.typeOf aty) n [] (defaultValue (newarray.typeOf aty)) → G (T'.setTop (mkF m pc' Ls (.ref a :: st)))) : G (T.setTop (mkF m pc Ls (.int n :: st))) := by
  subst hp
  obtain ⟨T', h', k, X', e', E, A, st'⟩ := newP X K.2.1 K.2.2.2.2.2.1 w eT (g := mkF m pc Ls (.int n :: st)) rfl (hb K.2.2.1 hd) rfl hn hcap hbb hc hl
  exact K.1 _ _ st' (hr T' h' k _ X' e' E rfl (Arv.new A hn))
theorem ow_newO (K : ow_K p e below s m meth c Z own cd mx rt nm G) (X : Stand p l e R s m args below meth c T locs cells slots) (eT : T.heap = h) {C : String} {i n : Nat} (w : (Jvm.Cond.classLink own i C).before a0 Z = true) (wi : (Jvm.Cond.instantiable C n).before a0 Z = true) (wz : (Jvm.Cond.initialized C).before a0 Z = true) (hc : cells + 1 ≤ R.cells) (hl : slots + n ≤ R.slots) (hd : decode cd pc = .ok (.new i, 3)) (hp : pc' = pc + 3)
    (hr : ∀ T' h' a, Stand p l e R s m args below meth c T' locs (cells + 1) (slots + n) → T'.heap = h' → Ext h h' → a = h.size → Exa Z h' a C → (∀ {O nm d : String} {ty : FieldType}, Laid Z a0 C O nm d → parseFieldDescriptor d = some ty → Fld Z h' a O nm d (defaultValue ty)) → G (T'.setTop (mkF m pc' Ls (.ref a :: st)))) : G (T.setTop (mkF m pc Ls st)) := by
  subst hp
  obtain ⟨T', h', X', e', E, A, D, -, st'⟩ := newO X K.2.1 K.2.2.2.2.2.1 K.2.2.2.2.1 w wi wz eT (g := mkF m pc Ls st) rfl (hb K.2.2.1 hd) hc hl
  exact K.1 _ _ st' (hr T' h' _ X' e' E rfl A D)
theorem ow_getF (K : ow_K p e below s m meth c Z own cd mx rt nm G) (X : Stand p l e R s m args below meth c T locs cells slots) (eT : T.heap = h) {C n d : String} {i : Nat} {a : Addr} {v : Value} (w : (Jvm.Cond.fieldLink own i C n d).before a0 Z = true) (F : Fld Z h a C n d v) (hd : decode cd pc = .ok (.getfield i, 3)) (hp : pc' = pc + 3)
    (hr : ∀ T', Stand p l e R s m args below meth c T' locs cells slots → T'.heap = h → G (T'.setTop (mkF m pc' Ls (v :: st)))) : G (T.setTop (mkF m pc Ls (.ref a :: st))) := by
  subst hp
  obtain ⟨T', X', e', st'⟩ := getF X K.2.1 K.2.2.2.2.2.1 K.2.2.2.2.1 (host := "") (Or.inl w) Via.refl eT F (g := mkF m pc Ls (.ref a :: st)) rfl rfl (hb K.2.2.1 hd)
  exact K.1 _ _ st' (hr T' X' e')
theorem ow_putF (K : ow_K p e below s m meth c Z own cd mx rt nm G) (X : Stand p l e R s m args below meth c T locs cells slots) (eT : T.heap = h) {C n d : String} {i kk : Nat} {a : Addr} {v old : Value} (ty : FieldType) (w : (Jvm.Cond.fieldLink own i C n d).before a0 Z = true) (F : Fld Z h a C n d old) (E : Exa Z h a C) (L : (Jvm.Cond.lays C C n d).before a0 Z = true ∨ ((Jvm.Cond.laysFinal C C n d).before a0 Z = true ∧ own = C ∧ nm = "<init>")) (wi : (Jvm.Cond.instantiable C kk).before a0 Z = true) (hty : parseFieldDescriptor d = some ty) (hn : narrow ty v = v) (hf : fits ty v = true) (hd : decode cd pc = .ok (.putfield i, 3)) (hp : pc' = pc + 3)
    (hr : ∀ T' h', Stand p l e R s m args below meth c T' (locs ++ [⟨a, Jvm.RoadKit.slotOf Z C n d⟩]) cells slots → T'.heap = h' → Wr h h' a (Jvm.RoadKit.slotOf Z C n d) v → Fld Z h' a C n d v → Exa Z h' a C → G (T'.setTop (mkF m pc' Ls st))) : G (T.setTop (mkF m pc Ls (v :: .ref a :: st))) := by
  subst hp
  obtain ⟨T', h', X', e', W, st'⟩ := putF X K.2.1 K.2.2.2.2.2.1 K.2.2.2.2.1 (host := "") (Or.inl w) Via.refl eT F E (L.imp id fun q => ⟨q.1, q.2.1, K.2.2.2.2.2.2.2.2.trans q.2.2⟩) wi hty hn hf (g := mkF m pc Ls (v :: .ref a :: st)) rfl rfl (hb K.2.2.1 hd)
  exact K.1 _ _ st' (hr T' h' X' e' W (F.same W) (E.wr W))
theorem ow_initO (K : ow_K p e below s m meth c Z own cd mx rt nm G) (X : Stand p l e R s m args below meth c T locs cells slots) (eT : T.heap = h) {i : Nat} {a : Addr} (w1 : (Jvm.Cond.methodLink own i Lib.objectInit).before a0 Z = true) (w2 : (Jvm.Cond.instanceMethod Lib.objectInit).before a0 Z = true) (w3 : (Jvm.Cond.code Lib.objectInit ⟨#[0xb1]⟩ 1 none).before a0 Z = true) (hz : Ls.size = mx) (W : Nat) (hW : (st.map fun v => v.category).sum ≤ W) (hf : 1 ≤ R.frames) (hl : W + 12 ≤ R.locals) (hd : decode cd pc = .ok (.invokespecial i, 3)) (hp : pc' = pc + 3)
    (hr : ∀ T', Stand p l e R s m args below meth c T' locs cells slots → T'.heap = h → G (T'.setTop (mkF m pc' Ls st))) : G (T.setTop (mkF m pc Ls (.ref a :: st))) := by
  subst hp
  obtain ⟨T', X', e', st'⟩ := initO X K.2.1 K.2.2.2.2.2.1 K.2.2.2.2.1 w1 w2 w3 eT (g := mkF m pc Ls (.ref a :: st)) rfl (hz.trans K.2.2.2.1.symm) rfl (hb K.2.2.1 hd) hf (W := W) (by show 2 * 0 + _ ≤ _; omega) hl
  exact K.1 _ _ st' (hr T' X' e')
theorem ow_callS (K : ow_K p e below s m meth c Z own cd mx rt nm G) (X : Stand p l e R s m args below meth c T locs cells slots) (eT : T.heap = h) {y : MethodName} {i : Nat} {bytes : ByteArray} {maxL : Nat} {rt' : Option FieldType} {rm : Room} {as : Array Value} {Q : Option Value → Heap → List Loc → Prop} (hM : MetFree l y (head1 [Jvm.Cond.code y bytes maxL rt'] rm) (fun a U => a = as ∧ Z.Warmed39 U.vm ∧ U.heap = h) (fun _ _ _ _ _ => True) (fun _ U o U' => ∃ v L, o = .returned v ∧ Q v U'.heap L ∧ FrameEnd U o U' L rm.cells rm.slots)) (wl : (Jvm.Cond.methodLink own i y).before a0 Z = true) (ws : (Jvm.Cond.static y).before a0 Z = true) (wi : (Jvm.Cond.initialized y.cls).before a0 Z = true) (wc : (Jvm.Cond.code y bytes maxL rt').before a0 Z = true) (hy : y.cls ≠ "java/lang/invoke/MethodHandle" ∧ y.cls ≠ "java/lang/invoke/VarHandle") (W : Nat) (hW : (st.map fun v => v.category).sum ≤ W) (hf : rm.frames + 1 ≤ R.frames) (hl : W + (maxL + 11) + rm.locals ≤ R.locals) (hc : cells + rm.cells ≤ R.cells) (hs : slots + rm.slots ≤ R.slots) (hz : Ls.size = mx) {full : List Value} (argsL : List Value) (has : argsL.toArray = as) (hlen : ∀ sig, parseMethodDescriptor y.desc = some sig → argsL.length = sig.parameters.length) (hst : full = argsL.reverse ++ st) (hd : decode cd pc = .ok (.invokestatic i, 3)) (hp : pc' = pc + 3)
    (hr : ∀ v T' L, Stand p l e R s m args below meth c T' (locs ++ L) (cells + rm.cells) (slots + rm.slots) → Q v T'.heap L → G (T'.setTop (mkF m pc' Ls (v.toList ++ st)))) : G (T.setTop (mkF m pc Ls full)) := by
  subst hp has
  obtain ⟨v, vm₁, ⟨T', L', c', s'⟩, -, X', ⟨L, hQ, l1, l2, l3⟩, st'⟩ := Jvm.LawKit.callS X K.2.1 (y := y) K.2.2.2.2.1 (mvT K.2.2.2.2.2.1 wl) (mvT K.2.2.2.2.2.1 ws) (mvT K.2.2.2.2.2.1 wi) (mvT K.2.2.2.2.2.1 wc) hy (backOf (W := W) hM K.2.2.2.2.2.1 wc wi hf hl) (g := mkF m pc Ls full) rfl (hz.trans K.2.2.2.1.symm) (argsL := argsL) (rest := st) hlen hst (by show 2 * 0 + _ ≤ _; omega) (hb K.2.2.1 hd) (fun _ _ => ⟨rfl, eT, hc, hs⟩)
  dsimp only [Pt.U, Pt.locs, Pt.cells, Pt.slots] at X' l1 l2 l3 st' hQ
  subst l1 l2 l3
  exact K.1 _ _ st' (hr v T' L X' hQ)
theorem ow_callP (K : ow_K p e below s m meth c Z own cd mx rt nm G) (X : Stand p l e R s m args below meth c T locs cells slots) (eT : T.heap = h) {y : MethodName} {i : Nat} {bytes : ByteArray} {maxL : Nat}  {rm : Room} {as : Array Value} {Q : Option Value → Heap → List Loc → Prop} {a : Addr} (hM : MetFree l y (head1 [Jvm.Cond.code y bytes maxL none] rm) (fun a U => a = as ∧ Z.Warmed39 U.vm ∧ U.heap = h) (fun _ _ _ _ _ => True) (fun _ U o U' => ∃ v L, o = .returned v ∧ Q v U'.heap L ∧ FrameEnd U o U' L rm.cells rm.slots)) (hn : y.name = "<init>") (wl : (Jvm.Cond.methodLink own i y).before a0 Z = true) (ws : (Jvm.Cond.instanceMethod y).before a0 Z = true) (wi : (Jvm.Cond.initialized y.cls).before a0 Z = true) (wc : (Jvm.Cond.code y bytes maxL none).before a0 Z = true) (hy : y.cls ≠ "java/lang/invoke/MethodHandle" ∧ y.cls ≠ "java/lang/invoke/VarHandle") (W : Nat) (hW : (st.map fun v => v.category).sum ≤ W) (hf : rm.frames + 1 ≤ R.frames) (hl : W + (maxL + 11) + rm.locals ≤ R.locals) (hc : cells + rm.cells ≤ R.cells) (hs : slots + rm.slots ≤ R.slots) (hz : Ls.size = mx) {full : List Value} (argsL : List Value) (has : (.ref a :: argsL).toArray = as) (hlen : ∀ sig, parseMethodDescriptor y.desc = some sig → argsL.length = sig.parameters.length) (hst : full = argsL.reverse ++ .ref a :: st) (hd : decode cd pc = .ok (.invokespecial i, 3)) (hp : pc' = pc + 3)
    (hr : ∀ v T' L, Stand p l e R s m args below meth c T' (locs ++ L) (cells + rm.cells) (slots + rm.slots) → Q v T'.heap L → G (T'.setTop (mkF m pc' Ls (v.toList ++ st)))) : G (T.setTop (mkF m pc Ls full)) := by
  subst hp has
  obtain ⟨v, vm₁, ⟨T', L', c', s'⟩, -, X', ⟨L, hQ, l1, l2, l3⟩, st'⟩ := X.specialBack K.2.1 (y := y) hn K.2.2.2.2.1 (mvT K.2.2.2.2.2.1 wl) (mvT K.2.2.2.2.2.1 ws) (mvT K.2.2.2.2.2.1 wc) hy (backOf (W := W) hM K.2.2.2.2.2.1 wc wi hf hl) (g := mkF m pc Ls full) rfl (hz.trans K.2.2.2.1.symm) (Steps.refl _) (a := a) (argsL := argsL) (rest := st) hlen hst (by show 2 * 0 + _ ≤ _; omega) (hb K.2.2.1 hd) (fun _ _ => ⟨rfl, eT, hc, hs⟩)
  dsimp only [Pt.U, Pt.locs, Pt.cells, Pt.slots] at X' l1 l2 l3 st' hQ
  subst l1 l2 l3
  exact K.1 _ _ (fun t q => st'.trans q) (hr v T' L X' hQ)
theorem ow_callV (K : ow_K p e below s m meth c Z own cd mx rt nm G) (X : Stand p l e R s m args below meth c T locs cells slots) (eT : T.heap = h) {y : MethodName} {i : Nat} {bytes : ByteArray} {maxL : Nat} {rt' : Option FieldType} {rm : Room} {as : Array Value} {Q : Option Value → Heap → List Loc → Prop} {a : Addr} (hM : MetFree l y (head1 [Jvm.Cond.code y bytes maxL rt'] rm) (fun a U => a = as ∧ Z.Warmed39 U.vm ∧ U.heap = h) (fun _ _ _ _ _ => True) (fun _ U o U' => ∃ v L, o = .returned v ∧ Q v U'.heap L ∧ FrameEnd U o U' L rm.cells rm.slots)) (E : Exa Z h a y.cls) (wl : (Jvm.Cond.methodLink own i y).before a0 Z = true) (wd : (Jvm.Cond.declares y).before a0 Z = true) (wsel : (Jvm.Cond.selects y.cls y y).before a0 Z = true) (ws : (Jvm.Cond.instanceMethod y).before a0 Z = true) (wi : (Jvm.Cond.initialized y.cls).before a0 Z = true) (wc : (Jvm.Cond.code y bytes maxL rt').before a0 Z = true) (hy : y.cls ≠ "java/lang/invoke/MethodHandle" ∧ y.cls ≠ "java/lang/invoke/VarHandle") (W : Nat) (hW : (st.map fun v => v.category).sum ≤ W) (hf : rm.frames + 1 ≤ R.frames) (hl : W + (maxL + 11) + rm.locals ≤ R.locals) (hc : cells + rm.cells ≤ R.cells) (hs : slots + rm.slots ≤ R.slots) (hz : Ls.size = mx) {full : List Value} (argsL : List Value) (has : (.ref a :: argsL).toArray = as) (hlen : ∀ sig, parseMethodDescriptor y.desc = some sig → argsL.length = sig.parameters.length) (hst : full = argsL.reverse ++ .ref a :: st) (hd : decode cd pc = .ok (.invokevirtual i, 3)) (hp : pc' = pc + 3)
    (hr : ∀ v T' L, Stand p l e R s m args below meth c T' (locs ++ L) (cells + rm.cells) (slots + rm.slots) → Q v T'.heap L → G (T'.setTop (mkF m pc' Ls (v.toList ++ st)))) : G (T.setTop (mkF m pc Ls full)) := by
  subst hp has
  obtain ⟨cq, kq, qa, qb, qc⟩ := isOf K.2.2.2.2.2.1 eT E
  obtain ⟨v, vm₁, ⟨T', L', c', s'⟩, -, X', ⟨L, hQ, l1, l2, l3⟩, st'⟩ := X.virtualBack K.2.1 (y := y) (z := y) K.2.2.2.2.1 (mvT K.2.2.2.2.2.1 wl) (mvT K.2.2.2.2.2.1 wd) (notFace_of_selects (args := #[]) (mvT K.2.2.2.2.2.1 wsel)) (mvT K.2.2.2.2.2.1 wsel) (mvT K.2.2.2.2.2.1 ws) hy (backOf (W := W) hM K.2.2.2.2.2.1 wc wi hf hl) qa qc (g := mkF m pc Ls full) rfl (hz.trans K.2.2.2.1.symm) (Steps.refl _) (argsL := argsL) (rest := st) hlen hst (by show 2 * 0 + _ ≤ _; omega) (hb K.2.2.1 hd) (fun _ _ => ⟨rfl, eT, hc, hs⟩)
  dsimp only [Pt.U, Pt.locs, Pt.cells, Pt.slots] at X' l1 l2 l3 st' hQ
  subst l1 l2 l3
  exact K.1 _ _ (fun t q => st'.trans q) (hr v T' L X' hQ)
theorem ow_retI {Q : Option Value → Heap → List Loc → Prop} {ce sl : Nat} (K : ow_K p e below s m meth c Z own cd mx rt nm (ow_Gl p e below s Q ce sl)) (X : Stand p l e R s m args below meth c T locs cells slots) (t : FieldType) {v : Int32} (hrt : rt = some t) (hn : narrow t (.int v) = .int v) (hti : t = .int ∨ t = .boolean ∨ t = .byte ∨ t = .char ∨ t = .short) (hd : decode cd pc = .ok (.ireturn, 1)) (hQ : Q (some (.int v)) T.heap locs) (hc : cells ≤ ce) (hs : slots ≤ sl) : ow_Gl p e below s Q ce sl (T.setTop (mkF m pc Ls [.int v])) := by
  obtain ⟨fs, hr, hrun, hended, hW, hsame⟩ := X.leave (v := some (.int v)) (fun h => by rw [K.2.2.2.2.2.2.1, hrt] at h; cases h) K.2.2.2.2.2.2.2.1
  exact ⟨_, _, X.ireturnOut K.2.1 (K.2.2.2.2.2.2.1.trans hrt) hn hti (hb K.2.2.1 hd) hr, hrun, hended, _, _, rfl, hQ, ⟨_, rfl⟩, hW, hsame.mono hc hs⟩
theorem ow_retJ {Q : Option Value → Heap → List Loc → Prop} {ce sl : Nat} (K : ow_K p e below s m meth c Z own cd mx rt nm (ow_Gl p e below s Q ce sl)) (X : Stand p l e R s m args below meth c T locs cells slots) {v : Int64} (hrt : rt = some .long) (hd : decode cd pc = .ok (.lreturn, 1)) (hQ : Q (some (.long v)) T.heap locs) (hc : cells ≤ ce) (hs : slots ≤ sl) : ow_Gl p e below s Q ce sl (T.setTop (mkF m pc Ls [.long v])) := by
  obtain ⟨fs, hr, hrun, hended, hW, hsame⟩ := X.leave (v := some (.long v)) (fun h => by rw [K.2.2.2.2.2.2.1, hrt] at h; cases h) K.2.2.2.2.2.2.2.1
  exact ⟨_, _, X.lreturnOut K.2.1 (K.2.2.2.2.2.2.1.trans hrt) (hb K.2.2.1 hd) hr, hrun, hended, _, _, rfl, hQ, ⟨_, rfl⟩, hW, hsame.mono hc hs⟩
theorem ow_retA {Q : Option Value → Heap → List Loc → Prop} {ce sl : Nat} (K : ow_K p e below s m meth c Z own cd mx rt nm (ow_Gl p e below s Q ce sl)) (X : Stand p l e R s m args below meth c T locs cells slots) (t : FieldType) {v : Addr} (hrt : rt = some t) (ht : t.isReference = true) (hd : decode cd pc = .ok (.areturn, 1)) (hQ : Q (some (.ref v)) T.heap locs) (hc : cells ≤ ce) (hs : slots ≤ sl) : ow_Gl p e below s Q ce sl (T.setTop (mkF m pc Ls [.ref v])) := by
  obtain ⟨fs, hr, hrun, hended, hW, hsame⟩ := X.leave (v := some (.ref v)) (fun h => by rw [K.2.2.2.2.2.2.1, hrt] at h; cases h) K.2.2.2.2.2.2.2.1
  exact ⟨_, _, X.areturnOut K.2.1 rfl (K.2.2.2.2.2.2.1.trans hrt) ht (hb K.2.2.1 hd) hr, hrun, hended, _, _, rfl, hQ, ⟨_, rfl⟩, hW, hsame.mono hc hs⟩
theorem ow_ret {Q : Option Value → Heap → List Loc → Prop} {ce sl : Nat} (K : ow_K p e below s m meth c Z own cd mx rt nm (ow_Gl p e below s Q ce sl)) (X : Stand p l e R s m args below meth c T locs cells slots) (hrt : rt = none) (hd : decode cd pc = .ok (.return_, 1)) (hQ : Q none T.heap locs) (hc : cells ≤ ce) (hs : slots ≤ sl) : ow_Gl p e below s Q ce sl (T.setTop (mkF m pc Ls [])) := by
  obtain ⟨fs, hr, hrun, hended, hW, hsame⟩ := X.leave (v := none) (fun _ => rfl) K.2.2.2.2.2.2.2.1
  exact ⟨_, _, X.returnOut K.2.1 (K.2.2.2.2.2.2.1.trans hrt) (hb K.2.2.1 hd) hr, hrun, hended, _, _, rfl, hQ, ⟨_, rfl⟩, hW, hsame.mono hc hs⟩
end Own

def own_exp (i n t a b d : Int32) : Int32 := if i < n then (if n - 1 - i = 0 then a else if n - 1 - i = 1 then b else d) else t + (i - n)
theorem own_and3 (x : Int32) : x &&& 3 = 0 ∨ x &&& 3 = 1 ∨ x &&& 3 = 2 ∨ x &&& 3 = 3 := by
  have h1 : (x &&& 3).toBitVec = x.toBitVec &&& 3#32 := rfl
  have h2 : (x.toBitVec &&& 3#32).toNat < 4 := by
    rw [BitVec.toNat_and]; exact Nat.lt_of_le_of_lt Nat.and_le_right (by decide)
  have h3 : ∀ y : Int32, (x &&& 3).toBitVec.toNat = y.toBitVec.toNat → x &&& 3 = y := fun y q => Int32.toBitVec_inj.mp (BitVec.eq_of_toNat_eq q)
  rw [← h1] at h2
  have h4 : ∀ n : Nat, n < 4 → n = 0 ∨ n = 1 ∨ n = 2 ∨ n = 3 := by omega
  rcases h4 _ h2 with q | q | q | q
  · exact Or.inl (h3 _ q)
  · exact Or.inr (Or.inl (h3 _ q))
  · exact Or.inr (Or.inr (Or.inl (h3 _ q)))
  · exact Or.inr (Or.inr (Or.inr (h3 _ q)))

theorem d1_0 : decode prog_69_method_1_code 0 = .ok (.aload_n 0, 1) := by decide +kernel
theorem d1_1 : decode prog_69_method_1_code 1 = .ok (.invokespecial 1, 3) := by decide +kernel
theorem d1_4 : decode prog_69_method_1_code 4 = .ok (.aload_n 0, 1) := by decide +kernel
theorem d1_5 : decode prog_69_method_1_code 5 = .ok (.bipush 16, 2) := by decide +kernel
theorem d1_7 : decode prog_69_method_1_code 7 = .ok (.newarray .int, 2) := by decide +kernel
theorem d1_9 : decode prog_69_method_1_code 9 = .ok (.putfield 7, 3) := by decide +kernel
theorem d1_12 : decode prog_69_method_1_code 12 = .ok (.aload_n 0, 1) := by decide +kernel
theorem d1_13 : decode prog_69_method_1_code 13 = .ok (.iload_n 1, 1) := by decide +kernel
theorem d1_14 : decode prog_69_method_1_code 14 = .ok (.putfield 13, 3) := by decide +kernel
theorem d1_17 : decode prog_69_method_1_code 17 = .ok (.return_, 1) := by decide +kernel
theorem pn_1 : plainFor (⟨"com/example/tagwell/tagwell/store/Numbering", "<init>", "(I)V"⟩ : MethodName) = true := by first | exact plainFor_of_name (by first | (simp [plainName, overriddenIn]; done) | decide +kernel) | decide +kernel
theorem pd_1 : parseMethodDescriptor "(I)V" = some ⟨[.int], none⟩ := by decide +kernel
theorem ef_1 (m : MethodId) (o : Addr) (t : Int32) : entryFrame m #[(.ref o), (.int t)] 2 = mkF m 0 #[.val (.ref o), .val (.int t)] [] := by first | (simp [entryFrame, mkF, argsToLocals, Value.category]; done) | rfl
def Q1 (Z : State) (o : Addr) (t : Int32)  (h0 : Heap) (n0 : Nat) (v : Option Value) (h : Heap) (L : List Loc) : Prop := v = none ∧ Fr n0 L ∧ n0 ≤ h.size ∧ ∃ (r : Addr) (k : ClassId), n0 ≤ r ∧ o ≠ r ∧ Exa Z h o "com/example/tagwell/tagwell/store/Numbering" ∧ Fld Z h o "com/example/tagwell/tagwell/store/Numbering" "returned" "[I" (.ref r) ∧ Fld Z h o "com/example/tagwell/tagwell/store/Numbering" "limit" "I" (.int t) ∧ Fld Z h o "com/example/tagwell/tagwell/store/Numbering" "returnedCount" "I" (.int 0) ∧ Arv Z h r k .int (16 : Int32) [.int 0, .int 0, .int 0] (.int 0)
set_option maxRecDepth 65536 in
set_option maxHeartbeats 40000000 in
theorem rm1 (l : Launch) (Z : State) (a0 : Array Value) (hw : ∀ d ∈ tables_1, d.before a0 Z = true) (ws : List Jvm.Cond) (o : Addr) (t : Int32)  (h0 : Heap) (n0 : Nat) (Z0 : n0 ≤ h0.size) (E : Exa Z h0 o "com/example/tagwell/tagwell/store/Numbering") (FR : Fld Z h0 o "com/example/tagwell/tagwell/store/Numbering" "returned" "[I" (.null)) (FL : Fld Z h0 o "com/example/tagwell/tagwell/store/Numbering" "limit" "I" (.int 0)) (FC : Fld Z h0 o "com/example/tagwell/tagwell/store/Numbering" "returnedCount" "I" (.int 0)) (go : n0 ≤ o) :
    MetFree l (⟨"com/example/tagwell/tagwell/store/Numbering", "<init>", "(I)V"⟩ : MethodName) (head1 (Jvm.Cond.code (⟨"com/example/tagwell/tagwell/store/Numbering", "<init>", "(I)V"⟩ : MethodName) prog_69_method_1_code 2 none :: ws) ({ frames := 1, cells := 1, slots := 16, locals := 12 } : Room)) (fun as_ U => as_ = #[(.ref o), (.int t)] ∧ Z.Warmed39 U.vm ∧ U.heap = h0) (fun _ _ _ _ _ => True) (fun _ U oc U' => ∃ v L, oc = .returned v ∧ Q1 Z o t h0 n0 v U'.heap L ∧ FrameEnd U oc U' L ({ frames := 1, cells := 1, slots := 16, locals := 12 } : Room).cells ({ frames := 1, cells := 1, slots := 16, locals := 12 } : Room).slots) := by
  refine MetFree.of_bodySF pn_1 hisR ?_
  intro p e s m args below meth c s₁ Bd hml0 hP hK
  obtain ⟨rfl, hZ, hh⟩ := hP
  have K : ow_K p e below s m meth c Z "com/example/tagwell/tagwell/store/Numbering" prog_69_method_1_code 2 none "<init>" (ow_Gl p e below s (Q1 Z o t h0 n0) 1 16) := ⟨ow_Gl_bc, Bd.exec, Bd.bytes, hml0, findClass_of_methodNamed Bd.named, hZ, Bd.returns, Bd.notSynchronized, (name_of_methodNamed Bd.named Bd.method).1⟩
  have X0 : Stand p l e ({ frames := 1, cells := 1, slots := 16, locals := 12 } : Room) s m #[(.ref o), (.int t)] below meth c s₁ [] 0 0 := Stand.of_body Bd
  have e0 : s₁.heap = h0 := by rw [← hh, Bd.state]; rfl
  have N0 := Fr.nil n0
  refine ow_entry (Q := (Q1 Z o t h0 n0)) (ce := 1) (sl := 16) (ef_1 m o t) ?_
  refine ow_aloadN K X0 (pc' := 1) o d1_0 rfl rfl ?_
  refine ow_initO K X0 (pc' := 4) e0 (hw _ (List.mem_of_getElem? (i := 7) rfl)) (hw _ (List.mem_of_getElem? (i := 8) rfl)) (hw _ (List.mem_of_getElem? (i := 9) rfl)) rfl 0 (Nat.le_of_eq rfl) (by decide) (by decide) d1_1 rfl ?_
  intro T1 X1 e1
  refine ow_aloadN K X1 (pc' := 5) o d1_4 rfl rfl ?_
  refine ow_bipush K X1 (pc' := 7) (16 : Int32) d1_5 rfl (by decide) ?_
  refine ow_newP K X1 (pc' := 9) e1 (hw _ (List.mem_of_getElem? (i := 10) rfl)) (by decide) 16 (by decide) (by decide) (by decide) (by decide) d1_7 rfl ?_
  intro T2 h2 k2 r1 X2 e2 E2 g2 A2
  have ne3 : o ≠ r1 := ow_ne E.lt g2
  have ge4 : n0 ≤ r1 := Nat.le_trans Z0 (Nat.le_of_eq g2.symm)
  have F5 : Exa Z h2 o "com/example/tagwell/tagwell/store/Numbering" := E.ext E2
  have F6 : Fld Z h2 o "com/example/tagwell/tagwell/store/Numbering" "returned" "[I" (.null) := FR.ext E2
  have F7 : Fld Z h2 o "com/example/tagwell/tagwell/store/Numbering" "limit" "I" (.int 0) := FL.ext E2
  have F8 : Fld Z h2 o "com/example/tagwell/tagwell/store/Numbering" "returnedCount" "I" (.int 0) := FC.ext E2
  have Z9 : n0 ≤ h2.size := Nat.le_trans Z0 E2.1
  have F10 : Arv Z h2 r1 k2 .int (16 : Int32) [.int 0, .int 0, .int 0] (.int 0) := Arv.pad A2 (pad_rep [] (.int 0) 3)
  refine ow_putF K X2 (pc' := 12) e2 (.array .int) (hw _ (List.mem_of_getElem? (i := 11) rfl)) F6 F5 (Or.inl (hw _ (List.mem_of_getElem? (i := 12) rfl))) (hw _ (List.mem_of_getElem? (i := 2) rfl)) (by decide) rfl rfl d1_9 rfl ?_
  intro T11 h11 X11 e11 W11 F11 A11
  have F12 : Fld Z h11 o "com/example/tagwell/tagwell/store/Numbering" "limit" "I" (.int 0) := Fld.other W11 F7 (Or.inr (slot_ne (show Laid Z a0 "com/example/tagwell/tagwell/store/Numbering" "com/example/tagwell/tagwell/store/Numbering" "limit" "I" from Or.inl (hw _ (List.mem_of_getElem? (i := 14) rfl))) (show Laid Z a0 "com/example/tagwell/tagwell/store/Numbering" "com/example/tagwell/tagwell/store/Numbering" "returned" "[I" from Or.inl (hw _ (List.mem_of_getElem? (i := 12) rfl))) (by decide) (t := .int) (t' := (.array .int)) (by decide) (by decide)))
  have F13 : Fld Z h11 o "com/example/tagwell/tagwell/store/Numbering" "returnedCount" "I" (.int 0) := Fld.other W11 F8 (Or.inr (slot_ne (show Laid Z a0 "com/example/tagwell/tagwell/store/Numbering" "com/example/tagwell/tagwell/store/Numbering" "returnedCount" "I" from Or.inl (hw _ (List.mem_of_getElem? (i := 21) rfl))) (show Laid Z a0 "com/example/tagwell/tagwell/store/Numbering" "com/example/tagwell/tagwell/store/Numbering" "returned" "[I" from Or.inl (hw _ (List.mem_of_getElem? (i := 12) rfl))) (by decide) (t := .int) (t' := (.array .int)) (by decide) (by decide)))
  have F14 : Arv Z h11 r1 k2 .int (16 : Int32) [.int 0, .int 0, .int 0] (.int 0) := F10.other W11 (Ne.symm ne3)
  have Z15 : n0 ≤ h11.size := Nat.le_trans Z9 (Nat.le_of_eq W11.size.symm)
  have N16 := Fr.snoc X11 N0 go
  refine ow_aloadN K X11 (pc' := 13) o d1_12 rfl rfl ?_
  refine ow_iloadN K X11 (pc' := 14) t d1_13 rfl rfl ?_
  refine ow_putF K X11 (pc' := 17) e11 .int (hw _ (List.mem_of_getElem? (i := 13) rfl)) F12 A11 (Or.inl (hw _ (List.mem_of_getElem? (i := 14) rfl))) (hw _ (List.mem_of_getElem? (i := 2) rfl)) (by decide) rfl rfl d1_14 rfl ?_
  intro T17 h17 X17 e17 W17 F17 A17
  have F18 : Fld Z h17 o "com/example/tagwell/tagwell/store/Numbering" "returned" "[I" (.ref r1) := Fld.other W17 F11 (Or.inr (slot_ne (show Laid Z a0 "com/example/tagwell/tagwell/store/Numbering" "com/example/tagwell/tagwell/store/Numbering" "returned" "[I" from Or.inl (hw _ (List.mem_of_getElem? (i := 12) rfl))) (show Laid Z a0 "com/example/tagwell/tagwell/store/Numbering" "com/example/tagwell/tagwell/store/Numbering" "limit" "I" from Or.inl (hw _ (List.mem_of_getElem? (i := 14) rfl))) (by decide) (t := (.array .int)) (t' := .int) (by decide) (by decide)))
  have F19 : Fld Z h17 o "com/example/tagwell/tagwell/store/Numbering" "returnedCount" "I" (.int 0) := Fld.other W17 F13 (Or.inr (slot_ne (show Laid Z a0 "com/example/tagwell/tagwell/store/Numbering" "com/example/tagwell/tagwell/store/Numbering" "returnedCount" "I" from Or.inl (hw _ (List.mem_of_getElem? (i := 21) rfl))) (show Laid Z a0 "com/example/tagwell/tagwell/store/Numbering" "com/example/tagwell/tagwell/store/Numbering" "limit" "I" from Or.inl (hw _ (List.mem_of_getElem? (i := 14) rfl))) (by decide) (t := .int) (t' := .int) (by decide) (by decide)))
  have F20 : Arv Z h17 r1 k2 .int (16 : Int32) [.int 0, .int 0, .int 0] (.int 0) := F14.other W17 (Ne.symm ne3)
  have Z21 : n0 ≤ h17.size := Nat.le_trans Z15 (Nat.le_of_eq W17.size.symm)
  have N22 := Fr.snoc X17 N16 go
  refine ow_ret K X17 rfl d1_17 ?_ (by decide) (by decide)
  rw [e17]
  exact ⟨rfl, N22, Z21, r1, k2, ge4, ne3, A17, F18, F17, F19, F20⟩
theorem d2_0 : decode prog_69_method_5_code 0 = .ok (.aload_n 0, 1) := by decide +kernel
theorem d2_1 : decode prog_69_method_5_code 1 = .ok (.getfield 17, 3) := by decide +kernel
theorem d2_4 : decode prog_69_method_5_code 4 = .ok (.aload_n 0, 1) := by decide +kernel
theorem d2_5 : decode prog_69_method_5_code 5 = .ok (.getfield 7, 3) := by decide +kernel
theorem d2_8 : decode prog_69_method_5_code 8 = .ok (.arraylength, 1) := by decide +kernel
theorem d2_9 : decode prog_69_method_5_code 9 = .ok (.if_icmp .ne 20, 3) := by decide +kernel
theorem d2_12 : decode prog_69_method_5_code 12 = .ok (.aload_n 0, 1) := by decide +kernel
theorem d2_13 : decode prog_69_method_5_code 13 = .ok (.aload_n 0, 1) := by decide +kernel
theorem d2_14 : decode prog_69_method_5_code 14 = .ok (.getfield 7, 3) := by decide +kernel
theorem d2_17 : decode prog_69_method_5_code 17 = .ok (.aload_n 0, 1) := by decide +kernel
theorem d2_18 : decode prog_69_method_5_code 18 = .ok (.getfield 17, 3) := by decide +kernel
theorem d2_21 : decode prog_69_method_5_code 21 = .ok (.iconst 2, 1) := by decide +kernel
theorem d2_22 : decode prog_69_method_5_code 22 = .ok (.imul, 1) := by decide +kernel
theorem d2_23 : decode prog_69_method_5_code 23 = .ok (.invokestatic 33, 3) := by decide +kernel
theorem d2_26 : decode prog_69_method_5_code 26 = .ok (.putfield 7, 3) := by decide +kernel
theorem d2_29 : decode prog_69_method_5_code 29 = .ok (.aload_n 0, 1) := by decide +kernel
theorem d2_30 : decode prog_69_method_5_code 30 = .ok (.getfield 7, 3) := by decide +kernel
theorem d2_33 : decode prog_69_method_5_code 33 = .ok (.aload_n 0, 1) := by decide +kernel
theorem d2_34 : decode prog_69_method_5_code 34 = .ok (.dup, 1) := by decide +kernel
theorem d2_35 : decode prog_69_method_5_code 35 = .ok (.getfield 17, 3) := by decide +kernel
theorem d2_38 : decode prog_69_method_5_code 38 = .ok (.dup_x1, 1) := by decide +kernel
theorem d2_39 : decode prog_69_method_5_code 39 = .ok (.iconst 1, 1) := by decide +kernel
theorem d2_40 : decode prog_69_method_5_code 40 = .ok (.iadd, 1) := by decide +kernel
theorem d2_41 : decode prog_69_method_5_code 41 = .ok (.putfield 17, 3) := by decide +kernel
theorem d2_44 : decode prog_69_method_5_code 44 = .ok (.iload_n 1, 1) := by decide +kernel
theorem d2_45 : decode prog_69_method_5_code 45 = .ok (.iastore, 1) := by decide +kernel
theorem d2_46 : decode prog_69_method_5_code 46 = .ok (.return_, 1) := by decide +kernel
theorem pn_2 : plainFor (⟨"com/example/tagwell/tagwell/store/Numbering", "giveBack", "(I)V"⟩ : MethodName) = true := by first | exact plainFor_of_name (by first | (simp [plainName, overriddenIn]; done) | decide +kernel) | decide +kernel
theorem pd_2 : parseMethodDescriptor "(I)V" = some ⟨[.int], none⟩ := by decide +kernel
theorem ef_2 (m : MethodId) (o : Addr) (x : Int32) : entryFrame m #[(.ref o), (.int x)] 2 = mkF m 0 #[.val (.ref o), .val (.int x)] [] := by first | (simp [entryFrame, mkF, argsToLocals, Value.category]; done) | rfl
def Q2 (Z : State) (o : Addr) (x : Int32) (r : Addr) (k : ClassId) (t : Int32) (n : Int32) (i : Nat) (vs : List Value) (vs' : List Value) (h0 : Heap) (n0 : Nat) (v : Option Value) (h : Heap) (L : List Loc) : Prop := v = none ∧ Fr n0 L ∧ n0 ≤ h.size ∧ Exa Z h o "com/example/tagwell/tagwell/store/Numbering" ∧ Fld Z h o "com/example/tagwell/tagwell/store/Numbering" "returned" "[I" (.ref r) ∧ Fld Z h o "com/example/tagwell/tagwell/store/Numbering" "limit" "I" (.int t) ∧ Fld Z h o "com/example/tagwell/tagwell/store/Numbering" "returnedCount" "I" (.int (n + (1 : Int32))) ∧ Arv Z h r k .int (16 : Int32) vs' (.int 0)
set_option maxRecDepth 65536 in
set_option maxHeartbeats 40000000 in
theorem rm2 (l : Launch) (Z : State) (a0 : Array Value) (hw : ∀ d ∈ tables_1, d.before a0 Z = true) (ws : List Jvm.Cond) (o : Addr) (x : Int32) (r : Addr) (k : ClassId) (t : Int32) (n : Int32) (i : Nat) (vs : List Value) (vs' : List Value) (h0 : Heap) (n0 : Nat) (Z0 : n0 ≤ h0.size) (E : Exa Z h0 o "com/example/tagwell/tagwell/store/Numbering") (FR : Fld Z h0 o "com/example/tagwell/tagwell/store/Numbering" "returned" "[I" (.ref r)) (FL : Fld Z h0 o "com/example/tagwell/tagwell/store/Numbering" "limit" "I" (.int t)) (FC : Fld Z h0 o "com/example/tagwell/tagwell/store/Numbering" "returnedCount" "I" (.int n)) (AV : Arv Z h0 r k .int (16 : Int32) vs (.int 0)) (go : n0 ≤ o) (gr : n0 ≤ r) (ne : o ≠ r) (hne : ¬ n = 16) (J : ow_Ix n i) (h16 : i < (16 : Int32).toNatClampNeg) (hl : i < vs.length) (hs : vs.set i (.int x) = vs') :
    MetFree l (⟨"com/example/tagwell/tagwell/store/Numbering", "giveBack", "(I)V"⟩ : MethodName) (head1 (Jvm.Cond.code (⟨"com/example/tagwell/tagwell/store/Numbering", "giveBack", "(I)V"⟩ : MethodName) prog_69_method_5_code 2 none :: ws) ({ frames := 0, cells := 0, slots := 0, locals := 0 } : Room)) (fun as_ U => as_ = #[(.ref o), (.int x)] ∧ Z.Warmed39 U.vm ∧ U.heap = h0) (fun _ _ _ _ _ => True) (fun _ U oc U' => ∃ v L, oc = .returned v ∧ Q2 Z o x r k t n i vs vs' h0 n0 v U'.heap L ∧ FrameEnd U oc U' L ({ frames := 0, cells := 0, slots := 0, locals := 0 } : Room).cells ({ frames := 0, cells := 0, slots := 0, locals := 0 } : Room).slots) := by
  refine MetFree.of_bodySF pn_2 hisR ?_
  intro p e s m args below meth c s₁ Bd hml0 hP hK
  obtain ⟨rfl, hZ, hh⟩ := hP
  have K : ow_K p e below s m meth c Z "com/example/tagwell/tagwell/store/Numbering" prog_69_method_5_code 2 none "giveBack" (ow_Gl p e below s (Q2 Z o x r k t n i vs vs' h0 n0) 0 0) := ⟨ow_Gl_bc, Bd.exec, Bd.bytes, hml0, findClass_of_methodNamed Bd.named, hZ, Bd.returns, Bd.notSynchronized, (name_of_methodNamed Bd.named Bd.method).1⟩
  have X0 : Stand p l e ({ frames := 0, cells := 0, slots := 0, locals := 0 } : Room) s m #[(.ref o), (.int x)] below meth c s₁ [] 0 0 := Stand.of_body Bd
  have e0 : s₁.heap = h0 := by rw [← hh, Bd.state]; rfl
  have N0 := Fr.nil n0
  refine ow_entry (Q := (Q2 Z o x r k t n i vs vs' h0 n0)) (ce := 0) (sl := 0) (ef_2 m o x) ?_
  refine ow_aloadN K X0 (pc' := 1) o d2_0 rfl rfl ?_
  refine ow_getF K X0 (pc' := 4) e0 (hw _ (List.mem_of_getElem? (i := 20) rfl)) FC d2_1 rfl ?_
  intro T1 X1 e1
  refine ow_aloadN K X1 (pc' := 5) o d2_4 rfl rfl ?_
  refine ow_getF K X1 (pc' := 8) e1 (hw _ (List.mem_of_getElem? (i := 11) rfl)) FR d2_5 rfl ?_
  intro T2 X2 e2
  refine ow_len K X2 (pc' := 9) e2 AV d2_8 rfl ?_
  refine ow_icmpY K X2 (pc' := 29) d2_9 (XT.ii_ne_t hne) (by decide) (by decide) ?_
  refine ow_aloadN K X2 (pc' := 30) o d2_29 rfl rfl ?_
  refine ow_getF K X2 (pc' := 33) e2 (hw _ (List.mem_of_getElem? (i := 11) rfl)) FR d2_30 rfl ?_
  intro T3 X3 e3
  refine ow_aloadN K X3 (pc' := 34) o d2_33 rfl rfl ?_
  refine ow_dup K X3 (pc' := 35) d2_34 rfl rfl ?_
  refine ow_getF K X3 (pc' := 38) e3 (hw _ (List.mem_of_getElem? (i := 20) rfl)) FC d2_35 rfl ?_
  intro T4 X4 e4
  refine ow_dupX1 K X4 (pc' := 39) d2_38 rfl rfl rfl ?_
  refine ow_iconst K X4 (pc' := 40) (1 : Int32) d2_39 rfl (by decide) ?_
  refine ow_iadd K X4 (pc' := 41) (n + (1 : Int32)) d2_40 rfl rfl ?_
  refine ow_putF K X4 (pc' := 44) e4 .int (hw _ (List.mem_of_getElem? (i := 20) rfl)) FC E (Or.inl (hw _ (List.mem_of_getElem? (i := 21) rfl))) (hw _ (List.mem_of_getElem? (i := 2) rfl)) (by decide) rfl rfl d2_41 rfl ?_
  intro T5 h5 X5 e5 W5 F5 A5
  have F6 : Fld Z h5 o "com/example/tagwell/tagwell/store/Numbering" "returned" "[I" (.ref r) := Fld.other W5 FR (Or.inr (slot_ne (show Laid Z a0 "com/example/tagwell/tagwell/store/Numbering" "com/example/tagwell/tagwell/store/Numbering" "returned" "[I" from Or.inl (hw _ (List.mem_of_getElem? (i := 12) rfl))) (show Laid Z a0 "com/example/tagwell/tagwell/store/Numbering" "com/example/tagwell/tagwell/store/Numbering" "returnedCount" "I" from Or.inl (hw _ (List.mem_of_getElem? (i := 21) rfl))) (by decide) (t := (.array .int)) (t' := .int) (by decide) (by decide)))
  have F7 : Fld Z h5 o "com/example/tagwell/tagwell/store/Numbering" "limit" "I" (.int t) := Fld.other W5 FL (Or.inr (slot_ne (show Laid Z a0 "com/example/tagwell/tagwell/store/Numbering" "com/example/tagwell/tagwell/store/Numbering" "limit" "I" from Or.inl (hw _ (List.mem_of_getElem? (i := 14) rfl))) (show Laid Z a0 "com/example/tagwell/tagwell/store/Numbering" "com/example/tagwell/tagwell/store/Numbering" "returnedCount" "I" from Or.inl (hw _ (List.mem_of_getElem? (i := 21) rfl))) (by decide) (t := .int) (t' := .int) (by decide) (by decide)))
  have F8 : Arv Z h5 r k .int (16 : Int32) vs (.int 0) := AV.other W5 (Ne.symm ne)
  have Z9 : n0 ≤ h5.size := Nat.le_trans Z0 (Nat.le_of_eq W5.size.symm)
  have N10 := Fr.snoc X5 N0 go
  refine ow_iloadN K X5 (pc' := 45) x d2_44 rfl rfl ?_
  refine ow_iastore K X5 (pc' := 46) e5 F8 i vs' J h16 hl hs d2_45 rfl ?_
  intro T11 h11 X11 e11 W11 F11
  have F12 : Exa Z h11 o "com/example/tagwell/tagwell/store/Numbering" := Exa.wr W11 A5
  have F13 : Fld Z h11 o "com/example/tagwell/tagwell/store/Numbering" "returned" "[I" (.ref r) := Fld.other W11 F6 (Or.inl ne)
  have F14 : Fld Z h11 o "com/example/tagwell/tagwell/store/Numbering" "limit" "I" (.int t) := Fld.other W11 F7 (Or.inl ne)
  have F15 : Fld Z h11 o "com/example/tagwell/tagwell/store/Numbering" "returnedCount" "I" (.int (n + (1 : Int32))) := Fld.other W11 F5 (Or.inl ne)
  have Z16 : n0 ≤ h11.size := Nat.le_trans Z9 (Nat.le_of_eq W11.size.symm)
  have N17 := Fr.snoc X11 N10 gr
  refine ow_ret K X11 rfl d2_46 ?_ (by decide) (by decide)
  rw [e11]
  exact ⟨rfl, N17, Z16, F12, F13, F14, F15, F11⟩
theorem d3_0 : decode prog_69_method_2_code 0 = .ok (.aload_n 0, 1) := by decide +kernel
theorem d3_1 : decode prog_69_method_2_code 1 = .ok (.getfield 17, 3) := by decide +kernel
theorem d3_4 : decode prog_69_method_2_code 4 = .ok (.ifCond .le 22, 3) := by decide +kernel
theorem d3_7 : decode prog_69_method_2_code 7 = .ok (.aload_n 0, 1) := by decide +kernel
theorem d3_8 : decode prog_69_method_2_code 8 = .ok (.getfield 7, 3) := by decide +kernel
theorem d3_11 : decode prog_69_method_2_code 11 = .ok (.aload_n 0, 1) := by decide +kernel
theorem d3_12 : decode prog_69_method_2_code 12 = .ok (.dup, 1) := by decide +kernel
theorem d3_13 : decode prog_69_method_2_code 13 = .ok (.getfield 17, 3) := by decide +kernel
theorem d3_16 : decode prog_69_method_2_code 16 = .ok (.iconst 1, 1) := by decide +kernel
theorem d3_17 : decode prog_69_method_2_code 17 = .ok (.isub, 1) := by decide +kernel
theorem d3_18 : decode prog_69_method_2_code 18 = .ok (.dup_x1, 1) := by decide +kernel
theorem d3_19 : decode prog_69_method_2_code 19 = .ok (.putfield 17, 3) := by decide +kernel
theorem d3_22 : decode prog_69_method_2_code 22 = .ok (.iaload, 1) := by decide +kernel
theorem d3_23 : decode prog_69_method_2_code 23 = .ok (.goto 14, 3) := by decide +kernel
theorem d3_26 : decode prog_69_method_2_code 26 = .ok (.aload_n 0, 1) := by decide +kernel
theorem d3_27 : decode prog_69_method_2_code 27 = .ok (.dup, 1) := by decide +kernel
theorem d3_28 : decode prog_69_method_2_code 28 = .ok (.getfield 13, 3) := by decide +kernel
theorem d3_31 : decode prog_69_method_2_code 31 = .ok (.dup_x1, 1) := by decide +kernel
theorem d3_32 : decode prog_69_method_2_code 32 = .ok (.iconst 1, 1) := by decide +kernel
theorem d3_33 : decode prog_69_method_2_code 33 = .ok (.iadd, 1) := by decide +kernel
theorem d3_34 : decode prog_69_method_2_code 34 = .ok (.putfield 13, 3) := by decide +kernel
theorem d3_37 : decode prog_69_method_2_code 37 = .ok (.ireturn, 1) := by decide +kernel
theorem pn_3 : plainFor (⟨"com/example/tagwell/tagwell/store/Numbering", "take", "()I"⟩ : MethodName) = true := by first | exact plainFor_of_name (by first | (simp [plainName, overriddenIn]; done) | decide +kernel) | decide +kernel
theorem pd_3 : parseMethodDescriptor "()I" = some ⟨[], some .int⟩ := by decide +kernel
theorem ef_3 (m : MethodId) (o : Addr) : entryFrame m #[(.ref o)] 1 = mkF m 0 #[.val (.ref o)] [] := by first | (simp [entryFrame, mkF, argsToLocals, Value.category]; done) | rfl
def Q3 (Z : State) (o : Addr) (r : Addr) (k : ClassId) (t : Int32) (n : Int32) (n' : Int32) (i : Nat) (b : Int32) (vs : List Value) (h0 : Heap) (n0 : Nat) (v : Option Value) (h : Heap) (L : List Loc) : Prop := v = some (.int b) ∧ Fr n0 L ∧ n0 ≤ h.size ∧ Exa Z h o "com/example/tagwell/tagwell/store/Numbering" ∧ Fld Z h o "com/example/tagwell/tagwell/store/Numbering" "returned" "[I" (.ref r) ∧ Fld Z h o "com/example/tagwell/tagwell/store/Numbering" "limit" "I" (.int t) ∧ Fld Z h o "com/example/tagwell/tagwell/store/Numbering" "returnedCount" "I" (.int n') ∧ Arv Z h r k .int (16 : Int32) vs (.int 0)
set_option maxRecDepth 65536 in
set_option maxHeartbeats 40000000 in
theorem rm3 (l : Launch) (Z : State) (a0 : Array Value) (hw : ∀ d ∈ tables_1, d.before a0 Z = true) (ws : List Jvm.Cond) (o : Addr) (r : Addr) (k : ClassId) (t : Int32) (n : Int32) (n' : Int32) (i : Nat) (b : Int32) (vs : List Value) (h0 : Heap) (n0 : Nat) (Z0 : n0 ≤ h0.size) (E : Exa Z h0 o "com/example/tagwell/tagwell/store/Numbering") (FR : Fld Z h0 o "com/example/tagwell/tagwell/store/Numbering" "returned" "[I" (.ref r)) (FL : Fld Z h0 o "com/example/tagwell/tagwell/store/Numbering" "limit" "I" (.int t)) (FC : Fld Z h0 o "com/example/tagwell/tagwell/store/Numbering" "returnedCount" "I" (.int n)) (AV : Arv Z h0 r k .int (16 : Int32) vs (.int 0)) (go : n0 ≤ o) (gr : n0 ≤ r) (ne : o ≠ r) (hpos : 0 < n) (hn : n - 1 = n') (J : ow_Ix n' i) (h16 : i < (16 : Int32).toNatClampNeg) (hv : vs.getD i (.int 0) = .int b) :
    MetFree l (⟨"com/example/tagwell/tagwell/store/Numbering", "take", "()I"⟩ : MethodName) (head1 (Jvm.Cond.code (⟨"com/example/tagwell/tagwell/store/Numbering", "take", "()I"⟩ : MethodName) prog_69_method_2_code 1 (some .int) :: ws) ({ frames := 0, cells := 0, slots := 0, locals := 0 } : Room)) (fun as_ U => as_ = #[(.ref o)] ∧ Z.Warmed39 U.vm ∧ U.heap = h0) (fun _ _ _ _ _ => True) (fun _ U oc U' => ∃ v L, oc = .returned v ∧ Q3 Z o r k t n n' i b vs h0 n0 v U'.heap L ∧ FrameEnd U oc U' L ({ frames := 0, cells := 0, slots := 0, locals := 0 } : Room).cells ({ frames := 0, cells := 0, slots := 0, locals := 0 } : Room).slots) := by
  refine MetFree.of_bodySF pn_3 hisR ?_
  intro p e s m args below meth c s₁ Bd hml0 hP hK
  obtain ⟨rfl, hZ, hh⟩ := hP
  have K : ow_K p e below s m meth c Z "com/example/tagwell/tagwell/store/Numbering" prog_69_method_2_code 1 (some .int) "take" (ow_Gl p e below s (Q3 Z o r k t n n' i b vs h0 n0) 0 0) := ⟨ow_Gl_bc, Bd.exec, Bd.bytes, hml0, findClass_of_methodNamed Bd.named, hZ, Bd.returns, Bd.notSynchronized, (name_of_methodNamed Bd.named Bd.method).1⟩
  have X0 : Stand p l e ({ frames := 0, cells := 0, slots := 0, locals := 0 } : Room) s m #[(.ref o)] below meth c s₁ [] 0 0 := Stand.of_body Bd
  have e0 : s₁.heap = h0 := by rw [← hh, Bd.state]; rfl
  have N0 := Fr.nil n0
  refine ow_entry (Q := (Q3 Z o r k t n n' i b vs h0 n0)) (ce := 0) (sl := 0) (ef_3 m o) ?_
  refine ow_aloadN K X0 (pc' := 1) o d3_0 rfl rfl ?_
  refine ow_getF K X0 (pc' := 4) e0 (hw _ (List.mem_of_getElem? (i := 20) rfl)) FC d3_1 rfl ?_
  intro T1 X1 e1
  refine ow_ifN K X1 (pc' := 7) d3_4 rfl (XT.i0_le_f hpos) ?_
  refine ow_aloadN K X1 (pc' := 8) o d3_7 rfl rfl ?_
  refine ow_getF K X1 (pc' := 11) e1 (hw _ (List.mem_of_getElem? (i := 11) rfl)) FR d3_8 rfl ?_
  intro T2 X2 e2
  refine ow_aloadN K X2 (pc' := 12) o d3_11 rfl rfl ?_
  refine ow_dup K X2 (pc' := 13) d3_12 rfl rfl ?_
  refine ow_getF K X2 (pc' := 16) e2 (hw _ (List.mem_of_getElem? (i := 20) rfl)) FC d3_13 rfl ?_
  intro T3 X3 e3
  refine ow_iconst K X3 (pc' := 17) (1 : Int32) d3_16 rfl (by decide) ?_
  refine ow_isub K X3 (pc' := 18) n' d3_17 rfl hn ?_
  refine ow_dupX1 K X3 (pc' := 19) d3_18 rfl rfl rfl ?_
  refine ow_putF K X3 (pc' := 22) e3 .int (hw _ (List.mem_of_getElem? (i := 20) rfl)) FC E (Or.inl (hw _ (List.mem_of_getElem? (i := 21) rfl))) (hw _ (List.mem_of_getElem? (i := 2) rfl)) (by decide) rfl rfl d3_19 rfl ?_
  intro T4 h4 X4 e4 W4 F4 A4
  have F5 : Fld Z h4 o "com/example/tagwell/tagwell/store/Numbering" "returned" "[I" (.ref r) := Fld.other W4 FR (Or.inr (slot_ne (show Laid Z a0 "com/example/tagwell/tagwell/store/Numbering" "com/example/tagwell/tagwell/store/Numbering" "returned" "[I" from Or.inl (hw _ (List.mem_of_getElem? (i := 12) rfl))) (show Laid Z a0 "com/example/tagwell/tagwell/store/Numbering" "com/example/tagwell/tagwell/store/Numbering" "returnedCount" "I" from Or.inl (hw _ (List.mem_of_getElem? (i := 21) rfl))) (by decide) (t := (.array .int)) (t' := .int) (by decide) (by decide)))
  have F6 : Fld Z h4 o "com/example/tagwell/tagwell/store/Numbering" "limit" "I" (.int t) := Fld.other W4 FL (Or.inr (slot_ne (show Laid Z a0 "com/example/tagwell/tagwell/store/Numbering" "com/example/tagwell/tagwell/store/Numbering" "limit" "I" from Or.inl (hw _ (List.mem_of_getElem? (i := 14) rfl))) (show Laid Z a0 "com/example/tagwell/tagwell/store/Numbering" "com/example/tagwell/tagwell/store/Numbering" "returnedCount" "I" from Or.inl (hw _ (List.mem_of_getElem? (i := 21) rfl))) (by decide) (t := .int) (t' := .int) (by decide) (by decide)))
  have F7 : Arv Z h4 r k .int (16 : Int32) vs (.int 0) := AV.other W4 (Ne.symm ne)
  have Z8 : n0 ≤ h4.size := Nat.le_trans Z0 (Nat.le_of_eq W4.size.symm)
  have N9 := Fr.snoc X4 N0 go
  refine ow_iaload K X4 (pc' := 23) e4 F7 i (.int b) J h16 hv d3_22 rfl ?_
  refine ow_goto K X4 (pc' := 37) d3_23 (by decide) (by decide) ?_
  refine ow_retI K X4 .int rfl rfl (Or.inl rfl) d3_37 ?_ (by decide) (by decide)
  rw [e4]
  exact ⟨rfl, N9, Z8, A4, F5, F6, F4, F7⟩
theorem d4_0 : decode prog_69_method_2_code 0 = .ok (.aload_n 0, 1) := by decide +kernel
theorem d4_1 : decode prog_69_method_2_code 1 = .ok (.getfield 17, 3) := by decide +kernel
theorem d4_4 : decode prog_69_method_2_code 4 = .ok (.ifCond .le 22, 3) := by decide +kernel
theorem d4_7 : decode prog_69_method_2_code 7 = .ok (.aload_n 0, 1) := by decide +kernel
theorem d4_8 : decode prog_69_method_2_code 8 = .ok (.getfield 7, 3) := by decide +kernel
theorem d4_11 : decode prog_69_method_2_code 11 = .ok (.aload_n 0, 1) := by decide +kernel
theorem d4_12 : decode prog_69_method_2_code 12 = .ok (.dup, 1) := by decide +kernel
theorem d4_13 : decode prog_69_method_2_code 13 = .ok (.getfield 17, 3) := by decide +kernel
theorem d4_16 : decode prog_69_method_2_code 16 = .ok (.iconst 1, 1) := by decide +kernel
theorem d4_17 : decode prog_69_method_2_code 17 = .ok (.isub, 1) := by decide +kernel
theorem d4_18 : decode prog_69_method_2_code 18 = .ok (.dup_x1, 1) := by decide +kernel
theorem d4_19 : decode prog_69_method_2_code 19 = .ok (.putfield 17, 3) := by decide +kernel
theorem d4_22 : decode prog_69_method_2_code 22 = .ok (.iaload, 1) := by decide +kernel
theorem d4_23 : decode prog_69_method_2_code 23 = .ok (.goto 14, 3) := by decide +kernel
theorem d4_26 : decode prog_69_method_2_code 26 = .ok (.aload_n 0, 1) := by decide +kernel
theorem d4_27 : decode prog_69_method_2_code 27 = .ok (.dup, 1) := by decide +kernel
theorem d4_28 : decode prog_69_method_2_code 28 = .ok (.getfield 13, 3) := by decide +kernel
theorem d4_31 : decode prog_69_method_2_code 31 = .ok (.dup_x1, 1) := by decide +kernel
theorem d4_32 : decode prog_69_method_2_code 32 = .ok (.iconst 1, 1) := by decide +kernel
theorem d4_33 : decode prog_69_method_2_code 33 = .ok (.iadd, 1) := by decide +kernel
theorem d4_34 : decode prog_69_method_2_code 34 = .ok (.putfield 13, 3) := by decide +kernel
theorem d4_37 : decode prog_69_method_2_code 37 = .ok (.ireturn, 1) := by decide +kernel
theorem pn_4 : plainFor (⟨"com/example/tagwell/tagwell/store/Numbering", "take", "()I"⟩ : MethodName) = true := by first | exact plainFor_of_name (by first | (simp [plainName, overriddenIn]; done) | decide +kernel) | decide +kernel
theorem pd_4 : parseMethodDescriptor "()I" = some ⟨[], some .int⟩ := by decide +kernel
theorem ef_4 (m : MethodId) (o : Addr) : entryFrame m #[(.ref o)] 1 = mkF m 0 #[.val (.ref o)] [] := by first | (simp [entryFrame, mkF, argsToLocals, Value.category]; done) | rfl
def Q4 (Z : State) (o : Addr) (r : Addr) (k : ClassId) (t : Int32) (vs : List Value) (h0 : Heap) (n0 : Nat) (v : Option Value) (h : Heap) (L : List Loc) : Prop := v = some (.int t) ∧ Fr n0 L ∧ n0 ≤ h.size ∧ Exa Z h o "com/example/tagwell/tagwell/store/Numbering" ∧ Fld Z h o "com/example/tagwell/tagwell/store/Numbering" "returned" "[I" (.ref r) ∧ Fld Z h o "com/example/tagwell/tagwell/store/Numbering" "limit" "I" (.int (t + (1 : Int32))) ∧ Fld Z h o "com/example/tagwell/tagwell/store/Numbering" "returnedCount" "I" (.int 0) ∧ Arv Z h r k .int (16 : Int32) vs (.int 0)
set_option maxRecDepth 65536 in
set_option maxHeartbeats 40000000 in
theorem rm4 (l : Launch) (Z : State) (a0 : Array Value) (hw : ∀ d ∈ tables_1, d.before a0 Z = true) (ws : List Jvm.Cond) (o : Addr) (r : Addr) (k : ClassId) (t : Int32) (vs : List Value) (h0 : Heap) (n0 : Nat) (Z0 : n0 ≤ h0.size) (E : Exa Z h0 o "com/example/tagwell/tagwell/store/Numbering") (FR : Fld Z h0 o "com/example/tagwell/tagwell/store/Numbering" "returned" "[I" (.ref r)) (FL : Fld Z h0 o "com/example/tagwell/tagwell/store/Numbering" "limit" "I" (.int t)) (FC : Fld Z h0 o "com/example/tagwell/tagwell/store/Numbering" "returnedCount" "I" (.int 0)) (AV : Arv Z h0 r k .int (16 : Int32) vs (.int 0)) (go : n0 ≤ o) (gr : n0 ≤ r) (ne : o ≠ r) :
    MetFree l (⟨"com/example/tagwell/tagwell/store/Numbering", "take", "()I"⟩ : MethodName) (head1 (Jvm.Cond.code (⟨"com/example/tagwell/tagwell/store/Numbering", "take", "()I"⟩ : MethodName) prog_69_method_2_code 1 (some .int) :: ws) ({ frames := 0, cells := 0, slots := 0, locals := 0 } : Room)) (fun as_ U => as_ = #[(.ref o)] ∧ Z.Warmed39 U.vm ∧ U.heap = h0) (fun _ _ _ _ _ => True) (fun _ U oc U' => ∃ v L, oc = .returned v ∧ Q4 Z o r k t vs h0 n0 v U'.heap L ∧ FrameEnd U oc U' L ({ frames := 0, cells := 0, slots := 0, locals := 0 } : Room).cells ({ frames := 0, cells := 0, slots := 0, locals := 0 } : Room).slots) := by
  refine MetFree.of_bodySF pn_4 hisR ?_
  intro p e s m args below meth c s₁ Bd hml0 hP hK
  obtain ⟨rfl, hZ, hh⟩ := hP
  have K : ow_K p e below s m meth c Z "com/example/tagwell/tagwell/store/Numbering" prog_69_method_2_code 1 (some .int) "take" (ow_Gl p e below s (Q4 Z o r k t vs h0 n0) 0 0) := ⟨ow_Gl_bc, Bd.exec, Bd.bytes, hml0, findClass_of_methodNamed Bd.named, hZ, Bd.returns, Bd.notSynchronized, (name_of_methodNamed Bd.named Bd.method).1⟩
  have X0 : Stand p l e ({ frames := 0, cells := 0, slots := 0, locals := 0 } : Room) s m #[(.ref o)] below meth c s₁ [] 0 0 := Stand.of_body Bd
  have e0 : s₁.heap = h0 := by rw [← hh, Bd.state]; rfl
  have N0 := Fr.nil n0
  refine ow_entry (Q := (Q4 Z o r k t vs h0 n0)) (ce := 0) (sl := 0) (ef_4 m o) ?_
  refine ow_aloadN K X0 (pc' := 1) o d4_0 rfl rfl ?_
  refine ow_getF K X0 (pc' := 4) e0 (hw _ (List.mem_of_getElem? (i := 20) rfl)) FC d4_1 rfl ?_
  intro T1 X1 e1
  refine ow_ifY K X1 (pc' := 26) d4_4 (XT.i0_le_t (by decide)) (by decide) (by decide) ?_
  refine ow_aloadN K X1 (pc' := 27) o d4_26 rfl rfl ?_
  refine ow_dup K X1 (pc' := 28) d4_27 rfl rfl ?_
  refine ow_getF K X1 (pc' := 31) e1 (hw _ (List.mem_of_getElem? (i := 13) rfl)) FL d4_28 rfl ?_
  intro T2 X2 e2
  refine ow_dupX1 K X2 (pc' := 32) d4_31 rfl rfl rfl ?_
  refine ow_iconst K X2 (pc' := 33) (1 : Int32) d4_32 rfl (by decide) ?_
  refine ow_iadd K X2 (pc' := 34) (t + (1 : Int32)) d4_33 rfl rfl ?_
  refine ow_putF K X2 (pc' := 37) e2 .int (hw _ (List.mem_of_getElem? (i := 13) rfl)) FL E (Or.inl (hw _ (List.mem_of_getElem? (i := 14) rfl))) (hw _ (List.mem_of_getElem? (i := 2) rfl)) (by decide) rfl rfl d4_34 rfl ?_
  intro T3 h3 X3 e3 W3 F3 A3
  have F4 : Fld Z h3 o "com/example/tagwell/tagwell/store/Numbering" "returned" "[I" (.ref r) := Fld.other W3 FR (Or.inr (slot_ne (show Laid Z a0 "com/example/tagwell/tagwell/store/Numbering" "com/example/tagwell/tagwell/store/Numbering" "returned" "[I" from Or.inl (hw _ (List.mem_of_getElem? (i := 12) rfl))) (show Laid Z a0 "com/example/tagwell/tagwell/store/Numbering" "com/example/tagwell/tagwell/store/Numbering" "limit" "I" from Or.inl (hw _ (List.mem_of_getElem? (i := 14) rfl))) (by decide) (t := (.array .int)) (t' := .int) (by decide) (by decide)))
  have F5 : Fld Z h3 o "com/example/tagwell/tagwell/store/Numbering" "returnedCount" "I" (.int 0) := Fld.other W3 FC (Or.inr (slot_ne (show Laid Z a0 "com/example/tagwell/tagwell/store/Numbering" "com/example/tagwell/tagwell/store/Numbering" "returnedCount" "I" from Or.inl (hw _ (List.mem_of_getElem? (i := 21) rfl))) (show Laid Z a0 "com/example/tagwell/tagwell/store/Numbering" "com/example/tagwell/tagwell/store/Numbering" "limit" "I" from Or.inl (hw _ (List.mem_of_getElem? (i := 14) rfl))) (by decide) (t := .int) (t' := .int) (by decide) (by decide)))
  have F6 : Arv Z h3 r k .int (16 : Int32) vs (.int 0) := AV.other W3 (Ne.symm ne)
  have Z7 : n0 ≤ h3.size := Nat.le_trans Z0 (Nat.le_of_eq W3.size.symm)
  have N8 := Fr.snoc X3 N0 go
  refine ow_retI K X3 .int rfl rfl (Or.inl rfl) d4_37 ?_ (by decide) (by decide)
  rw [e3]
  exact ⟨rfl, N8, Z7, A3, F4, F3, F5, F6⟩
theorem d5_0 : decode prog_69_method_4_code 0 = .ok (.aload_n 0, 1) := by decide +kernel
theorem d5_1 : decode prog_69_method_4_code 1 = .ok (.getfield 13, 3) := by decide +kernel
theorem d5_4 : decode prog_69_method_4_code 4 = .ok (.ireturn, 1) := by decide +kernel
theorem pn_5 : plainFor (⟨"com/example/tagwell/tagwell/store/Numbering", "limit", "()I"⟩ : MethodName) = true := by first | exact plainFor_of_name (by first | (simp [plainName, overriddenIn]; done) | decide +kernel) | decide +kernel
theorem pd_5 : parseMethodDescriptor "()I" = some ⟨[], some .int⟩ := by decide +kernel
theorem ef_5 (m : MethodId) (o : Addr) : entryFrame m #[(.ref o)] 1 = mkF m 0 #[.val (.ref o)] [] := by first | (simp [entryFrame, mkF, argsToLocals, Value.category]; done) | rfl
def Q5 (Z : State) (o : Addr) (t : Int32) (h0 : Heap) (n0 : Nat) (v : Option Value) (h : Heap) (L : List Loc) : Prop := v = some (.int t) ∧ Fr n0 L ∧ h = h0
set_option maxRecDepth 65536 in
set_option maxHeartbeats 40000000 in
theorem rm5 (l : Launch) (Z : State) (a0 : Array Value) (hw : ∀ d ∈ tables_1, d.before a0 Z = true) (ws : List Jvm.Cond) (o : Addr) (t : Int32) (h0 : Heap) (n0 : Nat) (Z0 : n0 ≤ h0.size) (FL : Fld Z h0 o "com/example/tagwell/tagwell/store/Numbering" "limit" "I" (.int t)) :
    MetFree l (⟨"com/example/tagwell/tagwell/store/Numbering", "limit", "()I"⟩ : MethodName) (head1 (Jvm.Cond.code (⟨"com/example/tagwell/tagwell/store/Numbering", "limit", "()I"⟩ : MethodName) prog_69_method_4_code 1 (some .int) :: ws) ({ frames := 0, cells := 0, slots := 0, locals := 0 } : Room)) (fun as_ U => as_ = #[(.ref o)] ∧ Z.Warmed39 U.vm ∧ U.heap = h0) (fun _ _ _ _ _ => True) (fun _ U oc U' => ∃ v L, oc = .returned v ∧ Q5 Z o t h0 n0 v U'.heap L ∧ FrameEnd U oc U' L ({ frames := 0, cells := 0, slots := 0, locals := 0 } : Room).cells ({ frames := 0, cells := 0, slots := 0, locals := 0 } : Room).slots) := by
  refine MetFree.of_bodySF pn_5 hisR ?_
  intro p e s m args below meth c s₁ Bd hml0 hP hK
  obtain ⟨rfl, hZ, hh⟩ := hP
  have K : ow_K p e below s m meth c Z "com/example/tagwell/tagwell/store/Numbering" prog_69_method_4_code 1 (some .int) "limit" (ow_Gl p e below s (Q5 Z o t h0 n0) 0 0) := ⟨ow_Gl_bc, Bd.exec, Bd.bytes, hml0, findClass_of_methodNamed Bd.named, hZ, Bd.returns, Bd.notSynchronized, (name_of_methodNamed Bd.named Bd.method).1⟩
  have X0 : Stand p l e ({ frames := 0, cells := 0, slots := 0, locals := 0 } : Room) s m #[(.ref o)] below meth c s₁ [] 0 0 := Stand.of_body Bd
  have e0 : s₁.heap = h0 := by rw [← hh, Bd.state]; rfl
  have N0 := Fr.nil n0
  refine ow_entry (Q := (Q5 Z o t h0 n0)) (ce := 0) (sl := 0) (ef_5 m o) ?_
  refine ow_aloadN K X0 (pc' := 1) o d5_0 rfl rfl ?_
  refine ow_getF K X0 (pc' := 4) e0 (hw _ (List.mem_of_getElem? (i := 13) rfl)) FL d5_1 rfl ?_
  intro T1 X1 e1
  exact ow_retI K X1 .int rfl rfl (Or.inl rfl) d5_4 ⟨rfl, N0, e1⟩ (by decide) (by decide)
theorem d6_0 : decode method_3_code 0 = .ok (.iload_n 0, 1) := by decide +kernel
theorem d6_1 : decode method_3_code 1 = .ok (.iload_n 1, 1) := by decide +kernel
theorem d6_2 : decode method_3_code 2 = .ok (.if_icmp .ge 29, 3) := by decide +kernel
theorem d6_5 : decode method_3_code 5 = .ok (.iload_n 1, 1) := by decide +kernel
theorem d6_6 : decode method_3_code 6 = .ok (.iconst 1, 1) := by decide +kernel
theorem d6_7 : decode method_3_code 7 = .ok (.isub, 1) := by decide +kernel
theorem d6_8 : decode method_3_code 8 = .ok (.iload_n 0, 1) := by decide +kernel
theorem d6_9 : decode method_3_code 9 = .ok (.isub, 1) := by decide +kernel
theorem d6_10 : decode method_3_code 10 = .ok (.istore 6, 2) := by decide +kernel
theorem d6_12 : decode method_3_code 12 = .ok (.iload 6, 2) := by decide +kernel
theorem d6_14 : decode method_3_code 14 = .ok (.ifCond .ne 5, 3) := by decide +kernel
theorem d6_17 : decode method_3_code 17 = .ok (.iload_n 3, 1) := by decide +kernel
theorem d6_18 : decode method_3_code 18 = .ok (.ireturn, 1) := by decide +kernel
theorem d6_19 : decode method_3_code 19 = .ok (.iload 6, 2) := by decide +kernel
theorem d6_21 : decode method_3_code 21 = .ok (.iconst 1, 1) := by decide +kernel
theorem d6_22 : decode method_3_code 22 = .ok (.if_icmp .ne 6, 3) := by decide +kernel
theorem d6_25 : decode method_3_code 25 = .ok (.iload 4, 2) := by decide +kernel
theorem d6_27 : decode method_3_code 27 = .ok (.ireturn, 1) := by decide +kernel
theorem d6_28 : decode method_3_code 28 = .ok (.iload 5, 2) := by decide +kernel
theorem d6_30 : decode method_3_code 30 = .ok (.ireturn, 1) := by decide +kernel
theorem d6_31 : decode method_3_code 31 = .ok (.iload_n 2, 1) := by decide +kernel
theorem d6_32 : decode method_3_code 32 = .ok (.iload_n 0, 1) := by decide +kernel
theorem d6_33 : decode method_3_code 33 = .ok (.iload_n 1, 1) := by decide +kernel
theorem d6_34 : decode method_3_code 34 = .ok (.isub, 1) := by decide +kernel
theorem d6_35 : decode method_3_code 35 = .ok (.iadd, 1) := by decide +kernel
theorem d6_36 : decode method_3_code 36 = .ok (.ireturn, 1) := by decide +kernel
theorem pn_6 : plainFor (⟨"com/example/tagwell/tagwell/store/NumberingTakePinLaw", "expect", "(IIIIII)I"⟩ : MethodName) = true := by first | exact plainFor_of_name (by first | (simp [plainName, overriddenIn]; done) | decide +kernel) | decide +kernel
theorem pd_6 : parseMethodDescriptor "(IIIIII)I" = some ⟨[.int, .int, .int, .int, .int, .int], some .int⟩ := by decide +kernel
theorem ef_6 (m : MethodId) (i : Int32) (n : Int32) (t : Int32) (a : Int32) (b : Int32) (d : Int32) : entryFrame m #[(.int i), (.int n), (.int t), (.int a), (.int b), (.int d)] 7 = mkF m 0 #[.val (.int i), .val (.int n), .val (.int t), .val (.int a), .val (.int b), .val (.int d), .unset] [] := by first | (simp [entryFrame, mkF, argsToLocals, Value.category]; done) | rfl
def Q6 (Z : State) (i : Int32) (n : Int32) (t : Int32) (a : Int32) (b : Int32) (d : Int32)  (h0 : Heap) (n0 : Nat) (v : Option Value) (h : Heap) (L : List Loc) : Prop := v = some (.int (own_exp i n t a b d)) ∧ Fr n0 L ∧ h = h0
set_option maxRecDepth 65536 in
set_option maxHeartbeats 40000000 in
theorem rm6 (l : Launch) (Z : State) (a0 : Array Value) (hw : ∀ d ∈ tables_1, d.before a0 Z = true) (ws : List Jvm.Cond) (i : Int32) (n : Int32) (t : Int32) (a : Int32) (b : Int32) (d : Int32)  (h0 : Heap) (n0 : Nat) (Z0 : n0 ≤ h0.size)  :
    MetFree l (⟨"com/example/tagwell/tagwell/store/NumberingTakePinLaw", "expect", "(IIIIII)I"⟩ : MethodName) (head1 (Jvm.Cond.code (⟨"com/example/tagwell/tagwell/store/NumberingTakePinLaw", "expect", "(IIIIII)I"⟩ : MethodName) method_3_code 7 (some .int) :: ws) ({ frames := 0, cells := 0, slots := 0, locals := 0 } : Room)) (fun as_ U => as_ = #[(.int i), (.int n), (.int t), (.int a), (.int b), (.int d)] ∧ Z.Warmed39 U.vm ∧ U.heap = h0) (fun _ _ _ _ _ => True) (fun _ U oc U' => ∃ v L, oc = .returned v ∧ Q6 Z i n t a b d h0 n0 v U'.heap L ∧ FrameEnd U oc U' L ({ frames := 0, cells := 0, slots := 0, locals := 0 } : Room).cells ({ frames := 0, cells := 0, slots := 0, locals := 0 } : Room).slots) := by
  refine MetFree.of_bodySF pn_6 hisR ?_
  intro p e s m args below meth c s₁ Bd hml0 hP hK
  obtain ⟨rfl, hZ, hh⟩ := hP
  have K : ow_K p e below s m meth c Z "com/example/tagwell/tagwell/store/NumberingTakePinLaw" method_3_code 7 (some .int) "expect" (ow_Gl p e below s (Q6 Z i n t a b d h0 n0) 0 0) := ⟨ow_Gl_bc, Bd.exec, Bd.bytes, hml0, findClass_of_methodNamed Bd.named, hZ, Bd.returns, Bd.notSynchronized, (name_of_methodNamed Bd.named Bd.method).1⟩
  have X0 : Stand p l e ({ frames := 0, cells := 0, slots := 0, locals := 0 } : Room) s m #[(.int i), (.int n), (.int t), (.int a), (.int b), (.int d)] below meth c s₁ [] 0 0 := Stand.of_body Bd
  have e0 : s₁.heap = h0 := by rw [← hh, Bd.state]; rfl
  have N0 := Fr.nil n0
  refine ow_entry (Q := (Q6 Z i n t a b d h0 n0)) (ce := 0) (sl := 0) (ef_6 m i n t a b d) ?_
  refine ow_iloadN K X0 (pc' := 1) i d6_0 rfl rfl ?_
  refine ow_iloadN K X0 (pc' := 2) n d6_1 rfl rfl ?_
  by_cases h1 : i < n
  · refine ow_icmpN K X0 (pc' := 5) d6_2 rfl (XT.ii_ge_f h1) ?_
    refine ow_iloadN K X0 (pc' := 6) n d6_5 rfl rfl ?_
    refine ow_iconst K X0 (pc' := 7) (1 : Int32) d6_6 rfl (by decide) ?_
    refine ow_isub K X0 (pc' := 8) (n - (1 : Int32)) d6_7 rfl rfl ?_
    refine ow_iloadN K X0 (pc' := 9) i d6_8 rfl rfl ?_
    refine ow_isub K X0 (pc' := 10) ((n - (1 : Int32)) - i) d6_9 rfl rfl ?_
    refine ow_istore K X0 (pc' := 12) (Ls' := #[.val (.int i), .val (.int n), .val (.int t), .val (.int a), .val (.int b), .val (.int d), .val (.int ((n - (1 : Int32)) - i))]) d6_10 rfl rfl ?_
    refine ow_iload K X0 (pc' := 14) ((n - (1 : Int32)) - i) d6_12 rfl rfl ?_
    by_cases h2 : ((n - (1 : Int32)) - i) = 0
    · refine ow_ifN K X0 (pc' := 17) d6_14 rfl (XT.i0_ne_f h2) ?_
      refine ow_iloadN K X0 (pc' := 18) a d6_17 rfl rfl ?_
      exact ow_retI K X0 .int rfl rfl (Or.inl rfl) d6_18 ⟨by simp only [own_exp, if_pos h1, if_pos h2, if_true, if_false]; try rfl, N0, e0⟩ (by decide) (by decide)
    · refine ow_ifY K X0 (pc' := 19) d6_14 (XT.i0_ne_t h2) (by decide) (by decide) ?_
      refine ow_iload K X0 (pc' := 21) ((n - (1 : Int32)) - i) d6_19 rfl rfl ?_
      refine ow_iconst K X0 (pc' := 22) (1 : Int32) d6_21 rfl (by decide) ?_
      by_cases h3 : ((n - (1 : Int32)) - i) = (1 : Int32)
      · refine ow_icmpN K X0 (pc' := 25) d6_22 rfl (XT.ii_ne_f h3) ?_
        refine ow_iload K X0 (pc' := 27) b d6_25 rfl rfl ?_
        exact ow_retI K X0 .int rfl rfl (Or.inl rfl) d6_27 ⟨by simp only [own_exp, if_pos h1, if_neg h2, if_pos h3, if_true, if_false]; try rfl, N0, e0⟩ (by decide) (by decide)
      · refine ow_icmpY K X0 (pc' := 28) d6_22 (XT.ii_ne_t h3) (by decide) (by decide) ?_
        refine ow_iload K X0 (pc' := 30) d d6_28 rfl rfl ?_
        exact ow_retI K X0 .int rfl rfl (Or.inl rfl) d6_30 ⟨by simp only [own_exp, if_pos h1, if_neg h2, if_neg h3, if_true, if_false]; try rfl, N0, e0⟩ (by decide) (by decide)
  · refine ow_icmpY K X0 (pc' := 31) d6_2 (XT.ii_ge_t h1) (by decide) (by decide) ?_
    refine ow_iloadN K X0 (pc' := 32) t d6_31 rfl rfl ?_
    refine ow_iloadN K X0 (pc' := 33) i d6_32 rfl rfl ?_
    refine ow_iloadN K X0 (pc' := 34) n d6_33 rfl rfl ?_
    refine ow_isub K X0 (pc' := 35) (i - n) d6_34 rfl rfl ?_
    refine ow_iadd K X0 (pc' := 36) (t + (i - n)) d6_35 rfl rfl ?_
    exact ow_retI K X0 .int rfl rfl (Or.inl rfl) d6_36 ⟨by simp only [own_exp, if_neg h1, if_true, if_false]; try rfl, N0, e0⟩ (by decide) (by decide)
def Q0 (n0 : Nat) (v : Option Value) (h : Heap) (L : List Loc) : Prop := v = some (.int 1) ∧ Fr n0 L
set_option maxRecDepth 65536 in
set_option maxHeartbeats 40000000 in
theorem t75_0 {p : Program} {l : Launch} {e : Env} {s : State} {m : MethodId} {args : Array Value} {below : List Frame} {meth : Method} {c : Code} {T : State} {locs : List Loc} {Z : State} {h : Heap} {a0 : Array Value} (hw : ∀ d ∈ tables_1, d.before a0 Z = true) {n0 : Nat} {q0 q1 q2 q3 q4 t a b d : Int32} (K : ow_K p e below s m meth c Z "com/example/tagwell/tagwell/store/NumberingTakePinLaw" code 15 (some .boolean) "law" (ow_Gl p e below s (Q0 n0) 2 19)) (X0 : Stand p l e room_1 s m args below meth c T locs 0 0) (e0 : T.heap = h) (N0 : Fr n0 locs) (Z0 : n0 ≤ h.size) :
    ow_Gl p e below s (Q0 n0) 2 19 (T.setTop (mkF m 75 #[.val (.int q0), .val (.int q1), .val (.int q2), .val (.int q3), .val (.int q4), .val (.int t), .val (.int (0 : Int32)), .val (.int a), .val (.int b), .val (.int d), .unset, .unset, .unset, .unset, .unset] [])) := by
  refine ow_newO K X0 (pc' := 78) e0 (hw _ (List.mem_of_getElem? (i := 1) rfl)) (hw _ (List.mem_of_getElem? (i := 2) rfl)) (hw _ (List.mem_of_getElem? (i := 3) rfl)) (by decide) (by decide) at_75 rfl ?_
  intro T1 h1 o1 X1 e1 E1 g1 A1 D1
  have ge2 : n0 ≤ o1 := Nat.le_trans Z0 (Nat.le_of_eq g1.symm)
  have Z3 : n0 ≤ h1.size := Nat.le_trans Z0 E1.1
  have F4 : Fld Z h1 o1 "com/example/tagwell/tagwell/store/Numbering" "returned" "[I" (.null) := D1 (Or.inl (hw _ (List.mem_of_getElem? (i := 12) rfl))) (ty := (.array .int)) (by decide)
  have F5 : Fld Z h1 o1 "com/example/tagwell/tagwell/store/Numbering" "limit" "I" (.int 0) := D1 (Or.inl (hw _ (List.mem_of_getElem? (i := 14) rfl))) (ty := .int) (by decide)
  have F6 : Fld Z h1 o1 "com/example/tagwell/tagwell/store/Numbering" "returnedCount" "I" (.int 0) := D1 (Or.inl (hw _ (List.mem_of_getElem? (i := 21) rfl))) (ty := .int) (by decide)
  refine ow_dup K X1 (pc' := 79) at_78 rfl rfl ?_
  refine ow_iload K X1 (pc' := 81) t at_79 rfl rfl ?_
  refine ow_callP K X1 (pc' := 84) e1 (y := (⟨"com/example/tagwell/tagwell/store/Numbering", "<init>", "(I)V"⟩ : MethodName)) (rm1 l Z a0 hw [] o1 t h1 n0 Z3 A1 F4 F5 F6 ge2) rfl (hw _ (List.mem_of_getElem? (i := 4) rfl)) (hw _ (List.mem_of_getElem? (i := 5) rfl)) (hw _ (List.mem_of_getElem? (i := 3) rfl)) (hw _ (List.mem_of_getElem? (i := 6) rfl)) (by decide) (st := [.ref o1]) 1 (Nat.le_of_eq rfl) (by decide) (by decide) (by decide) (by decide) rfl [.int t] rfl (lenOf pd_1 rfl) rfl at_81 rfl ?_
  intro v7 T7 L7 X7 hQ7
  obtain ⟨rfl, NN, Z9, r1, k1, gr, ne, EE, FR, FL, FC, AV⟩ := hQ7
  have N9 := Fr.app N0 NN
  refine ow_at (g := (mkF m 84 #[.val (.int q0), .val (.int q1), .val (.int q2), .val (.int q3), .val (.int q4), .val (.int t), .val (.int (0 : Int32)), .val (.int a), .val (.int b), .val (.int d), .unset, .unset, .unset, .unset, .unset] [.ref o1])) ?_
  refine ow_astore K X7 (pc' := 86) (Ls' := #[.val (.int q0), .val (.int q1), .val (.int q2), .val (.int q3), .val (.int q4), .val (.int t), .val (.int (0 : Int32)), .val (.int a), .val (.int b), .val (.int d), .val (.ref o1), .unset, .unset, .unset, .unset]) at_84 rfl rfl ?_
  refine ow_iload K X7 (pc' := 88) (0 : Int32) at_86 rfl rfl ?_
  refine ow_iconst K X7 (pc' := 89) (1 : Int32) at_88 rfl (by decide) ?_
  refine ow_icmpY K X7 (pc' := 99) at_89 (XT.ii_lt_t (by decide)) (by decide) (by decide) ?_
  refine ow_iload K X7 (pc' := 101) (0 : Int32) at_99 rfl rfl ?_
  refine ow_iconst K X7 (pc' := 102) (2 : Int32) at_101 rfl (by decide) ?_
  refine ow_icmpY K X7 (pc' := 112) at_102 (XT.ii_lt_t (by decide)) (by decide) (by decide) ?_
  refine ow_iload K X7 (pc' := 114) (0 : Int32) at_112 rfl rfl ?_
  refine ow_iconst K X7 (pc' := 115) (3 : Int32) at_114 rfl (by decide) ?_
  refine ow_icmpY K X7 (pc' := 125) at_115 (XT.ii_lt_t (by decide)) (by decide) (by decide) ?_
  refine ow_aload K X7 (pc' := 127) o1 at_125 rfl rfl ?_
  refine ow_callV K X7 (pc' := 130) (rfl : T7.heap = T7.heap) (y := (⟨"com/example/tagwell/tagwell/store/Numbering", "take", "()I"⟩ : MethodName)) (rm4 l Z a0 hw [] o1 r1 k1 t [.int 0, .int 0, .int 0] T7.heap n0 Z9 EE FR FL FC AV ge2 gr ne) EE (hw _ (List.mem_of_getElem? (i := 15) rfl)) (hw _ (List.mem_of_getElem? (i := 16) rfl)) (hw _ (List.mem_of_getElem? (i := 18) rfl)) (hw _ (List.mem_of_getElem? (i := 17) rfl)) (hw _ (List.mem_of_getElem? (i := 3) rfl)) (hw _ (List.mem_of_getElem? (i := 19) rfl)) (by decide) (st := []) 0 (Nat.le_of_eq rfl) (by decide) (by decide) (by decide) (by decide) rfl [] rfl (lenOf pd_4 rfl) rfl at_127 rfl ?_
  intro v8 T8 L8 X8 hQ8
  obtain ⟨rfl, NN11, Z110, EE11, FR11, FL11, FC11, AV11⟩ := hQ8
  have N110 := Fr.app N9 NN11
  refine ow_at (g := (mkF m 130 #[.val (.int q0), .val (.int q1), .val (.int q2), .val (.int q3), .val (.int q4), .val (.int t), .val (.int (0 : Int32)), .val (.int a), .val (.int b), .val (.int d), .val (.ref o1), .unset, .unset, .unset, .unset] [.int t])) ?_
  refine ow_istore K X8 (pc' := 132) (Ls' := #[.val (.int q0), .val (.int q1), .val (.int q2), .val (.int q3), .val (.int q4), .val (.int t), .val (.int (0 : Int32)), .val (.int a), .val (.int b), .val (.int d), .val (.ref o1), .val (.int t), .unset, .unset, .unset]) at_130 rfl rfl ?_
  refine ow_aload K X8 (pc' := 134) o1 at_132 rfl rfl ?_
  refine ow_callV K X8 (pc' := 137) (rfl : T8.heap = T8.heap) (y := (⟨"com/example/tagwell/tagwell/store/Numbering", "take", "()I"⟩ : MethodName)) (rm4 l Z a0 hw [] o1 r1 k1 (t + (1 : Int32)) [.int 0, .int 0, .int 0] T8.heap n0 Z110 EE11 FR11 FL11 FC11 AV11 ge2 gr ne) EE11 (hw _ (List.mem_of_getElem? (i := 15) rfl)) (hw _ (List.mem_of_getElem? (i := 16) rfl)) (hw _ (List.mem_of_getElem? (i := 18) rfl)) (hw _ (List.mem_of_getElem? (i := 17) rfl)) (hw _ (List.mem_of_getElem? (i := 3) rfl)) (hw _ (List.mem_of_getElem? (i := 19) rfl)) (by decide) (st := []) 0 (Nat.le_of_eq rfl) (by decide) (by decide) (by decide) (by decide) rfl [] rfl (lenOf pd_4 rfl) rfl at_134 rfl ?_
  intro v9 T9 L9 X9 hQ9
  obtain ⟨rfl, NN12, Z120, EE12, FR12, FL12, FC12, AV12⟩ := hQ9
  have N120 := Fr.app N110 NN12
  refine ow_at (g := (mkF m 137 #[.val (.int q0), .val (.int q1), .val (.int q2), .val (.int q3), .val (.int q4), .val (.int t), .val (.int (0 : Int32)), .val (.int a), .val (.int b), .val (.int d), .val (.ref o1), .val (.int t), .unset, .unset, .unset] [.int (t + (1 : Int32))])) ?_
  refine ow_istore K X9 (pc' := 139) (Ls' := #[.val (.int q0), .val (.int q1), .val (.int q2), .val (.int q3), .val (.int q4), .val (.int t), .val (.int (0 : Int32)), .val (.int a), .val (.int b), .val (.int d), .val (.ref o1), .val (.int t), .val (.int (t + (1 : Int32))), .unset, .unset]) at_137 rfl rfl ?_
  refine ow_aload K X9 (pc' := 141) o1 at_139 rfl rfl ?_
  refine ow_callV K X9 (pc' := 144) (rfl : T9.heap = T9.heap) (y := (⟨"com/example/tagwell/tagwell/store/Numbering", "take", "()I"⟩ : MethodName)) (rm4 l Z a0 hw [] o1 r1 k1 ((t + (1 : Int32)) + (1 : Int32)) [.int 0, .int 0, .int 0] T9.heap n0 Z120 EE12 FR12 FL12 FC12 AV12 ge2 gr ne) EE12 (hw _ (List.mem_of_getElem? (i := 15) rfl)) (hw _ (List.mem_of_getElem? (i := 16) rfl)) (hw _ (List.mem_of_getElem? (i := 18) rfl)) (hw _ (List.mem_of_getElem? (i := 17) rfl)) (hw _ (List.mem_of_getElem? (i := 3) rfl)) (hw _ (List.mem_of_getElem? (i := 19) rfl)) (by decide) (st := []) 0 (Nat.le_of_eq rfl) (by decide) (by decide) (by decide) (by decide) rfl [] rfl (lenOf pd_4 rfl) rfl at_141 rfl ?_
  intro v10 T10 L10 X10 hQ10
  obtain ⟨rfl, NN13, Z130, EE13, FR13, FL13, FC13, AV13⟩ := hQ10
  have N130 := Fr.app N120 NN13
  refine ow_at (g := (mkF m 144 #[.val (.int q0), .val (.int q1), .val (.int q2), .val (.int q3), .val (.int q4), .val (.int t), .val (.int (0 : Int32)), .val (.int a), .val (.int b), .val (.int d), .val (.ref o1), .val (.int t), .val (.int (t + (1 : Int32))), .unset, .unset] [.int ((t + (1 : Int32)) + (1 : Int32))])) ?_
  refine ow_istore K X10 (pc' := 146) (Ls' := #[.val (.int q0), .val (.int q1), .val (.int q2), .val (.int q3), .val (.int q4), .val (.int t), .val (.int (0 : Int32)), .val (.int a), .val (.int b), .val (.int d), .val (.ref o1), .val (.int t), .val (.int (t + (1 : Int32))), .val (.int ((t + (1 : Int32)) + (1 : Int32))), .unset]) at_144 rfl rfl ?_
  refine ow_aload K X10 (pc' := 148) o1 at_146 rfl rfl ?_
  refine ow_callV K X10 (pc' := 151) (rfl : T10.heap = T10.heap) (y := (⟨"com/example/tagwell/tagwell/store/Numbering", "take", "()I"⟩ : MethodName)) (rm4 l Z a0 hw [] o1 r1 k1 (((t + (1 : Int32)) + (1 : Int32)) + (1 : Int32)) [.int 0, .int 0, .int 0] T10.heap n0 Z130 EE13 FR13 FL13 FC13 AV13 ge2 gr ne) EE13 (hw _ (List.mem_of_getElem? (i := 15) rfl)) (hw _ (List.mem_of_getElem? (i := 16) rfl)) (hw _ (List.mem_of_getElem? (i := 18) rfl)) (hw _ (List.mem_of_getElem? (i := 17) rfl)) (hw _ (List.mem_of_getElem? (i := 3) rfl)) (hw _ (List.mem_of_getElem? (i := 19) rfl)) (by decide) (st := []) 0 (Nat.le_of_eq rfl) (by decide) (by decide) (by decide) (by decide) rfl [] rfl (lenOf pd_4 rfl) rfl at_148 rfl ?_
  intro v11 T11 L11 X11 hQ11
  obtain ⟨rfl, NN14, Z140, EE14, FR14, FL14, FC14, AV14⟩ := hQ11
  have N140 := Fr.app N130 NN14
  refine ow_at (g := (mkF m 151 #[.val (.int q0), .val (.int q1), .val (.int q2), .val (.int q3), .val (.int q4), .val (.int t), .val (.int (0 : Int32)), .val (.int a), .val (.int b), .val (.int d), .val (.ref o1), .val (.int t), .val (.int (t + (1 : Int32))), .val (.int ((t + (1 : Int32)) + (1 : Int32))), .unset] [.int (((t + (1 : Int32)) + (1 : Int32)) + (1 : Int32))])) ?_
  refine ow_istore K X11 (pc' := 153) (Ls' := #[.val (.int q0), .val (.int q1), .val (.int q2), .val (.int q3), .val (.int q4), .val (.int t), .val (.int (0 : Int32)), .val (.int a), .val (.int b), .val (.int d), .val (.ref o1), .val (.int t), .val (.int (t + (1 : Int32))), .val (.int ((t + (1 : Int32)) + (1 : Int32))), .val (.int (((t + (1 : Int32)) + (1 : Int32)) + (1 : Int32)))]) at_151 rfl rfl ?_
  refine ow_iload K X11 (pc' := 155) t at_153 rfl rfl ?_
  refine ow_iconst K X11 (pc' := 156) (0 : Int32) at_155 rfl (by decide) ?_
  refine ow_iload K X11 (pc' := 158) (0 : Int32) at_156 rfl rfl ?_
  refine ow_iload K X11 (pc' := 160) t at_158 rfl rfl ?_
  refine ow_iload K X11 (pc' := 162) a at_160 rfl rfl ?_
  refine ow_iload K X11 (pc' := 164) b at_162 rfl rfl ?_
  refine ow_iload K X11 (pc' := 166) d at_164 rfl rfl ?_
  refine ow_callS K X11 (pc' := 169) (rfl : T11.heap = T11.heap) (y := (⟨"com/example/tagwell/tagwell/store/NumberingTakePinLaw", "expect", "(IIIIII)I"⟩ : MethodName)) (rm6 l Z a0 hw [] (0 : Int32) (0 : Int32) t a b d T11.heap n0 Z140) (hw _ (List.mem_of_getElem? (i := 22) rfl)) (hw _ (List.mem_of_getElem? (i := 23) rfl)) (hw _ (List.mem_of_getElem? (i := 24) rfl)) (hw _ (List.mem_of_getElem? (i := 25) rfl)) (by decide) (st := [.int t]) 1 (Nat.le_of_eq rfl) (by decide) (by decide) (by decide) (by decide) rfl [.int (0 : Int32), .int (0 : Int32), .int t, .int a, .int b, .int d] rfl (lenOf pd_6 rfl) rfl at_166 rfl ?_
  intro v12 T12 L12 X12 hQ12
  obtain ⟨rfl, NN15, e15x⟩ := hQ12
  have N150 := Fr.app N140 NN15
  refine ow_at (g := (mkF m 169 #[.val (.int q0), .val (.int q1), .val (.int q2), .val (.int q3), .val (.int q4), .val (.int t), .val (.int (0 : Int32)), .val (.int a), .val (.int b), .val (.int d), .val (.ref o1), .val (.int t), .val (.int (t + (1 : Int32))), .val (.int ((t + (1 : Int32)) + (1 : Int32))), .val (.int (((t + (1 : Int32)) + (1 : Int32)) + (1 : Int32)))] [.int (own_exp (0 : Int32) (0 : Int32) t a b d), .int t])) ?_
  refine ow_icmpN K X12 (pc' := 172) at_169 rfl (XT.ii_ne_f (by show t = own_exp (0 : Int32) (0 : Int32) t a b d; simp only [own_exp]; first | rfl | (simp; done) | (simp [Int32.add_assoc]; done))) ?_
  refine ow_iload K X12 (pc' := 174) (t + (1 : Int32)) at_172 rfl rfl ?_
  refine ow_iconst K X12 (pc' := 175) (1 : Int32) at_174 rfl (by decide) ?_
  refine ow_iload K X12 (pc' := 177) (0 : Int32) at_175 rfl rfl ?_
  refine ow_iload K X12 (pc' := 179) t at_177 rfl rfl ?_
  refine ow_iload K X12 (pc' := 181) a at_179 rfl rfl ?_
  refine ow_iload K X12 (pc' := 183) b at_181 rfl rfl ?_
  refine ow_iload K X12 (pc' := 185) d at_183 rfl rfl ?_
  refine ow_callS K X12 (pc' := 188) e15x (y := (⟨"com/example/tagwell/tagwell/store/NumberingTakePinLaw", "expect", "(IIIIII)I"⟩ : MethodName)) (rm6 l Z a0 hw [] (1 : Int32) (0 : Int32) t a b d T11.heap n0 Z140) (hw _ (List.mem_of_getElem? (i := 22) rfl)) (hw _ (List.mem_of_getElem? (i := 23) rfl)) (hw _ (List.mem_of_getElem? (i := 24) rfl)) (hw _ (List.mem_of_getElem? (i := 25) rfl)) (by decide) (st := [.int (t + (1 : Int32))]) 1 (Nat.le_of_eq rfl) (by decide) (by decide) (by decide) (by decide) rfl [.int (1 : Int32), .int (0 : Int32), .int t, .int a, .int b, .int d] rfl (lenOf pd_6 rfl) rfl at_185 rfl ?_
  intro v13 T13 L13 X13 hQ13
  obtain ⟨rfl, NN16, e16x⟩ := hQ13
  have N160 := Fr.app N150 NN16
  refine ow_at (g := (mkF m 188 #[.val (.int q0), .val (.int q1), .val (.int q2), .val (.int q3), .val (.int q4), .val (.int t), .val (.int (0 : Int32)), .val (.int a), .val (.int b), .val (.int d), .val (.ref o1), .val (.int t), .val (.int (t + (1 : Int32))), .val (.int ((t + (1 : Int32)) + (1 : Int32))), .val (.int (((t + (1 : Int32)) + (1 : Int32)) + (1 : Int32)))] [.int (own_exp (1 : Int32) (0 : Int32) t a b d), .int (t + (1 : Int32))])) ?_
  refine ow_icmpN K X13 (pc' := 191) at_188 rfl (XT.ii_ne_f (by show (t + (1 : Int32)) = own_exp (1 : Int32) (0 : Int32) t a b d; simp only [own_exp]; first | rfl | (simp; done) | (simp [Int32.add_assoc]; done))) ?_
  refine ow_iload K X13 (pc' := 193) ((t + (1 : Int32)) + (1 : Int32)) at_191 rfl rfl ?_
  refine ow_iconst K X13 (pc' := 194) (2 : Int32) at_193 rfl (by decide) ?_
  refine ow_iload K X13 (pc' := 196) (0 : Int32) at_194 rfl rfl ?_
  refine ow_iload K X13 (pc' := 198) t at_196 rfl rfl ?_
  refine ow_iload K X13 (pc' := 200) a at_198 rfl rfl ?_
  refine ow_iload K X13 (pc' := 202) b at_200 rfl rfl ?_
  refine ow_iload K X13 (pc' := 204) d at_202 rfl rfl ?_
  refine ow_callS K X13 (pc' := 207) e16x (y := (⟨"com/example/tagwell/tagwell/store/NumberingTakePinLaw", "expect", "(IIIIII)I"⟩ : MethodName)) (rm6 l Z a0 hw [] (2 : Int32) (0 : Int32) t a b d T11.heap n0 Z140) (hw _ (List.mem_of_getElem? (i := 22) rfl)) (hw _ (List.mem_of_getElem? (i := 23) rfl)) (hw _ (List.mem_of_getElem? (i := 24) rfl)) (hw _ (List.mem_of_getElem? (i := 25) rfl)) (by decide) (st := [.int ((t + (1 : Int32)) + (1 : Int32))]) 1 (Nat.le_of_eq rfl) (by decide) (by decide) (by decide) (by decide) rfl [.int (2 : Int32), .int (0 : Int32), .int t, .int a, .int b, .int d] rfl (lenOf pd_6 rfl) rfl at_204 rfl ?_
  intro v14 T14 L14 X14 hQ14
  obtain ⟨rfl, NN17, e17x⟩ := hQ14
  have N170 := Fr.app N160 NN17
  refine ow_at (g := (mkF m 207 #[.val (.int q0), .val (.int q1), .val (.int q2), .val (.int q3), .val (.int q4), .val (.int t), .val (.int (0 : Int32)), .val (.int a), .val (.int b), .val (.int d), .val (.ref o1), .val (.int t), .val (.int (t + (1 : Int32))), .val (.int ((t + (1 : Int32)) + (1 : Int32))), .val (.int (((t + (1 : Int32)) + (1 : Int32)) + (1 : Int32)))] [.int (own_exp (2 : Int32) (0 : Int32) t a b d), .int ((t + (1 : Int32)) + (1 : Int32))])) ?_
  refine ow_icmpN K X14 (pc' := 210) at_207 rfl (XT.ii_ne_f (by show ((t + (1 : Int32)) + (1 : Int32)) = own_exp (2 : Int32) (0 : Int32) t a b d; simp only [own_exp]; first | rfl | (simp; done) | (simp [Int32.add_assoc]; done))) ?_
  refine ow_iload K X14 (pc' := 212) (((t + (1 : Int32)) + (1 : Int32)) + (1 : Int32)) at_210 rfl rfl ?_
  refine ow_iconst K X14 (pc' := 213) (3 : Int32) at_212 rfl (by decide) ?_
  refine ow_iload K X14 (pc' := 215) (0 : Int32) at_213 rfl rfl ?_
  refine ow_iload K X14 (pc' := 217) t at_215 rfl rfl ?_
  refine ow_iload K X14 (pc' := 219) a at_217 rfl rfl ?_
  refine ow_iload K X14 (pc' := 221) b at_219 rfl rfl ?_
  refine ow_iload K X14 (pc' := 223) d at_221 rfl rfl ?_
  refine ow_callS K X14 (pc' := 226) e17x (y := (⟨"com/example/tagwell/tagwell/store/NumberingTakePinLaw", "expect", "(IIIIII)I"⟩ : MethodName)) (rm6 l Z a0 hw [] (3 : Int32) (0 : Int32) t a b d T11.heap n0 Z140) (hw _ (List.mem_of_getElem? (i := 22) rfl)) (hw _ (List.mem_of_getElem? (i := 23) rfl)) (hw _ (List.mem_of_getElem? (i := 24) rfl)) (hw _ (List.mem_of_getElem? (i := 25) rfl)) (by decide) (st := [.int (((t + (1 : Int32)) + (1 : Int32)) + (1 : Int32))]) 1 (Nat.le_of_eq rfl) (by decide) (by decide) (by decide) (by decide) rfl [.int (3 : Int32), .int (0 : Int32), .int t, .int a, .int b, .int d] rfl (lenOf pd_6 rfl) rfl at_223 rfl ?_
  intro v15 T15 L15 X15 hQ15
  obtain ⟨rfl, NN18, e18x⟩ := hQ15
  have N180 := Fr.app N170 NN18
  refine ow_at (g := (mkF m 226 #[.val (.int q0), .val (.int q1), .val (.int q2), .val (.int q3), .val (.int q4), .val (.int t), .val (.int (0 : Int32)), .val (.int a), .val (.int b), .val (.int d), .val (.ref o1), .val (.int t), .val (.int (t + (1 : Int32))), .val (.int ((t + (1 : Int32)) + (1 : Int32))), .val (.int (((t + (1 : Int32)) + (1 : Int32)) + (1 : Int32)))] [.int (own_exp (3 : Int32) (0 : Int32) t a b d), .int (((t + (1 : Int32)) + (1 : Int32)) + (1 : Int32))])) ?_
  refine ow_icmpN K X15 (pc' := 229) at_226 rfl (XT.ii_ne_f (by show (((t + (1 : Int32)) + (1 : Int32)) + (1 : Int32)) = own_exp (3 : Int32) (0 : Int32) t a b d; simp only [own_exp]; first | rfl | (simp; done) | (simp [Int32.add_assoc]; done))) ?_
  refine ow_aload K X15 (pc' := 231) o1 at_229 rfl rfl ?_
  refine ow_callV K X15 (pc' := 234) e18x (y := (⟨"com/example/tagwell/tagwell/store/Numbering", "limit", "()I"⟩ : MethodName)) (rm5 l Z a0 hw [] o1 ((((t + (1 : Int32)) + (1 : Int32)) + (1 : Int32)) + (1 : Int32)) T11.heap n0 Z140 FL14) EE14 (hw _ (List.mem_of_getElem? (i := 26) rfl)) (hw _ (List.mem_of_getElem? (i := 27) rfl)) (hw _ (List.mem_of_getElem? (i := 29) rfl)) (hw _ (List.mem_of_getElem? (i := 28) rfl)) (hw _ (List.mem_of_getElem? (i := 3) rfl)) (hw _ (List.mem_of_getElem? (i := 30) rfl)) (by decide) (st := []) 0 (Nat.le_of_eq rfl) (by decide) (by decide) (by decide) (by decide) rfl [] rfl (lenOf pd_5 rfl) rfl at_231 rfl ?_
  intro v16 T16 L16 X16 hQ16
  obtain ⟨rfl, NN19, e19x⟩ := hQ16
  have N190 := Fr.app N180 NN19
  refine ow_at (g := (mkF m 234 #[.val (.int q0), .val (.int q1), .val (.int q2), .val (.int q3), .val (.int q4), .val (.int t), .val (.int (0 : Int32)), .val (.int a), .val (.int b), .val (.int d), .val (.ref o1), .val (.int t), .val (.int (t + (1 : Int32))), .val (.int ((t + (1 : Int32)) + (1 : Int32))), .val (.int (((t + (1 : Int32)) + (1 : Int32)) + (1 : Int32)))] [.int ((((t + (1 : Int32)) + (1 : Int32)) + (1 : Int32)) + (1 : Int32))])) ?_
  refine ow_iload K X16 (pc' := 236) t at_234 rfl rfl ?_
  refine ow_iconst K X16 (pc' := 237) (4 : Int32) at_236 rfl (by decide) ?_
  refine ow_iload K X16 (pc' := 239) (0 : Int32) at_237 rfl rfl ?_
  refine ow_isub K X16 (pc' := 240) (4 : Int32) at_239 rfl (by decide) ?_
  refine ow_iadd K X16 (pc' := 241) (t + (4 : Int32)) at_240 rfl rfl ?_
  refine ow_icmpN K X16 (pc' := 244) at_241 rfl (XT.ii_ne_f (by first | rfl | (simp; done) | (simp [Int32.add_assoc]; done))) ?_
  refine ow_iconst K X16 (pc' := 245) (1 : Int32) at_244 rfl (by decide) ?_
  refine ow_goto K X16 (pc' := 249) at_245 (by decide) (by decide) ?_
  exact ow_retI K X16 .boolean rfl (by decide) (Or.inr (Or.inl rfl)) at_249 ⟨rfl, N190⟩ (by decide) (by decide)
set_option maxRecDepth 65536 in
set_option maxHeartbeats 40000000 in
theorem t75_1 {p : Program} {l : Launch} {e : Env} {s : State} {m : MethodId} {args : Array Value} {below : List Frame} {meth : Method} {c : Code} {T : State} {locs : List Loc} {Z : State} {h : Heap} {a0 : Array Value} (hw : ∀ d ∈ tables_1, d.before a0 Z = true) {n0 : Nat} {q0 q1 q2 q3 q4 t a b d : Int32} (K : ow_K p e below s m meth c Z "com/example/tagwell/tagwell/store/NumberingTakePinLaw" code 15 (some .boolean) "law" (ow_Gl p e below s (Q0 n0) 2 19)) (X0 : Stand p l e room_1 s m args below meth c T locs 0 0) (e0 : T.heap = h) (N0 : Fr n0 locs) (Z0 : n0 ≤ h.size) :
    ow_Gl p e below s (Q0 n0) 2 19 (T.setTop (mkF m 75 #[.val (.int q0), .val (.int q1), .val (.int q2), .val (.int q3), .val (.int q4), .val (.int t), .val (.int (1 : Int32)), .val (.int a), .val (.int b), .val (.int d), .unset, .unset, .unset, .unset, .unset] [])) := by
  refine ow_newO K X0 (pc' := 78) e0 (hw _ (List.mem_of_getElem? (i := 1) rfl)) (hw _ (List.mem_of_getElem? (i := 2) rfl)) (hw _ (List.mem_of_getElem? (i := 3) rfl)) (by decide) (by decide) at_75 rfl ?_
  intro T1 h1 o1 X1 e1 E1 g1 A1 D1
  have ge2 : n0 ≤ o1 := Nat.le_trans Z0 (Nat.le_of_eq g1.symm)
  have Z3 : n0 ≤ h1.size := Nat.le_trans Z0 E1.1
  have F4 : Fld Z h1 o1 "com/example/tagwell/tagwell/store/Numbering" "returned" "[I" (.null) := D1 (Or.inl (hw _ (List.mem_of_getElem? (i := 12) rfl))) (ty := (.array .int)) (by decide)
  have F5 : Fld Z h1 o1 "com/example/tagwell/tagwell/store/Numbering" "limit" "I" (.int 0) := D1 (Or.inl (hw _ (List.mem_of_getElem? (i := 14) rfl))) (ty := .int) (by decide)
  have F6 : Fld Z h1 o1 "com/example/tagwell/tagwell/store/Numbering" "returnedCount" "I" (.int 0) := D1 (Or.inl (hw _ (List.mem_of_getElem? (i := 21) rfl))) (ty := .int) (by decide)
  refine ow_dup K X1 (pc' := 79) at_78 rfl rfl ?_
  refine ow_iload K X1 (pc' := 81) t at_79 rfl rfl ?_
  refine ow_callP K X1 (pc' := 84) e1 (y := (⟨"com/example/tagwell/tagwell/store/Numbering", "<init>", "(I)V"⟩ : MethodName)) (rm1 l Z a0 hw [] o1 t h1 n0 Z3 A1 F4 F5 F6 ge2) rfl (hw _ (List.mem_of_getElem? (i := 4) rfl)) (hw _ (List.mem_of_getElem? (i := 5) rfl)) (hw _ (List.mem_of_getElem? (i := 3) rfl)) (hw _ (List.mem_of_getElem? (i := 6) rfl)) (by decide) (st := [.ref o1]) 1 (Nat.le_of_eq rfl) (by decide) (by decide) (by decide) (by decide) rfl [.int t] rfl (lenOf pd_1 rfl) rfl at_81 rfl ?_
  intro v7 T7 L7 X7 hQ7
  obtain ⟨rfl, NN, Z9, r1, k1, gr, ne, EE, FR, FL, FC, AV⟩ := hQ7
  have N9 := Fr.app N0 NN
  refine ow_at (g := (mkF m 84 #[.val (.int q0), .val (.int q1), .val (.int q2), .val (.int q3), .val (.int q4), .val (.int t), .val (.int (1 : Int32)), .val (.int a), .val (.int b), .val (.int d), .unset, .unset, .unset, .unset, .unset] [.ref o1])) ?_
  refine ow_astore K X7 (pc' := 86) (Ls' := #[.val (.int q0), .val (.int q1), .val (.int q2), .val (.int q3), .val (.int q4), .val (.int t), .val (.int (1 : Int32)), .val (.int a), .val (.int b), .val (.int d), .val (.ref o1), .unset, .unset, .unset, .unset]) at_84 rfl rfl ?_
  refine ow_iload K X7 (pc' := 88) (1 : Int32) at_86 rfl rfl ?_
  refine ow_iconst K X7 (pc' := 89) (1 : Int32) at_88 rfl (by decide) ?_
  refine ow_icmpN K X7 (pc' := 92) at_89 rfl (XT.ii_lt_f (by decide)) ?_
  refine ow_aload K X7 (pc' := 94) o1 at_92 rfl rfl ?_
  refine ow_iload K X7 (pc' := 96) a at_94 rfl rfl ?_
  refine ow_callV K X7 (pc' := 99) (rfl : T7.heap = T7.heap) (y := (⟨"com/example/tagwell/tagwell/store/Numbering", "giveBack", "(I)V"⟩ : MethodName)) (rm2 l Z a0 hw [] o1 a r1 k1 t 0 0 [.int 0, .int 0, .int 0] [.int a, .int 0, .int 0] T7.heap n0 Z9 EE FR FL FC AV ge2 gr ne (by decide) ⟨by decide, by decide⟩ (by decide) (by simp) rfl) EE (hw _ (List.mem_of_getElem? (i := 32) rfl)) (hw _ (List.mem_of_getElem? (i := 33) rfl)) (hw _ (List.mem_of_getElem? (i := 35) rfl)) (hw _ (List.mem_of_getElem? (i := 34) rfl)) (hw _ (List.mem_of_getElem? (i := 3) rfl)) (hw _ (List.mem_of_getElem? (i := 36) rfl)) (by decide) (st := []) 0 (Nat.le_of_eq rfl) (by decide) (by decide) (by decide) (by decide) rfl [.int a] rfl (lenOf pd_2 rfl) rfl at_96 rfl ?_
  intro v8 T8 L8 X8 hQ8
  obtain ⟨rfl, NN11, Z110, EE11, FR11, FL11, FC11', AV11⟩ := hQ8
  have FC11 : Fld Z T8.heap o1 "com/example/tagwell/tagwell/store/Numbering" "returnedCount" "I" (.int (1 : Int32)) := FC11'
  have N110 := Fr.app N9 NN11
  refine ow_at (g := (mkF m 99 #[.val (.int q0), .val (.int q1), .val (.int q2), .val (.int q3), .val (.int q4), .val (.int t), .val (.int (1 : Int32)), .val (.int a), .val (.int b), .val (.int d), .val (.ref o1), .unset, .unset, .unset, .unset] [])) ?_
  refine ow_iload K X8 (pc' := 101) (1 : Int32) at_99 rfl rfl ?_
  refine ow_iconst K X8 (pc' := 102) (2 : Int32) at_101 rfl (by decide) ?_
  refine ow_icmpY K X8 (pc' := 112) at_102 (XT.ii_lt_t (by decide)) (by decide) (by decide) ?_
  refine ow_iload K X8 (pc' := 114) (1 : Int32) at_112 rfl rfl ?_
  refine ow_iconst K X8 (pc' := 115) (3 : Int32) at_114 rfl (by decide) ?_
  refine ow_icmpY K X8 (pc' := 125) at_115 (XT.ii_lt_t (by decide)) (by decide) (by decide) ?_
  refine ow_aload K X8 (pc' := 127) o1 at_125 rfl rfl ?_
  refine ow_callV K X8 (pc' := 130) (rfl : T8.heap = T8.heap) (y := (⟨"com/example/tagwell/tagwell/store/Numbering", "take", "()I"⟩ : MethodName)) (rm3 l Z a0 hw [] o1 r1 k1 t (1 : Int32) 0 0 a [.int a, .int 0, .int 0] T8.heap n0 Z110 EE11 FR11 FL11 FC11 AV11 ge2 gr ne (by decide) (by decide) ⟨by decide, by decide⟩ (by decide) rfl) EE11 (hw _ (List.mem_of_getElem? (i := 15) rfl)) (hw _ (List.mem_of_getElem? (i := 16) rfl)) (hw _ (List.mem_of_getElem? (i := 18) rfl)) (hw _ (List.mem_of_getElem? (i := 17) rfl)) (hw _ (List.mem_of_getElem? (i := 3) rfl)) (hw _ (List.mem_of_getElem? (i := 19) rfl)) (by decide) (st := []) 0 (Nat.le_of_eq rfl) (by decide) (by decide) (by decide) (by decide) rfl [] rfl (lenOf pd_3 rfl) rfl at_127 rfl ?_
  intro v9 T9 L9 X9 hQ9
  obtain ⟨rfl, NN12, Z120, EE12, FR12, FL12, FC12, AV12⟩ := hQ9
  have N120 := Fr.app N110 NN12
  refine ow_at (g := (mkF m 130 #[.val (.int q0), .val (.int q1), .val (.int q2), .val (.int q3), .val (.int q4), .val (.int t), .val (.int (1 : Int32)), .val (.int a), .val (.int b), .val (.int d), .val (.ref o1), .unset, .unset, .unset, .unset] [.int a])) ?_
  refine ow_istore K X9 (pc' := 132) (Ls' := #[.val (.int q0), .val (.int q1), .val (.int q2), .val (.int q3), .val (.int q4), .val (.int t), .val (.int (1 : Int32)), .val (.int a), .val (.int b), .val (.int d), .val (.ref o1), .val (.int a), .unset, .unset, .unset]) at_130 rfl rfl ?_
  refine ow_aload K X9 (pc' := 134) o1 at_132 rfl rfl ?_
  refine ow_callV K X9 (pc' := 137) (rfl : T9.heap = T9.heap) (y := (⟨"com/example/tagwell/tagwell/store/Numbering", "take", "()I"⟩ : MethodName)) (rm4 l Z a0 hw [] o1 r1 k1 t [.int a, .int 0, .int 0] T9.heap n0 Z120 EE12 FR12 FL12 FC12 AV12 ge2 gr ne) EE12 (hw _ (List.mem_of_getElem? (i := 15) rfl)) (hw _ (List.mem_of_getElem? (i := 16) rfl)) (hw _ (List.mem_of_getElem? (i := 18) rfl)) (hw _ (List.mem_of_getElem? (i := 17) rfl)) (hw _ (List.mem_of_getElem? (i := 3) rfl)) (hw _ (List.mem_of_getElem? (i := 19) rfl)) (by decide) (st := []) 0 (Nat.le_of_eq rfl) (by decide) (by decide) (by decide) (by decide) rfl [] rfl (lenOf pd_4 rfl) rfl at_134 rfl ?_
  intro v10 T10 L10 X10 hQ10
  obtain ⟨rfl, NN13, Z130, EE13, FR13, FL13, FC13, AV13⟩ := hQ10
  have N130 := Fr.app N120 NN13
  refine ow_at (g := (mkF m 137 #[.val (.int q0), .val (.int q1), .val (.int q2), .val (.int q3), .val (.int q4), .val (.int t), .val (.int (1 : Int32)), .val (.int a), .val (.int b), .val (.int d), .val (.ref o1), .val (.int a), .unset, .unset, .unset] [.int t])) ?_
  refine ow_istore K X10 (pc' := 139) (Ls' := #[.val (.int q0), .val (.int q1), .val (.int q2), .val (.int q3), .val (.int q4), .val (.int t), .val (.int (1 : Int32)), .val (.int a), .val (.int b), .val (.int d), .val (.ref o1), .val (.int a), .val (.int t), .unset, .unset]) at_137 rfl rfl ?_
  refine ow_aload K X10 (pc' := 141) o1 at_139 rfl rfl ?_
  refine ow_callV K X10 (pc' := 144) (rfl : T10.heap = T10.heap) (y := (⟨"com/example/tagwell/tagwell/store/Numbering", "take", "()I"⟩ : MethodName)) (rm4 l Z a0 hw [] o1 r1 k1 (t + (1 : Int32)) [.int a, .int 0, .int 0] T10.heap n0 Z130 EE13 FR13 FL13 FC13 AV13 ge2 gr ne) EE13 (hw _ (List.mem_of_getElem? (i := 15) rfl)) (hw _ (List.mem_of_getElem? (i := 16) rfl)) (hw _ (List.mem_of_getElem? (i := 18) rfl)) (hw _ (List.mem_of_getElem? (i := 17) rfl)) (hw _ (List.mem_of_getElem? (i := 3) rfl)) (hw _ (List.mem_of_getElem? (i := 19) rfl)) (by decide) (st := []) 0 (Nat.le_of_eq rfl) (by decide) (by decide) (by decide) (by decide) rfl [] rfl (lenOf pd_4 rfl) rfl at_141 rfl ?_
  intro v11 T11 L11 X11 hQ11
  obtain ⟨rfl, NN14, Z140, EE14, FR14, FL14, FC14, AV14⟩ := hQ11
  have N140 := Fr.app N130 NN14
  refine ow_at (g := (mkF m 144 #[.val (.int q0), .val (.int q1), .val (.int q2), .val (.int q3), .val (.int q4), .val (.int t), .val (.int (1 : Int32)), .val (.int a), .val (.int b), .val (.int d), .val (.ref o1), .val (.int a), .val (.int t), .unset, .unset] [.int (t + (1 : Int32))])) ?_
  refine ow_istore K X11 (pc' := 146) (Ls' := #[.val (.int q0), .val (.int q1), .val (.int q2), .val (.int q3), .val (.int q4), .val (.int t), .val (.int (1 : Int32)), .val (.int a), .val (.int b), .val (.int d), .val (.ref o1), .val (.int a), .val (.int t), .val (.int (t + (1 : Int32))), .unset]) at_144 rfl rfl ?_
  refine ow_aload K X11 (pc' := 148) o1 at_146 rfl rfl ?_
  refine ow_callV K X11 (pc' := 151) (rfl : T11.heap = T11.heap) (y := (⟨"com/example/tagwell/tagwell/store/Numbering", "take", "()I"⟩ : MethodName)) (rm4 l Z a0 hw [] o1 r1 k1 ((t + (1 : Int32)) + (1 : Int32)) [.int a, .int 0, .int 0] T11.heap n0 Z140 EE14 FR14 FL14 FC14 AV14 ge2 gr ne) EE14 (hw _ (List.mem_of_getElem? (i := 15) rfl)) (hw _ (List.mem_of_getElem? (i := 16) rfl)) (hw _ (List.mem_of_getElem? (i := 18) rfl)) (hw _ (List.mem_of_getElem? (i := 17) rfl)) (hw _ (List.mem_of_getElem? (i := 3) rfl)) (hw _ (List.mem_of_getElem? (i := 19) rfl)) (by decide) (st := []) 0 (Nat.le_of_eq rfl) (by decide) (by decide) (by decide) (by decide) rfl [] rfl (lenOf pd_4 rfl) rfl at_148 rfl ?_
  intro v12 T12 L12 X12 hQ12
  obtain ⟨rfl, NN15, Z150, EE15, FR15, FL15, FC15, AV15⟩ := hQ12
  have N150 := Fr.app N140 NN15
  refine ow_at (g := (mkF m 151 #[.val (.int q0), .val (.int q1), .val (.int q2), .val (.int q3), .val (.int q4), .val (.int t), .val (.int (1 : Int32)), .val (.int a), .val (.int b), .val (.int d), .val (.ref o1), .val (.int a), .val (.int t), .val (.int (t + (1 : Int32))), .unset] [.int ((t + (1 : Int32)) + (1 : Int32))])) ?_
  refine ow_istore K X12 (pc' := 153) (Ls' := #[.val (.int q0), .val (.int q1), .val (.int q2), .val (.int q3), .val (.int q4), .val (.int t), .val (.int (1 : Int32)), .val (.int a), .val (.int b), .val (.int d), .val (.ref o1), .val (.int a), .val (.int t), .val (.int (t + (1 : Int32))), .val (.int ((t + (1 : Int32)) + (1 : Int32)))]) at_151 rfl rfl ?_
  refine ow_iload K X12 (pc' := 155) a at_153 rfl rfl ?_
  refine ow_iconst K X12 (pc' := 156) (0 : Int32) at_155 rfl (by decide) ?_
  refine ow_iload K X12 (pc' := 158) (1 : Int32) at_156 rfl rfl ?_
  refine ow_iload K X12 (pc' := 160) t at_158 rfl rfl ?_
  refine ow_iload K X12 (pc' := 162) a at_160 rfl rfl ?_
  refine ow_iload K X12 (pc' := 164) b at_162 rfl rfl ?_
  refine ow_iload K X12 (pc' := 166) d at_164 rfl rfl ?_
  refine ow_callS K X12 (pc' := 169) (rfl : T12.heap = T12.heap) (y := (⟨"com/example/tagwell/tagwell/store/NumberingTakePinLaw", "expect", "(IIIIII)I"⟩ : MethodName)) (rm6 l Z a0 hw [] (0 : Int32) (1 : Int32) t a b d T12.heap n0 Z150) (hw _ (List.mem_of_getElem? (i := 22) rfl)) (hw _ (List.mem_of_getElem? (i := 23) rfl)) (hw _ (List.mem_of_getElem? (i := 24) rfl)) (hw _ (List.mem_of_getElem? (i := 25) rfl)) (by decide) (st := [.int a]) 1 (Nat.le_of_eq rfl) (by decide) (by decide) (by decide) (by decide) rfl [.int (0 : Int32), .int (1 : Int32), .int t, .int a, .int b, .int d] rfl (lenOf pd_6 rfl) rfl at_166 rfl ?_
  intro v13 T13 L13 X13 hQ13
  obtain ⟨rfl, NN16, e16x⟩ := hQ13
  have N160 := Fr.app N150 NN16
  refine ow_at (g := (mkF m 169 #[.val (.int q0), .val (.int q1), .val (.int q2), .val (.int q3), .val (.int q4), .val (.int t), .val (.int (1 : Int32)), .val (.int a), .val (.int b), .val (.int d), .val (.ref o1), .val (.int a), .val (.int t), .val (.int (t + (1 : Int32))), .val (.int ((t + (1 : Int32)) + (1 : Int32)))] [.int (own_exp (0 : Int32) (1 : Int32) t a b d), .int a])) ?_
  refine ow_icmpN K X13 (pc' := 172) at_169 rfl (XT.ii_ne_f (by show a = own_exp (0 : Int32) (1 : Int32) t a b d; simp only [own_exp]; first | rfl | (simp; done) | (simp [Int32.add_assoc]; done))) ?_
  refine ow_iload K X13 (pc' := 174) t at_172 rfl rfl ?_
  refine ow_iconst K X13 (pc' := 175) (1 : Int32) at_174 rfl (by decide) ?_
  refine ow_iload K X13 (pc' := 177) (1 : Int32) at_175 rfl rfl ?_
  refine ow_iload K X13 (pc' := 179) t at_177 rfl rfl ?_
  refine ow_iload K X13 (pc' := 181) a at_179 rfl rfl ?_
  refine ow_iload K X13 (pc' := 183) b at_181 rfl rfl ?_
  refine ow_iload K X13 (pc' := 185) d at_183 rfl rfl ?_
  refine ow_callS K X13 (pc' := 188) e16x (y := (⟨"com/example/tagwell/tagwell/store/NumberingTakePinLaw", "expect", "(IIIIII)I"⟩ : MethodName)) (rm6 l Z a0 hw [] (1 : Int32) (1 : Int32) t a b d T12.heap n0 Z150) (hw _ (List.mem_of_getElem? (i := 22) rfl)) (hw _ (List.mem_of_getElem? (i := 23) rfl)) (hw _ (List.mem_of_getElem? (i := 24) rfl)) (hw _ (List.mem_of_getElem? (i := 25) rfl)) (by decide) (st := [.int t]) 1 (Nat.le_of_eq rfl) (by decide) (by decide) (by decide) (by decide) rfl [.int (1 : Int32), .int (1 : Int32), .int t, .int a, .int b, .int d] rfl (lenOf pd_6 rfl) rfl at_185 rfl ?_
  intro v14 T14 L14 X14 hQ14
  obtain ⟨rfl, NN17, e17x⟩ := hQ14
  have N170 := Fr.app N160 NN17
  refine ow_at (g := (mkF m 188 #[.val (.int q0), .val (.int q1), .val (.int q2), .val (.int q3), .val (.int q4), .val (.int t), .val (.int (1 : Int32)), .val (.int a), .val (.int b), .val (.int d), .val (.ref o1), .val (.int a), .val (.int t), .val (.int (t + (1 : Int32))), .val (.int ((t + (1 : Int32)) + (1 : Int32)))] [.int (own_exp (1 : Int32) (1 : Int32) t a b d), .int t])) ?_
  refine ow_icmpN K X14 (pc' := 191) at_188 rfl (XT.ii_ne_f (by show t = own_exp (1 : Int32) (1 : Int32) t a b d; simp only [own_exp]; first | rfl | (simp; done) | (simp [Int32.add_assoc]; done))) ?_
  refine ow_iload K X14 (pc' := 193) (t + (1 : Int32)) at_191 rfl rfl ?_
  refine ow_iconst K X14 (pc' := 194) (2 : Int32) at_193 rfl (by decide) ?_
  refine ow_iload K X14 (pc' := 196) (1 : Int32) at_194 rfl rfl ?_
  refine ow_iload K X14 (pc' := 198) t at_196 rfl rfl ?_
  refine ow_iload K X14 (pc' := 200) a at_198 rfl rfl ?_
  refine ow_iload K X14 (pc' := 202) b at_200 rfl rfl ?_
  refine ow_iload K X14 (pc' := 204) d at_202 rfl rfl ?_
  refine ow_callS K X14 (pc' := 207) e17x (y := (⟨"com/example/tagwell/tagwell/store/NumberingTakePinLaw", "expect", "(IIIIII)I"⟩ : MethodName)) (rm6 l Z a0 hw [] (2 : Int32) (1 : Int32) t a b d T12.heap n0 Z150) (hw _ (List.mem_of_getElem? (i := 22) rfl)) (hw _ (List.mem_of_getElem? (i := 23) rfl)) (hw _ (List.mem_of_getElem? (i := 24) rfl)) (hw _ (List.mem_of_getElem? (i := 25) rfl)) (by decide) (st := [.int (t + (1 : Int32))]) 1 (Nat.le_of_eq rfl) (by decide) (by decide) (by decide) (by decide) rfl [.int (2 : Int32), .int (1 : Int32), .int t, .int a, .int b, .int d] rfl (lenOf pd_6 rfl) rfl at_204 rfl ?_
  intro v15 T15 L15 X15 hQ15
  obtain ⟨rfl, NN18, e18x⟩ := hQ15
  have N180 := Fr.app N170 NN18
  refine ow_at (g := (mkF m 207 #[.val (.int q0), .val (.int q1), .val (.int q2), .val (.int q3), .val (.int q4), .val (.int t), .val (.int (1 : Int32)), .val (.int a), .val (.int b), .val (.int d), .val (.ref o1), .val (.int a), .val (.int t), .val (.int (t + (1 : Int32))), .val (.int ((t + (1 : Int32)) + (1 : Int32)))] [.int (own_exp (2 : Int32) (1 : Int32) t a b d), .int (t + (1 : Int32))])) ?_
  refine ow_icmpN K X15 (pc' := 210) at_207 rfl (XT.ii_ne_f (by show (t + (1 : Int32)) = own_exp (2 : Int32) (1 : Int32) t a b d; simp only [own_exp]; first | rfl | (simp; done) | (simp [Int32.add_assoc]; done))) ?_
  refine ow_iload K X15 (pc' := 212) ((t + (1 : Int32)) + (1 : Int32)) at_210 rfl rfl ?_
  refine ow_iconst K X15 (pc' := 213) (3 : Int32) at_212 rfl (by decide) ?_
  refine ow_iload K X15 (pc' := 215) (1 : Int32) at_213 rfl rfl ?_
  refine ow_iload K X15 (pc' := 217) t at_215 rfl rfl ?_
  refine ow_iload K X15 (pc' := 219) a at_217 rfl rfl ?_
  refine ow_iload K X15 (pc' := 221) b at_219 rfl rfl ?_
  refine ow_iload K X15 (pc' := 223) d at_221 rfl rfl ?_
  refine ow_callS K X15 (pc' := 226) e18x (y := (⟨"com/example/tagwell/tagwell/store/NumberingTakePinLaw", "expect", "(IIIIII)I"⟩ : MethodName)) (rm6 l Z a0 hw [] (3 : Int32) (1 : Int32) t a b d T12.heap n0 Z150) (hw _ (List.mem_of_getElem? (i := 22) rfl)) (hw _ (List.mem_of_getElem? (i := 23) rfl)) (hw _ (List.mem_of_getElem? (i := 24) rfl)) (hw _ (List.mem_of_getElem? (i := 25) rfl)) (by decide) (st := [.int ((t + (1 : Int32)) + (1 : Int32))]) 1 (Nat.le_of_eq rfl) (by decide) (by decide) (by decide) (by decide) rfl [.int (3 : Int32), .int (1 : Int32), .int t, .int a, .int b, .int d] rfl (lenOf pd_6 rfl) rfl at_223 rfl ?_
  intro v16 T16 L16 X16 hQ16
  obtain ⟨rfl, NN19, e19x⟩ := hQ16
  have N190 := Fr.app N180 NN19
  refine ow_at (g := (mkF m 226 #[.val (.int q0), .val (.int q1), .val (.int q2), .val (.int q3), .val (.int q4), .val (.int t), .val (.int (1 : Int32)), .val (.int a), .val (.int b), .val (.int d), .val (.ref o1), .val (.int a), .val (.int t), .val (.int (t + (1 : Int32))), .val (.int ((t + (1 : Int32)) + (1 : Int32)))] [.int (own_exp (3 : Int32) (1 : Int32) t a b d), .int ((t + (1 : Int32)) + (1 : Int32))])) ?_
  refine ow_icmpN K X16 (pc' := 229) at_226 rfl (XT.ii_ne_f (by show ((t + (1 : Int32)) + (1 : Int32)) = own_exp (3 : Int32) (1 : Int32) t a b d; simp only [own_exp]; first | rfl | (simp; done) | (simp [Int32.add_assoc]; done))) ?_
  refine ow_aload K X16 (pc' := 231) o1 at_229 rfl rfl ?_
  refine ow_callV K X16 (pc' := 234) e19x (y := (⟨"com/example/tagwell/tagwell/store/Numbering", "limit", "()I"⟩ : MethodName)) (rm5 l Z a0 hw [] o1 (((t + (1 : Int32)) + (1 : Int32)) + (1 : Int32)) T12.heap n0 Z150 FL15) EE15 (hw _ (List.mem_of_getElem? (i := 26) rfl)) (hw _ (List.mem_of_getElem? (i := 27) rfl)) (hw _ (List.mem_of_getElem? (i := 29) rfl)) (hw _ (List.mem_of_getElem? (i := 28) rfl)) (hw _ (List.mem_of_getElem? (i := 3) rfl)) (hw _ (List.mem_of_getElem? (i := 30) rfl)) (by decide) (st := []) 0 (Nat.le_of_eq rfl) (by decide) (by decide) (by decide) (by decide) rfl [] rfl (lenOf pd_5 rfl) rfl at_231 rfl ?_
  intro v17 T17 L17 X17 hQ17
  obtain ⟨rfl, NN20, e20x⟩ := hQ17
  have N200 := Fr.app N190 NN20
  refine ow_at (g := (mkF m 234 #[.val (.int q0), .val (.int q1), .val (.int q2), .val (.int q3), .val (.int q4), .val (.int t), .val (.int (1 : Int32)), .val (.int a), .val (.int b), .val (.int d), .val (.ref o1), .val (.int a), .val (.int t), .val (.int (t + (1 : Int32))), .val (.int ((t + (1 : Int32)) + (1 : Int32)))] [.int (((t + (1 : Int32)) + (1 : Int32)) + (1 : Int32))])) ?_
  refine ow_iload K X17 (pc' := 236) t at_234 rfl rfl ?_
  refine ow_iconst K X17 (pc' := 237) (4 : Int32) at_236 rfl (by decide) ?_
  refine ow_iload K X17 (pc' := 239) (1 : Int32) at_237 rfl rfl ?_
  refine ow_isub K X17 (pc' := 240) (3 : Int32) at_239 rfl (by decide) ?_
  refine ow_iadd K X17 (pc' := 241) (t + (3 : Int32)) at_240 rfl rfl ?_
  refine ow_icmpN K X17 (pc' := 244) at_241 rfl (XT.ii_ne_f (by first | rfl | (simp; done) | (simp [Int32.add_assoc]; done))) ?_
  refine ow_iconst K X17 (pc' := 245) (1 : Int32) at_244 rfl (by decide) ?_
  refine ow_goto K X17 (pc' := 249) at_245 (by decide) (by decide) ?_
  exact ow_retI K X17 .boolean rfl (by decide) (Or.inr (Or.inl rfl)) at_249 ⟨rfl, N200⟩ (by decide) (by decide)
set_option maxRecDepth 65536 in
set_option maxHeartbeats 40000000 in
theorem t75_2 {p : Program} {l : Launch} {e : Env} {s : State} {m : MethodId} {args : Array Value} {below : List Frame} {meth : Method} {c : Code} {T : State} {locs : List Loc} {Z : State} {h : Heap} {a0 : Array Value} (hw : ∀ d ∈ tables_1, d.before a0 Z = true) {n0 : Nat} {q0 q1 q2 q3 q4 t a b d : Int32} (K : ow_K p e below s m meth c Z "com/example/tagwell/tagwell/store/NumberingTakePinLaw" code 15 (some .boolean) "law" (ow_Gl p e below s (Q0 n0) 2 19)) (X0 : Stand p l e room_1 s m args below meth c T locs 0 0) (e0 : T.heap = h) (N0 : Fr n0 locs) (Z0 : n0 ≤ h.size) :
    ow_Gl p e below s (Q0 n0) 2 19 (T.setTop (mkF m 75 #[.val (.int q0), .val (.int q1), .val (.int q2), .val (.int q3), .val (.int q4), .val (.int t), .val (.int (2 : Int32)), .val (.int a), .val (.int b), .val (.int d), .unset, .unset, .unset, .unset, .unset] [])) := by
  refine ow_newO K X0 (pc' := 78) e0 (hw _ (List.mem_of_getElem? (i := 1) rfl)) (hw _ (List.mem_of_getElem? (i := 2) rfl)) (hw _ (List.mem_of_getElem? (i := 3) rfl)) (by decide) (by decide) at_75 rfl ?_
  intro T1 h1 o1 X1 e1 E1 g1 A1 D1
  have ge2 : n0 ≤ o1 := Nat.le_trans Z0 (Nat.le_of_eq g1.symm)
  have Z3 : n0 ≤ h1.size := Nat.le_trans Z0 E1.1
  have F4 : Fld Z h1 o1 "com/example/tagwell/tagwell/store/Numbering" "returned" "[I" (.null) := D1 (Or.inl (hw _ (List.mem_of_getElem? (i := 12) rfl))) (ty := (.array .int)) (by decide)
  have F5 : Fld Z h1 o1 "com/example/tagwell/tagwell/store/Numbering" "limit" "I" (.int 0) := D1 (Or.inl (hw _ (List.mem_of_getElem? (i := 14) rfl))) (ty := .int) (by decide)
  have F6 : Fld Z h1 o1 "com/example/tagwell/tagwell/store/Numbering" "returnedCount" "I" (.int 0) := D1 (Or.inl (hw _ (List.mem_of_getElem? (i := 21) rfl))) (ty := .int) (by decide)
  refine ow_dup K X1 (pc' := 79) at_78 rfl rfl ?_
  refine ow_iload K X1 (pc' := 81) t at_79 rfl rfl ?_
  refine ow_callP K X1 (pc' := 84) e1 (y := (⟨"com/example/tagwell/tagwell/store/Numbering", "<init>", "(I)V"⟩ : MethodName)) (rm1 l Z a0 hw [] o1 t h1 n0 Z3 A1 F4 F5 F6 ge2) rfl (hw _ (List.mem_of_getElem? (i := 4) rfl)) (hw _ (List.mem_of_getElem? (i := 5) rfl)) (hw _ (List.mem_of_getElem? (i := 3) rfl)) (hw _ (List.mem_of_getElem? (i := 6) rfl)) (by decide) (st := [.ref o1]) 1 (Nat.le_of_eq rfl) (by decide) (by decide) (by decide) (by decide) rfl [.int t] rfl (lenOf pd_1 rfl) rfl at_81 rfl ?_
  intro v7 T7 L7 X7 hQ7
  obtain ⟨rfl, NN, Z9, r1, k1, gr, ne, EE, FR, FL, FC, AV⟩ := hQ7
  have N9 := Fr.app N0 NN
  refine ow_at (g := (mkF m 84 #[.val (.int q0), .val (.int q1), .val (.int q2), .val (.int q3), .val (.int q4), .val (.int t), .val (.int (2 : Int32)), .val (.int a), .val (.int b), .val (.int d), .unset, .unset, .unset, .unset, .unset] [.ref o1])) ?_
  refine ow_astore K X7 (pc' := 86) (Ls' := #[.val (.int q0), .val (.int q1), .val (.int q2), .val (.int q3), .val (.int q4), .val (.int t), .val (.int (2 : Int32)), .val (.int a), .val (.int b), .val (.int d), .val (.ref o1), .unset, .unset, .unset, .unset]) at_84 rfl rfl ?_
  refine ow_iload K X7 (pc' := 88) (2 : Int32) at_86 rfl rfl ?_
  refine ow_iconst K X7 (pc' := 89) (1 : Int32) at_88 rfl (by decide) ?_
  refine ow_icmpN K X7 (pc' := 92) at_89 rfl (XT.ii_lt_f (by decide)) ?_
  refine ow_aload K X7 (pc' := 94) o1 at_92 rfl rfl ?_
  refine ow_iload K X7 (pc' := 96) a at_94 rfl rfl ?_
  refine ow_callV K X7 (pc' := 99) (rfl : T7.heap = T7.heap) (y := (⟨"com/example/tagwell/tagwell/store/Numbering", "giveBack", "(I)V"⟩ : MethodName)) (rm2 l Z a0 hw [] o1 a r1 k1 t 0 0 [.int 0, .int 0, .int 0] [.int a, .int 0, .int 0] T7.heap n0 Z9 EE FR FL FC AV ge2 gr ne (by decide) ⟨by decide, by decide⟩ (by decide) (by simp) rfl) EE (hw _ (List.mem_of_getElem? (i := 32) rfl)) (hw _ (List.mem_of_getElem? (i := 33) rfl)) (hw _ (List.mem_of_getElem? (i := 35) rfl)) (hw _ (List.mem_of_getElem? (i := 34) rfl)) (hw _ (List.mem_of_getElem? (i := 3) rfl)) (hw _ (List.mem_of_getElem? (i := 36) rfl)) (by decide) (st := []) 0 (Nat.le_of_eq rfl) (by decide) (by decide) (by decide) (by decide) rfl [.int a] rfl (lenOf pd_2 rfl) rfl at_96 rfl ?_
  intro v8 T8 L8 X8 hQ8
  obtain ⟨rfl, NN11, Z110, EE11, FR11, FL11, FC11', AV11⟩ := hQ8
  have FC11 : Fld Z T8.heap o1 "com/example/tagwell/tagwell/store/Numbering" "returnedCount" "I" (.int (1 : Int32)) := FC11'
  have N110 := Fr.app N9 NN11
  refine ow_at (g := (mkF m 99 #[.val (.int q0), .val (.int q1), .val (.int q2), .val (.int q3), .val (.int q4), .val (.int t), .val (.int (2 : Int32)), .val (.int a), .val (.int b), .val (.int d), .val (.ref o1), .unset, .unset, .unset, .unset] [])) ?_
  refine ow_iload K X8 (pc' := 101) (2 : Int32) at_99 rfl rfl ?_
  refine ow_iconst K X8 (pc' := 102) (2 : Int32) at_101 rfl (by decide) ?_
  refine ow_icmpN K X8 (pc' := 105) at_102 rfl (XT.ii_lt_f (by decide)) ?_
  refine ow_aload K X8 (pc' := 107) o1 at_105 rfl rfl ?_
  refine ow_iload K X8 (pc' := 109) b at_107 rfl rfl ?_
  refine ow_callV K X8 (pc' := 112) (rfl : T8.heap = T8.heap) (y := (⟨"com/example/tagwell/tagwell/store/Numbering", "giveBack", "(I)V"⟩ : MethodName)) (rm2 l Z a0 hw [] o1 b r1 k1 t (1 : Int32) 1 [.int a, .int 0, .int 0] [.int a, .int b, .int 0] T8.heap n0 Z110 EE11 FR11 FL11 FC11 AV11 ge2 gr ne (by decide) ⟨by decide, by decide⟩ (by decide) (by simp) rfl) EE11 (hw _ (List.mem_of_getElem? (i := 32) rfl)) (hw _ (List.mem_of_getElem? (i := 33) rfl)) (hw _ (List.mem_of_getElem? (i := 35) rfl)) (hw _ (List.mem_of_getElem? (i := 34) rfl)) (hw _ (List.mem_of_getElem? (i := 3) rfl)) (hw _ (List.mem_of_getElem? (i := 36) rfl)) (by decide) (st := []) 0 (Nat.le_of_eq rfl) (by decide) (by decide) (by decide) (by decide) rfl [.int b] rfl (lenOf pd_2 rfl) rfl at_109 rfl ?_
  intro v9 T9 L9 X9 hQ9
  obtain ⟨rfl, NN12, Z120, EE12, FR12, FL12, FC12', AV12⟩ := hQ9
  have FC12 : Fld Z T9.heap o1 "com/example/tagwell/tagwell/store/Numbering" "returnedCount" "I" (.int (2 : Int32)) := FC12'
  have N120 := Fr.app N110 NN12
  refine ow_at (g := (mkF m 112 #[.val (.int q0), .val (.int q1), .val (.int q2), .val (.int q3), .val (.int q4), .val (.int t), .val (.int (2 : Int32)), .val (.int a), .val (.int b), .val (.int d), .val (.ref o1), .unset, .unset, .unset, .unset] [])) ?_
  refine ow_iload K X9 (pc' := 114) (2 : Int32) at_112 rfl rfl ?_
  refine ow_iconst K X9 (pc' := 115) (3 : Int32) at_114 rfl (by decide) ?_
  refine ow_icmpY K X9 (pc' := 125) at_115 (XT.ii_lt_t (by decide)) (by decide) (by decide) ?_
  refine ow_aload K X9 (pc' := 127) o1 at_125 rfl rfl ?_
  refine ow_callV K X9 (pc' := 130) (rfl : T9.heap = T9.heap) (y := (⟨"com/example/tagwell/tagwell/store/Numbering", "take", "()I"⟩ : MethodName)) (rm3 l Z a0 hw [] o1 r1 k1 t (2 : Int32) (1 : Int32) 1 b [.int a, .int b, .int 0] T9.heap n0 Z120 EE12 FR12 FL12 FC12 AV12 ge2 gr ne (by decide) (by decide) ⟨by decide, by decide⟩ (by decide) rfl) EE12 (hw _ (List.mem_of_getElem? (i := 15) rfl)) (hw _ (List.mem_of_getElem? (i := 16) rfl)) (hw _ (List.mem_of_getElem? (i := 18) rfl)) (hw _ (List.mem_of_getElem? (i := 17) rfl)) (hw _ (List.mem_of_getElem? (i := 3) rfl)) (hw _ (List.mem_of_getElem? (i := 19) rfl)) (by decide) (st := []) 0 (Nat.le_of_eq rfl) (by decide) (by decide) (by decide) (by decide) rfl [] rfl (lenOf pd_3 rfl) rfl at_127 rfl ?_
  intro v10 T10 L10 X10 hQ10
  obtain ⟨rfl, NN13, Z130, EE13, FR13, FL13, FC13, AV13⟩ := hQ10
  have N130 := Fr.app N120 NN13
  refine ow_at (g := (mkF m 130 #[.val (.int q0), .val (.int q1), .val (.int q2), .val (.int q3), .val (.int q4), .val (.int t), .val (.int (2 : Int32)), .val (.int a), .val (.int b), .val (.int d), .val (.ref o1), .unset, .unset, .unset, .unset] [.int b])) ?_
  refine ow_istore K X10 (pc' := 132) (Ls' := #[.val (.int q0), .val (.int q1), .val (.int q2), .val (.int q3), .val (.int q4), .val (.int t), .val (.int (2 : Int32)), .val (.int a), .val (.int b), .val (.int d), .val (.ref o1), .val (.int b), .unset, .unset, .unset]) at_130 rfl rfl ?_
  refine ow_aload K X10 (pc' := 134) o1 at_132 rfl rfl ?_
  refine ow_callV K X10 (pc' := 137) (rfl : T10.heap = T10.heap) (y := (⟨"com/example/tagwell/tagwell/store/Numbering", "take", "()I"⟩ : MethodName)) (rm3 l Z a0 hw [] o1 r1 k1 t (1 : Int32) 0 0 a [.int a, .int b, .int 0] T10.heap n0 Z130 EE13 FR13 FL13 FC13 AV13 ge2 gr ne (by decide) (by decide) ⟨by decide, by decide⟩ (by decide) rfl) EE13 (hw _ (List.mem_of_getElem? (i := 15) rfl)) (hw _ (List.mem_of_getElem? (i := 16) rfl)) (hw _ (List.mem_of_getElem? (i := 18) rfl)) (hw _ (List.mem_of_getElem? (i := 17) rfl)) (hw _ (List.mem_of_getElem? (i := 3) rfl)) (hw _ (List.mem_of_getElem? (i := 19) rfl)) (by decide) (st := []) 0 (Nat.le_of_eq rfl) (by decide) (by decide) (by decide) (by decide) rfl [] rfl (lenOf pd_3 rfl) rfl at_134 rfl ?_
  intro v11 T11 L11 X11 hQ11
  obtain ⟨rfl, NN14, Z140, EE14, FR14, FL14, FC14, AV14⟩ := hQ11
  have N140 := Fr.app N130 NN14
  refine ow_at (g := (mkF m 137 #[.val (.int q0), .val (.int q1), .val (.int q2), .val (.int q3), .val (.int q4), .val (.int t), .val (.int (2 : Int32)), .val (.int a), .val (.int b), .val (.int d), .val (.ref o1), .val (.int b), .unset, .unset, .unset] [.int a])) ?_
  refine ow_istore K X11 (pc' := 139) (Ls' := #[.val (.int q0), .val (.int q1), .val (.int q2), .val (.int q3), .val (.int q4), .val (.int t), .val (.int (2 : Int32)), .val (.int a), .val (.int b), .val (.int d), .val (.ref o1), .val (.int b), .val (.int a), .unset, .unset]) at_137 rfl rfl ?_
  refine ow_aload K X11 (pc' := 141) o1 at_139 rfl rfl ?_
  refine ow_callV K X11 (pc' := 144) (rfl : T11.heap = T11.heap) (y := (⟨"com/example/tagwell/tagwell/store/Numbering", "take", "()I"⟩ : MethodName)) (rm4 l Z a0 hw [] o1 r1 k1 t [.int a, .int b, .int 0] T11.heap n0 Z140 EE14 FR14 FL14 FC14 AV14 ge2 gr ne) EE14 (hw _ (List.mem_of_getElem? (i := 15) rfl)) (hw _ (List.mem_of_getElem? (i := 16) rfl)) (hw _ (List.mem_of_getElem? (i := 18) rfl)) (hw _ (List.mem_of_getElem? (i := 17) rfl)) (hw _ (List.mem_of_getElem? (i := 3) rfl)) (hw _ (List.mem_of_getElem? (i := 19) rfl)) (by decide) (st := []) 0 (Nat.le_of_eq rfl) (by decide) (by decide) (by decide) (by decide) rfl [] rfl (lenOf pd_4 rfl) rfl at_141 rfl ?_
  intro v12 T12 L12 X12 hQ12
  obtain ⟨rfl, NN15, Z150, EE15, FR15, FL15, FC15, AV15⟩ := hQ12
  have N150 := Fr.app N140 NN15
  refine ow_at (g := (mkF m 144 #[.val (.int q0), .val (.int q1), .val (.int q2), .val (.int q3), .val (.int q4), .val (.int t), .val (.int (2 : Int32)), .val (.int a), .val (.int b), .val (.int d), .val (.ref o1), .val (.int b), .val (.int a), .unset, .unset] [.int t])) ?_
  refine ow_istore K X12 (pc' := 146) (Ls' := #[.val (.int q0), .val (.int q1), .val (.int q2), .val (.int q3), .val (.int q4), .val (.int t), .val (.int (2 : Int32)), .val (.int a), .val (.int b), .val (.int d), .val (.ref o1), .val (.int b), .val (.int a), .val (.int t), .unset]) at_144 rfl rfl ?_
  refine ow_aload K X12 (pc' := 148) o1 at_146 rfl rfl ?_
  refine ow_callV K X12 (pc' := 151) (rfl : T12.heap = T12.heap) (y := (⟨"com/example/tagwell/tagwell/store/Numbering", "take", "()I"⟩ : MethodName)) (rm4 l Z a0 hw [] o1 r1 k1 (t + (1 : Int32)) [.int a, .int b, .int 0] T12.heap n0 Z150 EE15 FR15 FL15 FC15 AV15 ge2 gr ne) EE15 (hw _ (List.mem_of_getElem? (i := 15) rfl)) (hw _ (List.mem_of_getElem? (i := 16) rfl)) (hw _ (List.mem_of_getElem? (i := 18) rfl)) (hw _ (List.mem_of_getElem? (i := 17) rfl)) (hw _ (List.mem_of_getElem? (i := 3) rfl)) (hw _ (List.mem_of_getElem? (i := 19) rfl)) (by decide) (st := []) 0 (Nat.le_of_eq rfl) (by decide) (by decide) (by decide) (by decide) rfl [] rfl (lenOf pd_4 rfl) rfl at_148 rfl ?_
  intro v13 T13 L13 X13 hQ13
  obtain ⟨rfl, NN16, Z160, EE16, FR16, FL16, FC16, AV16⟩ := hQ13
  have N160 := Fr.app N150 NN16
  refine ow_at (g := (mkF m 151 #[.val (.int q0), .val (.int q1), .val (.int q2), .val (.int q3), .val (.int q4), .val (.int t), .val (.int (2 : Int32)), .val (.int a), .val (.int b), .val (.int d), .val (.ref o1), .val (.int b), .val (.int a), .val (.int t), .unset] [.int (t + (1 : Int32))])) ?_
  refine ow_istore K X13 (pc' := 153) (Ls' := #[.val (.int q0), .val (.int q1), .val (.int q2), .val (.int q3), .val (.int q4), .val (.int t), .val (.int (2 : Int32)), .val (.int a), .val (.int b), .val (.int d), .val (.ref o1), .val (.int b), .val (.int a), .val (.int t), .val (.int (t + (1 : Int32)))]) at_151 rfl rfl ?_
  refine ow_iload K X13 (pc' := 155) b at_153 rfl rfl ?_
  refine ow_iconst K X13 (pc' := 156) (0 : Int32) at_155 rfl (by decide) ?_
  refine ow_iload K X13 (pc' := 158) (2 : Int32) at_156 rfl rfl ?_
  refine ow_iload K X13 (pc' := 160) t at_158 rfl rfl ?_
  refine ow_iload K X13 (pc' := 162) a at_160 rfl rfl ?_
  refine ow_iload K X13 (pc' := 164) b at_162 rfl rfl ?_
  refine ow_iload K X13 (pc' := 166) d at_164 rfl rfl ?_
  refine ow_callS K X13 (pc' := 169) (rfl : T13.heap = T13.heap) (y := (⟨"com/example/tagwell/tagwell/store/NumberingTakePinLaw", "expect", "(IIIIII)I"⟩ : MethodName)) (rm6 l Z a0 hw [] (0 : Int32) (2 : Int32) t a b d T13.heap n0 Z160) (hw _ (List.mem_of_getElem? (i := 22) rfl)) (hw _ (List.mem_of_getElem? (i := 23) rfl)) (hw _ (List.mem_of_getElem? (i := 24) rfl)) (hw _ (List.mem_of_getElem? (i := 25) rfl)) (by decide) (st := [.int b]) 1 (Nat.le_of_eq rfl) (by decide) (by decide) (by decide) (by decide) rfl [.int (0 : Int32), .int (2 : Int32), .int t, .int a, .int b, .int d] rfl (lenOf pd_6 rfl) rfl at_166 rfl ?_
  intro v14 T14 L14 X14 hQ14
  obtain ⟨rfl, NN17, e17x⟩ := hQ14
  have N170 := Fr.app N160 NN17
  refine ow_at (g := (mkF m 169 #[.val (.int q0), .val (.int q1), .val (.int q2), .val (.int q3), .val (.int q4), .val (.int t), .val (.int (2 : Int32)), .val (.int a), .val (.int b), .val (.int d), .val (.ref o1), .val (.int b), .val (.int a), .val (.int t), .val (.int (t + (1 : Int32)))] [.int (own_exp (0 : Int32) (2 : Int32) t a b d), .int b])) ?_
  refine ow_icmpN K X14 (pc' := 172) at_169 rfl (XT.ii_ne_f (by show b = own_exp (0 : Int32) (2 : Int32) t a b d; simp only [own_exp]; first | rfl | (simp; done) | (simp [Int32.add_assoc]; done))) ?_
  refine ow_iload K X14 (pc' := 174) a at_172 rfl rfl ?_
  refine ow_iconst K X14 (pc' := 175) (1 : Int32) at_174 rfl (by decide) ?_
  refine ow_iload K X14 (pc' := 177) (2 : Int32) at_175 rfl rfl ?_
  refine ow_iload K X14 (pc' := 179) t at_177 rfl rfl ?_
  refine ow_iload K X14 (pc' := 181) a at_179 rfl rfl ?_
  refine ow_iload K X14 (pc' := 183) b at_181 rfl rfl ?_
  refine ow_iload K X14 (pc' := 185) d at_183 rfl rfl ?_
  refine ow_callS K X14 (pc' := 188) e17x (y := (⟨"com/example/tagwell/tagwell/store/NumberingTakePinLaw", "expect", "(IIIIII)I"⟩ : MethodName)) (rm6 l Z a0 hw [] (1 : Int32) (2 : Int32) t a b d T13.heap n0 Z160) (hw _ (List.mem_of_getElem? (i := 22) rfl)) (hw _ (List.mem_of_getElem? (i := 23) rfl)) (hw _ (List.mem_of_getElem? (i := 24) rfl)) (hw _ (List.mem_of_getElem? (i := 25) rfl)) (by decide) (st := [.int a]) 1 (Nat.le_of_eq rfl) (by decide) (by decide) (by decide) (by decide) rfl [.int (1 : Int32), .int (2 : Int32), .int t, .int a, .int b, .int d] rfl (lenOf pd_6 rfl) rfl at_185 rfl ?_
  intro v15 T15 L15 X15 hQ15
  obtain ⟨rfl, NN18, e18x⟩ := hQ15
  have N180 := Fr.app N170 NN18
  refine ow_at (g := (mkF m 188 #[.val (.int q0), .val (.int q1), .val (.int q2), .val (.int q3), .val (.int q4), .val (.int t), .val (.int (2 : Int32)), .val (.int a), .val (.int b), .val (.int d), .val (.ref o1), .val (.int b), .val (.int a), .val (.int t), .val (.int (t + (1 : Int32)))] [.int (own_exp (1 : Int32) (2 : Int32) t a b d), .int a])) ?_
  refine ow_icmpN K X15 (pc' := 191) at_188 rfl (XT.ii_ne_f (by show a = own_exp (1 : Int32) (2 : Int32) t a b d; simp only [own_exp]; first | rfl | (simp; done) | (simp [Int32.add_assoc]; done))) ?_
  refine ow_iload K X15 (pc' := 193) t at_191 rfl rfl ?_
  refine ow_iconst K X15 (pc' := 194) (2 : Int32) at_193 rfl (by decide) ?_
  refine ow_iload K X15 (pc' := 196) (2 : Int32) at_194 rfl rfl ?_
  refine ow_iload K X15 (pc' := 198) t at_196 rfl rfl ?_
  refine ow_iload K X15 (pc' := 200) a at_198 rfl rfl ?_
  refine ow_iload K X15 (pc' := 202) b at_200 rfl rfl ?_
  refine ow_iload K X15 (pc' := 204) d at_202 rfl rfl ?_
  refine ow_callS K X15 (pc' := 207) e18x (y := (⟨"com/example/tagwell/tagwell/store/NumberingTakePinLaw", "expect", "(IIIIII)I"⟩ : MethodName)) (rm6 l Z a0 hw [] (2 : Int32) (2 : Int32) t a b d T13.heap n0 Z160) (hw _ (List.mem_of_getElem? (i := 22) rfl)) (hw _ (List.mem_of_getElem? (i := 23) rfl)) (hw _ (List.mem_of_getElem? (i := 24) rfl)) (hw _ (List.mem_of_getElem? (i := 25) rfl)) (by decide) (st := [.int t]) 1 (Nat.le_of_eq rfl) (by decide) (by decide) (by decide) (by decide) rfl [.int (2 : Int32), .int (2 : Int32), .int t, .int a, .int b, .int d] rfl (lenOf pd_6 rfl) rfl at_204 rfl ?_
  intro v16 T16 L16 X16 hQ16
  obtain ⟨rfl, NN19, e19x⟩ := hQ16
  have N190 := Fr.app N180 NN19
  refine ow_at (g := (mkF m 207 #[.val (.int q0), .val (.int q1), .val (.int q2), .val (.int q3), .val (.int q4), .val (.int t), .val (.int (2 : Int32)), .val (.int a), .val (.int b), .val (.int d), .val (.ref o1), .val (.int b), .val (.int a), .val (.int t), .val (.int (t + (1 : Int32)))] [.int (own_exp (2 : Int32) (2 : Int32) t a b d), .int t])) ?_
  refine ow_icmpN K X16 (pc' := 210) at_207 rfl (XT.ii_ne_f (by show t = own_exp (2 : Int32) (2 : Int32) t a b d; simp only [own_exp]; first | rfl | (simp; done) | (simp [Int32.add_assoc]; done))) ?_
  refine ow_iload K X16 (pc' := 212) (t + (1 : Int32)) at_210 rfl rfl ?_
  refine ow_iconst K X16 (pc' := 213) (3 : Int32) at_212 rfl (by decide) ?_
  refine ow_iload K X16 (pc' := 215) (2 : Int32) at_213 rfl rfl ?_
  refine ow_iload K X16 (pc' := 217) t at_215 rfl rfl ?_
  refine ow_iload K X16 (pc' := 219) a at_217 rfl rfl ?_
  refine ow_iload K X16 (pc' := 221) b at_219 rfl rfl ?_
  refine ow_iload K X16 (pc' := 223) d at_221 rfl rfl ?_
  refine ow_callS K X16 (pc' := 226) e19x (y := (⟨"com/example/tagwell/tagwell/store/NumberingTakePinLaw", "expect", "(IIIIII)I"⟩ : MethodName)) (rm6 l Z a0 hw [] (3 : Int32) (2 : Int32) t a b d T13.heap n0 Z160) (hw _ (List.mem_of_getElem? (i := 22) rfl)) (hw _ (List.mem_of_getElem? (i := 23) rfl)) (hw _ (List.mem_of_getElem? (i := 24) rfl)) (hw _ (List.mem_of_getElem? (i := 25) rfl)) (by decide) (st := [.int (t + (1 : Int32))]) 1 (Nat.le_of_eq rfl) (by decide) (by decide) (by decide) (by decide) rfl [.int (3 : Int32), .int (2 : Int32), .int t, .int a, .int b, .int d] rfl (lenOf pd_6 rfl) rfl at_223 rfl ?_
  intro v17 T17 L17 X17 hQ17
  obtain ⟨rfl, NN20, e20x⟩ := hQ17
  have N200 := Fr.app N190 NN20
  refine ow_at (g := (mkF m 226 #[.val (.int q0), .val (.int q1), .val (.int q2), .val (.int q3), .val (.int q4), .val (.int t), .val (.int (2 : Int32)), .val (.int a), .val (.int b), .val (.int d), .val (.ref o1), .val (.int b), .val (.int a), .val (.int t), .val (.int (t + (1 : Int32)))] [.int (own_exp (3 : Int32) (2 : Int32) t a b d), .int (t + (1 : Int32))])) ?_
  refine ow_icmpN K X17 (pc' := 229) at_226 rfl (XT.ii_ne_f (by show (t + (1 : Int32)) = own_exp (3 : Int32) (2 : Int32) t a b d; simp only [own_exp]; first | rfl | (simp; done) | (simp [Int32.add_assoc]; done))) ?_
  refine ow_aload K X17 (pc' := 231) o1 at_229 rfl rfl ?_
  refine ow_callV K X17 (pc' := 234) e20x (y := (⟨"com/example/tagwell/tagwell/store/Numbering", "limit", "()I"⟩ : MethodName)) (rm5 l Z a0 hw [] o1 ((t + (1 : Int32)) + (1 : Int32)) T13.heap n0 Z160 FL16) EE16 (hw _ (List.mem_of_getElem? (i := 26) rfl)) (hw _ (List.mem_of_getElem? (i := 27) rfl)) (hw _ (List.mem_of_getElem? (i := 29) rfl)) (hw _ (List.mem_of_getElem? (i := 28) rfl)) (hw _ (List.mem_of_getElem? (i := 3) rfl)) (hw _ (List.mem_of_getElem? (i := 30) rfl)) (by decide) (st := []) 0 (Nat.le_of_eq rfl) (by decide) (by decide) (by decide) (by decide) rfl [] rfl (lenOf pd_5 rfl) rfl at_231 rfl ?_
  intro v18 T18 L18 X18 hQ18
  obtain ⟨rfl, NN21, e21x⟩ := hQ18
  have N210 := Fr.app N200 NN21
  refine ow_at (g := (mkF m 234 #[.val (.int q0), .val (.int q1), .val (.int q2), .val (.int q3), .val (.int q4), .val (.int t), .val (.int (2 : Int32)), .val (.int a), .val (.int b), .val (.int d), .val (.ref o1), .val (.int b), .val (.int a), .val (.int t), .val (.int (t + (1 : Int32)))] [.int ((t + (1 : Int32)) + (1 : Int32))])) ?_
  refine ow_iload K X18 (pc' := 236) t at_234 rfl rfl ?_
  refine ow_iconst K X18 (pc' := 237) (4 : Int32) at_236 rfl (by decide) ?_
  refine ow_iload K X18 (pc' := 239) (2 : Int32) at_237 rfl rfl ?_
  refine ow_isub K X18 (pc' := 240) (2 : Int32) at_239 rfl (by decide) ?_
  refine ow_iadd K X18 (pc' := 241) (t + (2 : Int32)) at_240 rfl rfl ?_
  refine ow_icmpN K X18 (pc' := 244) at_241 rfl (XT.ii_ne_f (by first | rfl | (simp; done) | (simp [Int32.add_assoc]; done))) ?_
  refine ow_iconst K X18 (pc' := 245) (1 : Int32) at_244 rfl (by decide) ?_
  refine ow_goto K X18 (pc' := 249) at_245 (by decide) (by decide) ?_
  exact ow_retI K X18 .boolean rfl (by decide) (Or.inr (Or.inl rfl)) at_249 ⟨rfl, N210⟩ (by decide) (by decide)
set_option maxRecDepth 65536 in
set_option maxHeartbeats 40000000 in
theorem t75_3 {p : Program} {l : Launch} {e : Env} {s : State} {m : MethodId} {args : Array Value} {below : List Frame} {meth : Method} {c : Code} {T : State} {locs : List Loc} {Z : State} {h : Heap} {a0 : Array Value} (hw : ∀ d ∈ tables_1, d.before a0 Z = true) {n0 : Nat} {q0 q1 q2 q3 q4 t a b d : Int32} (K : ow_K p e below s m meth c Z "com/example/tagwell/tagwell/store/NumberingTakePinLaw" code 15 (some .boolean) "law" (ow_Gl p e below s (Q0 n0) 2 19)) (X0 : Stand p l e room_1 s m args below meth c T locs 0 0) (e0 : T.heap = h) (N0 : Fr n0 locs) (Z0 : n0 ≤ h.size) :
    ow_Gl p e below s (Q0 n0) 2 19 (T.setTop (mkF m 75 #[.val (.int q0), .val (.int q1), .val (.int q2), .val (.int q3), .val (.int q4), .val (.int t), .val (.int (3 : Int32)), .val (.int a), .val (.int b), .val (.int d), .unset, .unset, .unset, .unset, .unset] [])) := by
  refine ow_newO K X0 (pc' := 78) e0 (hw _ (List.mem_of_getElem? (i := 1) rfl)) (hw _ (List.mem_of_getElem? (i := 2) rfl)) (hw _ (List.mem_of_getElem? (i := 3) rfl)) (by decide) (by decide) at_75 rfl ?_
  intro T1 h1 o1 X1 e1 E1 g1 A1 D1
  have ge2 : n0 ≤ o1 := Nat.le_trans Z0 (Nat.le_of_eq g1.symm)
  have Z3 : n0 ≤ h1.size := Nat.le_trans Z0 E1.1
  have F4 : Fld Z h1 o1 "com/example/tagwell/tagwell/store/Numbering" "returned" "[I" (.null) := D1 (Or.inl (hw _ (List.mem_of_getElem? (i := 12) rfl))) (ty := (.array .int)) (by decide)
  have F5 : Fld Z h1 o1 "com/example/tagwell/tagwell/store/Numbering" "limit" "I" (.int 0) := D1 (Or.inl (hw _ (List.mem_of_getElem? (i := 14) rfl))) (ty := .int) (by decide)
  have F6 : Fld Z h1 o1 "com/example/tagwell/tagwell/store/Numbering" "returnedCount" "I" (.int 0) := D1 (Or.inl (hw _ (List.mem_of_getElem? (i := 21) rfl))) (ty := .int) (by decide)
  refine ow_dup K X1 (pc' := 79) at_78 rfl rfl ?_
  refine ow_iload K X1 (pc' := 81) t at_79 rfl rfl ?_
  refine ow_callP K X1 (pc' := 84) e1 (y := (⟨"com/example/tagwell/tagwell/store/Numbering", "<init>", "(I)V"⟩ : MethodName)) (rm1 l Z a0 hw [] o1 t h1 n0 Z3 A1 F4 F5 F6 ge2) rfl (hw _ (List.mem_of_getElem? (i := 4) rfl)) (hw _ (List.mem_of_getElem? (i := 5) rfl)) (hw _ (List.mem_of_getElem? (i := 3) rfl)) (hw _ (List.mem_of_getElem? (i := 6) rfl)) (by decide) (st := [.ref o1]) 1 (Nat.le_of_eq rfl) (by decide) (by decide) (by decide) (by decide) rfl [.int t] rfl (lenOf pd_1 rfl) rfl at_81 rfl ?_
  intro v7 T7 L7 X7 hQ7
  obtain ⟨rfl, NN, Z9, r1, k1, gr, ne, EE, FR, FL, FC, AV⟩ := hQ7
  have N9 := Fr.app N0 NN
  refine ow_at (g := (mkF m 84 #[.val (.int q0), .val (.int q1), .val (.int q2), .val (.int q3), .val (.int q4), .val (.int t), .val (.int (3 : Int32)), .val (.int a), .val (.int b), .val (.int d), .unset, .unset, .unset, .unset, .unset] [.ref o1])) ?_
  refine ow_astore K X7 (pc' := 86) (Ls' := #[.val (.int q0), .val (.int q1), .val (.int q2), .val (.int q3), .val (.int q4), .val (.int t), .val (.int (3 : Int32)), .val (.int a), .val (.int b), .val (.int d), .val (.ref o1), .unset, .unset, .unset, .unset]) at_84 rfl rfl ?_
  refine ow_iload K X7 (pc' := 88) (3 : Int32) at_86 rfl rfl ?_
  refine ow_iconst K X7 (pc' := 89) (1 : Int32) at_88 rfl (by decide) ?_
  refine ow_icmpN K X7 (pc' := 92) at_89 rfl (XT.ii_lt_f (by decide)) ?_
  refine ow_aload K X7 (pc' := 94) o1 at_92 rfl rfl ?_
  refine ow_iload K X7 (pc' := 96) a at_94 rfl rfl ?_
  refine ow_callV K X7 (pc' := 99) (rfl : T7.heap = T7.heap) (y := (⟨"com/example/tagwell/tagwell/store/Numbering", "giveBack", "(I)V"⟩ : MethodName)) (rm2 l Z a0 hw [] o1 a r1 k1 t 0 0 [.int 0, .int 0, .int 0] [.int a, .int 0, .int 0] T7.heap n0 Z9 EE FR FL FC AV ge2 gr ne (by decide) ⟨by decide, by decide⟩ (by decide) (by simp) rfl) EE (hw _ (List.mem_of_getElem? (i := 32) rfl)) (hw _ (List.mem_of_getElem? (i := 33) rfl)) (hw _ (List.mem_of_getElem? (i := 35) rfl)) (hw _ (List.mem_of_getElem? (i := 34) rfl)) (hw _ (List.mem_of_getElem? (i := 3) rfl)) (hw _ (List.mem_of_getElem? (i := 36) rfl)) (by decide) (st := []) 0 (Nat.le_of_eq rfl) (by decide) (by decide) (by decide) (by decide) rfl [.int a] rfl (lenOf pd_2 rfl) rfl at_96 rfl ?_
  intro v8 T8 L8 X8 hQ8
  obtain ⟨rfl, NN11, Z110, EE11, FR11, FL11, FC11', AV11⟩ := hQ8
  have FC11 : Fld Z T8.heap o1 "com/example/tagwell/tagwell/store/Numbering" "returnedCount" "I" (.int (1 : Int32)) := FC11'
  have N110 := Fr.app N9 NN11
  refine ow_at (g := (mkF m 99 #[.val (.int q0), .val (.int q1), .val (.int q2), .val (.int q3), .val (.int q4), .val (.int t), .val (.int (3 : Int32)), .val (.int a), .val (.int b), .val (.int d), .val (.ref o1), .unset, .unset, .unset, .unset] [])) ?_
  refine ow_iload K X8 (pc' := 101) (3 : Int32) at_99 rfl rfl ?_
  refine ow_iconst K X8 (pc' := 102) (2 : Int32) at_101 rfl (by decide) ?_
  refine ow_icmpN K X8 (pc' := 105) at_102 rfl (XT.ii_lt_f (by decide)) ?_
  refine ow_aload K X8 (pc' := 107) o1 at_105 rfl rfl ?_
  refine ow_iload K X8 (pc' := 109) b at_107 rfl rfl ?_
  refine ow_callV K X8 (pc' := 112) (rfl : T8.heap = T8.heap) (y := (⟨"com/example/tagwell/tagwell/store/Numbering", "giveBack", "(I)V"⟩ : MethodName)) (rm2 l Z a0 hw [] o1 b r1 k1 t (1 : Int32) 1 [.int a, .int 0, .int 0] [.int a, .int b, .int 0] T8.heap n0 Z110 EE11 FR11 FL11 FC11 AV11 ge2 gr ne (by decide) ⟨by decide, by decide⟩ (by decide) (by simp) rfl) EE11 (hw _ (List.mem_of_getElem? (i := 32) rfl)) (hw _ (List.mem_of_getElem? (i := 33) rfl)) (hw _ (List.mem_of_getElem? (i := 35) rfl)) (hw _ (List.mem_of_getElem? (i := 34) rfl)) (hw _ (List.mem_of_getElem? (i := 3) rfl)) (hw _ (List.mem_of_getElem? (i := 36) rfl)) (by decide) (st := []) 0 (Nat.le_of_eq rfl) (by decide) (by decide) (by decide) (by decide) rfl [.int b] rfl (lenOf pd_2 rfl) rfl at_109 rfl ?_
  intro v9 T9 L9 X9 hQ9
  obtain ⟨rfl, NN12, Z120, EE12, FR12, FL12, FC12', AV12⟩ := hQ9
  have FC12 : Fld Z T9.heap o1 "com/example/tagwell/tagwell/store/Numbering" "returnedCount" "I" (.int (2 : Int32)) := FC12'
  have N120 := Fr.app N110 NN12
  refine ow_at (g := (mkF m 112 #[.val (.int q0), .val (.int q1), .val (.int q2), .val (.int q3), .val (.int q4), .val (.int t), .val (.int (3 : Int32)), .val (.int a), .val (.int b), .val (.int d), .val (.ref o1), .unset, .unset, .unset, .unset] [])) ?_
  refine ow_iload K X9 (pc' := 114) (3 : Int32) at_112 rfl rfl ?_
  refine ow_iconst K X9 (pc' := 115) (3 : Int32) at_114 rfl (by decide) ?_
  refine ow_icmpN K X9 (pc' := 118) at_115 rfl (XT.ii_lt_f (by decide)) ?_
  refine ow_aload K X9 (pc' := 120) o1 at_118 rfl rfl ?_
  refine ow_iload K X9 (pc' := 122) d at_120 rfl rfl ?_
  refine ow_callV K X9 (pc' := 125) (rfl : T9.heap = T9.heap) (y := (⟨"com/example/tagwell/tagwell/store/Numbering", "giveBack", "(I)V"⟩ : MethodName)) (rm2 l Z a0 hw [] o1 d r1 k1 t (2 : Int32) 2 [.int a, .int b, .int 0] [.int a, .int b, .int d] T9.heap n0 Z120 EE12 FR12 FL12 FC12 AV12 ge2 gr ne (by decide) ⟨by decide, by decide⟩ (by decide) (by simp) rfl) EE12 (hw _ (List.mem_of_getElem? (i := 32) rfl)) (hw _ (List.mem_of_getElem? (i := 33) rfl)) (hw _ (List.mem_of_getElem? (i := 35) rfl)) (hw _ (List.mem_of_getElem? (i := 34) rfl)) (hw _ (List.mem_of_getElem? (i := 3) rfl)) (hw _ (List.mem_of_getElem? (i := 36) rfl)) (by decide) (st := []) 0 (Nat.le_of_eq rfl) (by decide) (by decide) (by decide) (by decide) rfl [.int d] rfl (lenOf pd_2 rfl) rfl at_122 rfl ?_
  intro v10 T10 L10 X10 hQ10
  obtain ⟨rfl, NN13, Z130, EE13, FR13, FL13, FC13', AV13⟩ := hQ10
  have FC13 : Fld Z T10.heap o1 "com/example/tagwell/tagwell/store/Numbering" "returnedCount" "I" (.int (3 : Int32)) := FC13'
  have N130 := Fr.app N120 NN13
  refine ow_at (g := (mkF m 125 #[.val (.int q0), .val (.int q1), .val (.int q2), .val (.int q3), .val (.int q4), .val (.int t), .val (.int (3 : Int32)), .val (.int a), .val (.int b), .val (.int d), .val (.ref o1), .unset, .unset, .unset, .unset] [])) ?_
  refine ow_aload K X10 (pc' := 127) o1 at_125 rfl rfl ?_
  refine ow_callV K X10 (pc' := 130) (rfl : T10.heap = T10.heap) (y := (⟨"com/example/tagwell/tagwell/store/Numbering", "take", "()I"⟩ : MethodName)) (rm3 l Z a0 hw [] o1 r1 k1 t (3 : Int32) (2 : Int32) 2 d [.int a, .int b, .int d] T10.heap n0 Z130 EE13 FR13 FL13 FC13 AV13 ge2 gr ne (by decide) (by decide) ⟨by decide, by decide⟩ (by decide) rfl) EE13 (hw _ (List.mem_of_getElem? (i := 15) rfl)) (hw _ (List.mem_of_getElem? (i := 16) rfl)) (hw _ (List.mem_of_getElem? (i := 18) rfl)) (hw _ (List.mem_of_getElem? (i := 17) rfl)) (hw _ (List.mem_of_getElem? (i := 3) rfl)) (hw _ (List.mem_of_getElem? (i := 19) rfl)) (by decide) (st := []) 0 (Nat.le_of_eq rfl) (by decide) (by decide) (by decide) (by decide) rfl [] rfl (lenOf pd_3 rfl) rfl at_127 rfl ?_
  intro v11 T11 L11 X11 hQ11
  obtain ⟨rfl, NN14, Z140, EE14, FR14, FL14, FC14, AV14⟩ := hQ11
  have N140 := Fr.app N130 NN14
  refine ow_at (g := (mkF m 130 #[.val (.int q0), .val (.int q1), .val (.int q2), .val (.int q3), .val (.int q4), .val (.int t), .val (.int (3 : Int32)), .val (.int a), .val (.int b), .val (.int d), .val (.ref o1), .unset, .unset, .unset, .unset] [.int d])) ?_
  refine ow_istore K X11 (pc' := 132) (Ls' := #[.val (.int q0), .val (.int q1), .val (.int q2), .val (.int q3), .val (.int q4), .val (.int t), .val (.int (3 : Int32)), .val (.int a), .val (.int b), .val (.int d), .val (.ref o1), .val (.int d), .unset, .unset, .unset]) at_130 rfl rfl ?_
  refine ow_aload K X11 (pc' := 134) o1 at_132 rfl rfl ?_
  refine ow_callV K X11 (pc' := 137) (rfl : T11.heap = T11.heap) (y := (⟨"com/example/tagwell/tagwell/store/Numbering", "take", "()I"⟩ : MethodName)) (rm3 l Z a0 hw [] o1 r1 k1 t (2 : Int32) (1 : Int32) 1 b [.int a, .int b, .int d] T11.heap n0 Z140 EE14 FR14 FL14 FC14 AV14 ge2 gr ne (by decide) (by decide) ⟨by decide, by decide⟩ (by decide) rfl) EE14 (hw _ (List.mem_of_getElem? (i := 15) rfl)) (hw _ (List.mem_of_getElem? (i := 16) rfl)) (hw _ (List.mem_of_getElem? (i := 18) rfl)) (hw _ (List.mem_of_getElem? (i := 17) rfl)) (hw _ (List.mem_of_getElem? (i := 3) rfl)) (hw _ (List.mem_of_getElem? (i := 19) rfl)) (by decide) (st := []) 0 (Nat.le_of_eq rfl) (by decide) (by decide) (by decide) (by decide) rfl [] rfl (lenOf pd_3 rfl) rfl at_134 rfl ?_
  intro v12 T12 L12 X12 hQ12
  obtain ⟨rfl, NN15, Z150, EE15, FR15, FL15, FC15, AV15⟩ := hQ12
  have N150 := Fr.app N140 NN15
  refine ow_at (g := (mkF m 137 #[.val (.int q0), .val (.int q1), .val (.int q2), .val (.int q3), .val (.int q4), .val (.int t), .val (.int (3 : Int32)), .val (.int a), .val (.int b), .val (.int d), .val (.ref o1), .val (.int d), .unset, .unset, .unset] [.int b])) ?_
  refine ow_istore K X12 (pc' := 139) (Ls' := #[.val (.int q0), .val (.int q1), .val (.int q2), .val (.int q3), .val (.int q4), .val (.int t), .val (.int (3 : Int32)), .val (.int a), .val (.int b), .val (.int d), .val (.ref o1), .val (.int d), .val (.int b), .unset, .unset]) at_137 rfl rfl ?_
  refine ow_aload K X12 (pc' := 141) o1 at_139 rfl rfl ?_
  refine ow_callV K X12 (pc' := 144) (rfl : T12.heap = T12.heap) (y := (⟨"com/example/tagwell/tagwell/store/Numbering", "take", "()I"⟩ : MethodName)) (rm3 l Z a0 hw [] o1 r1 k1 t (1 : Int32) 0 0 a [.int a, .int b, .int d] T12.heap n0 Z150 EE15 FR15 FL15 FC15 AV15 ge2 gr ne (by decide) (by decide) ⟨by decide, by decide⟩ (by decide) rfl) EE15 (hw _ (List.mem_of_getElem? (i := 15) rfl)) (hw _ (List.mem_of_getElem? (i := 16) rfl)) (hw _ (List.mem_of_getElem? (i := 18) rfl)) (hw _ (List.mem_of_getElem? (i := 17) rfl)) (hw _ (List.mem_of_getElem? (i := 3) rfl)) (hw _ (List.mem_of_getElem? (i := 19) rfl)) (by decide) (st := []) 0 (Nat.le_of_eq rfl) (by decide) (by decide) (by decide) (by decide) rfl [] rfl (lenOf pd_3 rfl) rfl at_141 rfl ?_
  intro v13 T13 L13 X13 hQ13
  obtain ⟨rfl, NN16, Z160, EE16, FR16, FL16, FC16, AV16⟩ := hQ13
  have N160 := Fr.app N150 NN16
  refine ow_at (g := (mkF m 144 #[.val (.int q0), .val (.int q1), .val (.int q2), .val (.int q3), .val (.int q4), .val (.int t), .val (.int (3 : Int32)), .val (.int a), .val (.int b), .val (.int d), .val (.ref o1), .val (.int d), .val (.int b), .unset, .unset] [.int a])) ?_
  refine ow_istore K X13 (pc' := 146) (Ls' := #[.val (.int q0), .val (.int q1), .val (.int q2), .val (.int q3), .val (.int q4), .val (.int t), .val (.int (3 : Int32)), .val (.int a), .val (.int b), .val (.int d), .val (.ref o1), .val (.int d), .val (.int b), .val (.int a), .unset]) at_144 rfl rfl ?_
  refine ow_aload K X13 (pc' := 148) o1 at_146 rfl rfl ?_
  refine ow_callV K X13 (pc' := 151) (rfl : T13.heap = T13.heap) (y := (⟨"com/example/tagwell/tagwell/store/Numbering", "take", "()I"⟩ : MethodName)) (rm4 l Z a0 hw [] o1 r1 k1 t [.int a, .int b, .int d] T13.heap n0 Z160 EE16 FR16 FL16 FC16 AV16 ge2 gr ne) EE16 (hw _ (List.mem_of_getElem? (i := 15) rfl)) (hw _ (List.mem_of_getElem? (i := 16) rfl)) (hw _ (List.mem_of_getElem? (i := 18) rfl)) (hw _ (List.mem_of_getElem? (i := 17) rfl)) (hw _ (List.mem_of_getElem? (i := 3) rfl)) (hw _ (List.mem_of_getElem? (i := 19) rfl)) (by decide) (st := []) 0 (Nat.le_of_eq rfl) (by decide) (by decide) (by decide) (by decide) rfl [] rfl (lenOf pd_4 rfl) rfl at_148 rfl ?_
  intro v14 T14 L14 X14 hQ14
  obtain ⟨rfl, NN17, Z170, EE17, FR17, FL17, FC17, AV17⟩ := hQ14
  have N170 := Fr.app N160 NN17
  refine ow_at (g := (mkF m 151 #[.val (.int q0), .val (.int q1), .val (.int q2), .val (.int q3), .val (.int q4), .val (.int t), .val (.int (3 : Int32)), .val (.int a), .val (.int b), .val (.int d), .val (.ref o1), .val (.int d), .val (.int b), .val (.int a), .unset] [.int t])) ?_
  refine ow_istore K X14 (pc' := 153) (Ls' := #[.val (.int q0), .val (.int q1), .val (.int q2), .val (.int q3), .val (.int q4), .val (.int t), .val (.int (3 : Int32)), .val (.int a), .val (.int b), .val (.int d), .val (.ref o1), .val (.int d), .val (.int b), .val (.int a), .val (.int t)]) at_151 rfl rfl ?_
  refine ow_iload K X14 (pc' := 155) d at_153 rfl rfl ?_
  refine ow_iconst K X14 (pc' := 156) (0 : Int32) at_155 rfl (by decide) ?_
  refine ow_iload K X14 (pc' := 158) (3 : Int32) at_156 rfl rfl ?_
  refine ow_iload K X14 (pc' := 160) t at_158 rfl rfl ?_
  refine ow_iload K X14 (pc' := 162) a at_160 rfl rfl ?_
  refine ow_iload K X14 (pc' := 164) b at_162 rfl rfl ?_
  refine ow_iload K X14 (pc' := 166) d at_164 rfl rfl ?_
  refine ow_callS K X14 (pc' := 169) (rfl : T14.heap = T14.heap) (y := (⟨"com/example/tagwell/tagwell/store/NumberingTakePinLaw", "expect", "(IIIIII)I"⟩ : MethodName)) (rm6 l Z a0 hw [] (0 : Int32) (3 : Int32) t a b d T14.heap n0 Z170) (hw _ (List.mem_of_getElem? (i := 22) rfl)) (hw _ (List.mem_of_getElem? (i := 23) rfl)) (hw _ (List.mem_of_getElem? (i := 24) rfl)) (hw _ (List.mem_of_getElem? (i := 25) rfl)) (by decide) (st := [.int d]) 1 (Nat.le_of_eq rfl) (by decide) (by decide) (by decide) (by decide) rfl [.int (0 : Int32), .int (3 : Int32), .int t, .int a, .int b, .int d] rfl (lenOf pd_6 rfl) rfl at_166 rfl ?_
  intro v15 T15 L15 X15 hQ15
  obtain ⟨rfl, NN18, e18x⟩ := hQ15
  have N180 := Fr.app N170 NN18
  refine ow_at (g := (mkF m 169 #[.val (.int q0), .val (.int q1), .val (.int q2), .val (.int q3), .val (.int q4), .val (.int t), .val (.int (3 : Int32)), .val (.int a), .val (.int b), .val (.int d), .val (.ref o1), .val (.int d), .val (.int b), .val (.int a), .val (.int t)] [.int (own_exp (0 : Int32) (3 : Int32) t a b d), .int d])) ?_
  refine ow_icmpN K X15 (pc' := 172) at_169 rfl (XT.ii_ne_f (by show d = own_exp (0 : Int32) (3 : Int32) t a b d; simp only [own_exp]; first | rfl | (simp; done) | (simp [Int32.add_assoc]; done))) ?_
  refine ow_iload K X15 (pc' := 174) b at_172 rfl rfl ?_
  refine ow_iconst K X15 (pc' := 175) (1 : Int32) at_174 rfl (by decide) ?_
  refine ow_iload K X15 (pc' := 177) (3 : Int32) at_175 rfl rfl ?_
  refine ow_iload K X15 (pc' := 179) t at_177 rfl rfl ?_
  refine ow_iload K X15 (pc' := 181) a at_179 rfl rfl ?_
  refine ow_iload K X15 (pc' := 183) b at_181 rfl rfl ?_
  refine ow_iload K X15 (pc' := 185) d at_183 rfl rfl ?_
  refine ow_callS K X15 (pc' := 188) e18x (y := (⟨"com/example/tagwell/tagwell/store/NumberingTakePinLaw", "expect", "(IIIIII)I"⟩ : MethodName)) (rm6 l Z a0 hw [] (1 : Int32) (3 : Int32) t a b d T14.heap n0 Z170) (hw _ (List.mem_of_getElem? (i := 22) rfl)) (hw _ (List.mem_of_getElem? (i := 23) rfl)) (hw _ (List.mem_of_getElem? (i := 24) rfl)) (hw _ (List.mem_of_getElem? (i := 25) rfl)) (by decide) (st := [.int b]) 1 (Nat.le_of_eq rfl) (by decide) (by decide) (by decide) (by decide) rfl [.int (1 : Int32), .int (3 : Int32), .int t, .int a, .int b, .int d] rfl (lenOf pd_6 rfl) rfl at_185 rfl ?_
  intro v16 T16 L16 X16 hQ16
  obtain ⟨rfl, NN19, e19x⟩ := hQ16
  have N190 := Fr.app N180 NN19
  refine ow_at (g := (mkF m 188 #[.val (.int q0), .val (.int q1), .val (.int q2), .val (.int q3), .val (.int q4), .val (.int t), .val (.int (3 : Int32)), .val (.int a), .val (.int b), .val (.int d), .val (.ref o1), .val (.int d), .val (.int b), .val (.int a), .val (.int t)] [.int (own_exp (1 : Int32) (3 : Int32) t a b d), .int b])) ?_
  refine ow_icmpN K X16 (pc' := 191) at_188 rfl (XT.ii_ne_f (by show b = own_exp (1 : Int32) (3 : Int32) t a b d; simp only [own_exp]; first | rfl | (simp; done) | (simp [Int32.add_assoc]; done))) ?_
  refine ow_iload K X16 (pc' := 193) a at_191 rfl rfl ?_
  refine ow_iconst K X16 (pc' := 194) (2 : Int32) at_193 rfl (by decide) ?_
  refine ow_iload K X16 (pc' := 196) (3 : Int32) at_194 rfl rfl ?_
  refine ow_iload K X16 (pc' := 198) t at_196 rfl rfl ?_
  refine ow_iload K X16 (pc' := 200) a at_198 rfl rfl ?_
  refine ow_iload K X16 (pc' := 202) b at_200 rfl rfl ?_
  refine ow_iload K X16 (pc' := 204) d at_202 rfl rfl ?_
  refine ow_callS K X16 (pc' := 207) e19x (y := (⟨"com/example/tagwell/tagwell/store/NumberingTakePinLaw", "expect", "(IIIIII)I"⟩ : MethodName)) (rm6 l Z a0 hw [] (2 : Int32) (3 : Int32) t a b d T14.heap n0 Z170) (hw _ (List.mem_of_getElem? (i := 22) rfl)) (hw _ (List.mem_of_getElem? (i := 23) rfl)) (hw _ (List.mem_of_getElem? (i := 24) rfl)) (hw _ (List.mem_of_getElem? (i := 25) rfl)) (by decide) (st := [.int a]) 1 (Nat.le_of_eq rfl) (by decide) (by decide) (by decide) (by decide) rfl [.int (2 : Int32), .int (3 : Int32), .int t, .int a, .int b, .int d] rfl (lenOf pd_6 rfl) rfl at_204 rfl ?_
  intro v17 T17 L17 X17 hQ17
  obtain ⟨rfl, NN20, e20x⟩ := hQ17
  have N200 := Fr.app N190 NN20
  refine ow_at (g := (mkF m 207 #[.val (.int q0), .val (.int q1), .val (.int q2), .val (.int q3), .val (.int q4), .val (.int t), .val (.int (3 : Int32)), .val (.int a), .val (.int b), .val (.int d), .val (.ref o1), .val (.int d), .val (.int b), .val (.int a), .val (.int t)] [.int (own_exp (2 : Int32) (3 : Int32) t a b d), .int a])) ?_
  refine ow_icmpN K X17 (pc' := 210) at_207 rfl (XT.ii_ne_f (by show a = own_exp (2 : Int32) (3 : Int32) t a b d; simp only [own_exp]; first | rfl | (simp; done) | (simp [Int32.add_assoc]; done))) ?_
  refine ow_iload K X17 (pc' := 212) t at_210 rfl rfl ?_
  refine ow_iconst K X17 (pc' := 213) (3 : Int32) at_212 rfl (by decide) ?_
  refine ow_iload K X17 (pc' := 215) (3 : Int32) at_213 rfl rfl ?_
  refine ow_iload K X17 (pc' := 217) t at_215 rfl rfl ?_
  refine ow_iload K X17 (pc' := 219) a at_217 rfl rfl ?_
  refine ow_iload K X17 (pc' := 221) b at_219 rfl rfl ?_
  refine ow_iload K X17 (pc' := 223) d at_221 rfl rfl ?_
  refine ow_callS K X17 (pc' := 226) e20x (y := (⟨"com/example/tagwell/tagwell/store/NumberingTakePinLaw", "expect", "(IIIIII)I"⟩ : MethodName)) (rm6 l Z a0 hw [] (3 : Int32) (3 : Int32) t a b d T14.heap n0 Z170) (hw _ (List.mem_of_getElem? (i := 22) rfl)) (hw _ (List.mem_of_getElem? (i := 23) rfl)) (hw _ (List.mem_of_getElem? (i := 24) rfl)) (hw _ (List.mem_of_getElem? (i := 25) rfl)) (by decide) (st := [.int t]) 1 (Nat.le_of_eq rfl) (by decide) (by decide) (by decide) (by decide) rfl [.int (3 : Int32), .int (3 : Int32), .int t, .int a, .int b, .int d] rfl (lenOf pd_6 rfl) rfl at_223 rfl ?_
  intro v18 T18 L18 X18 hQ18
  obtain ⟨rfl, NN21, e21x⟩ := hQ18
  have N210 := Fr.app N200 NN21
  refine ow_at (g := (mkF m 226 #[.val (.int q0), .val (.int q1), .val (.int q2), .val (.int q3), .val (.int q4), .val (.int t), .val (.int (3 : Int32)), .val (.int a), .val (.int b), .val (.int d), .val (.ref o1), .val (.int d), .val (.int b), .val (.int a), .val (.int t)] [.int (own_exp (3 : Int32) (3 : Int32) t a b d), .int t])) ?_
  refine ow_icmpN K X18 (pc' := 229) at_226 rfl (XT.ii_ne_f (by show t = own_exp (3 : Int32) (3 : Int32) t a b d; simp only [own_exp]; first | rfl | (simp; done) | (simp [Int32.add_assoc]; done))) ?_
  refine ow_aload K X18 (pc' := 231) o1 at_229 rfl rfl ?_
  refine ow_callV K X18 (pc' := 234) e21x (y := (⟨"com/example/tagwell/tagwell/store/Numbering", "limit", "()I"⟩ : MethodName)) (rm5 l Z a0 hw [] o1 (t + (1 : Int32)) T14.heap n0 Z170 FL17) EE17 (hw _ (List.mem_of_getElem? (i := 26) rfl)) (hw _ (List.mem_of_getElem? (i := 27) rfl)) (hw _ (List.mem_of_getElem? (i := 29) rfl)) (hw _ (List.mem_of_getElem? (i := 28) rfl)) (hw _ (List.mem_of_getElem? (i := 3) rfl)) (hw _ (List.mem_of_getElem? (i := 30) rfl)) (by decide) (st := []) 0 (Nat.le_of_eq rfl) (by decide) (by decide) (by decide) (by decide) rfl [] rfl (lenOf pd_5 rfl) rfl at_231 rfl ?_
  intro v19 T19 L19 X19 hQ19
  obtain ⟨rfl, NN22, e22x⟩ := hQ19
  have N220 := Fr.app N210 NN22
  refine ow_at (g := (mkF m 234 #[.val (.int q0), .val (.int q1), .val (.int q2), .val (.int q3), .val (.int q4), .val (.int t), .val (.int (3 : Int32)), .val (.int a), .val (.int b), .val (.int d), .val (.ref o1), .val (.int d), .val (.int b), .val (.int a), .val (.int t)] [.int (t + (1 : Int32))])) ?_
  refine ow_iload K X19 (pc' := 236) t at_234 rfl rfl ?_
  refine ow_iconst K X19 (pc' := 237) (4 : Int32) at_236 rfl (by decide) ?_
  refine ow_iload K X19 (pc' := 239) (3 : Int32) at_237 rfl rfl ?_
  refine ow_isub K X19 (pc' := 240) (1 : Int32) at_239 rfl (by decide) ?_
  refine ow_iadd K X19 (pc' := 241) (t + (1 : Int32)) at_240 rfl rfl ?_
  refine ow_icmpN K X19 (pc' := 244) at_241 rfl (XT.ii_ne_f (by first | rfl | (simp; done) | (simp [Int32.add_assoc]; done))) ?_
  refine ow_iconst K X19 (pc' := 245) (1 : Int32) at_244 rfl (by decide) ?_
  refine ow_goto K X19 (pc' := 249) at_245 (by decide) (by decide) ?_
  exact ow_retI K X19 .boolean rfl (by decide) (Or.inr (Or.inl rfl)) at_249 ⟨rfl, N220⟩ (by decide) (by decide)
theorem pn_0 : plainName "com/example/tagwell/tagwell/store/NumberingTakePinLaw" = true := by first | (simp [plainName, overriddenIn]; done) | decide +kernel
theorem ef_0 (m : MethodId) (q0 : Int32) (q1 : Int32) (q2 : Int32) (q3 : Int32) (q4 : Int32) : entryFrame m #[(.int q0), (.int q1), (.int q2), (.int q3), (.int q4)] maxLocals = mkF m 0 #[.val (.int q0), .val (.int q1), .val (.int q2), .val (.int q3), .val (.int q4), .unset, .unset, .unset, .unset, .unset, .unset, .unset, .unset, .unset, .unset] [] := by first | (simp [entryFrame, mkF, argsToLocals, Value.category, maxLocals]; done) | rfl
set_option maxRecDepth 65536 in
set_option maxHeartbeats 40000000 in
theorem rm0 (l : Launch) (Z : State) (a0 : Array Value) (hw : ∀ d ∈ tables_1, d.before a0 Z = true) (ws : List Jvm.Cond) (q0 : Int32) (q1 : Int32) (q2 : Int32) (q3 : Int32) (q4 : Int32) (h0 : Heap) (n0 : Nat) (Z0 : n0 ≤ h0.size) :
    MetFree l x (head1 (Jvm.Cond.code x code maxLocals ret :: ws) room_1) (fun as_ U => as_ = #[(.int q0), (.int q1), (.int q2), (.int q3), (.int q4)] ∧ Z.Warmed39 U.vm ∧ U.heap = h0) (fun _ _ _ _ _ => True) (fun _ U o U' => ∃ v L, o = .returned v ∧ Q0 n0 v U'.heap L ∧ FrameEnd U o U' L 2 19) := by
  refine MetFree.of_bodySF (plainFor_of_name pn_0) hisR ?_
  intro p e s m args below meth c s₁ Bd hml0 hP hK
  obtain ⟨rfl, hZ, hh⟩ := hP
  have K : ow_K p e below s m meth c Z "com/example/tagwell/tagwell/store/NumberingTakePinLaw" code 15 (some .boolean) "law" (ow_Gl p e below s (Q0 n0) 2 19) := ⟨ow_Gl_bc, Bd.exec, Bd.bytes, hml0, findClass_of_methodNamed Bd.named, hZ, Bd.returns, Bd.notSynchronized, (name_of_methodNamed Bd.named Bd.method).1⟩
  have X0 : Stand p l e room_1 s m #[(.int q0), (.int q1), (.int q2), (.int q3), (.int q4)] below meth c s₁ [] 0 0 := Stand.of_body Bd
  have e0 : s₁.heap = h0 := by rw [← hh, Bd.state]; rfl
  have N0 := Fr.nil n0
  refine ow_entry (Q := (Q0 n0)) (ce := 2) (sl := 19) (ef_0 m q0 q1 q2 q3 q4) ?_
  refine ow_iloadN K X0 (pc' := 1) q0 at_0 rfl rfl ?_
  refine ow_ldcI K X0 (pc' := 3) (1073741823 : Int32) at_1 rfl (hw _ (List.mem_of_getElem? (i := 0) rfl)) ?_
  refine ow_iand K X0 (pc' := 4) (q0 &&& (1073741823 : Int32)) at_3 rfl rfl ?_
  refine ow_istore K X0 (pc' := 6) (Ls' := #[.val (.int q0), .val (.int q1), .val (.int q2), .val (.int q3), .val (.int q4), .val (.int (q0 &&& (1073741823 : Int32))), .unset, .unset, .unset, .unset, .unset, .unset, .unset, .unset, .unset]) at_4 rfl rfl ?_
  refine ow_iload K X0 (pc' := 8) (q0 &&& (1073741823 : Int32)) at_6 rfl rfl ?_
  by_cases ct : (q0 &&& (1073741823 : Int32)) = 0
  · refine ow_ifN K X0 (pc' := 11) at_8 rfl (XT.i0_ne_f ct) ?_
    refine ow_iconst K X0 (pc' := 12) (0 : Int32) at_11 rfl (by decide) ?_
    refine ow_goto K X0 (pc' := 18) at_12 (by decide) (by decide) ?_
    refine ow_istore K X0 (pc' := 20) (Ls' := #[.val (.int q0), .val (.int q1), .val (.int q2), .val (.int q3), .val (.int q4), .val (.int (q0 &&& (1073741823 : Int32))), .val (.int (0 : Int32)), .unset, .unset, .unset, .unset, .unset, .unset, .unset, .unset]) at_18 rfl rfl ?_
    refine ow_iload K X0 (pc' := 22) (q0 &&& (1073741823 : Int32)) at_20 rfl rfl ?_
    refine ow_ifN K X0 (pc' := 25) at_22 rfl (XT.i0_ne_f ct) ?_
    refine ow_iconst K X0 (pc' := 26) (0 : Int32) at_25 rfl (by decide) ?_
    refine ow_goto K X0 (pc' := 36) at_26 (by decide) (by decide) ?_
    refine ow_istore K X0 (pc' := 38) (Ls' := #[.val (.int q0), .val (.int q1), .val (.int q2), .val (.int q3), .val (.int q4), .val (.int (q0 &&& (1073741823 : Int32))), .val (.int (0 : Int32)), .val (.int (0 : Int32)), .unset, .unset, .unset, .unset, .unset, .unset, .unset]) at_36 rfl rfl ?_
    refine ow_iload K X0 (pc' := 40) (q0 &&& (1073741823 : Int32)) at_38 rfl rfl ?_
    refine ow_ifN K X0 (pc' := 43) at_40 rfl (XT.i0_ne_f ct) ?_
    refine ow_iconst K X0 (pc' := 44) (0 : Int32) at_43 rfl (by decide) ?_
    refine ow_goto K X0 (pc' := 54) at_44 (by decide) (by decide) ?_
    refine ow_istore K X0 (pc' := 56) (Ls' := #[.val (.int q0), .val (.int q1), .val (.int q2), .val (.int q3), .val (.int q4), .val (.int (q0 &&& (1073741823 : Int32))), .val (.int (0 : Int32)), .val (.int (0 : Int32)), .val (.int (0 : Int32)), .unset, .unset, .unset, .unset, .unset, .unset]) at_54 rfl rfl ?_
    refine ow_iload K X0 (pc' := 58) (q0 &&& (1073741823 : Int32)) at_56 rfl rfl ?_
    refine ow_ifN K X0 (pc' := 61) at_58 rfl (XT.i0_ne_f ct) ?_
    refine ow_iconst K X0 (pc' := 62) (0 : Int32) at_61 rfl (by decide) ?_
    refine ow_goto K X0 (pc' := 73) at_62 (by decide) (by decide) ?_
    refine ow_istore K X0 (pc' := 75) (Ls' := #[.val (.int q0), .val (.int q1), .val (.int q2), .val (.int q3), .val (.int q4), .val (.int (q0 &&& (1073741823 : Int32))), .val (.int (0 : Int32)), .val (.int (0 : Int32)), .val (.int (0 : Int32)), .val (.int (0 : Int32)), .unset, .unset, .unset, .unset, .unset]) at_73 rfl rfl ?_
    exact t75_0 hw K X0 e0 N0 Z0
  · refine ow_ifY K X0 (pc' := 15) at_8 (XT.i0_ne_t ct) (by decide) (by decide) ?_
    refine ow_iloadN K X0 (pc' := 16) q1 at_15 rfl rfl ?_
    refine ow_iconst K X0 (pc' := 17) (3 : Int32) at_16 rfl (by decide) ?_
    refine ow_iand K X0 (pc' := 18) (q1 &&& (3 : Int32)) at_17 rfl rfl ?_
    refine ow_istore K X0 (pc' := 20) (Ls' := #[.val (.int q0), .val (.int q1), .val (.int q2), .val (.int q3), .val (.int q4), .val (.int (q0 &&& (1073741823 : Int32))), .val (.int (q1 &&& (3 : Int32))), .unset, .unset, .unset, .unset, .unset, .unset, .unset, .unset]) at_18 rfl rfl ?_
    refine ow_iload K X0 (pc' := 22) (q0 &&& (1073741823 : Int32)) at_20 rfl rfl ?_
    refine ow_ifY K X0 (pc' := 29) at_22 (XT.i0_ne_t ct) (by decide) (by decide) ?_
    refine ow_iloadN K X0 (pc' := 30) q2 at_29 rfl rfl ?_
    refine ow_ldcI K X0 (pc' := 32) (2147483647 : Int32) at_30 rfl (hw _ (List.mem_of_getElem? (i := 31) rfl)) ?_
    refine ow_iand K X0 (pc' := 33) (q2 &&& (2147483647 : Int32)) at_32 rfl rfl ?_
    refine ow_iload K X0 (pc' := 35) (q0 &&& (1073741823 : Int32)) at_33 rfl rfl ?_
    refine ow_irem K X0 (pc' := 36) ((q2 &&& (2147483647 : Int32)) - ((q2 &&& (2147483647 : Int32)) / (q0 &&& (1073741823 : Int32))) * (q0 &&& (1073741823 : Int32))) at_35 rfl ct rfl ?_
    refine ow_istore K X0 (pc' := 38) (Ls' := #[.val (.int q0), .val (.int q1), .val (.int q2), .val (.int q3), .val (.int q4), .val (.int (q0 &&& (1073741823 : Int32))), .val (.int (q1 &&& (3 : Int32))), .val (.int ((q2 &&& (2147483647 : Int32)) - ((q2 &&& (2147483647 : Int32)) / (q0 &&& (1073741823 : Int32))) * (q0 &&& (1073741823 : Int32)))), .unset, .unset, .unset, .unset, .unset, .unset, .unset]) at_36 rfl rfl ?_
    refine ow_iload K X0 (pc' := 40) (q0 &&& (1073741823 : Int32)) at_38 rfl rfl ?_
    refine ow_ifY K X0 (pc' := 47) at_40 (XT.i0_ne_t ct) (by decide) (by decide) ?_
    refine ow_iloadN K X0 (pc' := 48) q3 at_47 rfl rfl ?_
    refine ow_ldcI K X0 (pc' := 50) (2147483647 : Int32) at_48 rfl (hw _ (List.mem_of_getElem? (i := 31) rfl)) ?_
    refine ow_iand K X0 (pc' := 51) (q3 &&& (2147483647 : Int32)) at_50 rfl rfl ?_
    refine ow_iload K X0 (pc' := 53) (q0 &&& (1073741823 : Int32)) at_51 rfl rfl ?_
    refine ow_irem K X0 (pc' := 54) ((q3 &&& (2147483647 : Int32)) - ((q3 &&& (2147483647 : Int32)) / (q0 &&& (1073741823 : Int32))) * (q0 &&& (1073741823 : Int32))) at_53 rfl ct rfl ?_
    refine ow_istore K X0 (pc' := 56) (Ls' := #[.val (.int q0), .val (.int q1), .val (.int q2), .val (.int q3), .val (.int q4), .val (.int (q0 &&& (1073741823 : Int32))), .val (.int (q1 &&& (3 : Int32))), .val (.int ((q2 &&& (2147483647 : Int32)) - ((q2 &&& (2147483647 : Int32)) / (q0 &&& (1073741823 : Int32))) * (q0 &&& (1073741823 : Int32)))), .val (.int ((q3 &&& (2147483647 : Int32)) - ((q3 &&& (2147483647 : Int32)) / (q0 &&& (1073741823 : Int32))) * (q0 &&& (1073741823 : Int32)))), .unset, .unset, .unset, .unset, .unset, .unset]) at_54 rfl rfl ?_
    refine ow_iload K X0 (pc' := 58) (q0 &&& (1073741823 : Int32)) at_56 rfl rfl ?_
    refine ow_ifY K X0 (pc' := 65) at_58 (XT.i0_ne_t ct) (by decide) (by decide) ?_
    refine ow_iload K X0 (pc' := 67) q4 at_65 rfl rfl ?_
    refine ow_ldcI K X0 (pc' := 69) (2147483647 : Int32) at_67 rfl (hw _ (List.mem_of_getElem? (i := 31) rfl)) ?_
    refine ow_iand K X0 (pc' := 70) (q4 &&& (2147483647 : Int32)) at_69 rfl rfl ?_
    refine ow_iload K X0 (pc' := 72) (q0 &&& (1073741823 : Int32)) at_70 rfl rfl ?_
    refine ow_irem K X0 (pc' := 73) ((q4 &&& (2147483647 : Int32)) - ((q4 &&& (2147483647 : Int32)) / (q0 &&& (1073741823 : Int32))) * (q0 &&& (1073741823 : Int32))) at_72 rfl ct rfl ?_
    refine ow_istore K X0 (pc' := 75) (Ls' := #[.val (.int q0), .val (.int q1), .val (.int q2), .val (.int q3), .val (.int q4), .val (.int (q0 &&& (1073741823 : Int32))), .val (.int (q1 &&& (3 : Int32))), .val (.int ((q2 &&& (2147483647 : Int32)) - ((q2 &&& (2147483647 : Int32)) / (q0 &&& (1073741823 : Int32))) * (q0 &&& (1073741823 : Int32)))), .val (.int ((q3 &&& (2147483647 : Int32)) - ((q3 &&& (2147483647 : Int32)) / (q0 &&& (1073741823 : Int32))) * (q0 &&& (1073741823 : Int32)))), .val (.int ((q4 &&& (2147483647 : Int32)) - ((q4 &&& (2147483647 : Int32)) / (q0 &&& (1073741823 : Int32))) * (q0 &&& (1073741823 : Int32)))), .unset, .unset, .unset, .unset, .unset]) at_73 rfl rfl ?_
    rcases own_and3 q1 with c3 | c3 | c3 | c3
    · rw [c3]; exact t75_0 hw K X0 e0 N0 Z0
    · rw [c3]; exact t75_1 hw K X0 e0 N0 Z0
    · rw [c3]; exact t75_2 hw K X0 e0 N0 Z0
    · rw [c3]; exact t75_3 hw K X0 e0 N0 Z0
set_option maxRecDepth 65536 in
set_option maxHeartbeats 40000000 in
theorem comes_1 {Post : Tables → Env → Array Value → State → Outcome → State → Prop} (hpost : ∀ tb e args s v u, (limb_1_1.after args s (.returned v) u = true ∧ limb_1_2.after args s (.returned v) u = true ∧ True) → FrameEnd s (.returned v) u (Jvm.fieldLocs frame_1_writes args s ++ Jvm.arrayLocs frame_1_arrays args s ++ Jvm.staticLocs frame_1_statics s) 16 128 → Post tb e args s (.returned v) u) :
    ArmFor flags0 classFile x code maxLocals ret World_1 tables_1 room_1 Calls_1 rest_1 Pre_1 Post := by
  intro l hfl _ _ p e ha hc hk s m args below hf hA hF happ hP
  obtain ⟨hcalls, hrest, hpre⟩ := hP
  obtain ⟨-, -, -, hnamed, -, -, -, hat⟩ := (Spec.applies_iff hf).mp happ
  obtain ⟨hg, hn⟩ := and_e (Cond.before_iff.mp (show (Jvm.Cond.and given_1 narrow_1).before args s = true from hpre))
  obtain ⟨hcount, b0⟩ := and_e hg
  obtain ⟨a0, b1⟩ := and_e b0
  obtain ⟨a1, b2⟩ := and_e b1
  obtain ⟨a2, b3⟩ := and_e b2
  obtain ⟨a3, b4⟩ := and_e b3
  obtain ⟨w0, w1, w2, w3, w4, rfl⟩ : ∃ w0 w1 w2 w3 w4 : Value, args = #[w0, w1, w2, w3, w4] := by
    have hs : args.size = 5 := by simpa [Cond.value, given_1] using hcount
    obtain ⟨L⟩ := args
    match L, hs with
    | [w0, w1, w2, w3, w4], _ => exact ⟨w0, w1, w2, w3, w4, rfl⟩
  have hw := fun d (hd : d ∈ tables_1) => atoms_spec (ws := Jvm.Cond.code x code maxLocals ret :: tables_1) hat d (List.mem_cons_of_mem _ hd)
  obtain ⟨i0, f0⟩ := is_v a0
  obtain rfl : w0 = (.int i0) := Option.some.inj f0
  obtain ⟨i1, f1⟩ := is_v a1
  obtain rfl : w1 = (.int i1) := Option.some.inj f1
  obtain ⟨i2, f2⟩ := is_v a2
  obtain rfl : w2 = (.int i2) := Option.some.inj f2
  obtain ⟨i3, f3⟩ := is_v a3
  obtain rfl : w3 = (.int i3) := Option.some.inj f3
  obtain ⟨i4, f4⟩ := is_v b4
  obtain rfl : w4 = (.int i4) := Option.some.inj f4
  obtain ⟨n, o, h1, h2, h3, _, L, rfl, ⟨rfl, N⟩, hq⟩ := rm0 l s _ hw tables_1 i0 i1 i2 i3 i4 s.heap s.heap.size (Nat.le_refl _) p e ha hc hk s m _ below hf ((Spec.applies_iff_loose hf).mp happ).1 ⟨rfl, State.Warmed39.refl s, rfl⟩ trivial
  refine ⟨n, _, h1, h2, h3, hpost _ _ _ _ _ _ ⟨Cond.after_iff.mpr rfl, Cond.after_iff.mpr (eq_i res_at (Term.int_eval (1)) rfl), trivial⟩ ⟨hq.1, hq.2.1, (hq.2.2.sift fun y hy => Or.inr (N y hy)).mono (by decide) (by decide)⟩⟩
theorem main_1_1 : Claimed_1_1 := comes_1 fun _ _ _ _ _ _ h hF => ⟨h.1, hF⟩
theorem main_1_2 : Claimed_1_2 := comes_1 fun _ _ _ _ _ _ h hF => ⟨h.2.1, hF⟩
end Jvm.Pilot.@@N@@
namespace Jvm.Pilot.@@N@@
open Jvm Jvm.ClassFile Sem Op Lib Jvm.Free Jvm.Stand Jvm.Pilot.@@N@@.Jvm.D
/-! MADE BY PROGRAM (witnessworld.py) out of the Statement's table words and the real class files: 9 classes; the members and pool entries that the words name. The judged class is class 1, her method 1. -/
namespace start1
open Jvm.ClassFile
def u (s : String) : CpInfo := .utf8 (stringToUtf16 s)
/-- a pool by its gaps: so many unusable entries, then the entry; so many at the end -/
def gap : Nat → List CpInfo → List CpInfo
  | 0, r => r
  | n + 1, r => .unusable :: gap n r
def poolList (es : List (Nat × CpInfo)) (last : Nat) : List CpInfo := es.foldr (fun e r => gap e.1 (e.2 :: r)) (gap last [])
def pool (es : List (Nat × CpInfo)) (last : Nat) : Array CpInfo := ⟨poolList es last⟩
def fileOf (pool : Array CpInfo) (this : Nat) (attrs : Array Attribute := #[]) (ms : Array MethodInfo := #[]) (fl : Nat := 33) (sup : Nat := 0) (ifs : Array Nat := #[]) (fds : Array FieldInfo := #[]) : ClassFile where
  minorVersion := 0
  majorVersion := 65
  constantPool := pool
  accessFlags := fl
  thisClass := this
  superClass := sup
  interfaces := ifs
  fields := fds
  methods := ms
  attributes := attrs
def plain (name : String) (sup : Option ClassId) : Class where
  name := name
  kind := .ordinary
  loader := none
  accessFlags := 33
  super := sup
  interfaces := #[]
  cf := none
  fields := #[]
  methods := #[]
  instanceTypes := #[]
  staticTypes := #[]
  resolved := #[]
  callSites := []
  init := .initialized
  statics := none
  mirror := none

def pool0 : Array CpInfo := pool [(5, u "<init>"), (0, u "()V"), (1, .class_ 10), (1, u "java/lang/Object")] 113

def k0c0 : Code := { maxStack := 0, maxLocals := 1, code := object_method_1_code, exceptionTable := #[], attributes := #[] }
def k0m0 : Method := { name := "<init>", desc := "()V", sig := { parameters := [], returnType := none }, accessFlags := 1, code := some k0c0 }
/-- java/lang/Object -/
def k0 : Class := { plain "java/lang/Object" none with
  accessFlags := 33
  interfaces := #[]
  cf := some (fileOf pool0 8 #[] #[{ accessFlags := 1, nameIndex := 5, descriptorIndex := 6, attributes := #[] }] 33 0 #[] #[])
  fields := #[]
  methods := #[k0m0]
  instanceTypes := #[]
  staticTypes := #[]
  resolved := Array.replicate 124 none
  statics := none }

def pool1 : Array CpInfo := pool [(2, .class_ 4), (1, u "java/lang/Object"), (0, u "<init>"), (0, u "()V"), (0, .integer 1073741823), (0, .integer 2147483647), (0, .class_ 10), (0, u "com/example/tagwell/tagwell/store/Numbering"), (0, .methodref 9 12), (0, .nameAndType 5 13), (0, u "(I)V"), (0, .methodref 9 15), (0, .nameAndType 16 13), (0, u "giveBack"), (0, .methodref 9 18), (0, .nameAndType 19 20), (0, u "take"), (0, u "()I"), (0, .methodref 22 23), (0, .class_ 24), (0, .nameAndType 25 26), (0, u "com/example/tagwell/tagwell/store/NumberingTakePinLaw"), (0, u "expect"), (0, u "(IIIIII)I"), (0, .methodref 9 28), (0, .nameAndType 29 20), (0, u "limit"), (2, u "law"), (0, u "(IIIII)Z")] 3

def k1m0 : Method := { name := "<init>", desc := "()V", sig := { parameters := [], returnType := none }, accessFlags := 1, code := none }
def k1c1 : Code := { maxStack := 7, maxLocals := 15, code := code, exceptionTable := #[], attributes := #[] }
def k1m1 : Method := { name := "law", desc := "(IIIII)Z", sig := { parameters := [.int, .int, .int, .int, .int], returnType := some .boolean }, accessFlags := 9, code := some k1c1 }
def k1c2 : Code := { maxStack := 3, maxLocals := 7, code := method_3_code, exceptionTable := #[], attributes := #[] }
def k1m2 : Method := { name := "expect", desc := "(IIIIII)I", sig := { parameters := [.int, .int, .int, .int, .int, .int], returnType := some .int }, accessFlags := 10, code := some k1c2 }
/-- com/example/tagwell/tagwell/store/NumberingTakePinLaw -/
def k1 : Class := { plain "com/example/tagwell/tagwell/store/NumberingTakePinLaw" (some 0) with
  accessFlags := 49
  interfaces := #[]
  cf := some (fileOf pool1 22 #[] #[{ accessFlags := 1, nameIndex := 5, descriptorIndex := 6, attributes := #[] }, { accessFlags := 9, nameIndex := 32, descriptorIndex := 33, attributes := #[] }, { accessFlags := 10, nameIndex := 25, descriptorIndex := 26, attributes := #[] }] 49 2 #[] #[])
  fields := #[]
  methods := #[k1m0, k1m1, k1m2]
  instanceTypes := #[]
  staticTypes := #[]
  resolved := Array.replicate 37 none
  statics := none }

def pool2 : Array CpInfo := pool [(1, .methodref 2 3), (0, .class_ 4), (0, .nameAndType 5 6), (0, u "java/lang/Object"), (0, u "<init>"), (0, u "()V"), (0, .fieldref 8 9), (0, .class_ 10), (0, .nameAndType 11 12), (0, u "com/example/tagwell/tagwell/store/Numbering"), (0, u "returned"), (0, u "[I"), (0, .fieldref 8 14), (0, .nameAndType 15 16), (0, u "limit"), (0, u "I"), (0, .fieldref 8 18), (0, .nameAndType 19 16), (0, u "returnedCount"), (2, u "giveBack"), (0, u "(I)V"), (23, u "take"), (0, u "()I")] 20

def k2c0 : Code := { maxStack := 2, maxLocals := 2, code := prog_69_method_1_code, exceptionTable := #[], attributes := #[] }
def k2m0 : Method := { name := "<init>", desc := "(I)V", sig := { parameters := [.int], returnType := none }, accessFlags := 0, code := some k2c0 }
def k2c1 : Code := { maxStack := 4, maxLocals := 1, code := prog_69_method_2_code, exceptionTable := #[], attributes := #[] }
def k2m1 : Method := { name := "take", desc := "()I", sig := { parameters := [], returnType := some .int }, accessFlags := 0, code := some k2c1 }
def k2c2 : Code := { maxStack := 1, maxLocals := 1, code := prog_69_method_4_code, exceptionTable := #[], attributes := #[] }
def k2m2 : Method := { name := "limit", desc := "()I", sig := { parameters := [], returnType := some .int }, accessFlags := 0, code := some k2c2 }
def k2c3 : Code := { maxStack := 5, maxLocals := 2, code := prog_69_method_5_code, exceptionTable := #[], attributes := #[] }
def k2m3 : Method := { name := "giveBack", desc := "(I)V", sig := { parameters := [.int], returnType := none }, accessFlags := 0, code := some k2c3 }
/-- com/example/tagwell/tagwell/store/Numbering -/
def k2 : Class := { plain "com/example/tagwell/tagwell/store/Numbering" (some 0) with
  accessFlags := 48
  interfaces := #[]
  cf := some (fileOf pool2 8 #[] #[{ accessFlags := 0, nameIndex := 5, descriptorIndex := 23, attributes := #[] }, { accessFlags := 0, nameIndex := 47, descriptorIndex := 48, attributes := #[] }, { accessFlags := 0, nameIndex := 15, descriptorIndex := 48, attributes := #[] }, { accessFlags := 0, nameIndex := 22, descriptorIndex := 23, attributes := #[] }] 48 2 #[] #[{ accessFlags := 2, nameIndex := 11, descriptorIndex := 12, attributes := #[] }, { accessFlags := 2, nameIndex := 19, descriptorIndex := 16, attributes := #[] }, { accessFlags := 2, nameIndex := 15, descriptorIndex := 16, attributes := #[] }])
  fields := #[{ name := "returned", type := (.array .int), accessFlags := 2, slot := 0, constantValue := 0 }, { name := "returnedCount", type := .int, accessFlags := 2, slot := 1, constantValue := 0 }, { name := "limit", type := .int, accessFlags := 2, slot := 2, constantValue := 0 }]
  methods := #[k2m0, k2m1, k2m2, k2m3]
  instanceTypes := #[(.array .int), .int, .int]
  staticTypes := #[]
  resolved := Array.replicate 69 none
  statics := none }

def pool3 : Array CpInfo := pool [(1, u "java/lang/Cloneable"), (0, .class_ 1), (0, u "java/lang/Object"), (0, .class_ 3)] 3

/-- java/lang/Cloneable -/
def k3 : Class := { plain "java/lang/Cloneable" (some 0) with
  accessFlags := 1537
  interfaces := #[]
  cf := some (fileOf pool3 2 #[] #[] 1537 4 #[] #[])
  fields := #[]
  methods := #[]
  instanceTypes := #[]
  staticTypes := #[]
  resolved := Array.replicate 8 none
  statics := none }

def pool4 : Array CpInfo := pool [(1, u "java/io/Serializable"), (0, .class_ 1), (0, u "java/lang/Object"), (0, .class_ 3)] 3

/-- java/io/Serializable -/
def k4 : Class := { plain "java/io/Serializable" (some 0) with
  accessFlags := 1537
  interfaces := #[]
  cf := some (fileOf pool4 2 #[] #[] 1537 4 #[] #[])
  fields := #[]
  methods := #[]
  instanceTypes := #[]
  staticTypes := #[]
  resolved := Array.replicate 8 none
  statics := none }

/-- the primitive byte -/
def k5 : Class := { plain "byte" none with kind := .primitive 'B', accessFlags := 0x411 }
/-- [B -/
def k6 : Class := { plain "[B" (some 0) with kind := .array 5 .byte, interfaces := #[3, 4], accessFlags := 1041 }

/-- the primitive int -/
def k7 : Class := { plain "int" none with kind := .primitive 'I', accessFlags := 0x411 }
/-- [I -/
def k8 : Class := { plain "[I" (some 0) with kind := .array 7 .int, interfaces := #[3, 4], accessFlags := 1041 }

def heap : Heap := #[]
def classes : Array Class := #[k0, k1, k2, k3, k4, k5, k6, k7, k8]
def interned : List (Array UInt16 × Addr) := []
def slotsUsed : Nat := 0
def theMethod : MethodId := ⟨1, 1⟩
def args0 : Array Value := #[.int 5, .int 2, .int 3, .int 4, .int 1]
def aboutOver (below : List Frame) : State where
  vm := { classes := classes, interned := interned.toArray }
  heap := heap
  slotsUsed := slotsUsed
  threads := #[{ frames := .invoking theMethod args0 :: below }]
def below0 : List Frame := [.native { method := ⟨0, 0⟩, args := #[] }]
def about1 : State := aboutOver below0
def p0 : Program := .bare "" "" ""
def e0 : Env := launch0.env 0 0 0
theorem w_frames : about1.frames = Frame.invoking theMethod args0 :: below0 := rfl
set_option maxRecDepth 65536 in
theorem w_args : argsFit about1.vm theMethod args0 = true := by decide +kernel
set_option maxRecDepth 65536 in
theorem w_heap : heapFits about1 = true := by decide +kernel
set_option maxRecDepth 65536 in
theorem w_runnable : about1.curStatus? = some .runnable := by decide +kernel
set_option maxRecDepth 65536 in
theorem w_alone : about1.alone = true := by decide +kernel
set_option maxRecDepth 65536 in
theorem w_named : about1.methodNamed? x = some theMethod := by decide +kernel
set_option maxRecDepth 65536 in
theorem w_hears : about1.hears theMethod below0 = true := by decide +kernel
set_option maxRecDepth 65536 in
theorem w_ripe : about1.ripe theMethod args0 below0 = true := by decide +kernel
theorem w_running : about1.status = .running := rfl
set_option maxRecDepth 65536 in
theorem w_room : about1.hasRoom e0.platform room_1 = true :=
  launch0.hasRoom_least _ room_1 (by decide +kernel) (by decide +kernel) (by decide +kernel) (by decide +kernel) (by decide +kernel) (by decide +kernel)
theorem allAtoms_all (ts : List Jvm.Cond) (a : Array Jvm.Value) (st : Jvm.State) : (allAtoms ts).before a st = ts.all (fun c => c.before a st) := by
  induction ts with
  | nil => rfl
  | cons c t ih =>
    show (Jvm.Cond.and c (allAtoms t)).before a st = _
    rw [Jvm.Cond.before_and, ih, List.all_cons]
def words1 : List Jvm.Cond := Jvm.Cond.code x code maxLocals ret :: tables_1
/-- a 'code' word, met by the world's own term for the bytes: nothing is compared byte by byte -/
theorem code_word {y : MethodName} {bytes : ByteArray} {mx : Nat} {rt : Option FieldType} {a : Array Value} {s : State} {m : MethodId} {meth : Method} {c : Code} (h1 : s.methodNamed? y = some m) (h2 : s.vm.method? m = some meth) (h3 : meth.code = some c) (h4 : c.code = bytes)
    (h5 : (c.maxLocals == mx && c.exceptionTable.isEmpty && decide (c.maxStack ≤ mostOperands) && decide (meth.sig.returnType = rt) && !meth.locks && decide (parseMethodDescriptor y.desc = some meth.sig)) = true) : (Jvm.Cond.code y bytes mx rt).before a s = true := by
  simp only [Bool.and_eq_true, beq_iff_eq, Bool.not_eq_true', decide_eq_true_eq] at h5
  obtain ⟨⟨⟨⟨⟨g1, g2⟩, g3⟩, g4⟩, g5⟩, g6⟩ := h5
  simp [Cond.before, Cond.holds, Cond.value, h1, h2, h3, h4, g1, g2, g3, g4, g5, g6]
def isCode : Jvm.Cond → Bool
  | .code _ _ _ _ => true
  | _ => false
theorem all_split {L : List Jvm.Cond} {P : Jvm.Cond → Bool} (h1 : L.all (fun c => isCode c || P c) = true) (h2 : ∀ c ∈ L.filter isCode, P c = true) : L.all P = true := by
  refine List.all_eq_true.mpr fun c hc => ?_
  have h := List.all_eq_true.mp h1 c hc
  rcases Bool.eq_false_or_eq_true (isCode c) with hi | hi
  · exact h2 c (List.mem_filter.mpr ⟨hc, hi⟩)
  · simpa [hi] using h
set_option maxRecDepth 65536 in
theorem w_c0 : (Jvm.Cond.code x code maxLocals ret).before args0 about1 = true := code_word (m := ⟨1, 1⟩) (meth := k1m1) (c := k1c1) (by decide +kernel) rfl rfl rfl (by decide +kernel)
set_option maxRecDepth 65536 in
theorem w_c1 : (Jvm.Cond.code ({ cls := "com/example/tagwell/tagwell/store/Numbering", name := "<init>", desc := "(I)V" } : Jvm.MethodName) prog_69_method_1_code (2 : Nat) (Option.none : Option Jvm.ClassFile.FieldType)).before args0 about1 = true := code_word (m := ⟨2, 0⟩) (meth := k2m0) (c := k2c0) (by decide +kernel) rfl rfl rfl (by decide +kernel)
set_option maxRecDepth 65536 in
theorem w_c2 : (Jvm.Cond.code ({ cls := "java/lang/Object", name := "<init>", desc := "()V" } : Jvm.MethodName) object_method_1_code (1 : Nat) (Option.none : Option Jvm.ClassFile.FieldType)).before args0 about1 = true := code_word (m := ⟨0, 0⟩) (meth := k0m0) (c := k0c0) (by decide +kernel) rfl rfl rfl (by decide +kernel)
set_option maxRecDepth 65536 in
theorem w_c3 : (Jvm.Cond.code ({ cls := "com/example/tagwell/tagwell/store/Numbering", name := "take", desc := "()I" } : Jvm.MethodName) prog_69_method_2_code (1 : Nat) (Option.some Jvm.ClassFile.FieldType.int)).before args0 about1 = true := code_word (m := ⟨2, 1⟩) (meth := k2m1) (c := k2c1) (by decide +kernel) rfl rfl rfl (by decide +kernel)
set_option maxRecDepth 65536 in
theorem w_c4 : (Jvm.Cond.code ({ cls := "com/example/tagwell/tagwell/store/NumberingTakePinLaw", name := "expect", desc := "(IIIIII)I" } : Jvm.MethodName) method_3_code (7 : Nat) (Option.some Jvm.ClassFile.FieldType.int)).before args0 about1 = true := code_word (m := ⟨1, 2⟩) (meth := k1m2) (c := k1c2) (by decide +kernel) rfl rfl rfl (by decide +kernel)
set_option maxRecDepth 65536 in
theorem w_c5 : (Jvm.Cond.code ({ cls := "com/example/tagwell/tagwell/store/Numbering", name := "limit", desc := "()I" } : Jvm.MethodName) prog_69_method_4_code (1 : Nat) (Option.some Jvm.ClassFile.FieldType.int)).before args0 about1 = true := code_word (m := ⟨2, 2⟩) (meth := k2m2) (c := k2c2) (by decide +kernel) rfl rfl rfl (by decide +kernel)
set_option maxRecDepth 65536 in
theorem w_c6 : (Jvm.Cond.code ({ cls := "com/example/tagwell/tagwell/store/Numbering", name := "giveBack", desc := "(I)V" } : Jvm.MethodName) prog_69_method_5_code (2 : Nat) (Option.none : Option Jvm.ClassFile.FieldType)).before args0 about1 = true := code_word (m := ⟨2, 3⟩) (meth := k2m3) (c := k2c3) (by decide +kernel) rfl rfl rfl (by decide +kernel)
def codes1 : List Jvm.Cond := [Jvm.Cond.code x code maxLocals ret, Jvm.Cond.code ({ cls := "com/example/tagwell/tagwell/store/Numbering", name := "<init>", desc := "(I)V" } : Jvm.MethodName) prog_69_method_1_code (2 : Nat) (Option.none : Option Jvm.ClassFile.FieldType), Jvm.Cond.code ({ cls := "java/lang/Object", name := "<init>", desc := "()V" } : Jvm.MethodName) object_method_1_code (1 : Nat) (Option.none : Option Jvm.ClassFile.FieldType), Jvm.Cond.code ({ cls := "com/example/tagwell/tagwell/store/Numbering", name := "take", desc := "()I" } : Jvm.MethodName) prog_69_method_2_code (1 : Nat) (Option.some Jvm.ClassFile.FieldType.int), Jvm.Cond.code ({ cls := "com/example/tagwell/tagwell/store/NumberingTakePinLaw", name := "expect", desc := "(IIIIII)I" } : Jvm.MethodName) method_3_code (7 : Nat) (Option.some Jvm.ClassFile.FieldType.int), Jvm.Cond.code ({ cls := "com/example/tagwell/tagwell/store/Numbering", name := "limit", desc := "()I" } : Jvm.MethodName) prog_69_method_4_code (1 : Nat) (Option.some Jvm.ClassFile.FieldType.int), Jvm.Cond.code ({ cls := "com/example/tagwell/tagwell/store/Numbering", name := "giveBack", desc := "(I)V" } : Jvm.MethodName) prog_69_method_5_code (2 : Nat) (Option.none : Option Jvm.ClassFile.FieldType)]
set_option maxRecDepth 65536 in
theorem codes_eq : words1.filter isCode = codes1 := rfl
theorem w_codes : ∀ c ∈ words1.filter isCode, c.before args0 about1 = true := by
  rw [codes_eq]
  intro c hc
  simp only [codes1, List.mem_cons, List.not_mem_nil, or_false] at hc
  rcases hc with rfl | rfl | rfl | rfl | rfl | rfl | rfl
  · exact w_c0
  · exact w_c1
  · exact w_c2
  · exact w_c3
  · exact w_c4
  · exact w_c5
  · exact w_c6
set_option maxRecDepth 65536 in
theorem w_t1 : (words1.take 24).all (fun c => isCode c || c.before args0 about1) = true := by decide +kernel
set_option maxRecDepth 65536 in
theorem w_t2 : (words1.drop 24).all (fun c => isCode c || c.before args0 about1) = true := by decide +kernel
theorem w_tables : (allAtoms (Jvm.Cond.code x code maxLocals ret :: tables_1)).before args0 about1 = true := by
  rw [allAtoms_all]
  show words1.all (fun c => c.before args0 about1) = true
  refine all_split ?_ w_codes
  rw [← List.take_append_drop 24 words1, List.all_append, w_t1, w_t2]
  rfl
set_option maxRecDepth 65536 in
theorem w_case : (Jvm.Cond.and given_1 narrow_1).before args0 about1 = true := by decide +kernel
theorem w_applies : (headSpec (Jvm.Cond.code x code maxLocals ret :: tables_1) room_1).applies x e0.platform about1 = true :=
  (Spec.applies_iff w_frames).mpr ⟨w_running, w_runnable, w_alone, w_named, w_hears, w_ripe, w_room, w_tables⟩
theorem atStart : AtStart classFile x code maxLocals ret World_1 tables_1 room_1 Calls_1 rest_1 Pre_1 launch0 p0 e0 about1 theMethod args0 below0 :=
  ⟨lists_1, trivial, launch0.admits_env _ _ _, launch0.least_env, fairChoices_fair.cas, fairChoices_fair.clock, w_frames, w_args, w_heap, w_applies, trivial, trivial, w_case⟩
end start1
theorem witness_1 : WitnessClaimed_1 := ⟨start1.p0, start1.e0, start1.about1, start1.theMethod, start1.args0, start1.below0, start1.atStart⟩
end Jvm.Pilot.@@N@@
