import JvmDerived
import JvmDerived.Pilot.@@N@@Statement
import JvmDerived.Pilot.@@N@@Code
set_option linter.unusedVariables false
set_option linter.unusedSimpArgs false
namespace Jvm.RoadKit
open Sem ClassFile Op Lib Jvm.Stand Jvm.Free Jvm.LawKit
section New
variable {p : Program} {l : Launch} {e : Env} {R : Room} {s : State} {m : MethodId} {args : Array Value} {below : List Frame} {meth : Method} {c : Code} {T : State} {locs : List Loc} {cells slots : Nat}
theorem retI (X : Stand p l e R s m args below meth c T locs cells slots) (hx : p.tables.exec = Jvm.exec) {pc : Nat} {Ls : Array Slot} {z : Int32} {rest : List Value} (hret : meth.sig.returnType = some .int) (hd : decode c.code pc = .ok (.ireturn, 1)) {fs : List Frame}
    (hl : ∀ (f : JFrame) (acts : List Action), f.method = m → f.locked = none → f.entered = [] → (doReturn e (T.setTop f) acts (some (.int z))).1 = T.setFrames fs) : Steps p.tables e below (T.setTop (mkF m pc Ls (.int z :: rest))) (T.setFrames fs) := by
  have hm' : T.vm.method? m = some meth := X.method'
  have hn : narrow .int (.int z) = .int z := rfl
  show Steps p.tables e below (T.setTop { method := m, pc := pc, locals := Ls, stack := _ :: rest, locked := none }) _
  jvm_step X.here [X.here.top, hx, hd, hm', hret, hn]
  first | (intro acts; rw [hl _ acts rfl rfl rfl]) | rw [hl _ _ rfl rfl rfl]
  exact Steps.refl _
end New
end Jvm.RoadKit
namespace Jvm.Pilot.@@N@@
namespace Own
open Jvm Jvm.ClassFile Sem Op Lib Jvm.Free Jvm.Stand Jvm.LawKit Jvm.RoadKit Bundle
/-- from this frame on the method comes to an end of which P holds -/
def Run (tb : Tables) (e : Env) (below : List Frame) (P : State → Prop) (T : State) (g : JFrame) : Prop := ∃ t, Steps tb e below (T.setTop g) t ∧ P t
theorem Run.of {tb : Tables} {e : Env} {below : List Frame} {P : State → Prop} {T T' : State} {g g' : JFrame} (st : ∀ target, Steps tb e below (T'.setTop g') target → Steps tb e below (T.setTop g) target) (k : Run tb e below P T' g') : Run tb e below P T g := by
  obtain ⟨t, h, hp⟩ := k; exact ⟨t, st _ h, hp⟩
theorem Run.tr {tb : Tables} {e : Env} {below : List Frame} {P : State → Prop} {T T' : State} {g g' : JFrame} (st : Steps tb e below (T.setTop g) (T'.setTop g')) (k : Run tb e below P T' g') : Run tb e below P T g := by
  obtain ⟨t, h, hp⟩ := k; exact ⟨t, st.trans h, hp⟩
/-- what is kept up while the heap grows and safe cells are written -/
def Cl (Z : State) (Inv : Heap → Prop) (Sf : Heap → Addr → Prop) : Prop :=
  (∀ (h h' : Heap) (ws : List Addr), Keep h h' ws → (∀ x ∈ ws, Sf h x) → Inv h → Inv h' ∧ ∀ x, Sf h x → Sf h' x) ∧
  (∀ (h : Heap) (x : Addr), h.size ≤ x → Sf h x) ∧
  (∀ (h : Heap) (x : Addr) (C : String), Exa Z h x C → C ≠ "java/lang/String" → C ≠ "[B" → Sf h x) ∧
  (∀ (h : Heap) (x : Addr) (c : Cell) (ty : FieldType), Arr Z h x c ty → ty ≠ .byte → Sf h x)
/-- where the walk of a body stands -/
def WP (p : Program) (l : Launch) (e : Env) (R : Room) (s : State) (m : MethodId) (args : Array Value) (below : List Frame) (meth : Method) (c : Code) (Z : State) (own mname : String) (bytes : ByteArray) (maxL : Nat) (ret : Option FieldType) (n0 : Nat) (Inv : Heap → Prop) (Sf : Heap → Addr → Prop) (T : State) (h : Heap) (locs : List Loc) (cells slots : Nat) : Prop :=
  Stand p l e R s m args below meth c T locs cells slots ∧ T.heap = h ∧ Z.Warmed39 s.vm ∧ s.vm.findClass own = some m.cls ∧ Fr n0 locs ∧ Old Z n0 h ∧ Inv h ∧ (p.tables.exec = Jvm.exec ∧ c.code = bytes ∧ c.maxLocals = maxL ∧ meth.sig.returnType = ret ∧ meth.locks = false ∧ meth.name = mname) ∧ Cl Z Inv Sf
theorem ext_keep {h h' : Heap} (E : Ext h h') : Keep h h' [] := (Keep.refl h []).ext E
theorem keep_id (h : Heap) : Keep h h [] := Keep.refl h []
theorem own_n {a b : Nat} (h : a < b) : a < b := h
theorem own_ne {a b : Nat} (h : a < b ∨ b < a) : a ≠ b := by omega
theorem own_ni {a b : Nat} (h : a ≠ b) : a < b ∨ b < a := by omega
theorem fr1 {k : Nat} {a : Addr} {sl : Nat} (q : k ≤ a) : Fr k [(⟨a, sl⟩ : Loc)] := fun y hy => by cases List.mem_singleton.mp hy; exact q
section Kit
variable {p : Program} {l : Launch} {e : Env} {R : Room} {s : State} {m : MethodId} {args : Array Value} {below : List Frame} {meth : Method} {c : Code} {Z : State} {own mname : String} {bytes : ByteArray} {maxL : Nat} {ret : Option FieldType} {n0 : Nat} {Inv : Heap → Prop} {Sf : Heap → Addr → Prop} {T : State} {h : Heap} {locs : List Loc} {cells slots : Nat} {a0 : Array Value} {P : State → Prop} {pc pc' : Nat} {Ls Ls' : Array Slot} {st : List Value}
theorem WP.hx (X : WP p l e R s m args below meth c Z own mname bytes maxL ret n0 Inv Sf T h locs cells slots) : p.tables.exec = Jvm.exec := X.2.2.2.2.2.2.2.1.1
theorem WP.hby (X : WP p l e R s m args below meth c Z own mname bytes maxL ret n0 Inv Sf T h locs cells slots) : c.code = bytes := X.2.2.2.2.2.2.2.1.2.1
theorem WP.hml (X : WP p l e R s m args below meth c Z own mname bytes maxL ret n0 Inv Sf T h locs cells slots) : c.maxLocals = maxL := X.2.2.2.2.2.2.2.1.2.2.1
theorem WP.hret (X : WP p l e R s m args below meth c Z own mname bytes maxL ret n0 Inv Sf T h locs cells slots) : meth.sig.returnType = ret := X.2.2.2.2.2.2.2.1.2.2.2.1
theorem WP.hlk (X : WP p l e R s m args below meth c Z own mname bytes maxL ret n0 Inv Sf T h locs cells slots) : meth.locks = false := X.2.2.2.2.2.2.2.1.2.2.2.2.1
theorem WP.hnm (X : WP p l e R s m args below meth c Z own mname bytes maxL ret n0 Inv Sf T h locs cells slots) : meth.name = mname := X.2.2.2.2.2.2.2.1.2.2.2.2.2
theorem WP.cl (X : WP p l e R s m args below meth c Z own mname bytes maxL ret n0 Inv Sf T h locs cells slots) : Cl Z Inv Sf := X.2.2.2.2.2.2.2.2
theorem WP.inv (X : WP p l e R s m args below meth c Z own mname bytes maxL ret n0 Inv Sf T h locs cells slots) : Inv h := X.2.2.2.2.2.2.1
theorem WP.old (X : WP p l e R s m args below meth c Z own mname bytes maxL ret n0 Inv Sf T h locs cells slots) : Old Z n0 h := X.2.2.2.2.2.1
theorem WP.n0le (X : WP p l e R s m args below meth c Z own mname bytes maxL ret n0 Inv Sf T h locs cells slots) : n0 ≤ h.size := X.old.1 ▸ X.old.2.1
theorem WP.fr (X : WP p l e R s m args below meth c Z own mname bytes maxL ret n0 Inv Sf T h locs cells slots) : Fr n0 locs := X.2.2.2.2.1
theorem WP.hown (X : WP p l e R s m args below meth c Z own mname bytes maxL ret n0 Inv Sf T h locs cells slots) : s.vm.findClass own = some m.cls := X.2.2.2.1
theorem WP.hZ (X : WP p l e R s m args below meth c Z own mname bytes maxL ret n0 Inv Sf T h locs cells slots) : Z.Warmed39 s.vm := X.2.2.1
theorem WP.eT (X : WP p l e R s m args below meth c Z own mname bytes maxL ret n0 Inv Sf T h locs cells slots) : T.heap = h := X.2.1
theorem WP.mv (X : WP p l e R s m args below meth c Z own mname bytes maxL ret n0 Inv Sf T h locs cells slots) {T' : State} {h' : Heap} {locs' : List Loc} {cells' slots' : Nat} (X' : Stand p l e R s m args below meth c T' locs' cells' slots') (e' : T'.heap = h') {ws : List Addr} (K : Keep h h' ws) (hs : ∀ x ∈ ws, Sf h x ∧ n0 ≤ x) (N : Fr n0 locs') : WP p l e R s m args below meth c Z own mname bytes maxL ret n0 Inv Sf T' h' locs' cells' slots' :=
  ⟨X', e', X.hZ, X.hown, N, X.old.keep K (fun x q => (hs x q).2), (X.cl.1 h h' ws K (fun x q => (hs x q).1) X.inv).1, X.2.2.2.2.2.2.2.1, X.cl⟩
theorem WP.same (X : WP p l e R s m args below meth c Z own mname bytes maxL ret n0 Inv Sf T h locs cells slots) {T' : State} (X' : Stand p l e R s m args below meth c T' locs cells slots) (e' : T'.heap = h) : WP p l e R s m args below meth c Z own mname bytes maxL ret n0 Inv Sf T' h locs cells slots := X.mv X' e' (keep_id h) (fun _ q => nomatch q) X.fr
/-- a safe cell stays safe -/
theorem WP.sf (X : WP p l e R s m args below meth c Z own mname bytes maxL ret n0 Inv Sf T h locs cells slots) {h' : Heap} {ws : List Addr} {x : Addr} (K : Keep h h' ws) (hs : ∀ x ∈ ws, Sf h x ∧ n0 ≤ x) (q : Sf h x) : Sf h' x := (X.cl.1 h h' ws K (fun x q => (hs x q).1) X.inv).2 x q
theorem WP.sfN (X : WP p l e R s m args below meth c Z own mname bytes maxL ret n0 Inv Sf T h locs cells slots) {x : Addr} (q : h.size ≤ x) : Sf h x := X.cl.2.1 h x q
theorem WP.sfE (X : WP p l e R s m args below meth c Z own mname bytes maxL ret n0 Inv Sf T h locs cells slots) {x : Addr} {C : String} (E : Exa Z h x C) (h1 : C ≠ "java/lang/String" := by decide) (h2 : C ≠ "[B" := by decide) : Sf h x := X.cl.2.2.1 h x C E h1 h2
theorem WP.sfA (X : WP p l e R s m args below meth c Z own mname bytes maxL ret n0 Inv Sf T h locs cells slots) {x : Addr} {k : ClassId} {ty : FieldType} {z : Int32} {vs : List Value} {d : Value} (A : Arv Z h x k ty z vs d) (h1 : ty ≠ .byte := by decide) : Sf h x := by
  obtain ⟨c, A, -⟩ := A; exact X.cl.2.2.2 h x c ty A h1

theorem k_aloadN (X : WP p l e R s m args below meth c Z own mname bytes maxL ret n0 Inv Sf T h locs cells slots) {k : Fin 4} {v : Value} (hd : decode bytes pc = .ok (.aload_n k, 1)) (hl : Ls[k.val]? = some (.val v)) (hv : v.isRef = true) (hp : pc + 1 = pc') (q : Run p.tables e below P T (mkF m pc' Ls (v :: st))) : Run p.tables e below P T (mkF m pc Ls (st)) := by
  subst hp; exact Run.of (fun _ k => XS.aloadN X.1.here X.hx rfl (hb X.hby hd) hl hv k) q
theorem k_aload (X : WP p l e R s m args below meth c Z own mname bytes maxL ret n0 Inv Sf T h locs cells slots) {k : Nat} {v : Value} (hd : decode bytes pc = .ok (.aload k, 2)) (hl : Ls[k]? = some (.val v)) (hv : v.isRef = true) (hp : pc + 2 = pc') (q : Run p.tables e below P T (mkF m pc' Ls (v :: st))) : Run p.tables e below P T (mkF m pc Ls (st)) := by
  subst hp; exact Run.of (fun _ k => XS.aload X.1.here X.hx rfl (hb X.hby hd) hl hv k) q
theorem k_iloadN (X : WP p l e R s m args below meth c Z own mname bytes maxL ret n0 Inv Sf T h locs cells slots) {k : Fin 4} {v : Int32} (hd : decode bytes pc = .ok (.iload_n k, 1)) (hl : Ls[k.val]? = some (.val (.int v))) (hp : pc + 1 = pc') (q : Run p.tables e below P T (mkF m pc' Ls (.int v :: st))) : Run p.tables e below P T (mkF m pc Ls (st)) := by
  subst hp; exact Run.of (fun _ k => XS.iloadN X.1.here X.hx rfl (hb X.hby hd) hl k) q
theorem k_iload (X : WP p l e R s m args below meth c Z own mname bytes maxL ret n0 Inv Sf T h locs cells slots) {k : Nat} {v : Int32} (hd : decode bytes pc = .ok (.iload k, 2)) (hl : Ls[k]? = some (.val (.int v))) (hp : pc + 2 = pc') (q : Run p.tables e below P T (mkF m pc' Ls (.int v :: st))) : Run p.tables e below P T (mkF m pc Ls (st)) := by
  subst hp; exact Run.of (fun _ k => XS.iload X.1.here X.hx rfl (hb X.hby hd) hl k) q
theorem k_astoreN (X : WP p l e R s m args below meth c Z own mname bytes maxL ret n0 Inv Sf T h locs cells slots) {k : Fin 4} {v : Value} (hd : decode bytes pc = .ok (.astore_n k, 1)) (hv : v.isRef = true) (hl : storeLocals Ls k.val v = some Ls') (hp : pc + 1 = pc') (q : Run p.tables e below P T (mkF m pc' Ls' (st))) : Run p.tables e below P T (mkF m pc Ls (v :: st)) := by
  subst hp; exact Run.of (fun _ k => XS.astoreN X.1.here X.hx rfl (hb X.hby hd) rfl hv hl k) q
theorem k_astore (X : WP p l e R s m args below meth c Z own mname bytes maxL ret n0 Inv Sf T h locs cells slots) {k : Nat} {v : Value} (hd : decode bytes pc = .ok (.astore k, 2)) (hv : v.isRef = true) (hl : storeLocals Ls k v = some Ls') (hp : pc + 2 = pc') (q : Run p.tables e below P T (mkF m pc' Ls' (st))) : Run p.tables e below P T (mkF m pc Ls (v :: st)) := by
  subst hp; exact Run.of (fun _ k => XS.astore X.1.here X.hx rfl (hb X.hby hd) rfl hv hl k) q
theorem k_istoreN (X : WP p l e R s m args below meth c Z own mname bytes maxL ret n0 Inv Sf T h locs cells slots) {k : Fin 4} {v : Int32} (hd : decode bytes pc = .ok (.istore_n k, 1)) (hl : storeLocals Ls k.val (.int v) = some Ls') (hp : pc + 1 = pc') (q : Run p.tables e below P T (mkF m pc' Ls' (st))) : Run p.tables e below P T (mkF m pc Ls (.int v :: st)) := by
  subst hp; exact Run.of (fun _ k => XS.istoreN X.1.here X.hx rfl (hb X.hby hd) rfl hl k) q
theorem k_istore (X : WP p l e R s m args below meth c Z own mname bytes maxL ret n0 Inv Sf T h locs cells slots) {k : Nat} {v : Int32} (hd : decode bytes pc = .ok (.istore k, 2)) (hl : storeLocals Ls k (.int v) = some Ls') (hp : pc + 2 = pc') (q : Run p.tables e below P T (mkF m pc' Ls' (st))) : Run p.tables e below P T (mkF m pc Ls (.int v :: st)) := by
  subst hp; exact Run.of (fun _ k => XS.istore X.1.here X.hx rfl (hb X.hby hd) rfl hl k) q
theorem k_iconst (X : WP p l e R s m args below meth c Z own mname bytes maxL ret n0 Inv Sf T h locs cells slots) {k : Int} {w : Int32} (hd : decode bytes pc = .ok (.iconst k, 1)) (hv : Int32.ofInt k = w) (hp : pc + 1 = pc') (q : Run p.tables e below P T (mkF m pc' Ls (.int w :: st))) : Run p.tables e below P T (mkF m pc Ls (st)) := by
  subst hp; subst hv; exact Run.of (fun _ k => XS.iconst X.1.here X.hx rfl (hb X.hby hd)  k) q
theorem k_bipush (X : WP p l e R s m args below meth c Z own mname bytes maxL ret n0 Inv Sf T h locs cells slots) {k : Int} {w : Int32} (hd : decode bytes pc = .ok (.bipush k, 2)) (hv : (Int8.ofInt k).toInt32 = w) (hp : pc + 2 = pc') (q : Run p.tables e below P T (mkF m pc' Ls (.int w :: st))) : Run p.tables e below P T (mkF m pc Ls (st)) := by
  subst hp; subst hv; exact Run.of (fun _ k => XS.bipush X.1.here X.hx rfl (hb X.hby hd)  k) q
theorem k_sipush (X : WP p l e R s m args below meth c Z own mname bytes maxL ret n0 Inv Sf T h locs cells slots) {k : Int} {w : Int32} (hd : decode bytes pc = .ok (.sipush k, 3)) (hv : (Int16.ofInt k).toInt32 = w) (hp : pc + 3 = pc') (q : Run p.tables e below P T (mkF m pc' Ls (.int w :: st))) : Run p.tables e below P T (mkF m pc Ls (st)) := by
  subst hp; subst hv; exact Run.of (fun _ k => XS.sipush X.1.here X.hx rfl (hb X.hby hd)  k) q
theorem k_aconstNull (X : WP p l e R s m args below meth c Z own mname bytes maxL ret n0 Inv Sf T h locs cells slots)  (hd : decode bytes pc = .ok (.aconst_null, 1))  (hp : pc + 1 = pc') (q : Run p.tables e below P T (mkF m pc' Ls (.null :: st))) : Run p.tables e below P T (mkF m pc Ls (st)) := by
  subst hp; exact Run.of (fun _ k => XS.aconstNull X.1.here X.hx rfl (hb X.hby hd)  k) q
theorem k_iadd (X : WP p l e R s m args below meth c Z own mname bytes maxL ret n0 Inv Sf T h locs cells slots) {x y w : Int32} (hd : decode bytes pc = .ok (.iadd, 1)) (hv : x + y = w) (hp : pc + 1 = pc') (q : Run p.tables e below P T (mkF m pc' Ls (.int w :: st))) : Run p.tables e below P T (mkF m pc Ls (.int y :: .int x :: st)) := by
  subst hp; subst hv; exact Run.of (fun _ k => XS.iadd X.1.here X.hx rfl (hb X.hby hd) rfl k) q
theorem k_isub (X : WP p l e R s m args below meth c Z own mname bytes maxL ret n0 Inv Sf T h locs cells slots) {x y w : Int32} (hd : decode bytes pc = .ok (.isub, 1)) (hv : x - y = w) (hp : pc + 1 = pc') (q : Run p.tables e below P T (mkF m pc' Ls (.int w :: st))) : Run p.tables e below P T (mkF m pc Ls (.int y :: .int x :: st)) := by
  subst hp; subst hv; exact Run.of (fun _ k => XS.isub X.1.here X.hx rfl (hb X.hby hd) rfl k) q
theorem k_imul (X : WP p l e R s m args below meth c Z own mname bytes maxL ret n0 Inv Sf T h locs cells slots) {x y w : Int32} (hd : decode bytes pc = .ok (.imul, 1)) (hv : x * y = w) (hp : pc + 1 = pc') (q : Run p.tables e below P T (mkF m pc' Ls (.int w :: st))) : Run p.tables e below P T (mkF m pc Ls (.int y :: .int x :: st)) := by
  subst hp; subst hv; exact Run.of (fun _ k => XS.imul X.1.here X.hx rfl (hb X.hby hd) rfl k) q
theorem k_iand (X : WP p l e R s m args below meth c Z own mname bytes maxL ret n0 Inv Sf T h locs cells slots) {x y w : Int32} (hd : decode bytes pc = .ok (.iand, 1)) (hv : x &&& y = w) (hp : pc + 1 = pc') (q : Run p.tables e below P T (mkF m pc' Ls (.int w :: st))) : Run p.tables e below P T (mkF m pc Ls (.int y :: .int x :: st)) := by
  subst hp; subst hv; exact Run.of (fun _ k => XS.iand X.1.here X.hx rfl (hb X.hby hd) rfl k) q
theorem k_ior (X : WP p l e R s m args below meth c Z own mname bytes maxL ret n0 Inv Sf T h locs cells slots) {x y w : Int32} (hd : decode bytes pc = .ok (.ior, 1)) (hv : x ||| y = w) (hp : pc + 1 = pc') (q : Run p.tables e below P T (mkF m pc' Ls (.int w :: st))) : Run p.tables e below P T (mkF m pc Ls (.int y :: .int x :: st)) := by
  subst hp; subst hv; exact Run.of (fun _ k => XS.ior X.1.here X.hx rfl (hb X.hby hd) rfl k) q
theorem k_ixor (X : WP p l e R s m args below meth c Z own mname bytes maxL ret n0 Inv Sf T h locs cells slots) {x y w : Int32} (hd : decode bytes pc = .ok (.ixor, 1)) (hv : x ^^^ y = w) (hp : pc + 1 = pc') (q : Run p.tables e below P T (mkF m pc' Ls (.int w :: st))) : Run p.tables e below P T (mkF m pc Ls (.int y :: .int x :: st)) := by
  subst hp; subst hv; exact Run.of (fun _ k => XS.ixor X.1.here X.hx rfl (hb X.hby hd) rfl k) q
theorem k_ishl (X : WP p l e R s m args below meth c Z own mname bytes maxL ret n0 Inv Sf T h locs cells slots) {x y w : Int32} (hd : decode bytes pc = .ok (.ishl, 1)) (hv : (x <<< (y &&& 31)) = w) (hp : pc + 1 = pc') (q : Run p.tables e below P T (mkF m pc' Ls (.int w :: st))) : Run p.tables e below P T (mkF m pc Ls (.int y :: .int x :: st)) := by
  subst hp; subst hv; exact Run.of (fun _ k => XS.ishl X.1.here X.hx rfl (hb X.hby hd) rfl k) q
theorem k_ishr (X : WP p l e R s m args below meth c Z own mname bytes maxL ret n0 Inv Sf T h locs cells slots) {x y w : Int32} (hd : decode bytes pc = .ok (.ishr, 1)) (hv : (x >>> (y &&& 31)) = w) (hp : pc + 1 = pc') (q : Run p.tables e below P T (mkF m pc' Ls (.int w :: st))) : Run p.tables e below P T (mkF m pc Ls (.int y :: .int x :: st)) := by
  subst hp; subst hv; exact Run.of (fun _ k => XS.ishr X.1.here X.hx rfl (hb X.hby hd) rfl k) q
theorem k_iushr (X : WP p l e R s m args below meth c Z own mname bytes maxL ret n0 Inv Sf T h locs cells slots) {x y w : Int32} (hd : decode bytes pc = .ok (.iushr, 1)) (hv : ((x.toUInt32 >>> (y &&& 31).toUInt32).toInt32) = w) (hp : pc + 1 = pc') (q : Run p.tables e below P T (mkF m pc' Ls (.int w :: st))) : Run p.tables e below P T (mkF m pc Ls (.int y :: .int x :: st)) := by
  subst hp; subst hv; exact Run.of (fun _ k => XS.iushr X.1.here X.hx rfl (hb X.hby hd) rfl k) q
theorem k_irem (X : WP p l e R s m args below meth c Z own mname bytes maxL ret n0 Inv Sf T h locs cells slots) {x y w : Int32} (hd : decode bytes pc = .ok (.irem, 1)) (hy : y ≠ 0) (hv : x - (x / y) * y = w) (hp : pc + 1 = pc') (q : Run p.tables e below P T (mkF m pc' Ls (.int w :: st))) : Run p.tables e below P T (mkF m pc Ls (.int y :: .int x :: st)) := by
  subst hp; subst hv; exact Run.of (fun _ k => XS.irem X.1.here X.hx rfl (hb X.hby hd) rfl hy k) q
theorem k_idiv (X : WP p l e R s m args below meth c Z own mname bytes maxL ret n0 Inv Sf T h locs cells slots) {x y w : Int32} (hd : decode bytes pc = .ok (.idiv, 1)) (hy : y ≠ 0) (hv : x / y = w) (hp : pc + 1 = pc') (q : Run p.tables e below P T (mkF m pc' Ls (.int w :: st))) : Run p.tables e below P T (mkF m pc Ls (.int y :: .int x :: st)) := by
  subst hp; subst hv; exact Run.of (fun _ k => XS.idiv X.1.here X.hx rfl (hb X.hby hd) rfl hy k) q
theorem k_ineg (X : WP p l e R s m args below meth c Z own mname bytes maxL ret n0 Inv Sf T h locs cells slots) {x w : Int32} (hd : decode bytes pc = .ok (.ineg, 1)) (hv : -x = w) (hp : pc + 1 = pc') (q : Run p.tables e below P T (mkF m pc' Ls (.int w :: st))) : Run p.tables e below P T (mkF m pc Ls (.int x :: st)) := by
  subst hp; subst hv; exact Run.of (fun _ k => XS.ineg X.1.here X.hx rfl (hb X.hby hd) rfl k) q
theorem k_i2c (X : WP p l e R s m args below meth c Z own mname bytes maxL ret n0 Inv Sf T h locs cells slots) {x w : Int32} (hd : decode bytes pc = .ok (.i2c, 1)) (hv : x.toUInt32.toUInt16.toUInt32.toInt32 = w) (hp : pc + 1 = pc') (q : Run p.tables e below P T (mkF m pc' Ls (.int w :: st))) : Run p.tables e below P T (mkF m pc Ls (.int x :: st)) := by
  subst hp; subst hv; exact Run.of (fun _ k => XS.i2c X.1.here X.hx rfl (hb X.hby hd) rfl k) q
theorem k_i2b (X : WP p l e R s m args below meth c Z own mname bytes maxL ret n0 Inv Sf T h locs cells slots) {x w : Int32} (hd : decode bytes pc = .ok (.i2b, 1)) (hv : x.toInt8.toInt32 = w) (hp : pc + 1 = pc') (q : Run p.tables e below P T (mkF m pc' Ls (.int w :: st))) : Run p.tables e below P T (mkF m pc Ls (.int x :: st)) := by
  subst hp; subst hv; exact Run.of (fun _ k => XS.i2b X.1.here X.hx rfl (hb X.hby hd) rfl k) q
theorem k_iinc (X : WP p l e R s m args below meth c Z own mname bytes maxL ret n0 Inv Sf T h locs cells slots) {k : Nat} {cst : Int} {x w : Int32} (hd : decode bytes pc = .ok (.iinc k cst, 3)) (hl : Ls[k]? = some (.val (.int x))) (hv : x + Int32.ofInt cst = w) (hl' : storeLocals Ls k (.int w) = some Ls') (hp : pc + 3 = pc') (q : Run p.tables e below P T (mkF m pc' Ls' (st))) : Run p.tables e below P T (mkF m pc Ls (st)) := by
  subst hp; subst hv; exact Run.of (fun _ k => XS.iinc X.1.here X.hx rfl (hb X.hby hd) hl hl' k) q
theorem k_dup (X : WP p l e R s m args below meth c Z own mname bytes maxL ret n0 Inv Sf T h locs cells slots) {v : Value} (hd : decode bytes pc = .ok (.dup, 1)) (hc : v.category = 1) (hp : pc + 1 = pc') (q : Run p.tables e below P T (mkF m pc' Ls (v :: v :: st))) : Run p.tables e below P T (mkF m pc Ls (v :: st)) := by
  subst hp; exact Run.of (fun _ k => XS.dup X.1.here X.hx rfl (hb X.hby hd) rfl hc k) q
theorem k_pop (X : WP p l e R s m args below meth c Z own mname bytes maxL ret n0 Inv Sf T h locs cells slots) {v : Value} (hd : decode bytes pc = .ok (.pop, 1)) (hc : v.category = 1) (hp : pc + 1 = pc') (q : Run p.tables e below P T (mkF m pc' Ls (st))) : Run p.tables e below P T (mkF m pc Ls (v :: st)) := by
  subst hp; exact Run.of (fun _ k => XS.pop X.1.here X.hx rfl (hb X.hby hd) rfl hc k) q
theorem k_goto (X : WP p l e R s m args below meth c Z own mname bytes maxL ret n0 Inv Sf T h locs cells slots) {o : Int} (hd : decode bytes pc = .ok (.goto o, 3))  (ho : 0 ≤ (pc : Int) + o) (hp : ((pc : Int) + o).toNat = pc') (q : Run p.tables e below P T (mkF m pc' Ls (st))) : Run p.tables e below P T (mkF m pc Ls (st)) := by
  exact Run.of (fun _ k => XS.goto X.1.here X.hx rfl (pc0 := pc) (pc' := pc') rfl (hb X.hby hd)  ho hp k) q
theorem k_ifYes (X : WP p l e R s m args below meth c Z own mname bytes maxL ret n0 Inv Sf T h locs cells slots) {cd : ClassFile.Cond} {o : Int} {x : Int32} (hd : decode bytes pc = .ok (.ifCond cd o, 3)) (hc : ifCond.holds cd x = true) (ho : 0 ≤ (pc : Int) + o) (hp : ((pc : Int) + o).toNat = pc') (q : Run p.tables e below P T (mkF m pc' Ls (st))) : Run p.tables e below P T (mkF m pc Ls (.int x :: st)) := by
  exact Run.of (fun _ k => XS.ifYes X.1.here X.hx rfl (pc0 := pc) (pc' := pc') rfl (hb X.hby hd) rfl hc ho hp k) q
theorem k_ifNo (X : WP p l e R s m args below meth c Z own mname bytes maxL ret n0 Inv Sf T h locs cells slots) {cd : ClassFile.Cond} {o : Int} {x : Int32} (hd : decode bytes pc = .ok (.ifCond cd o, 3)) (hc : ifCond.holds cd x = false) (hp : pc + 3 = pc') (q : Run p.tables e below P T (mkF m pc' Ls (st))) : Run p.tables e below P T (mkF m pc Ls (.int x :: st)) := by
  subst hp; exact Run.of (fun _ k => XS.ifNo X.1.here X.hx rfl (hb X.hby hd) rfl hc k) q
theorem k_icmpYes (X : WP p l e R s m args below meth c Z own mname bytes maxL ret n0 Inv Sf T h locs cells slots) {cd : ClassFile.Cond} {o : Int} {x y : Int32} (hd : decode bytes pc = .ok (.if_icmp cd o, 3)) (hc : if_icmp.holds cd x y = true) (ho : 0 ≤ (pc : Int) + o) (hp : ((pc : Int) + o).toNat = pc') (q : Run p.tables e below P T (mkF m pc' Ls (st))) : Run p.tables e below P T (mkF m pc Ls (.int y :: .int x :: st)) := by
  exact Run.of (fun _ k => XS.icmpYes X.1.here X.hx rfl (pc0 := pc) (pc' := pc') rfl (hb X.hby hd) rfl hc ho hp k) q
theorem k_icmpNo (X : WP p l e R s m args below meth c Z own mname bytes maxL ret n0 Inv Sf T h locs cells slots) {cd : ClassFile.Cond} {o : Int} {x y : Int32} (hd : decode bytes pc = .ok (.if_icmp cd o, 3)) (hc : if_icmp.holds cd x y = false) (hp : pc + 3 = pc') (q : Run p.tables e below P T (mkF m pc' Ls (st))) : Run p.tables e below P T (mkF m pc Ls (.int y :: .int x :: st)) := by
  subst hp; exact Run.of (fun _ k => XS.icmpNo X.1.here X.hx rfl (hb X.hby hd) rfl hc k) q
theorem k_ifnullYes (X : WP p l e R s m args below meth c Z own mname bytes maxL ret n0 Inv Sf T h locs cells slots) {o : Int} (hd : decode bytes pc = .ok (.ifnull o, 3))  (ho : 0 ≤ (pc : Int) + o) (hp : ((pc : Int) + o).toNat = pc') (q : Run p.tables e below P T (mkF m pc' Ls (st))) : Run p.tables e below P T (mkF m pc Ls (.null :: st)) := by
  exact Run.of (fun _ k => XS.ifnullYes X.1.here X.hx rfl (pc0 := pc) (pc' := pc') rfl (hb X.hby hd) rfl ho hp k) q
theorem k_ifnullNo (X : WP p l e R s m args below meth c Z own mname bytes maxL ret n0 Inv Sf T h locs cells slots) {o : Int} {a : Addr} (hd : decode bytes pc = .ok (.ifnull o, 3))  (hp : pc + 3 = pc') (q : Run p.tables e below P T (mkF m pc' Ls (st))) : Run p.tables e below P T (mkF m pc Ls (.ref a :: st)) := by
  subst hp; exact Run.of (fun _ k => XS.ifnullNo X.1.here X.hx rfl (hb X.hby hd) rfl k) q
theorem k_ifnonnullYes (X : WP p l e R s m args below meth c Z own mname bytes maxL ret n0 Inv Sf T h locs cells slots) {o : Int} {a : Addr} (hd : decode bytes pc = .ok (.ifnonnull o, 3))  (ho : 0 ≤ (pc : Int) + o) (hp : ((pc : Int) + o).toNat = pc') (q : Run p.tables e below P T (mkF m pc' Ls (st))) : Run p.tables e below P T (mkF m pc Ls (.ref a :: st)) := by
  exact Run.of (fun _ k => XS.ifnonnullYes X.1.here X.hx rfl (pc0 := pc) (pc' := pc') rfl (hb X.hby hd) rfl ho hp k) q
theorem k_ifnonnullNo (X : WP p l e R s m args below meth c Z own mname bytes maxL ret n0 Inv Sf T h locs cells slots) {o : Int} (hd : decode bytes pc = .ok (.ifnonnull o, 3))  (hp : pc + 3 = pc') (q : Run p.tables e below P T (mkF m pc' Ls (st))) : Run p.tables e below P T (mkF m pc Ls (.null :: st)) := by
  subst hp; exact Run.of (fun _ k => XS.ifnonnullNo X.1.here X.hx rfl (hb X.hby hd) rfl k) q
theorem k_acmp (X : WP p l e R s m args below meth c Z own mname bytes maxL ret n0 Inv Sf T h locs cells slots) {cd : ACond} {x y : Value} {o : Int} (same : Bool) (hd : decode bytes pc = .ok (.if_acmp cd o, 3)) (h1 : x.isRef = true) (h2 : y.isRef = true) (hq : decide (x = y) = same) (ho : 0 ≤ (pc : Int) + o) (hp : pc' = if acV cd same = true then ((pc : Int) + o).toNat else pc + 3) (q : Run p.tables e below P T (mkF m pc' Ls st)) : Run p.tables e below P T (mkF m pc Ls (y :: x :: st)) :=
  Run.of (fun _ k => Jvm.RoadKit.acmp (g := mkF m pc Ls (y :: x :: st)) X.1 X.hx rfl h1 h2 (pc0 := pc) (pc' := pc') (same := same) rfl (hb X.hby hd) rfl hq ho hp k) q
theorem k_getF (X : WP p l e R s m args below meth c Z own mname bytes maxL ret n0 Inv Sf T h locs cells slots) {R0 O n d host : String} {index : Nat} {a : Addr} {v : Value} (hd : decode bytes pc = .ok (.getfield index, 3)) (w : (Cond.fieldLink own index R0 n d).before a0 Z = true ∨ (Cond.fieldLinkNest own index R0 n d host).before a0 Z = true) (via : Via Z R0 O n d) (F : Fld Z h a O n d v) (hp : pc + 3 = pc')
    (q : ∀ T', WP p l e R s m args below meth c Z own mname bytes maxL ret n0 Inv Sf T' h locs cells slots → Run p.tables e below P T' (mkF m pc' Ls (v :: st))) : Run p.tables e below P T (mkF m pc Ls (.ref a :: st)) := by
  subst hp
  obtain ⟨T', X', e', k⟩ := Jvm.RoadKit.getF X.1 X.hx X.hZ X.hown w via X.eT F (g := mkF m pc Ls (.ref a :: st)) rfl rfl (hb X.hby hd)
  exact Run.of k (q T' (X.same X' e'))
theorem k_getS (X : WP p l e R s m args below meth c Z own mname bytes maxL ret n0 Inv Sf T h locs cells slots) {R0 O n d host : String} {index : Nat} {v : Value} (hd : decode bytes pc = .ok (.getstatic index, 3)) (w : (Cond.fieldLink own index R0 n d).before a0 Z = true ∨ (Cond.fieldLinkNest own index R0 n d host).before a0 Z = true) (via : Via Z R0 O n d) (F : Sta Z h O n d v) (hp : pc + 3 = pc')
    (q : ∀ T', WP p l e R s m args below meth c Z own mname bytes maxL ret n0 Inv Sf T' h locs cells slots → Run p.tables e below P T' (mkF m pc' Ls (v :: st))) : Run p.tables e below P T (mkF m pc Ls st) := by
  subst hp
  obtain ⟨T', X', e', k⟩ := Jvm.RoadKit.getS2 X.1 X.hx X.hZ X.hown w via X.eT F (g := mkF m pc Ls st) rfl (hb X.hby hd)
  exact Run.of k (q T' (X.same X' e'))
theorem k_putF (X : WP p l e R s m args below meth c Z own mname bytes maxL ret n0 Inv Sf T h locs cells slots) {R0 O n d host C : String} {index kk : Nat} {ty : FieldType} {a : Addr} {v old : Value} (hd : decode bytes pc = .ok (.putfield index, 3)) (w : (Cond.fieldLink own index R0 n d).before a0 Z = true ∨ (Cond.fieldLinkNest own index R0 n d host).before a0 Z = true) (via : Via Z R0 O n d) (F : Fld Z h a O n d old) (E : Exa Z h a C)
    (L : (Cond.lays C O n d).before a0 Z = true ∨ ((Cond.laysFinal C O n d).before a0 Z = true ∧ own = O ∧ meth.name = "<init>")) (wi : (Cond.instantiable C kk).before a0 Z = true) (hty : parseFieldDescriptor d = some ty) (hn : narrow ty v = v) (hf : fits ty v = true) (hsf : Sf h a) (hge : n0 ≤ a) (hp : pc + 3 = pc')
    (q : ∀ T' h' L', WP p l e R s m args below meth c Z own mname bytes maxL ret n0 Inv Sf T' h' L' cells slots → Wr h h' a (Jvm.RoadKit.slotOf Z O n d) v → Keep h h' [a] → Run p.tables e below P T' (mkF m pc' Ls st)) : Run p.tables e below P T (mkF m pc Ls (v :: .ref a :: st)) := by
  subst hp
  obtain ⟨T', h', X', e', W, k⟩ := Jvm.RoadKit.putF X.1 X.hx X.hZ X.hown w via X.eT F E L wi hty hn hf (g := mkF m pc Ls (v :: .ref a :: st)) rfl rfl (hb X.hby hd)
  have K := Keep.of_wr W
  exact Run.of k (q T' h' _ (X.mv X' e' K (allS ⟨hsf, hge⟩ all0) (X.fr.app (fr1 hge))) W K)
theorem k_newO (X : WP p l e R s m args below meth c Z own mname bytes maxL ret n0 Inv Sf T h locs cells slots) {C : String} {index n : Nat} (hd : decode bytes pc = .ok (.new index, 3)) (w : (Cond.classLink own index C).before a0 Z = true) (wi : (Cond.instantiable C n).before a0 Z = true) (wz : (Cond.initialized C).before a0 Z = true) (hc : cells + 1 ≤ R.cells) (hl : slots + n ≤ R.slots) (hp : pc + 3 = pc')
    (q : ∀ T' h' (b : Nat), b = h.size → WP p l e R s m args below meth c Z own mname bytes maxL ret n0 Inv Sf T' h' locs (cells + 1) (slots + n) → Keep h h' [] → Exa Z h' b C → (∀ {O nm d : String} {ty : FieldType}, Laid Z a0 C O nm d → parseFieldDescriptor d = some ty → Fld Z h' b O nm d (defaultValue ty)) → Sf h' b → b < h'.size → n0 ≤ b → Run p.tables e below P T' (mkF m pc' Ls (.ref b :: st))) : Run p.tables e below P T (mkF m pc Ls st) := by
  subst hp
  obtain ⟨T', h', X', e', E, A, D, -, k⟩ := Jvm.RoadKit.newO X.1 X.hx X.hZ X.hown w wi wz X.eT (g := mkF m pc Ls st) rfl (hb X.hby hd) hc hl
  have K := ext_keep E
  exact Run.of k (q T' h' h.size rfl (X.mv X' e' K (fun _ q => nomatch q) X.fr) K A (fun L t => D L t) (X.sf K (fun _ q => nomatch q) (X.sfN (Nat.le_refl _))) (own_n A.lt) X.n0le)
theorem k_newP (X : WP p l e R s m args below meth c Z own mname bytes maxL ret n0 Inv Sf T h locs cells slots) {aty : ArrayType} {n : Int32} {cap : Nat} (hd : decode bytes pc = .ok (.newarray aty, 2)) (w : (Cond.arrayClass (newarray.typeOf aty)).before a0 Z = true) (hn : ¬ n < 0) (hcap : n.toNatClampNeg ≤ cap) (hb' : cap * 8 ≤ 536870912) (hc : cells + 1 ≤ R.cells) (hl : slots + cap ≤ R.slots) (hp : pc + 2 = pc')
    (q : ∀ T' h' (b : Nat) k, b = h.size → WP p l e R s m args below meth c Z own mname bytes maxL ret n0 Inv Sf T' h' locs (cells + 1) (slots + cap) → Keep h h' [] → Arv Z h' b k (newarray.typeOf aty) n [] (defaultValue (newarray.typeOf aty)) → Sf h' b → b < h'.size → n0 ≤ b → Run p.tables e below P T' (mkF m pc' Ls (.ref b :: st))) : Run p.tables e below P T (mkF m pc Ls (.int n :: st)) := by
  subst hp
  obtain ⟨T', h', cA, X', e', E, A, k⟩ := Jvm.RoadKit.newP X.1 X.hx X.hZ w X.eT (g := mkF m pc Ls (.int n :: st)) rfl (hb X.hby hd) rfl hn hcap hb' hc hl
  have K := ext_keep E
  exact Run.of k (q T' h' h.size cA rfl (X.mv X' e' K (fun _ q => nomatch q) X.fr) K (Arv.new A hn) (X.sf K (fun _ q => nomatch q) (X.sfN (Nat.le_refl _))) (own_n A.lt) X.n0le)
theorem k_arlen (X : WP p l e R s m args below meth c Z own mname bytes maxL ret n0 Inv Sf T h locs cells slots) {a : Addr} {k : ClassId} {ty : FieldType} {z : Int32} {vs : List Value} {d : Value} (hd : decode bytes pc = .ok (.arraylength, 1)) (A : Arv Z h a k ty z vs d) (hp : pc + 1 = pc') (q : Run p.tables e below P T (mkF m pc' Ls (.int z :: st))) : Run p.tables e below P T (mkF m pc Ls (.ref a :: st)) := by
  subst hp
  obtain ⟨cl, A, -, S, N, -, -⟩ := A
  refine Run.of (X.1.arraylength X.hx (by rw [X.eT]; exact A.1) (State.isArrayOf_alike X.hZ.alike A.2.1) (g := mkF m pc Ls (.ref a :: st)) rfl rfl (hb X.hby hd)) ?_
  rw [len_of S N]; exact q
theorem k_initO (X : WP p l e R s m args below meth c Z own mname bytes maxL ret n0 Inv Sf T h locs cells slots) {idx W : Nat} {a : Addr} (hd : decode bytes pc = .ok (.invokespecial idx, 3)) (w1 : (Cond.methodLink own idx Lib.objectInit).before a0 Z = true) (w2 : (Cond.instanceMethod Lib.objectInit).before a0 Z = true) (w3 : (Cond.code Lib.objectInit ⟨#[0xb1]⟩ 1 none).before a0 Z = true)
    (hsz : Ls.size = maxL) (hf : 1 ≤ R.frames) (hW : (st.map fun v => v.category).sum ≤ W) (hl : W + 12 ≤ R.locals) (hp : pc + 3 = pc')
    (q : ∀ T', WP p l e R s m args below meth c Z own mname bytes maxL ret n0 Inv Sf T' h locs cells slots → Run p.tables e below P T' (mkF m pc' Ls st)) : Run p.tables e below P T (mkF m pc Ls (.ref a :: st)) := by
  subst hp
  obtain ⟨T', X', e', k⟩ := Jvm.RoadKit.initO X.1 X.hx X.hZ X.hown w1 w2 w3 X.eT (g := mkF m pc Ls (.ref a :: st)) rfl (by rw [X.hml]; exact hsz) rfl (hb X.hby hd) hf (W := W) (by show 2 * 0 + _ ≤ _; omega) hl
  exact Run.of k (q T' (X.same X' e'))
theorem k_castY (X : WP p l e R s m args below meth c Z own mname bytes maxL ret n0 Inv Sf T h locs cells slots) {K : String} {index : Nat} {a : Addr} (hd : decode bytes pc = .ok (.checkcast index, 3)) (w : (Cond.classLink own index K).before a0 Z = true) (F : Ins Z h a K true) (hp : pc + 3 = pc')
    (q : ∀ T', WP p l e R s m args below meth c Z own mname bytes maxL ret n0 Inv Sf T' h locs cells slots → Run p.tables e below P T' (mkF m pc' Ls (.ref a :: st))) : Run p.tables e below P T (mkF m pc Ls (.ref a :: st)) := by
  subst hp
  obtain ⟨T', X', e', k⟩ := Jvm.RoadKit.castY X.1 X.hx X.hZ X.hown w X.eT F (g := mkF m pc Ls (.ref a :: st)) rfl rfl (hb X.hby hd)
  exact Run.of k (q T' (X.same X' e'))
theorem k_instY (X : WP p l e R s m args below meth c Z own mname bytes maxL ret n0 Inv Sf T h locs cells slots) {K : String} {index : Nat} {a : Addr} (hd : decode bytes pc = .ok (.instanceof index, 3)) (w : (Cond.classLink own index K).before a0 Z = true) (F : Ins Z h a K true) (hp : pc + 3 = pc')
    (q : ∀ T', WP p l e R s m args below meth c Z own mname bytes maxL ret n0 Inv Sf T' h locs cells slots → Run p.tables e below P T' (mkF m pc' Ls (.int 1 :: st))) : Run p.tables e below P T (mkF m pc Ls (.ref a :: st)) := by
  subst hp
  obtain ⟨T', X', e', k⟩ := Jvm.RoadKit.instY X.1 X.hx X.hZ X.hown w X.eT F (g := mkF m pc Ls (.ref a :: st)) rfl rfl (hb X.hby hd)
  exact Run.of k (q T' (X.same X' e'))
theorem k_castore (X : WP p l e R s m args below meth c Z own mname bytes maxL ret n0 Inv Sf T h locs cells slots) {a : Addr} {k : ClassId} {z j x w : Int32} {vs : List Value} {d : Value} (i : Nat) (hd : decode bytes pc = .ok (.castore, 1)) (A : Arv Z h a k .char z vs d) (hj0 : ¬ j < 0) (hjz : j < z) (hj : j.toNatClampNeg = i) (hi : i < vs.length) (hw : nar .char x = w) {vs' : List Value} (hvs : vs.set i (.int w) = vs') (hsf : Sf h a) (hge : n0 ≤ a) (hp : pc + 1 = pc')
    (q : ∀ T' h' L', WP p l e R s m args below meth c Z own mname bytes maxL ret n0 Inv Sf T' h' L' cells slots → Keep h h' [a] → Arv Z h' a k .char z vs' d → Run p.tables e below P T' (mkF m pc' Ls st)) : Run p.tables e below P T (mkF m pc Ls (.int x :: .int j :: .ref a :: st)) := by
  subst hp hw hvs
  obtain ⟨cl, A, q1, S, N, H, G⟩ := A
  obtain ⟨T', h', X', e', W, kk⟩ := Jvm.RoadKit.stC X.1 X.hx X.hZ X.eT A (j := j) (inb_of S ⟨hj0, hjz⟩) (g := mkF m pc Ls (.int x :: .int j :: .ref a :: st)) rfl rfl (hb X.hby hd)
  have K := Keep.of_wr W
  exact Run.of kk (q T' h' _ (X.mv X' e' K (allS ⟨hsf, hge⟩ all0) (X.fr.app (fr1 hge))) K (Arv.set A q1 S N H G (fits_nar_char _) W i hj hi))
theorem k_bastore (X : WP p l e R s m args below meth c Z own mname bytes maxL ret n0 Inv Sf T h locs cells slots) {a : Addr} {k : ClassId} {z j x w : Int32} {vs : List Value} {d : Value} (i : Nat) (hd : decode bytes pc = .ok (.bastore, 1)) (A : Arv Z h a k .byte z vs d) (hj0 : ¬ j < 0) (hjz : j < z) (hj : j.toNatClampNeg = i) (hi : i < vs.length) (hw : nar .byte x = w) {vs' : List Value} (hvs : vs.set i (.int w) = vs') (hsf : Sf h a) (hge : n0 ≤ a) (hp : pc + 1 = pc')
    (q : ∀ T' h' L', WP p l e R s m args below meth c Z own mname bytes maxL ret n0 Inv Sf T' h' L' cells slots → Keep h h' [a] → Arv Z h' a k .byte z vs' d → Run p.tables e below P T' (mkF m pc' Ls st)) : Run p.tables e below P T (mkF m pc Ls (.int x :: .int j :: .ref a :: st)) := by
  subst hp hw hvs
  obtain ⟨cl, A, q1, S, N, H, G⟩ := A
  obtain ⟨T', h', X', e', W, kk⟩ := Jvm.RoadKit.stB X.1 X.hx X.hZ X.eT A (j := j) (inb_of S ⟨hj0, hjz⟩) (g := mkF m pc Ls (.int x :: .int j :: .ref a :: st)) rfl rfl (hb X.hby hd)
  have K := Keep.of_wr W
  exact Run.of kk (q T' h' _ (X.mv X' e' K (allS ⟨hsf, hge⟩ all0) (X.fr.app (fr1 hge))) K (Arv.set A q1 S N H G (fits_nar_byte _) W i hj hi))
theorem k_iastore (X : WP p l e R s m args below meth c Z own mname bytes maxL ret n0 Inv Sf T h locs cells slots) {a : Addr} {k : ClassId} {z j x w : Int32} {vs : List Value} {d : Value} (i : Nat) (hd : decode bytes pc = .ok (.iastore, 1)) (A : Arv Z h a k .int z vs d) (hj0 : ¬ j < 0) (hjz : j < z) (hj : j.toNatClampNeg = i) (hi : i < vs.length) (hw : x = w) {vs' : List Value} (hvs : vs.set i (.int w) = vs') (hsf : Sf h a) (hge : n0 ≤ a) (hp : pc + 1 = pc')
    (q : ∀ T' h' L', WP p l e R s m args below meth c Z own mname bytes maxL ret n0 Inv Sf T' h' L' cells slots → Keep h h' [a] → Arv Z h' a k .int z vs' d → Run p.tables e below P T' (mkF m pc' Ls st)) : Run p.tables e below P T (mkF m pc Ls (.int x :: .int j :: .ref a :: st)) := by
  subst hp hw hvs
  obtain ⟨cl, A, q1, S, N, H, G⟩ := A
  obtain ⟨T', h', X', e', W, kk⟩ := Jvm.RoadKit.stI X.1 X.hx X.hZ X.eT A (j := j) (inb_of S ⟨hj0, hjz⟩) (g := mkF m pc Ls (.int x :: .int j :: .ref a :: st)) rfl rfl (hb X.hby hd)
  have K := Keep.of_wr W
  exact Run.of kk (q T' h' _ (X.mv X' e' K (allS ⟨hsf, hge⟩ all0) (X.fr.app (fr1 hge))) K (Arv.set A q1 S N H G rfl W i hj hi))
theorem k_caload (X : WP p l e R s m args below meth c Z own mname bytes maxL ret n0 Inv Sf T h locs cells slots) {a : Addr} {k : ClassId} {z j : Int32} {vs : List Value} {d v : Value} (hd : decode bytes pc = .ok (.caload, 1)) (A : Arv Z h a k .char z vs d) (hj0 : ¬ j < 0) (hjz : j < z) (hv : vs.getD j.toNatClampNeg d = v) (hp : pc + 1 = pc') (q : Run p.tables e below P T (mkF m pc' Ls (v :: st))) : Run p.tables e below P T (mkF m pc Ls (.int j :: .ref a :: st)) := by
  subst hp
  obtain ⟨cl, A, q1, S, N, H, G⟩ := A
  exact Run.of (X.1.caload X.hx (j := j) (v := v) (by rw [X.eT]; exact A.1) (State.isArrayOf_alike X.hZ.alike A.2.1) A.2.2 (inb_of S ⟨hj0, hjz⟩) (H.at (inb_of S ⟨hj0, hjz⟩) hv) (g := mkF m pc Ls (.int j :: .ref a :: st)) rfl rfl (hb X.hby hd)) q
theorem k_baload (X : WP p l e R s m args below meth c Z own mname bytes maxL ret n0 Inv Sf T h locs cells slots) {a : Addr} {k : ClassId} {z j : Int32} {vs : List Value} {d v : Value} (hd : decode bytes pc = .ok (.baload, 1)) (A : Arv Z h a k .byte z vs d) (hj0 : ¬ j < 0) (hjz : j < z) (hv : vs.getD j.toNatClampNeg d = v) (hp : pc + 1 = pc') (q : Run p.tables e below P T (mkF m pc' Ls (v :: st))) : Run p.tables e below P T (mkF m pc Ls (.int j :: .ref a :: st)) := by
  subst hp
  obtain ⟨cl, A, q1, S, N, H, G⟩ := A
  exact Run.of (X.1.baloadBytes X.hx (j := j) (v := v) (by rw [X.eT]; exact A.1) (State.isArrayOf_alike X.hZ.alike A.2.1) A.2.2 (inb_of S ⟨hj0, hjz⟩) (H.at (inb_of S ⟨hj0, hjz⟩) hv) (g := mkF m pc Ls (.int j :: .ref a :: st)) rfl rfl (hb X.hby hd)) q
theorem k_iaload (X : WP p l e R s m args below meth c Z own mname bytes maxL ret n0 Inv Sf T h locs cells slots) {a : Addr} {k : ClassId} {z j : Int32} {vs : List Value} {d v : Value} (hd : decode bytes pc = .ok (.iaload, 1)) (A : Arv Z h a k .int z vs d) (hj0 : ¬ j < 0) (hjz : j < z) (hv : vs.getD j.toNatClampNeg d = v) (hp : pc + 1 = pc') (q : Run p.tables e below P T (mkF m pc' Ls (v :: st))) : Run p.tables e below P T (mkF m pc Ls (.int j :: .ref a :: st)) := by
  subst hp
  obtain ⟨cl, A, q1, S, N, H, G⟩ := A
  exact Run.of (X.1.iaload X.hx (j := j) (v := v) (by rw [X.eT]; exact A.1) (State.isArrayOf_alike X.hZ.alike A.2.1) A.2.2 (inb_of S ⟨hj0, hjz⟩) (H.at (inb_of S ⟨hj0, hjz⟩) hv) (g := mkF m pc Ls (.int j :: .ref a :: st)) rfl rfl (hb X.hby hd)) q
theorem k_aaload (X : WP p l e R s m args below meth c Z own mname bytes maxL ret n0 Inv Sf T h locs cells slots) {a : Addr} {k : ClassId} {z j : Int32} {vs : List Value} {d v : Value} {ty : FieldType} (hd : decode bytes pc = .ok (.aaload, 1)) (A : Arv Z h a k ty z vs d) (hr : ty.isReference = true) (hj0 : ¬ j < 0) (hjz : j < z) (hv : vs.getD j.toNatClampNeg d = v) (hp : pc + 1 = pc') (q : Run p.tables e below P T (mkF m pc' Ls (v :: st))) : Run p.tables e below P T (mkF m pc Ls (.int j :: .ref a :: st)) := by
  subst hp
  obtain ⟨cl, A, q1, S, N, H, G⟩ := A
  exact Run.of (X.1.aaload X.hx (j := j) (v := v) (by rw [X.eT]; exact A.1) (State.isArrayOf_alike X.hZ.alike A.2.1) hr A.2.2 (inb_of S ⟨hj0, hjz⟩) (H.at (inb_of S ⟨hj0, hjz⟩) hv) (g := mkF m pc Ls (.int j :: .ref a :: st)) rfl rfl (hb X.hby hd)) q
theorem k_castNull (X : WP p l e R s m args below meth c Z own mname bytes maxL ret n0 Inv Sf T h locs cells slots) {index : Nat} (hd : decode bytes pc = .ok (.checkcast index, 3)) (hp : pc + 3 = pc') (q : Run p.tables e below P T (mkF m pc' Ls (.null :: st))) : Run p.tables e below P T (mkF m pc Ls (.null :: st)) := by
  subst hp; exact Run.of (X.1.checkcastNull X.hx (g := mkF m pc Ls (.null :: st)) rfl rfl (hb X.hby hd)) q
theorem k_ldcI (X : WP p l e R s m args below meth c Z own mname bytes maxL ret n0 Inv Sf T h locs cells slots) {index : Nat} {v : Int32} (hd : decode bytes pc = .ok (.ldc index, 2)) (w : (Cond.constant own index v).before a0 Z = true) (hp : pc + 2 = pc') (q : Run p.tables e below P T (mkF m pc' Ls (.int v :: st))) : Run p.tables e below P T (mkF m pc Ls st) := by
  subst hp; exact Run.of (X.1.ldcInt X.hx X.hown (mvT X.hZ w) (g := mkF m pc Ls st) rfl (hb X.hby hd)) q
/-- the contract of a body that interns nothing -/
def MetF (l : Launch) (tw : List Jvm.Cond) (Z : State) (n0 : Nat) (y : MethodName) (bytes : ByteArray) (maxL : Nat) (ret : Option FieldType) (rm : Room) (as' : Array Value) (h : Heap) (ws : List Addr) (Q : Option Value → Heap → Prop) : Prop :=
  MetFree l y (head1 (Jvm.Cond.code y bytes maxL ret :: tw) rm) (fun a U => a = as' ∧ Z.Warmed39 U.vm ∧ U.heap = h) (fun _ _ _ _ _ => True) (fun _ U o U' => ∃ v L, o = .returned v ∧ ((Keep h U'.heap ws ∧ Q v U'.heap) ∧ Fr n0 L) ∧ FrameEnd U o U' L rm.cells rm.slots)
/-- its end -/
def PF (s : State) (below : List Frame) (n0 : Nat) (h0 : Heap) (ws : List Addr) (Q : Option Value → Heap → Prop) (k n : Nat) (t : State) : Prop := ∃ o, t.status = .running ∧ Ended t below o ∧ ∃ v L, o = .returned v ∧ ((Keep h0 t.heap ws ∧ Q v t.heap) ∧ Fr n0 L) ∧ FrameEnd s o t L k n
theorem clF (Z : State) : Cl Z (fun _ => True) (fun _ _ => True) := ⟨fun _ _ _ _ _ _ => ⟨trivial, fun _ _ => trivial⟩, fun _ _ _ => trivial, fun _ _ _ _ _ _ => trivial, fun _ _ _ _ _ _ => trivial⟩
theorem MetF.mono {l : Launch} {tw : List Jvm.Cond} {Z : State} {n0 : Nat} {y : MethodName} {bytes : ByteArray} {maxL : Nat} {ret : Option FieldType} {rm : Room} {as' : Array Value} {h : Heap} {ws : List Addr} {Q Q' : Option Value → Heap → Prop} (hM : MetF l tw Z n0 y bytes maxL ret rm as' h ws Q) (hq : ∀ r h', Q r h' → Q' r h') : MetF l tw Z n0 y bytes maxL ret rm as' h ws Q' := by
  intro p e ha hc hk s m args below hf happ hP hK
  obtain ⟨n, o, r1, r2, r3, v, L, e1, ⟨⟨K, q⟩, N⟩, r4⟩ := hM p e ha hc hk s m args below hf happ hP hK
  exact ⟨n, o, r1, r2, r3, v, L, e1, ⟨⟨K, hq _ _ q⟩, N⟩, r4⟩
theorem metF {y : MethodName} {bytes : ByteArray} {maxL : Nat} {ret : Option FieldType} {rm : Room} {as' : Array Value} {ws : List Addr} {Q : Option Value → Heap → Prop} {tw : List Jvm.Cond} (hpl : plainFor y = true) (Z0 : Old Z n0 h) {Ls : Array Slot} (hef : ∀ m, entryFrame m as' maxL = mkF m 0 Ls [])
    (body : ∀ p e s m below meth c T, WP p l e rm s m as' below meth c Z y.cls y.name bytes maxL ret n0 (fun _ => True) (fun _ _ => True) T h [] 0 0 → Run p.tables e below (PF s below n0 h ws Q rm.cells rm.slots) T (mkF m 0 Ls [])) : MetF l tw Z n0 y bytes maxL ret rm as' h ws Q := by
  refine MetFree.of_bodySF hpl hisR ?_
  intro p e s m args below meth c s₁ Bd hml0 hP hK
  obtain ⟨rfl, hZ, hh⟩ := hP
  have e0 : s₁.heap = h := by rw [← hh, Bd.state]; rfl
  obtain ⟨t, hs, o, hr, he, hq⟩ := body p e s m below meth c s₁ ⟨Stand.of_body Bd, e0, hZ, findClass_of_methodNamed Bd.named, Fr.nil n0, Z0, trivial, ⟨Bd.exec, Bd.bytes, hml0, Bd.returns, BodyLoose.notSynchronized Bd, (name_of_methodNamed Bd.named Bd.method).1⟩, clF Z⟩
  rw [← hef] at hs
  exact ⟨t, o, hs, hr, he, hq⟩

theorem k_retFI (X : WP p l e R s m args below meth c Z own mname bytes maxL ret n0 Inv Sf T h locs cells slots) {z : Int32} {ws : List Addr} {Q : Option Value → Heap → Prop} {k n : Nat} {h0 : Heap} (hd : decode bytes pc = .ok (.ireturn, 1)) (hr : ret = some .int) (K : Keep h0 h ws) (hQ : Q (some (.int z)) h) (hk : cells ≤ k) (hs : slots ≤ n) : Run p.tables e below (PF s below n0 h0 ws Q k n) T (mkF m pc Ls (.int z :: st)) := by
  have hlk := X.hlk
  obtain ⟨fs, hl, hrun, hended, hW, hsame⟩ := X.1.leave (v := some (.int z)) (fun q => by rw [X.hret, hr] at q; cases q)
  refine ⟨_, Jvm.RoadKit.retI X.1 X.hx (X.hret.trans hr) (hb X.hby hd) hl, _, hrun, hended, _, _, rfl, ⟨⟨?_, ?_⟩, X.fr⟩, ⟨_, rfl⟩, hW, hsame.mono hk hs⟩
  · show Keep h0 T.heap ws; rw [X.eT]; exact K
  · show Q _ T.heap; rw [X.eT]; exact hQ
theorem k_retFN (X : WP p l e R s m args below meth c Z own mname bytes maxL ret n0 Inv Sf T h locs cells slots) {z w : Int32} {ws : List Addr} {Q : Option Value → Heap → Prop} {k n : Nat} {h0 : Heap} (hd : decode bytes pc = .ok (.ireturn, 1)) {t : FieldType} (hr : ret = some t) (ht : t = .boolean ∨ t = .byte ∨ t = .char ∨ t = .short) (hnz : nar t z = w) (K : Keep h0 h ws) (hQ : Q (some (.int w)) h) (hk : cells ≤ k) (hs : slots ≤ n) : Run p.tables e below (PF s below n0 h0 ws Q k n) T (mkF m pc Ls (.int z :: st)) := by
  have hlk := X.hlk
  obtain ⟨fs, hl, hrun, hended, hW, hsame⟩ := X.1.leave (v := some (.int w)) (fun q => by rw [X.hret, hr] at q; cases q)
  refine ⟨_, Jvm.RoadKit.retN X.1 X.hx (X.hret.trans hr) ht (hb X.hby hd) (by rw [hnz]; exact hl), _, hrun, hended, _, _, rfl, ⟨⟨?_, ?_⟩, X.fr⟩, ⟨_, rfl⟩, hW, hsame.mono hk hs⟩
  · show Keep h0 T.heap ws; rw [X.eT]; exact K
  · show Q _ T.heap; rw [X.eT]; exact hQ
theorem k_retFA (X : WP p l e R s m args below meth c Z own mname bytes maxL ret n0 Inv Sf T h locs cells slots) {v : Value} {ws : List Addr} {Q : Option Value → Heap → Prop} {k n : Nat} {h0 : Heap} (hd : decode bytes pc = .ok (.areturn, 1)) {t : FieldType} (hr : ret = some t) (hn : narrow t v = v) (ht : t.isReference = true) (hv : v.isRef = true) (K : Keep h0 h ws) (hQ : Q (some (v)) h) (hk : cells ≤ k) (hs : slots ≤ n) : Run p.tables e below (PF s below n0 h0 ws Q k n) T (mkF m pc Ls (v :: st)) := by
  have hlk := X.hlk
  obtain ⟨fs, hl, hrun, hended, hW, hsame⟩ := X.1.leave (v := some (v)) (fun q => by rw [X.hret, hr] at q; cases q)
  refine ⟨_, Jvm.RoadKit.retOut X.1 X.hx (X.hret.trans hr) hn (Or.inr (Or.inr (Or.inr (Or.inr ⟨rfl, ht, hv⟩)))) (hb X.hby hd) hl, _, hrun, hended, _, _, rfl, ⟨⟨?_, ?_⟩, X.fr⟩, ⟨_, rfl⟩, hW, hsame.mono hk hs⟩
  · show Keep h0 T.heap ws; rw [X.eT]; exact K
  · show Q _ T.heap; rw [X.eT]; exact hQ
theorem k_retFV (X : WP p l e R s m args below meth c Z own mname bytes maxL ret n0 Inv Sf T h locs cells slots) {ws : List Addr} {Q : Option Value → Heap → Prop} {k n : Nat} {h0 : Heap} (hd : decode bytes pc = .ok (.return_, 1)) (hr : ret = none) (K : Keep h0 h ws) (hQ : Q none h) (hk : cells ≤ k) (hs : slots ≤ n) : Run p.tables e below (PF s below n0 h0 ws Q k n) T (mkF m pc Ls []) := by
  have hlk := X.hlk
  obtain ⟨fs, hl, hrun, hended, hW, hsame⟩ := X.1.leave (v := none) (fun _ => rfl)
  refine ⟨_, X.1.returnOut X.hx (X.hret.trans hr) (hb X.hby hd) hl, _, hrun, hended, _, _, rfl, ⟨⟨?_, ?_⟩, X.fr⟩, ⟨_, rfl⟩, hW, hsame.mono hk hs⟩
  · show Keep h0 T.heap ws; rw [X.eT]; exact K
  · show Q _ T.heap; rw [X.eT]; exact hQ
/-- what an interning walk keeps up: the literals of EL say their text -/
def InvH (Z : State) (a0 : Array Value) (EL : List (String × Nat)) (s0 : State) (v : Vm) (h : Heap) : Prop := EW Z a0 EL ∧ Z.Warmed39 v ∧ (∃ k0, s0.Since v k0 ∧ k0 ≤ h.size) ∧ CHr Z EL s0.vm s0.heap v h
theorem clH {EL : List (String × Nat)} {s0 : State} {v : Vm} (hal : Z.vm.Alike v) : Cl Z (InvH Z a0 EL s0 v) (Safe Z EL v) :=
  ⟨fun h h' ws K hs I => ⟨⟨I.1, I.2.1, by obtain ⟨k0, a, b⟩ := I.2.2.1; exact ⟨k0, a, Nat.le_trans b K.1⟩, I.2.2.2.trans (CHr.keep K hs I.2.2.2.1)⟩, fun x q => Safe.keep K hs I.2.2.2.1 q⟩, fun h x q => Safe.new q, fun h x C E h1 h2 => Safe.exa hal E h1 h2, fun h x c ty A ht => Safe.arr hal A ht⟩
/-- the contract of a body that may load literals -/
def MetH (l : Launch) (tw : List Jvm.Cond) (Z : State) (EL : List (String × Nat)) (n0 : Nat) (y : MethodName) (bytes : ByteArray) (maxL : Nat) (ret : Option FieldType) (rm : Room) (as' : Array Value) (h : Heap) (ws : List Addr) (Q : Option Value → Vm → Heap → Prop) : Prop :=
  MetFree l y (head1 (Jvm.Cond.code y bytes maxL ret :: tw) rm) (fun a U => a = as' ∧ Z.Warmed39 U.vm ∧ U.heap = h ∧ CHv Z EL U.vm h ∧ ∀ x ∈ ws, Safe Z EL U.vm h x) (fun _ _ _ _ _ => True)
    (fun _ U o U' => ∃ v L, o = .returned v ∧ ((Keep h U'.heap ws ∧ Q v U'.vm U'.heap) ∧ Fr n0 L) ∧ CHr Z EL U.vm U.heap U'.vm U'.heap ∧ ReturnedEndW U o U' L rm.cells rm.slots)
def PH (Z : State) (EL : List (String × Nat)) (s : State) (below : List Frame) (n0 : Nat) (h0 : Heap) (ws : List Addr) (Q : Option Value → Vm → Heap → Prop) (k n : Nat) (t : State) : Prop := ∃ o, t.status = .running ∧ Ended t below o ∧ ∃ v L, o = .returned v ∧ ((Keep h0 t.heap ws ∧ Q v t.vm t.heap) ∧ Fr n0 L) ∧ CHr Z EL s.vm s.heap t.vm t.heap ∧ ReturnedEndW s o t L k n
theorem metH {EL : List (String × Nat)} {y : MethodName} {bytes : ByteArray} {maxL : Nat} {ret : Option FieldType} {rm : Room} {as' : Array Value} {ws : List Addr} {Q : Option Value → Vm → Heap → Prop} {tw : List Jvm.Cond} (hEL : EW Z a0 EL) (hpl : plainFor y = true) (Z0 : Old Z n0 h) {Ls : Array Slot} (hef : ∀ m, entryFrame m as' maxL = mkF m 0 Ls [])
    (body : ∀ p e s m below meth c T v, WP p l e rm (s.setVm v) m as' below meth c Z y.cls y.name bytes maxL ret n0 (InvH Z a0 EL s v) (Safe Z EL v) T h [] 0 0 → (∀ x ∈ ws, Safe Z EL v h x) → Run p.tables e below (PH Z EL s below n0 h ws Q rm.cells rm.slots) T (mkF m 0 Ls [])) : MetH l tw Z EL n0 y bytes maxL ret rm as' h ws Q := by
  refine MetFree.of_bodySF hpl hisR ?_
  intro p e s m args below meth c s₁ Bd hml0 hP hK
  obtain ⟨rfl, hZ, hh, hC, hS⟩ := hP
  have e0 : s₁.heap = h := by rw [← hh, Bd.state]; rfl
  have I : InvH Z a0 EL s s.vm h := ⟨hEL, hZ, ⟨s.heap.size, (State.WarmedH.refl s).since _, by rw [hh]; exact Nat.le_refl _⟩, by rw [hh]; exact CHr.refl hC⟩
  obtain ⟨t, hs, o, hr, he, hq⟩ := body p e s m below meth c s₁ s.vm ⟨Stand.of_body Bd, e0, hZ, findClass_of_methodNamed Bd.named, Fr.nil n0, Z0, I, ⟨Bd.exec, Bd.bytes, hml0, Bd.returns, BodyLoose.notSynchronized Bd, (name_of_methodNamed Bd.named Bd.method).1⟩, clH hZ.alike⟩ hS
  rw [← hef] at hs
  exact ⟨t, o, hs, hr, he, hq⟩

theorem k_retHI {EL : List (String × Nat)} {v : Vm} (X : WP p l e R (s.setVm v) m args below meth c Z own mname bytes maxL ret n0 (InvH Z a0 EL s v) (Safe Z EL v) T h locs cells slots) {z : Int32} {ws : List Addr} {Q : Option Value → Vm → Heap → Prop} {k n : Nat} {h0 : Heap} (hd : decode bytes pc = .ok (.ireturn, 1)) (hr : ret = some .int) (K : Keep h0 h ws) (hQ : ∀ v', CHr Z EL v h v' h → Q (some (.int z)) v' h) (hk : cells ≤ k) (hs : slots ≤ n) : Run p.tables e below (PH Z EL s below n0 h0 ws Q k n) T (mkF m pc Ls (.int z :: st)) := by
  have hlk := X.hlk
  obtain ⟨hEL, hWv, ⟨k0, hS, hk0⟩, hC⟩ := X.inv
  obtain ⟨fs, hl, hrun, hended, hRW⟩ := X.1.leaveW hS (by rw [X.eT]; exact hk0) (v := some (.int z)) (fun q => by rw [X.hret, hr] at q; cases q)
  have hC' : CHr Z EL v h T.vm h := CHv.at X.1 hWv hEL hC.1
  refine ⟨_, Jvm.RoadKit.retI X.1 X.hx (X.hret.trans hr) (hb X.hby hd) hl, _, hrun, hended, _, _, rfl, ⟨⟨?_, ?_⟩, X.fr⟩, ?_, hRW.1, hRW.2.1, hRW.2.2.1, hRW.2.2.2.mono hk hs⟩
  · show Keep h0 T.heap ws; rw [X.eT]; exact K
  · show Q _ T.vm T.heap; rw [X.eT]; exact hQ _ hC'
  · show CHr Z EL s.vm s.heap T.vm T.heap; rw [X.eT]; exact hC.trans hC'
theorem k_retHN {EL : List (String × Nat)} {v : Vm} (X : WP p l e R (s.setVm v) m args below meth c Z own mname bytes maxL ret n0 (InvH Z a0 EL s v) (Safe Z EL v) T h locs cells slots) {z w : Int32} {ws : List Addr} {Q : Option Value → Vm → Heap → Prop} {k n : Nat} {h0 : Heap} (hd : decode bytes pc = .ok (.ireturn, 1)) {t : FieldType} (hr : ret = some t) (ht : t = .boolean ∨ t = .byte ∨ t = .char ∨ t = .short) (hnz : nar t z = w) (K : Keep h0 h ws) (hQ : ∀ v', CHr Z EL v h v' h → Q (some (.int w)) v' h) (hk : cells ≤ k) (hs : slots ≤ n) : Run p.tables e below (PH Z EL s below n0 h0 ws Q k n) T (mkF m pc Ls (.int z :: st)) := by
  have hlk := X.hlk
  obtain ⟨hEL, hWv, ⟨k0, hS, hk0⟩, hC⟩ := X.inv
  obtain ⟨fs, hl, hrun, hended, hRW⟩ := X.1.leaveW hS (by rw [X.eT]; exact hk0) (v := some (.int w)) (fun q => by rw [X.hret, hr] at q; cases q)
  have hC' : CHr Z EL v h T.vm h := CHv.at X.1 hWv hEL hC.1
  refine ⟨_, Jvm.RoadKit.retN X.1 X.hx (X.hret.trans hr) ht (hb X.hby hd) (by rw [hnz]; exact hl), _, hrun, hended, _, _, rfl, ⟨⟨?_, ?_⟩, X.fr⟩, ?_, hRW.1, hRW.2.1, hRW.2.2.1, hRW.2.2.2.mono hk hs⟩
  · show Keep h0 T.heap ws; rw [X.eT]; exact K
  · show Q _ T.vm T.heap; rw [X.eT]; exact hQ _ hC'
  · show CHr Z EL s.vm s.heap T.vm T.heap; rw [X.eT]; exact hC.trans hC'
theorem k_retHA {EL : List (String × Nat)} {v : Vm} (X : WP p l e R (s.setVm v) m args below meth c Z own mname bytes maxL ret n0 (InvH Z a0 EL s v) (Safe Z EL v) T h locs cells slots) {x : Value} {ws : List Addr} {Q : Option Value → Vm → Heap → Prop} {k n : Nat} {h0 : Heap} (hd : decode bytes pc = .ok (.areturn, 1)) {t : FieldType} (hr : ret = some t) (hn : narrow t x = x) (ht : t.isReference = true) (hv : x.isRef = true) (K : Keep h0 h ws) (hQ : ∀ v', CHr Z EL v h v' h → Q (some (x)) v' h) (hk : cells ≤ k) (hs : slots ≤ n) : Run p.tables e below (PH Z EL s below n0 h0 ws Q k n) T (mkF m pc Ls (x :: st)) := by
  have hlk := X.hlk
  obtain ⟨hEL, hWv, ⟨k0, hS, hk0⟩, hC⟩ := X.inv
  obtain ⟨fs, hl, hrun, hended, hRW⟩ := X.1.leaveW hS (by rw [X.eT]; exact hk0) (v := some (x)) (fun q => by rw [X.hret, hr] at q; cases q)
  have hC' : CHr Z EL v h T.vm h := CHv.at X.1 hWv hEL hC.1
  refine ⟨_, Jvm.RoadKit.retOut X.1 X.hx (X.hret.trans hr) hn (Or.inr (Or.inr (Or.inr (Or.inr ⟨rfl, ht, hv⟩)))) (hb X.hby hd) hl, _, hrun, hended, _, _, rfl, ⟨⟨?_, ?_⟩, X.fr⟩, ?_, hRW.1, hRW.2.1, hRW.2.2.1, hRW.2.2.2.mono hk hs⟩
  · show Keep h0 T.heap ws; rw [X.eT]; exact K
  · show Q _ T.vm T.heap; rw [X.eT]; exact hQ _ hC'
  · show CHr Z EL s.vm s.heap T.vm T.heap; rw [X.eT]; exact hC.trans hC'
theorem k_retHV {EL : List (String × Nat)} {v : Vm} (X : WP p l e R (s.setVm v) m args below meth c Z own mname bytes maxL ret n0 (InvH Z a0 EL s v) (Safe Z EL v) T h locs cells slots) {ws : List Addr} {Q : Option Value → Vm → Heap → Prop} {k n : Nat} {h0 : Heap} (hd : decode bytes pc = .ok (.return_, 1)) (hr : ret = none) (K : Keep h0 h ws) (hQ : ∀ v', CHr Z EL v h v' h → Q none v' h) (hk : cells ≤ k) (hs : slots ≤ n) : Run p.tables e below (PH Z EL s below n0 h0 ws Q k n) T (mkF m pc Ls []) := by
  have hlk := X.hlk
  obtain ⟨hEL, hWv, ⟨k0, hS, hk0⟩, hC⟩ := X.inv
  obtain ⟨fs, hl, hrun, hended, hRW⟩ := X.1.leaveW hS (by rw [X.eT]; exact hk0) (v := none) (fun _ => rfl)
  have hC' : CHr Z EL v h T.vm h := CHv.at X.1 hWv hEL hC.1
  refine ⟨_, X.1.returnOut X.hx (X.hret.trans hr) (hb X.hby hd) hl, _, hrun, hended, _, _, rfl, ⟨⟨?_, ?_⟩, X.fr⟩, ?_, hRW.1, hRW.2.1, hRW.2.2.1, hRW.2.2.2.mono hk hs⟩
  · show Keep h0 T.heap ws; rw [X.eT]; exact K
  · show Q _ T.vm T.heap; rw [X.eT]; exact hQ _ hC'
  · show CHr Z EL s.vm s.heap T.vm T.heap; rw [X.eT]; exact hC.trans hC'
theorem WP.reH {EL : List (String × Nat)} {v : Vm} (X : WP p l e R (s.setVm v) m args below meth c Z own mname bytes maxL ret n0 (InvH Z a0 EL s v) (Safe Z EL v) T h locs cells slots) {v' : Vm} {T' : State} {h' : Heap} {locs' : List Loc} {cells' slots' : Nat} (X' : Stand p l e R (s.setVm v') m args below meth c T' locs' cells' slots') (e' : T'.heap = h') {ws : List Addr} (K : Keep h h' ws) {k1 : Nat} (hS : s.Since v' k1) (hk : k1 ≤ h'.size) (hW : Z.Warmed39 v') (ho : v'.findClass own = some m.cls) (hC : CHr Z EL v h v' h') (hge : ∀ x ∈ ws, n0 ≤ x) (N : Fr n0 locs') : WP p l e R (s.setVm v') m args below meth c Z own mname bytes maxL ret n0 (InvH Z a0 EL s v') (Safe Z EL v') T' h' locs' cells' slots' :=
  ⟨X', e', hW, ho, N, X.old.keep K hge, ⟨X.inv.1, hW, ⟨k1, hS, hk⟩, X.inv.2.2.2.trans hC⟩, X.2.2.2.2.2.2.2.1, clH hW.alike⟩
theorem k_ldcO {EL : List (String × Nat)} {v : Vm} (X : WP p l e R (s.setVm v) m args below meth c Z own mname bytes maxL ret n0 (InvH Z a0 EL s v) (Safe Z EL v) T h locs cells slots) {text : String} {index n : Nat} (hd : decode bytes pc = .ok (.ldc index, 2)) (w : (Cond.stringLink own index text).before a0 Z = true) (wS : ∀ a ∈ Bundle.stringAtoms, a.before a0 Z = true) (hn : 4 * text.toList.length ≤ n) (hbig : n ≤ 536870912) (hc : cells + 2 ≤ R.cells) (hl : slots + (n + 4) ≤ R.slots) (hp : pc + 2 = pc')
    (q : ∀ a v' T' h', WP p l e R (s.setVm v') m args below meth c Z own mname bytes maxL ret n0 (InvH Z a0 EL s v') (Safe Z EL v') T' h' locs (cells + 2) (slots + (n + 4)) → Keep h h' [] → CHr Z EL v h v' h' → Run p.tables e below P T' (mkF m pc' Ls (.ref a :: st))) : Run p.tables e below P T (mkF m pc Ls st) := by
  subst hp
  obtain ⟨hEL, hWv, ⟨k0, hS, hk0⟩, hC⟩ := X.inv
  obtain ⟨a, T', h', k1, X', e', E, hS', hk1, hZ', ho', hC', -, k⟩ := ldcOH X.1 X.hx hWv X.hown w wS X.eT hS hk0 hEL hC.1 (g := mkF m pc Ls st) rfl (hb X.hby hd) hn hbig hc hl
  have K := ext_keep E
  exact Run.of k (q a T'.vm T' h' (X.reH X' e' K hS' hk1 hZ' ho' hC' (fun _ q => nomatch q) X.fr) K hC')
theorem k_ldcR {EL : List (String × Nat)} {v : Vm} (X : WP p l e R (s.setVm v) m args below meth c Z own mname bytes maxL ret n0 (InvH Z a0 EL s v) (Safe Z EL v) T h locs cells slots) {text : String} {index n : Nat} (hd : decode bytes pc = .ok (.ldc index, 2)) (w : (Cond.stringLink own index text).before a0 Z = true) (wS : ∀ a ∈ Bundle.stringAtoms, a.before a0 Z = true) (hmem : (own, index) ∈ EL) {vs : List Value} {z : Int32} (ht : (∀ c ∈ text.toList, c.toNat < 256) ∧ text.toList.map (fun c => Value.int (Jvm.Lit.byteI c.toNat.toUInt16)) = vs) (hz : ¬ z < 0) (hlv : z.toNatClampNeg = vs.length)
    (hn : 4 * text.toList.length ≤ n) (hbig : n ≤ 536870912) (hc : cells + 2 ≤ R.cells) (hl : slots + (n + 4) ≤ R.slots) (hp : pc + 2 = pc')
    (q : ∀ a b kb v' T' h', WP p l e R (s.setVm v') m args below meth c Z own mname bytes maxL ret n0 (InvH Z a0 EL s v') (Safe Z EL v') T' h' locs (cells + 2) (slots + (n + 4)) → Keep h h' [] → CHr Z EL v h v' h' → Exa Z h' a "java/lang/String" → Fld Z h' a "java/lang/String" "coder" "B" (.int 0) → Fld Z h' a "java/lang/String" "value" "[B" (.ref b) → Arv Z h' b kb .byte z vs (.int 0) → (∀ x, Safe Z EL v' h' x → x ≠ a ∧ x ≠ b) → Run p.tables e below P T' (mkF m pc' Ls (.ref a :: st))) : Run p.tables e below P T (mkF m pc Ls st) := by
  subst hp
  obtain ⟨hEL, hWv, ⟨k0, hS, hk0⟩, hC⟩ := X.inv
  obtain ⟨a, T', h', k1, b, kb, X', e', E, hS', hk1, hZ', ho', A, F1, F2, V, -, -, hC', -, hne, k⟩ := ldcCH X.1 X.hx hWv X.hown w wS X.eT hS hk0 hEL hmem hC.1 ht hz hlv (g := mkF m pc Ls st) rfl (hb X.hby hd) hn hbig hc hl
  have K := ext_keep E
  exact Run.of k (q a b kb T'.vm T' h' (X.reH X' e' K hS' hk1 hZ' ho' hC' (fun _ q => nomatch q) X.fr) K hC' A F1 F2 V hne)
theorem backH {EL : List (String × Nat)} {v : Vm} {y : MethodName} {bytes : ByteArray} {maxL : Nat} {ret : Option FieldType} {rm : Room} {len W : Nat} {as' : Array Value} {ws : List Addr} {Q : Option Value → Vm → Heap → Prop}
    (hM : MetH l [] Z EL n0 y bytes maxL ret rm as' h ws Q) (hZ : Z.Warmed39 v) (wc : (Cond.code y bytes maxL ret).before a0 Z = true) (wz : (Cond.initialized y.cls).before a0 Z = true) (hf : rm.frames + 1 ≤ R.frames) (hl : W + (maxL + 11) + rm.locals ≤ R.locals) (hEL : EW Z a0 EL) (H : CHv Z EL v h) (hs : ∀ x ∈ ws, x < h.size ∧ Safe Z EL v h x) :
    BackS l R p e below (s.setVm v) args y len W (fun A a => a = as' ∧ A.U.heap = h ∧ A.cells + rm.cells ≤ R.cells ∧ A.slots + rm.slots ≤ R.slots)
      (fun A _ r B => ∃ L, ((Keep h B.U.heap ws ∧ Q r B.U.vm B.U.heap) ∧ Fr n0 L) ∧ B.locs = A.locs ++ L ∧ B.cells = A.cells + rm.cells ∧ B.slots = A.slots + rm.slots ∧ CHr Z EL v h B.U.vm B.U.heap) :=
  BackS.of_freeW (bytes := bytes) (maxL := maxL) (ret := ret) (E := fun _ first o t L k n => k = rm.cells ∧ n = rm.slots ∧ (∃ r, o = .returned r ∧ ((Keep h t.heap ws ∧ Q r t.vm t.heap) ∧ Fr n0 L)) ∧ CHr Z EL first.vm first.heap t.vm t.heap) hM hf hl
    (fun m meth c A a Y hp => have hU : Z.Warmed39 A.U.vm := wtrans (s := s.setVm v) hZ Y.warmed
      ⟨by show (Cond.and _ .tt).before a A.U = true; rw [Cond.before_and, Jvm.RoadKit.mv hU wc]; rfl, Jvm.RoadKit.mv hU wc, Jvm.RoadKit.mv hU wz, hp.2.2.1, hp.2.2.2⟩)
    (fun m meth c A a g mk Y hp => ⟨hp.1, wtrans (s := s.setVm v) hZ Y.warmed, hp.2.1, (CHv.at Y hZ hEL H).1, fun x hx => (CHv.at Y hZ hEL H).safe (hs x hx).1 (hs x hx).2⟩) (fun _ _ _ _ _ _ _ _ _ => trivial)
    (fun _ _ _ _ ⟨r, L, h1, h2, h3, h4⟩ => ⟨L, _, _, h4, rfl, rfl, ⟨r, h1, h2⟩, h3⟩)
    (fun m meth c A a g mk r t L k n Y hp _ _ ⟨e1, e2, ⟨r', e3, e4⟩, e5⟩ => by
      cases e3; subst e1 e2
      refine ⟨L, e4, rfl, rfl, rfl, (CHv.at Y hZ hEL H).trans ?_⟩
      rw [← hp.2.1]; exact e5)
theorem k_callSVF (X : WP p l e R s m args below meth c Z own mname bytes maxL ret n0 Inv Sf T h locs cells slots) {y : MethodName} {index W : Nat} {bytes' : ByteArray} {maxL' : Nat} {ret' : Option FieldType} {rm : Room} {ws : List Addr} {Q : Value → Heap → Prop}  {argsL rest stk : List Value} {ps : List FieldType} {rt : Option FieldType} (hd : decode bytes pc = .ok (.invokestatic index, 3)) (w1 : (Cond.methodLink own index y).before a0 Z = true) (w2 : (Cond.static y).before a0 Z = true) (wz : (Cond.initialized y.cls).before a0 Z = true) (wc : (Cond.code y bytes' maxL' ret').before a0 Z = true) (hy : y.cls ≠ "java/lang/invoke/MethodHandle" ∧ y.cls ≠ "java/lang/invoke/VarHandle")  (hM : MetF l [] Z n0 y bytes' maxL' ret' rm argsL.toArray h ws (fun r h' => ∃ w, r = some w ∧ Q w h')) (hstk : stk = argsL.reverse ++ rest) (hpd : parseMethodDescriptor y.desc = some ⟨ps, rt⟩) (hlen : argsL.length = ps.length) (hsz : Ls.size = maxL) (hfr : rm.frames + 1 ≤ R.frames) (hW : (rest.map fun v => v.category).sum ≤ W) (hlo : W + (maxL' + 11) + rm.locals ≤ R.locals) (hc : cells + rm.cells ≤ R.cells) (hs : slots + rm.slots ≤ R.slots) (hsf : ∀ x ∈ ws, Sf h x ∧ n0 ≤ x) (hp : pc + 3 = pc')
    (q : ∀ w T' h' L', WP p l e R s m args below meth c Z own mname bytes maxL ret n0 Inv Sf T' h' L' (cells + rm.cells) (slots + rm.slots) → Keep h h' ws → Q w h' → Run p.tables e below P T' (mkF m pc' Ls (w :: rest))) : Run p.tables e below P T (mkF m pc Ls stk) := by
  subst hp
  have bk := backOf (R := R) (p := p) (e := e) (below := below) (args := args) (len := 3) (W := W) (Q := fun r h' L => (Keep h h' ws ∧ (fun r h' => ∃ w, r = some w ∧ Q w h') r h') ∧ Fr n0 L) hM X.hZ wc wz hfr hlo
  obtain ⟨r, _, ⟨T', L', k', n'⟩, -, X', ⟨Lc, hQ, l1, l2, l3⟩, kk⟩ := Jvm.LawKit.callS X.1 X.hx (y := y) X.hown (mvT X.hZ w1) (mvT X.hZ w2) (mvT X.hZ wz) (mvT X.hZ wc) hy bk (g := mkF m pc Ls stk) rfl (by rw [X.hml]; exact hsz) (argsL := argsL) (rest := rest) (lenOf hpd hlen) hstk (by show 2 * 0 + _ ≤ _; omega) (hb X.hby hd) (fun _ _ => ⟨rfl, X.eT, hc, hs⟩)
  dsimp only [Pt.U, Pt.locs, Pt.cells, Pt.slots] at X' l1 l2 l3 kk hQ
  subst l1 l2 l3
  obtain ⟨⟨K, w, rfl, hQ⟩, N⟩ := hQ
  exact Run.of kk (q _ _ _ _ (X.mv X' rfl K hsf (X.fr.app N)) K hQ)
theorem k_callSNF (X : WP p l e R s m args below meth c Z own mname bytes maxL ret n0 Inv Sf T h locs cells slots) {y : MethodName} {index W : Nat} {bytes' : ByteArray} {maxL' : Nat} {ret' : Option FieldType} {rm : Room} {ws : List Addr} {Q : Heap → Prop}  {argsL rest stk : List Value} {ps : List FieldType} {rt : Option FieldType} (hd : decode bytes pc = .ok (.invokestatic index, 3)) (w1 : (Cond.methodLink own index y).before a0 Z = true) (w2 : (Cond.static y).before a0 Z = true) (wz : (Cond.initialized y.cls).before a0 Z = true) (wc : (Cond.code y bytes' maxL' ret').before a0 Z = true) (hy : y.cls ≠ "java/lang/invoke/MethodHandle" ∧ y.cls ≠ "java/lang/invoke/VarHandle")  (hM : MetF l [] Z n0 y bytes' maxL' ret' rm argsL.toArray h ws (fun r h' => r = none ∧ Q h')) (hstk : stk = argsL.reverse ++ rest) (hpd : parseMethodDescriptor y.desc = some ⟨ps, rt⟩) (hlen : argsL.length = ps.length) (hsz : Ls.size = maxL) (hfr : rm.frames + 1 ≤ R.frames) (hW : (rest.map fun v => v.category).sum ≤ W) (hlo : W + (maxL' + 11) + rm.locals ≤ R.locals) (hc : cells + rm.cells ≤ R.cells) (hs : slots + rm.slots ≤ R.slots) (hsf : ∀ x ∈ ws, Sf h x ∧ n0 ≤ x) (hp : pc + 3 = pc')
    (q : ∀ T' h' L', WP p l e R s m args below meth c Z own mname bytes maxL ret n0 Inv Sf T' h' L' (cells + rm.cells) (slots + rm.slots) → Keep h h' ws → Q h' → Run p.tables e below P T' (mkF m pc' Ls (rest))) : Run p.tables e below P T (mkF m pc Ls stk) := by
  subst hp
  have bk := backOf (R := R) (p := p) (e := e) (below := below) (args := args) (len := 3) (W := W) (Q := fun r h' L => (Keep h h' ws ∧ (fun r h' => r = none ∧ Q h') r h') ∧ Fr n0 L) hM X.hZ wc wz hfr hlo
  obtain ⟨r, _, ⟨T', L', k', n'⟩, -, X', ⟨Lc, hQ, l1, l2, l3⟩, kk⟩ := Jvm.LawKit.callS X.1 X.hx (y := y) X.hown (mvT X.hZ w1) (mvT X.hZ w2) (mvT X.hZ wz) (mvT X.hZ wc) hy bk (g := mkF m pc Ls stk) rfl (by rw [X.hml]; exact hsz) (argsL := argsL) (rest := rest) (lenOf hpd hlen) hstk (by show 2 * 0 + _ ≤ _; omega) (hb X.hby hd) (fun _ _ => ⟨rfl, X.eT, hc, hs⟩)
  dsimp only [Pt.U, Pt.locs, Pt.cells, Pt.slots] at X' l1 l2 l3 kk hQ
  subst l1 l2 l3
  obtain ⟨⟨K, rfl, hQ⟩, N⟩ := hQ
  exact Run.of kk (q _ _ _ (X.mv X' rfl K hsf (X.fr.app N)) K hQ)
theorem k_callSVH {EL : List (String × Nat)} {v : Vm} (X : WP p l e R (s.setVm v) m args below meth c Z own mname bytes maxL ret n0 (InvH Z a0 EL s v) (Safe Z EL v) T h locs cells slots) {y : MethodName} {index W : Nat} {bytes' : ByteArray} {maxL' : Nat} {ret' : Option FieldType} {rm : Room} {ws : List Addr} {Q : Value → Vm → Heap → Prop}  {argsL rest stk : List Value} {ps : List FieldType} {rt : Option FieldType} (hd : decode bytes pc = .ok (.invokestatic index, 3)) (w1 : (Cond.methodLink own index y).before a0 Z = true) (w2 : (Cond.static y).before a0 Z = true) (wz : (Cond.initialized y.cls).before a0 Z = true) (wc : (Cond.code y bytes' maxL' ret').before a0 Z = true) (hy : y.cls ≠ "java/lang/invoke/MethodHandle" ∧ y.cls ≠ "java/lang/invoke/VarHandle")  (hM : MetH l [] Z EL n0 y bytes' maxL' ret' rm argsL.toArray h ws (fun r v' h' => ∃ w, r = some w ∧ Q w v' h')) (hstk : stk = argsL.reverse ++ rest) (hpd : parseMethodDescriptor y.desc = some ⟨ps, rt⟩) (hlen : argsL.length = ps.length) (hsz : Ls.size = maxL) (hfr : rm.frames + 1 ≤ R.frames) (hW : (rest.map fun v => v.category).sum ≤ W) (hlo : W + (maxL' + 11) + rm.locals ≤ R.locals) (hc : cells + rm.cells ≤ R.cells) (hs : slots + rm.slots ≤ R.slots) (hsf : ∀ x ∈ ws, (x < h.size ∧ Safe Z EL v h x) ∧ n0 ≤ x) (hp : pc + 3 = pc')
    (q : ∀ w v' T' h' L', WP p l e R (s.setVm v') m args below meth c Z own mname bytes maxL ret n0 (InvH Z a0 EL s v') (Safe Z EL v') T' h' L' (cells + rm.cells) (slots + rm.slots) → Keep h h' ws → CHr Z EL v h v' h' → Q w v' h' → Run p.tables e below P T' (mkF m pc' Ls (w :: rest))) : Run p.tables e below P T (mkF m pc Ls stk) := by
  subst hp
  obtain ⟨hEL, hWv, ⟨k0, hS, hk0⟩, hC⟩ := X.inv
  have bk := backH (R := R) (p := p) (e := e) (below := below) (s := s) (args := args) (len := 3) (W := W) hM hWv wc wz hfr hlo hEL hC.1 (fun x q => (hsf x q).1)
  obtain ⟨r, _, ⟨T', L', k', n'⟩, -, X', hS2, hgr, ⟨Lc, hQ, l1, l2, l3, hC'⟩, kk⟩ := callSS X.1 X.hx (y := y) X.hown (mvT X.hZ w1) (mvT X.hZ w2) (mvT X.hZ wz) (mvT X.hZ wc) hy bk (g := mkF m pc Ls stk) rfl (by rw [X.hml]; exact hsz) (argsL := argsL) (rest := rest) (lenOf hpd hlen) hstk (by show 2 * 0 + _ ≤ _; omega) (hb X.hby hd) (fun _ _ => ⟨rfl, X.eT, hc, hs⟩)
  dsimp only [Pt.U, Pt.locs, Pt.cells, Pt.slots] at X' l1 l2 l3 kk hQ hS2 hgr hC'
  subst l1 l2 l3
  obtain ⟨⟨K, w, rfl, hQ⟩, N⟩ := hQ
  obtain ⟨X2, hS3, hZ2, ho2⟩ := rebS hS (show k0 ≤ T.heap.size by rw [X.eT]; exact hk0) X' hS2 hgr X.hZ X.hown
  exact Run.tr kk (q _ _ _ _ _ (X.reH X2 rfl K hS3 (Nat.le_refl _) hZ2 ho2 hC' (fun x q => (hsf x q).2) (X.fr.app N)) K hC' hQ)
theorem k_callSNH {EL : List (String × Nat)} {v : Vm} (X : WP p l e R (s.setVm v) m args below meth c Z own mname bytes maxL ret n0 (InvH Z a0 EL s v) (Safe Z EL v) T h locs cells slots) {y : MethodName} {index W : Nat} {bytes' : ByteArray} {maxL' : Nat} {ret' : Option FieldType} {rm : Room} {ws : List Addr} {Q : Vm → Heap → Prop}  {argsL rest stk : List Value} {ps : List FieldType} {rt : Option FieldType} (hd : decode bytes pc = .ok (.invokestatic index, 3)) (w1 : (Cond.methodLink own index y).before a0 Z = true) (w2 : (Cond.static y).before a0 Z = true) (wz : (Cond.initialized y.cls).before a0 Z = true) (wc : (Cond.code y bytes' maxL' ret').before a0 Z = true) (hy : y.cls ≠ "java/lang/invoke/MethodHandle" ∧ y.cls ≠ "java/lang/invoke/VarHandle")  (hM : MetH l [] Z EL n0 y bytes' maxL' ret' rm argsL.toArray h ws (fun r v' h' => r = none ∧ Q v' h')) (hstk : stk = argsL.reverse ++ rest) (hpd : parseMethodDescriptor y.desc = some ⟨ps, rt⟩) (hlen : argsL.length = ps.length) (hsz : Ls.size = maxL) (hfr : rm.frames + 1 ≤ R.frames) (hW : (rest.map fun v => v.category).sum ≤ W) (hlo : W + (maxL' + 11) + rm.locals ≤ R.locals) (hc : cells + rm.cells ≤ R.cells) (hs : slots + rm.slots ≤ R.slots) (hsf : ∀ x ∈ ws, (x < h.size ∧ Safe Z EL v h x) ∧ n0 ≤ x) (hp : pc + 3 = pc')
    (q : ∀ v' T' h' L', WP p l e R (s.setVm v') m args below meth c Z own mname bytes maxL ret n0 (InvH Z a0 EL s v') (Safe Z EL v') T' h' L' (cells + rm.cells) (slots + rm.slots) → Keep h h' ws → CHr Z EL v h v' h' → Q v' h' → Run p.tables e below P T' (mkF m pc' Ls (rest))) : Run p.tables e below P T (mkF m pc Ls stk) := by
  subst hp
  obtain ⟨hEL, hWv, ⟨k0, hS, hk0⟩, hC⟩ := X.inv
  have bk := backH (R := R) (p := p) (e := e) (below := below) (s := s) (args := args) (len := 3) (W := W) hM hWv wc wz hfr hlo hEL hC.1 (fun x q => (hsf x q).1)
  obtain ⟨r, _, ⟨T', L', k', n'⟩, -, X', hS2, hgr, ⟨Lc, hQ, l1, l2, l3, hC'⟩, kk⟩ := callSS X.1 X.hx (y := y) X.hown (mvT X.hZ w1) (mvT X.hZ w2) (mvT X.hZ wz) (mvT X.hZ wc) hy bk (g := mkF m pc Ls stk) rfl (by rw [X.hml]; exact hsz) (argsL := argsL) (rest := rest) (lenOf hpd hlen) hstk (by show 2 * 0 + _ ≤ _; omega) (hb X.hby hd) (fun _ _ => ⟨rfl, X.eT, hc, hs⟩)
  dsimp only [Pt.U, Pt.locs, Pt.cells, Pt.slots] at X' l1 l2 l3 kk hQ hS2 hgr hC'
  subst l1 l2 l3
  obtain ⟨⟨K, rfl, hQ⟩, N⟩ := hQ
  obtain ⟨X2, hS3, hZ2, ho2⟩ := rebS hS (show k0 ≤ T.heap.size by rw [X.eT]; exact hk0) X' hS2 hgr X.hZ X.hown
  exact Run.tr kk (q _ _ _ _ (X.reH X2 rfl K hS3 (Nat.le_refl _) hZ2 ho2 hC' (fun x q => (hsf x q).2) (X.fr.app N)) K hC' hQ)
theorem k_callPNF (X : WP p l e R s m args below meth c Z own mname bytes maxL ret n0 Inv Sf T h locs cells slots) {y : MethodName} {index W : Nat} {bytes' : ByteArray} {maxL' : Nat} {ret' : Option FieldType} {rm : Room} {ws : List Addr} {Q : Heap → Prop} {a : Addr} {argsL rest stk : List Value} {ps : List FieldType} {rt : Option FieldType} (hd : decode bytes pc = .ok (.invokespecial index, 3)) (w1 : (Cond.methodLink own index y).before a0 Z = true) (w2 : (Cond.instanceMethod y).before a0 Z = true) (wz : (Cond.initialized y.cls).before a0 Z = true) (wc : (Cond.code y bytes' maxL' ret').before a0 Z = true) (hy : y.cls ≠ "java/lang/invoke/MethodHandle" ∧ y.cls ≠ "java/lang/invoke/VarHandle") (hin : y.name = "<init>") (hrn : ret' = none) (hM : MetF l [] Z n0 y bytes' maxL' ret' rm (.ref a :: argsL).toArray h ws (fun r h' => r = none ∧ Q h')) (hstk : stk = argsL.reverse ++ .ref a :: rest) (hpd : parseMethodDescriptor y.desc = some ⟨ps, rt⟩) (hlen : argsL.length = ps.length) (hsz : Ls.size = maxL) (hfr : rm.frames + 1 ≤ R.frames) (hW : (rest.map fun v => v.category).sum ≤ W) (hlo : W + (maxL' + 11) + rm.locals ≤ R.locals) (hc : cells + rm.cells ≤ R.cells) (hs : slots + rm.slots ≤ R.slots) (hsf : ∀ x ∈ ws, Sf h x ∧ n0 ≤ x) (hp : pc + 3 = pc')
    (q : ∀ T' h' L', WP p l e R s m args below meth c Z own mname bytes maxL ret n0 Inv Sf T' h' L' (cells + rm.cells) (slots + rm.slots) → Keep h h' ws → Q h' → Run p.tables e below P T' (mkF m pc' Ls (rest))) : Run p.tables e below P T (mkF m pc Ls stk) := by
  subst hp
  have bk := backOf (R := R) (p := p) (e := e) (below := below) (args := args) (len := 3) (W := W) (Q := fun r h' L => (Keep h h' ws ∧ (fun r h' => r = none ∧ Q h') r h') ∧ Fr n0 L) hM X.hZ wc wz hfr hlo
  obtain ⟨r, _, ⟨T', L', k', n'⟩, -, X', ⟨Lc, hQ, l1, l2, l3⟩, kk⟩ := X.1.specialBack X.hx (y := y) hin X.hown (mvT X.hZ w1) (mvT X.hZ w2) (bytes := bytes') (maxL := maxL') (mvT X.hZ (hrn ▸ wc)) hy bk (g := mkF m pc Ls stk) rfl (by rw [X.hml]; exact hsz) (Steps.refl _) (a := a) (argsL := argsL) (rest := rest) (lenOf hpd hlen) hstk (by show 2 * 0 + _ ≤ _; omega) (hb X.hby hd) (fun _ _ => ⟨rfl, X.eT, hc, hs⟩)
  dsimp only [Pt.U, Pt.locs, Pt.cells, Pt.slots] at X' l1 l2 l3 kk hQ
  subst l1 l2 l3
  obtain ⟨⟨K, rfl, hQ⟩, N⟩ := hQ
  exact Run.tr kk (q _ _ _ (X.mv X' rfl K hsf (X.fr.app N)) K hQ)
theorem k_callPNH {EL : List (String × Nat)} {v : Vm} (X : WP p l e R (s.setVm v) m args below meth c Z own mname bytes maxL ret n0 (InvH Z a0 EL s v) (Safe Z EL v) T h locs cells slots) {y : MethodName} {index W : Nat} {bytes' : ByteArray} {maxL' : Nat} {ret' : Option FieldType} {rm : Room} {ws : List Addr} {Q : Vm → Heap → Prop} {a : Addr} {argsL rest stk : List Value} {ps : List FieldType} {rt : Option FieldType} (hd : decode bytes pc = .ok (.invokespecial index, 3)) (w1 : (Cond.methodLink own index y).before a0 Z = true) (w2 : (Cond.instanceMethod y).before a0 Z = true) (wz : (Cond.initialized y.cls).before a0 Z = true) (wc : (Cond.code y bytes' maxL' ret').before a0 Z = true) (hy : y.cls ≠ "java/lang/invoke/MethodHandle" ∧ y.cls ≠ "java/lang/invoke/VarHandle") (hin : y.name = "<init>") (hrn : ret' = none) (hM : MetH l [] Z EL n0 y bytes' maxL' ret' rm (.ref a :: argsL).toArray h ws (fun r v' h' => r = none ∧ Q v' h')) (hstk : stk = argsL.reverse ++ .ref a :: rest) (hpd : parseMethodDescriptor y.desc = some ⟨ps, rt⟩) (hlen : argsL.length = ps.length) (hsz : Ls.size = maxL) (hfr : rm.frames + 1 ≤ R.frames) (hW : (rest.map fun v => v.category).sum ≤ W) (hlo : W + (maxL' + 11) + rm.locals ≤ R.locals) (hc : cells + rm.cells ≤ R.cells) (hs : slots + rm.slots ≤ R.slots) (hsf : ∀ x ∈ ws, (x < h.size ∧ Safe Z EL v h x) ∧ n0 ≤ x) (hp : pc + 3 = pc')
    (q : ∀ v' T' h' L', WP p l e R (s.setVm v') m args below meth c Z own mname bytes maxL ret n0 (InvH Z a0 EL s v') (Safe Z EL v') T' h' L' (cells + rm.cells) (slots + rm.slots) → Keep h h' ws → CHr Z EL v h v' h' → Q v' h' → Run p.tables e below P T' (mkF m pc' Ls (rest))) : Run p.tables e below P T (mkF m pc Ls stk) := by
  subst hp
  obtain ⟨hEL, hWv, ⟨k0, hS, hk0⟩, hC⟩ := X.inv
  have bk := backH (R := R) (p := p) (e := e) (below := below) (s := s) (args := args) (len := 3) (W := W) hM hWv wc wz hfr hlo hEL hC.1 (fun x q => (hsf x q).1)
  obtain ⟨r, _, ⟨T', L', k', n'⟩, -, X', hS2, hgr, ⟨Lc, hQ, l1, l2, l3, hC'⟩, kk⟩ := X.1.specialBackS X.hx (y := y) hin X.hown (mvT X.hZ w1) (mvT X.hZ w2) (bytes := bytes') (maxL := maxL') (mvT X.hZ (hrn ▸ wc)) hy bk (g := mkF m pc Ls stk) rfl (by rw [X.hml]; exact hsz) (Steps.refl _) (a := a) (argsL := argsL) (rest := rest) (lenOf hpd hlen) hstk (by show 2 * 0 + _ ≤ _; omega) (hb X.hby hd) (fun _ _ => ⟨rfl, X.eT, hc, hs⟩)
  dsimp only [Pt.U, Pt.locs, Pt.cells, Pt.slots] at X' l1 l2 l3 kk hQ hS2 hgr hC'
  subst l1 l2 l3
  obtain ⟨⟨K, rfl, hQ⟩, N⟩ := hQ
  obtain ⟨X2, hS3, hZ2, ho2⟩ := rebS hS (show k0 ≤ T.heap.size by rw [X.eT]; exact hk0) X' hS2 hgr X.hZ X.hown
  exact Run.tr kk (q _ _ _ _ (X.reH X2 rfl K hS3 (Nat.le_refl _) hZ2 ho2 hC' (fun x q => (hsf x q).2) (X.fr.app N)) K hC' hQ)
theorem k_callVVF (X : WP p l e R s m args below meth c Z own mname bytes maxL ret n0 Inv Sf T h locs cells slots) {y : MethodName} {index W : Nat} {bytes' : ByteArray} {maxL' : Nat} {ret' : Option FieldType} {rm : Room} {ws : List Addr} {Q : Value → Heap → Prop} {a : Addr} {y0 : MethodName} {C : String} {argsL rest stk : List Value} {ps : List FieldType} {rt : Option FieldType} (hd : decode bytes pc = .ok (.invokevirtual index, 3)) (w1 : (Cond.methodLink own index y0).before a0 Z = true) (w2 : (Cond.declares y0).before a0 Z = true) (w3 : (Cond.selects C y0 y).before a0 Z = true) (w4 : (Cond.instanceMethod y).before a0 Z = true) (wz : (Cond.initialized y.cls).before a0 Z = true) (wc : (Cond.code y bytes' maxL' ret').before a0 Z = true) (hy : y0.cls ≠ "java/lang/invoke/MethodHandle" ∧ y0.cls ≠ "java/lang/invoke/VarHandle") (hnf : NotFace s y0) (E : Exa Z h a C) (hM : MetF l [] Z n0 y bytes' maxL' ret' rm (.ref a :: argsL).toArray h ws (fun r h' => ∃ w, r = some w ∧ Q w h')) (hstk : stk = argsL.reverse ++ .ref a :: rest) (hpd : parseMethodDescriptor y0.desc = some ⟨ps, rt⟩) (hlen : argsL.length = ps.length) (hsz : Ls.size = maxL) (hfr : rm.frames + 1 ≤ R.frames) (hW : (rest.map fun v => v.category).sum ≤ W) (hlo : W + (maxL' + 11) + rm.locals ≤ R.locals) (hc : cells + rm.cells ≤ R.cells) (hs : slots + rm.slots ≤ R.slots) (hsf : ∀ x ∈ ws, Sf h x ∧ n0 ≤ x) (hp : pc + 3 = pc')
    (q : ∀ w T' h' L', WP p l e R s m args below meth c Z own mname bytes maxL ret n0 Inv Sf T' h' L' (cells + rm.cells) (slots + rm.slots) → Keep h h' ws → Q w h' → Run p.tables e below P T' (mkF m pc' Ls (w :: rest))) : Run p.tables e below P T (mkF m pc Ls stk) := by
  subst hp
  obtain ⟨cq, kq, qa, qb, qc⟩ := isOf (T := T) X.hZ X.eT E
  have bk := backOf (R := R) (p := p) (e := e) (below := below) (args := args) (len := 3) (W := W) (Q := fun r h' L => (Keep h h' ws ∧ (fun r h' => ∃ w, r = some w ∧ Q w h') r h') ∧ Fr n0 L) hM X.hZ wc wz hfr hlo
  obtain ⟨r, _, ⟨T', L', k', n'⟩, -, X', ⟨Lc, hQ, l1, l2, l3⟩, kk⟩ := X.1.virtualBack X.hx (y := y0) (z := y) X.hown (mvT X.hZ w1) (mvT X.hZ w2) hnf (mvT X.hZ w3) (mvT X.hZ w4) hy bk qa qc (g := mkF m pc Ls stk) rfl (by rw [X.hml]; exact hsz) (Steps.refl _) (argsL := argsL) (rest := rest) (lenOf hpd hlen) hstk (by show 2 * 0 + _ ≤ _; omega) (hb X.hby hd) (fun _ _ => ⟨rfl, X.eT, hc, hs⟩)
  dsimp only [Pt.U, Pt.locs, Pt.cells, Pt.slots] at X' l1 l2 l3 kk hQ
  subst l1 l2 l3
  obtain ⟨⟨K, w, rfl, hQ⟩, N⟩ := hQ
  exact Run.tr kk (q _ _ _ _ (X.mv X' rfl K hsf (X.fr.app N)) K hQ)
theorem k_callVNF (X : WP p l e R s m args below meth c Z own mname bytes maxL ret n0 Inv Sf T h locs cells slots) {y : MethodName} {index W : Nat} {bytes' : ByteArray} {maxL' : Nat} {ret' : Option FieldType} {rm : Room} {ws : List Addr} {Q : Heap → Prop} {a : Addr} {y0 : MethodName} {C : String} {argsL rest stk : List Value} {ps : List FieldType} {rt : Option FieldType} (hd : decode bytes pc = .ok (.invokevirtual index, 3)) (w1 : (Cond.methodLink own index y0).before a0 Z = true) (w2 : (Cond.declares y0).before a0 Z = true) (w3 : (Cond.selects C y0 y).before a0 Z = true) (w4 : (Cond.instanceMethod y).before a0 Z = true) (wz : (Cond.initialized y.cls).before a0 Z = true) (wc : (Cond.code y bytes' maxL' ret').before a0 Z = true) (hy : y0.cls ≠ "java/lang/invoke/MethodHandle" ∧ y0.cls ≠ "java/lang/invoke/VarHandle") (hnf : NotFace s y0) (E : Exa Z h a C) (hM : MetF l [] Z n0 y bytes' maxL' ret' rm (.ref a :: argsL).toArray h ws (fun r h' => r = none ∧ Q h')) (hstk : stk = argsL.reverse ++ .ref a :: rest) (hpd : parseMethodDescriptor y0.desc = some ⟨ps, rt⟩) (hlen : argsL.length = ps.length) (hsz : Ls.size = maxL) (hfr : rm.frames + 1 ≤ R.frames) (hW : (rest.map fun v => v.category).sum ≤ W) (hlo : W + (maxL' + 11) + rm.locals ≤ R.locals) (hc : cells + rm.cells ≤ R.cells) (hs : slots + rm.slots ≤ R.slots) (hsf : ∀ x ∈ ws, Sf h x ∧ n0 ≤ x) (hp : pc + 3 = pc')
    (q : ∀ T' h' L', WP p l e R s m args below meth c Z own mname bytes maxL ret n0 Inv Sf T' h' L' (cells + rm.cells) (slots + rm.slots) → Keep h h' ws → Q h' → Run p.tables e below P T' (mkF m pc' Ls (rest))) : Run p.tables e below P T (mkF m pc Ls stk) := by
  subst hp
  obtain ⟨cq, kq, qa, qb, qc⟩ := isOf (T := T) X.hZ X.eT E
  have bk := backOf (R := R) (p := p) (e := e) (below := below) (args := args) (len := 3) (W := W) (Q := fun r h' L => (Keep h h' ws ∧ (fun r h' => r = none ∧ Q h') r h') ∧ Fr n0 L) hM X.hZ wc wz hfr hlo
  obtain ⟨r, _, ⟨T', L', k', n'⟩, -, X', ⟨Lc, hQ, l1, l2, l3⟩, kk⟩ := X.1.virtualBack X.hx (y := y0) (z := y) X.hown (mvT X.hZ w1) (mvT X.hZ w2) hnf (mvT X.hZ w3) (mvT X.hZ w4) hy bk qa qc (g := mkF m pc Ls stk) rfl (by rw [X.hml]; exact hsz) (Steps.refl _) (argsL := argsL) (rest := rest) (lenOf hpd hlen) hstk (by show 2 * 0 + _ ≤ _; omega) (hb X.hby hd) (fun _ _ => ⟨rfl, X.eT, hc, hs⟩)
  dsimp only [Pt.U, Pt.locs, Pt.cells, Pt.slots] at X' l1 l2 l3 kk hQ
  subst l1 l2 l3
  obtain ⟨⟨K, rfl, hQ⟩, N⟩ := hQ
  exact Run.tr kk (q _ _ _ (X.mv X' rfl K hsf (X.fr.app N)) K hQ)
theorem k_callVVH {EL : List (String × Nat)} {v : Vm} (X : WP p l e R (s.setVm v) m args below meth c Z own mname bytes maxL ret n0 (InvH Z a0 EL s v) (Safe Z EL v) T h locs cells slots) {y : MethodName} {index W : Nat} {bytes' : ByteArray} {maxL' : Nat} {ret' : Option FieldType} {rm : Room} {ws : List Addr} {Q : Value → Vm → Heap → Prop} {a : Addr} {y0 : MethodName} {C : String} {argsL rest stk : List Value} {ps : List FieldType} {rt : Option FieldType} (hd : decode bytes pc = .ok (.invokevirtual index, 3)) (w1 : (Cond.methodLink own index y0).before a0 Z = true) (w2 : (Cond.declares y0).before a0 Z = true) (w3 : (Cond.selects C y0 y).before a0 Z = true) (w4 : (Cond.instanceMethod y).before a0 Z = true) (wz : (Cond.initialized y.cls).before a0 Z = true) (wc : (Cond.code y bytes' maxL' ret').before a0 Z = true) (hy : y0.cls ≠ "java/lang/invoke/MethodHandle" ∧ y0.cls ≠ "java/lang/invoke/VarHandle") (hnf : NotFace (s.setVm v) y0) (E : Exa Z h a C) (hM : MetH l [] Z EL n0 y bytes' maxL' ret' rm (.ref a :: argsL).toArray h ws (fun r v' h' => ∃ w, r = some w ∧ Q w v' h')) (hstk : stk = argsL.reverse ++ .ref a :: rest) (hpd : parseMethodDescriptor y0.desc = some ⟨ps, rt⟩) (hlen : argsL.length = ps.length) (hsz : Ls.size = maxL) (hfr : rm.frames + 1 ≤ R.frames) (hW : (rest.map fun v => v.category).sum ≤ W) (hlo : W + (maxL' + 11) + rm.locals ≤ R.locals) (hc : cells + rm.cells ≤ R.cells) (hs : slots + rm.slots ≤ R.slots) (hsf : ∀ x ∈ ws, (x < h.size ∧ Safe Z EL v h x) ∧ n0 ≤ x) (hp : pc + 3 = pc')
    (q : ∀ w v' T' h' L', WP p l e R (s.setVm v') m args below meth c Z own mname bytes maxL ret n0 (InvH Z a0 EL s v') (Safe Z EL v') T' h' L' (cells + rm.cells) (slots + rm.slots) → Keep h h' ws → CHr Z EL v h v' h' → Q w v' h' → Run p.tables e below P T' (mkF m pc' Ls (w :: rest))) : Run p.tables e below P T (mkF m pc Ls stk) := by
  subst hp
  obtain ⟨cq, kq, qa, qb, qc⟩ := isOf (T := T) X.hZ X.eT E
  obtain ⟨hEL, hWv, ⟨k0, hS, hk0⟩, hC⟩ := X.inv
  have bk := backH (R := R) (p := p) (e := e) (below := below) (s := s) (args := args) (len := 3) (W := W) hM hWv wc wz hfr hlo hEL hC.1 (fun x q => (hsf x q).1)
  obtain ⟨r, _, ⟨T', L', k', n'⟩, -, X', hS2, hgr, ⟨Lc, hQ, l1, l2, l3, hC'⟩, kk⟩ := X.1.virtualBackS X.hx (y := y0) (z := y) X.hown (mvT X.hZ w1) (mvT X.hZ w2) hnf (mvT X.hZ w3) (mvT X.hZ w4) hy bk qa qc (g := mkF m pc Ls stk) rfl (by rw [X.hml]; exact hsz) (Steps.refl _) (argsL := argsL) (rest := rest) (lenOf hpd hlen) hstk (by show 2 * 0 + _ ≤ _; omega) (hb X.hby hd) (fun _ _ => ⟨rfl, X.eT, hc, hs⟩)
  dsimp only [Pt.U, Pt.locs, Pt.cells, Pt.slots] at X' l1 l2 l3 kk hQ hS2 hgr hC'
  subst l1 l2 l3
  obtain ⟨⟨K, w, rfl, hQ⟩, N⟩ := hQ
  obtain ⟨X2, hS3, hZ2, ho2⟩ := rebS hS (show k0 ≤ T.heap.size by rw [X.eT]; exact hk0) X' hS2 hgr X.hZ X.hown
  exact Run.tr kk (q _ _ _ _ _ (X.reH X2 rfl K hS3 (Nat.le_refl _) hZ2 ho2 hC' (fun x q => (hsf x q).2) (X.fr.app N)) K hC' hQ)
theorem k_callVNH {EL : List (String × Nat)} {v : Vm} (X : WP p l e R (s.setVm v) m args below meth c Z own mname bytes maxL ret n0 (InvH Z a0 EL s v) (Safe Z EL v) T h locs cells slots) {y : MethodName} {index W : Nat} {bytes' : ByteArray} {maxL' : Nat} {ret' : Option FieldType} {rm : Room} {ws : List Addr} {Q : Vm → Heap → Prop} {a : Addr} {y0 : MethodName} {C : String} {argsL rest stk : List Value} {ps : List FieldType} {rt : Option FieldType} (hd : decode bytes pc = .ok (.invokevirtual index, 3)) (w1 : (Cond.methodLink own index y0).before a0 Z = true) (w2 : (Cond.declares y0).before a0 Z = true) (w3 : (Cond.selects C y0 y).before a0 Z = true) (w4 : (Cond.instanceMethod y).before a0 Z = true) (wz : (Cond.initialized y.cls).before a0 Z = true) (wc : (Cond.code y bytes' maxL' ret').before a0 Z = true) (hy : y0.cls ≠ "java/lang/invoke/MethodHandle" ∧ y0.cls ≠ "java/lang/invoke/VarHandle") (hnf : NotFace (s.setVm v) y0) (E : Exa Z h a C) (hM : MetH l [] Z EL n0 y bytes' maxL' ret' rm (.ref a :: argsL).toArray h ws (fun r v' h' => r = none ∧ Q v' h')) (hstk : stk = argsL.reverse ++ .ref a :: rest) (hpd : parseMethodDescriptor y0.desc = some ⟨ps, rt⟩) (hlen : argsL.length = ps.length) (hsz : Ls.size = maxL) (hfr : rm.frames + 1 ≤ R.frames) (hW : (rest.map fun v => v.category).sum ≤ W) (hlo : W + (maxL' + 11) + rm.locals ≤ R.locals) (hc : cells + rm.cells ≤ R.cells) (hs : slots + rm.slots ≤ R.slots) (hsf : ∀ x ∈ ws, (x < h.size ∧ Safe Z EL v h x) ∧ n0 ≤ x) (hp : pc + 3 = pc')
    (q : ∀ v' T' h' L', WP p l e R (s.setVm v') m args below meth c Z own mname bytes maxL ret n0 (InvH Z a0 EL s v') (Safe Z EL v') T' h' L' (cells + rm.cells) (slots + rm.slots) → Keep h h' ws → CHr Z EL v h v' h' → Q v' h' → Run p.tables e below P T' (mkF m pc' Ls (rest))) : Run p.tables e below P T (mkF m pc Ls stk) := by
  subst hp
  obtain ⟨cq, kq, qa, qb, qc⟩ := isOf (T := T) X.hZ X.eT E
  obtain ⟨hEL, hWv, ⟨k0, hS, hk0⟩, hC⟩ := X.inv
  have bk := backH (R := R) (p := p) (e := e) (below := below) (s := s) (args := args) (len := 3) (W := W) hM hWv wc wz hfr hlo hEL hC.1 (fun x q => (hsf x q).1)
  obtain ⟨r, _, ⟨T', L', k', n'⟩, -, X', hS2, hgr, ⟨Lc, hQ, l1, l2, l3, hC'⟩, kk⟩ := X.1.virtualBackS X.hx (y := y0) (z := y) X.hown (mvT X.hZ w1) (mvT X.hZ w2) hnf (mvT X.hZ w3) (mvT X.hZ w4) hy bk qa qc (g := mkF m pc Ls stk) rfl (by rw [X.hml]; exact hsz) (Steps.refl _) (argsL := argsL) (rest := rest) (lenOf hpd hlen) hstk (by show 2 * 0 + _ ≤ _; omega) (hb X.hby hd) (fun _ _ => ⟨rfl, X.eT, hc, hs⟩)
  dsimp only [Pt.U, Pt.locs, Pt.cells, Pt.slots] at X' l1 l2 l3 kk hQ hS2 hgr hC'
  subst l1 l2 l3
  obtain ⟨⟨K, rfl, hQ⟩, N⟩ := hQ
  obtain ⟨X2, hS3, hZ2, ho2⟩ := rebS hS (show k0 ≤ T.heap.size by rw [X.eT]; exact hk0) X' hS2 hgr X.hZ X.hown
  exact Run.tr kk (q _ _ _ _ (X.reH X2 rfl K hS3 (Nat.le_refl _) hZ2 ho2 hC' (fun x q => (hsf x q).2) (X.fr.app N)) K hC' hQ)
theorem k_callIVF (X : WP p l e R s m args below meth c Z own mname bytes maxL ret n0 Inv Sf T h locs cells slots) {y : MethodName} {index W : Nat} {bytes' : ByteArray} {maxL' : Nat} {ret' : Option FieldType} {rm : Room} {ws : List Addr} {Q : Value → Heap → Prop} {a : Addr} {y0 : MethodName} {C : String} {count : Nat} {argsL rest stk : List Value} {ps : List FieldType} {rt : Option FieldType} (hd : decode bytes pc = .ok (.invokeinterface index count, 5)) (w1 : (Cond.methodLink own index y0).before args s = true) (w2 : (Cond.declares y0).before args s = true) (w5 : (Cond.interfaceMethod y0.cls y0.cls y0.name y0.desc).before args s = true) (w3 : (Cond.selects C y0 y).before args s = true) (w4 : (Cond.instanceMethod y).before args s = true) (w6 : (Cond.publicMethod y).before args s = true) (w7 : (Cond.unhidden C y0.name y0.desc).before args s = true) (w8 : (Cond.castable C y0.cls).before args s = true) (wz : (Cond.initialized y.cls).before a0 Z = true) (wc : (Cond.code y bytes' maxL' ret').before a0 Z = true) (hy : y0.cls ≠ "java/lang/invoke/MethodHandle" ∧ y0.cls ≠ "java/lang/invoke/VarHandle") (E : Exa Z h a C) (hM : MetF l [] Z n0 y bytes' maxL' ret' rm (.ref a :: argsL).toArray h ws (fun r h' => ∃ w, r = some w ∧ Q w h')) (hstk : stk = argsL.reverse ++ .ref a :: rest) (hpd : parseMethodDescriptor y0.desc = some ⟨ps, rt⟩) (hlen : argsL.length = ps.length) (hsz : Ls.size = maxL) (hfr : rm.frames + 1 ≤ R.frames) (hW : (rest.map fun v => v.category).sum ≤ W) (hlo : W + (maxL' + 11) + rm.locals ≤ R.locals) (hc : cells + rm.cells ≤ R.cells) (hs : slots + rm.slots ≤ R.slots) (hsf : ∀ x ∈ ws, Sf h x ∧ n0 ≤ x) (hp : pc + 5 = pc')
    (q : ∀ w T' h' L', WP p l e R s m args below meth c Z own mname bytes maxL ret n0 Inv Sf T' h' L' (cells + rm.cells) (slots + rm.slots) → Keep h h' ws → Q w h' → Run p.tables e below P T' (mkF m pc' Ls (w :: rest))) : Run p.tables e below P T (mkF m pc Ls stk) := by
  subst hp
  obtain ⟨cq, kq, qa, qb, qc⟩ := isOf (T := T) X.hZ X.eT E
  have bk := backOf (R := R) (p := p) (e := e) (below := below) (args := args) (len := 5) (W := W) (Q := fun r h' L => (Keep h h' ws ∧ (fun r h' => ∃ w, r = some w ∧ Q w h') r h') ∧ Fr n0 L) hM X.hZ wc wz hfr hlo
  obtain ⟨r, _, ⟨T', L', k', n'⟩, -, X', ⟨Lc, hQ, l1, l2, l3⟩, kk⟩ := X.1.interfaceBack X.hx (xi := y0) (y := y) X.hown w1 w2 w5 w3 w4 w6 w7 w8 hy bk qa qb qc (g := mkF m pc Ls stk) rfl (by rw [X.hml]; exact hsz) (Steps.refl _) (argsL := argsL) (rest := rest) (lenOf hpd hlen) hstk (by show 2 * 0 + _ ≤ _; omega) (hb X.hby hd) (fun _ _ => ⟨rfl, X.eT, hc, hs⟩)
  dsimp only [Pt.U, Pt.locs, Pt.cells, Pt.slots] at X' l1 l2 l3 kk hQ
  subst l1 l2 l3
  obtain ⟨⟨K, w, rfl, hQ⟩, N⟩ := hQ
  exact Run.tr kk (q _ _ _ _ (X.mv X' rfl K hsf (X.fr.app N)) K hQ)
theorem k_callINF (X : WP p l e R s m args below meth c Z own mname bytes maxL ret n0 Inv Sf T h locs cells slots) {y : MethodName} {index W : Nat} {bytes' : ByteArray} {maxL' : Nat} {ret' : Option FieldType} {rm : Room} {ws : List Addr} {Q : Heap → Prop} {a : Addr} {y0 : MethodName} {C : String} {count : Nat} {argsL rest stk : List Value} {ps : List FieldType} {rt : Option FieldType} (hd : decode bytes pc = .ok (.invokeinterface index count, 5)) (w1 : (Cond.methodLink own index y0).before args s = true) (w2 : (Cond.declares y0).before args s = true) (w5 : (Cond.interfaceMethod y0.cls y0.cls y0.name y0.desc).before args s = true) (w3 : (Cond.selects C y0 y).before args s = true) (w4 : (Cond.instanceMethod y).before args s = true) (w6 : (Cond.publicMethod y).before args s = true) (w7 : (Cond.unhidden C y0.name y0.desc).before args s = true) (w8 : (Cond.castable C y0.cls).before args s = true) (wz : (Cond.initialized y.cls).before a0 Z = true) (wc : (Cond.code y bytes' maxL' ret').before a0 Z = true) (hy : y0.cls ≠ "java/lang/invoke/MethodHandle" ∧ y0.cls ≠ "java/lang/invoke/VarHandle") (E : Exa Z h a C) (hM : MetF l [] Z n0 y bytes' maxL' ret' rm (.ref a :: argsL).toArray h ws (fun r h' => r = none ∧ Q h')) (hstk : stk = argsL.reverse ++ .ref a :: rest) (hpd : parseMethodDescriptor y0.desc = some ⟨ps, rt⟩) (hlen : argsL.length = ps.length) (hsz : Ls.size = maxL) (hfr : rm.frames + 1 ≤ R.frames) (hW : (rest.map fun v => v.category).sum ≤ W) (hlo : W + (maxL' + 11) + rm.locals ≤ R.locals) (hc : cells + rm.cells ≤ R.cells) (hs : slots + rm.slots ≤ R.slots) (hsf : ∀ x ∈ ws, Sf h x ∧ n0 ≤ x) (hp : pc + 5 = pc')
    (q : ∀ T' h' L', WP p l e R s m args below meth c Z own mname bytes maxL ret n0 Inv Sf T' h' L' (cells + rm.cells) (slots + rm.slots) → Keep h h' ws → Q h' → Run p.tables e below P T' (mkF m pc' Ls (rest))) : Run p.tables e below P T (mkF m pc Ls stk) := by
  subst hp
  obtain ⟨cq, kq, qa, qb, qc⟩ := isOf (T := T) X.hZ X.eT E
  have bk := backOf (R := R) (p := p) (e := e) (below := below) (args := args) (len := 5) (W := W) (Q := fun r h' L => (Keep h h' ws ∧ (fun r h' => r = none ∧ Q h') r h') ∧ Fr n0 L) hM X.hZ wc wz hfr hlo
  obtain ⟨r, _, ⟨T', L', k', n'⟩, -, X', ⟨Lc, hQ, l1, l2, l3⟩, kk⟩ := X.1.interfaceBack X.hx (xi := y0) (y := y) X.hown w1 w2 w5 w3 w4 w6 w7 w8 hy bk qa qb qc (g := mkF m pc Ls stk) rfl (by rw [X.hml]; exact hsz) (Steps.refl _) (argsL := argsL) (rest := rest) (lenOf hpd hlen) hstk (by show 2 * 0 + _ ≤ _; omega) (hb X.hby hd) (fun _ _ => ⟨rfl, X.eT, hc, hs⟩)
  dsimp only [Pt.U, Pt.locs, Pt.cells, Pt.slots] at X' l1 l2 l3 kk hQ
  subst l1 l2 l3
  obtain ⟨⟨K, rfl, hQ⟩, N⟩ := hQ
  exact Run.tr kk (q _ _ _ (X.mv X' rfl K hsf (X.fr.app N)) K hQ)
end Kit
end Own
end Jvm.Pilot.@@N@@
namespace Jvm.Pilot.@@N@@
open Jvm Jvm.ClassFile Sem Op Lib Jvm.Free Jvm.Stand Jvm.LawKit Jvm.RoadKit Bundle Jvm.Pilot.@@N@@.Jvm.D
section OwnProof
open Own
theorem own_nat {i : Nat} (h : i < 2147483648) : (Int32.ofNat i).toInt = (i : Int) := by
  rw [Int32.toInt_ofNat', show Int32.size = 4294967296 from rfl]; exact Int.bmod_eq_of_le (by omega) (by omega)
theorem own_nz {n : Nat} (h0 : 0 < n) (h1 : n < 2147483648) : ¬ Int32.ofNat n = 0 := fun q => by
  have e := congrArg Int32.toInt q
  rw [own_nat h1, show (0 : Int32).toInt = 0 from by decide] at e
  omega
theorem own_clamp {i : Nat} (h : i < 2147483648) : (Int32.ofNat i).toNatClampNeg = i := by
  show (Int32.ofNat i).toInt.toNat = i
  rw [own_nat h]; rfl
theorem own_nn {i : Nat} (h : i < 2147483648) : ¬ (Int32.ofNat i < 0) := by
  rw [Int32.lt_iff_toInt_lt, own_nat h]; show ¬ ((i : Int) < 0); omega
theorem own_lt {i n : Nat} (h : i < n) (hn : n < 2147483648) : Int32.ofNat i < Int32.ofNat n := by
  rw [Int32.lt_iff_toInt_lt, own_nat (by omega), own_nat hn]; omega
theorem own_succ (i : Nat) : Int32.ofNat i + Int32.ofInt 1 = Int32.ofNat (i + 1) := by
  rw [Int32.ofNat_add]; rfl
theorem own_shl1 {i : Nat} (h : i < 1073741824) : Int32.ofNat i <<< ((1 : Int32) &&& 31) = Int32.ofNat (2 * i) := by
  apply Int32.toInt_inj.mp
  have q := c_ishl (Int32.ofNat i) 1 1 (by decide)
  rw [own_nat (by omega)] at q
  rw [own_nat (by omega)]
  have := rng32 (Int32.ofNat i <<< ((1 : Int32) &&& 31))
  omega
theorem own_i2b (x : Int32) : nar .byte (x.toInt8.toInt32) = x.toInt8.toInt32 := by
  show x.toInt8.toInt32.toInt8.toInt32 = x.toInt8.toInt32
  rw [Int8.toInt8_toInt32]
def own_lo (c : Int32) : Value := .int c.toInt8.toInt32
/-- the bytes of a compact String -/
def own_lat (cs : List Int32) : List Value := cs.map own_lo
theorem own_latlen (cs : List Int32) : (own_lat cs).length = cs.length := by simp [own_lat]
theorem own_getc (cs : List Int32) (i : Nat) : (cs.map Value.int).getD i (.int 0) = .int (cs.getD i 0) := by
  simp only [List.getD_eq_getElem?_getD, List.getElem?_map]
  cases cs[i]? <;> rfl
theorem own_getc' (cs : List Int32) {i : Nat} (h : i < 2147483648) : (cs.map Value.int).getD (Int32.ofNat i).toNatClampNeg (.int 0) = .int (cs.getD i 0) := by
  rw [own_clamp h]; exact own_getc cs i
theorem own_turn (cs : List Int32) (vs : List Value) (i : Nat) (hi : i < cs.length) (hv : vs.length = cs.length) : ((cs.take i).map own_lo ++ vs.drop i).set i (.int (cs.getD i 0).toInt8.toInt32) = (cs.take (i + 1)).map own_lo ++ vs.drop (i + 1) := by
  apply List.ext_getElem?
  intro j
  by_cases hj : j = i
  · subst hj
    have h1 : j < ((cs.take j).map own_lo ++ vs.drop j).length := by simp; omega
    rw [List.getElem?_set_self h1, List.getElem?_append_left (by simp; omega)]
    simp [hi, own_lo, List.getD_eq_getElem?_getD]
  · rw [List.getElem?_set_ne (by omega)]
    by_cases hlt : j < i
    · rw [List.getElem?_append_left (by simp; omega), List.getElem?_append_left (by simp; omega)]
      simp [hlt, show j < i + 1 by omega]
    · rw [List.getElem?_append_right (by simp; omega), List.getElem?_append_right (by simp; omega)]
      simp only [List.length_map, List.length_take, List.getElem?_drop]
      congr 1; omega
theorem own_store {x0 x1 x2 x3 x4 x5 s6 : Slot} {v : Int32} (h : One s6) (h5 : ∃ w : Int32, x5 = .val (.int w)) : storeLocals #[x0, x1, x2, x3, x4, x5, s6] 6 (.int v) = some #[x0, x1, x2, x3, x4, x5, .val (.int v)] := by
  obtain ⟨w5, rfl⟩ := h5
  rcases h with rfl | ⟨w, rfl, hw⟩
  · rfl
  · cases w <;> first | rfl | (simp [Value.category] at hw)
/-- the first place of a sign above 255, or the length -/
def own_fst : List Int32 → Nat
  | [] => 0
  | c :: cs => if 255 < c then 0 else own_fst cs + 1
theorem own_fst_le : ∀ cs : List Int32, own_fst cs ≤ cs.length
  | [] => Nat.le_refl _
  | c :: cs => by
    unfold own_fst; split
    · simp
    · have := own_fst_le cs; simp; omega
theorem own_fst_lo : ∀ (cs : List Int32) (i : Nat), i < own_fst cs → ¬ 255 < cs.getD i 0
  | [], i, h => by simp [own_fst] at h
  | c :: cs, i, h => by
    unfold own_fst at h; split at h
    · omega
    · rename_i hc
      cases i with
      | zero => simpa using hc
      | succ i => simpa using own_fst_lo cs i (by omega)
theorem own_fst_hi : ∀ (cs : List Int32), own_fst cs < cs.length → 255 < cs.getD (own_fst cs) 0
  | [], h => by simp at h
  | c :: cs, h => by
    unfold own_fst at h ⊢; split
    · rename_i hc; simpa using hc
    · rename_i hc
      rw [if_neg hc] at h
      simpa using own_fst_hi cs (by simpa using h)
theorem own_fst_all : ∀ (cs : List Int32), (∀ c ∈ cs, ¬ 255 < c) → own_fst cs = cs.length
  | [], _ => rfl
  | c :: cs, h => by
    unfold own_fst
    rw [if_neg (h c (by simp)), own_fst_all cs fun x hx => h x (by simp [hx])]; simp
theorem own_rng {Z : State} {h : Heap} {b : Addr} {kb : ClassId} {z : Int32} {cs : List Int32} (A : Arv Z h b kb .char z (cs.map Value.int) (.int 0)) (hz : z = Int32.ofNat cs.length) (hn : cs.length < 2147483648) : ∀ i, i < cs.length → ¬ cs.getD i 0 < 0 ∧ ¬ 65535 < cs.getD i 0 := by
  intro i hi
  obtain ⟨cl, -, -, S, -, -, Gq⟩ := A
  have q := Gq i (by rw [S, hz, own_clamp hn]; exact hi)
  rw [own_getc] at q
  exact rng_char q
theorem own_and255 (x : Int32) : ¬ 255 < x &&& 255 := by
  have q := (c_and x 255 (by decide)).2
  rw [Int32.lt_iff_toInt_lt]; show ¬ ((255 : Int) < _); exact Int.not_lt.mpr q
theorem own_al0 : ∀ c ∈ ([] : List Int32), ¬ 255 < c := fun _ q => nomatch q
theorem own_alS {c : Int32} {L : List Int32} (q : ¬ 255 < c) (r : ∀ x ∈ L, ¬ 255 < x) : ∀ x ∈ c :: L, ¬ 255 < x := fun x z => (List.mem_cons.mp z).elim (fun u => u ▸ q) (r x)
def own_hi (c : Int32) : Value := .int (c >>> ((8 : Int32) &&& 31)).toInt8.toInt32
/-- the bytes of a String that is not compact -/
def own_u16 : List Int32 → List Value
  | [] => []
  | c :: cs => own_lo c :: own_hi c :: own_u16 cs
theorem own_u16len : ∀ cs : List Int32, (own_u16 cs).length = 2 * cs.length
  | [] => rfl
  | c :: cs => by simp [own_u16, own_u16len cs]; omega
theorem own_u16lo : ∀ (cs : List Int32) (j : Nat) (d : Value), j < cs.length → (own_u16 cs).getD (2 * j) d = own_lo (cs.getD j 0)
  | [], j, d, h => by simp at h
  | c :: cs, 0, d, h => by simp [own_u16]
  | c :: cs, j + 1, d, h => by
    have e : 2 * (j + 1) = 2 * j + 1 + 1 := by omega
    rw [e]; simpa [own_u16] using own_u16lo cs j d (by simpa using h)
theorem own_u16hi : ∀ (cs : List Int32) (j : Nat) (d : Value), j < cs.length → (own_u16 cs).getD (2 * j + 1) d = own_hi (cs.getD j 0)
  | [], j, d, h => by simp at h
  | c :: cs, 0, d, h => by simp [own_u16]
  | c :: cs, j + 1, d, h => by
    have e : 2 * (j + 1) + 1 = 2 * j + 1 + 1 + 1 := by omega
    rw [e]; simpa [own_u16] using own_u16hi cs j d (by simpa using h)
theorem own_u16turn : ∀ (cs : List Int32) (i : Nat), i < cs.length → ((own_u16 (cs.take i) ++ List.replicate (2 * (cs.length - i)) (Value.int (0 : Int32))).set (2 * i) (own_lo (cs.getD i 0))).set (2 * i + 1) (own_hi (cs.getD i 0)) = own_u16 (cs.take (i + 1)) ++ List.replicate (2 * (cs.length - (i + 1))) (Value.int (0 : Int32))
  | [], i, h => by simp at h
  | c :: cs, 0, h => by
    have e : 2 * ((c :: cs).length - 0) = 2 * cs.length + 1 + 1 := by simp; omega
    rw [e]; simp [own_u16, List.replicate_succ]
  | c :: cs, i + 1, h => by
    have e : 2 * (i + 1) = 2 * i + 1 + 1 := by omega
    have e2 : (c :: cs).length - (i + 1) = cs.length - i := by simp
    have e3 : (c :: cs).length - (i + 1 + 1) = cs.length - (i + 1) := by simp
    have q := own_u16turn cs i (by simpa using h)
    rw [e, e2, e3]
    simpa [own_u16] using q
theorem own_u16l (cs : List Int32) (i : Nat) (h : i ≤ cs.length) : (own_u16 (cs.take i) ++ List.replicate (2 * (cs.length - i)) (Value.int (0 : Int32))).length = 2 * cs.length := by
  rw [List.length_append, own_u16len, List.length_take, List.length_replicate, Nat.min_eq_left h]; omega
theorem own_shr0 (x : Int32) : x >>> ((0 : Int32) &&& 31) = x := by
  apply Int32.toInt_inj.mp
  rw [c_ishr x 0 0 (by decide)]; simp
theorem own_shl0 (x : Int32) : x <<< ((0 : Int32) &&& 31) = x := by
  apply Int32.toInt_inj.mp
  have q := c_ishl x 0 0 (by decide)
  have h1 := rng32 x; have h2 := rng32 (x <<< ((0 : Int32) &&& 31))
  omega
theorem own_join {c : Int32} (h0 : ¬ c < 0) (h1 : ¬ 65535 < c) : (((c.toInt8.toInt32 &&& 255) ||| (((c >>> ((8 : Int32) &&& 31)).toInt8.toInt32 &&& 255) <<< ((8 : Int32) &&& 31))).toUInt32.toUInt16.toUInt32.toInt32) = c := by
  have k0 : 0 ≤ c.toInt := by rw [Int32.lt_iff_toInt_lt] at h0; exact Int.not_lt.mp h0
  have k1 : c.toInt ≤ 65535 := by rw [Int32.lt_iff_toInt_lt] at h1; exact Int.not_lt.mp h1
  have a1 := c_i2b c
  have a2 := c_mask c.toInt8.toInt32 255 8 (by decide) (by decide)
  have b0 := c_ishr c 8 8 (by decide)
  have b1 := c_i2b (c >>> ((8 : Int32) &&& 31))
  have b2 := c_mask (c >>> ((8 : Int32) &&& 31)).toInt8.toInt32 255 8 (by decide) (by decide)
  generalize (c >>> ((8 : Int32) &&& 31)).toInt8.toInt32 = y at b1 b2 ⊢
  generalize c.toInt8.toInt32 = x at a1 a2 ⊢
  have b3 := c_ishl (y &&& 255) 8 8 (by decide)
  have r3 := rng32 ((y &&& 255) <<< ((8 : Int32) &&& 31))
  have v3 : ((y &&& 255) <<< ((8 : Int32) &&& 31)).toInt = (y &&& 255).toInt * 256 := by omega
  have o := c_or' (x &&& 255) ((y &&& 255) <<< ((8 : Int32) &&& 31)) 8 (by decide) 256 (by decide) (by rw [v3]; omega) (by omega) (by omega)
  have r4 := rng32 ((x &&& 255) ||| ((y &&& 255) <<< ((8 : Int32) &&& 31)))
  have f := c_i2c ((x &&& 255) ||| ((y &&& 255) <<< ((8 : Int32) &&& 31)))
  apply Int32.toInt_inj.mp
  omega
theorem own_neg31 {n : Nat} (h0 : 0 < n) (h1 : n < 1073741824) : (((Int32.ofNat n - Int32.ofNat (2 * n)).toUInt32 >>> ((31 : Int32) &&& 31).toUInt32).toInt32) = 1 := by
  apply Int32.toInt_inj.mp
  rw [c_iushr _ 31 31 (by decide) (by decide)]
  have q := c_isub (Int32.ofNat n) (Int32.ofNat (2 * n))
  rw [own_nat (by omega), own_nat (by omega)] at q
  have r := rng32 (Int32.ofNat n - Int32.ofNat (2 * n))
  show _ = (1 : Int)
  omega
/-- what a String of these signs holds -/
def own_cod (cs : List Int32) (cd zz : Int32) (bs : List Value) : Prop := (own_fst cs = cs.length ∧ cd = 0 ∧ zz = Int32.ofNat cs.length ∧ bs = own_lat cs) ∨ (own_fst cs < cs.length ∧ cd = 1 ∧ zz = Int32.ofNat (2 * cs.length) ∧ bs = own_u16 cs)
theorem own_all_of_fst {cs : List Int32} (h : own_fst cs = cs.length) : ∀ c ∈ cs, ¬ 255 < c := fun c hc => by
  obtain ⟨i, hi, e⟩ := List.getElem_of_mem hc
  have q := own_fst_lo cs i (by omega)
  rw [List.getD_eq_getElem?_getD, List.getElem?_eq_getElem hi] at q
  rw [← e]; simpa using q
theorem own_i2c_id {c : Int32} (h0 : ¬ c < 0) (h1 : ¬ 65535 < c) : nar .char c = c := by
  have k0 : 0 ≤ c.toInt := by rw [Int32.lt_iff_toInt_lt] at h0; exact Int.not_lt.mp h0
  have k1 : c.toInt ≤ 65535 := by rw [Int32.lt_iff_toInt_lt] at h1; exact Int.not_lt.mp h1
  have f := c_i2c c
  apply Int32.toInt_inj.mp
  show (c.toUInt32.toUInt16.toUInt32.toInt32).toInt = _
  omega
theorem d_jdk_30_1_0 : decode jdk_30_method_1_code 0 = .ok (.aload_n 0, 1) := by decide +kernel
theorem d_jdk_30_1_1 : decode jdk_30_method_1_code 1 = .ok (.invokespecial 1, 3) := by decide +kernel
theorem d_jdk_30_1_4 : decode jdk_30_method_1_code 4 = .ok (.return_, 1) := by decide +kernel
theorem d_jdk_42_149_0 : decode jdk_42_method_149_code 0 = .ok (.aload_n 0, 1) := by decide +kernel
theorem d_jdk_42_149_1 : decode jdk_42_method_149_code 1 = .ok (.invokespecial 1, 3) := by decide +kernel
theorem d_jdk_42_149_4 : decode jdk_42_method_149_code 4 = .ok (.iload_n 3, 1) := by decide +kernel
theorem d_jdk_42_149_5 : decode jdk_42_method_149_code 5 = .ok (.ifCond .ne 22, 3) := by decide +kernel
theorem d_jdk_42_149_27 : decode jdk_42_method_149_code 27 = .ok (.getstatic 38, 3) := by decide +kernel
theorem d_jdk_42_149_30 : decode jdk_42_method_149_code 30 = .ok (.ifCond .eq 28, 3) := by decide +kernel
theorem d_jdk_42_149_33 : decode jdk_42_method_149_code 33 = .ok (.aload_n 1, 1) := by decide +kernel
theorem d_jdk_42_149_34 : decode jdk_42_method_149_code 34 = .ok (.iload_n 2, 1) := by decide +kernel
theorem d_jdk_42_149_35 : decode jdk_42_method_149_code 35 = .ok (.iload_n 3, 1) := by decide +kernel
theorem d_jdk_42_149_36 : decode jdk_42_method_149_code 36 = .ok (.invokestatic 177, 3) := by decide +kernel
theorem d_jdk_42_149_39 : decode jdk_42_method_149_code 39 = .ok (.astore 5, 2) := by decide +kernel
theorem d_jdk_42_149_41 : decode jdk_42_method_149_code 41 = .ok (.aload_n 0, 1) := by decide +kernel
theorem d_jdk_42_149_42 : decode jdk_42_method_149_code 42 = .ok (.aload 5, 2) := by decide +kernel
theorem d_jdk_42_149_44 : decode jdk_42_method_149_code 44 = .ok (.iload_n 3, 1) := by decide +kernel
theorem d_jdk_42_149_45 : decode jdk_42_method_149_code 45 = .ok (.invokestatic 47, 3) := by decide +kernel
theorem d_jdk_42_149_48 : decode jdk_42_method_149_code 48 = .ok (.putfield 15, 3) := by decide +kernel
theorem d_jdk_42_149_51 : decode jdk_42_method_149_code 51 = .ok (.aload_n 0, 1) := by decide +kernel
theorem d_jdk_42_149_52 : decode jdk_42_method_149_code 52 = .ok (.aload 5, 2) := by decide +kernel
theorem d_jdk_42_149_54 : decode jdk_42_method_149_code 54 = .ok (.putfield 9, 3) := by decide +kernel
theorem d_jdk_42_149_57 : decode jdk_42_method_149_code 57 = .ok (.return_, 1) := by decide +kernel
theorem d_jdk_42_3_0 : decode jdk_42_method_3_code 0 = .ok (.aload_n 0, 1) := by decide +kernel
theorem d_jdk_42_3_1 : decode jdk_42_method_3_code 1 = .ok (.aload_n 1, 1) := by decide +kernel
theorem d_jdk_42_3_2 : decode jdk_42_method_3_code 2 = .ok (.iconst 0, 1) := by decide +kernel
theorem d_jdk_42_3_3 : decode jdk_42_method_3_code 3 = .ok (.aload_n 1, 1) := by decide +kernel
theorem d_jdk_42_3_4 : decode jdk_42_method_3_code 4 = .ok (.arraylength, 1) := by decide +kernel
theorem d_jdk_42_3_5 : decode jdk_42_method_3_code 5 = .ok (.aconst_null, 1) := by decide +kernel
theorem d_jdk_42_3_6 : decode jdk_42_method_3_code 6 = .ok (.invokespecial 27, 3) := by decide +kernel
theorem d_jdk_42_3_9 : decode jdk_42_method_3_code 9 = .ok (.return_, 1) := by decide +kernel
theorem d_jdk_52_14_0 : decode jdk_52_method_14_code 0 = .ok (.iload_n 2, 1) := by decide +kernel
theorem d_jdk_52_14_1 : decode jdk_52_method_14_code 1 = .ok (.invokestatic 107, 3) := by decide +kernel
theorem d_jdk_52_14_4 : decode jdk_52_method_14_code 4 = .ok (.astore_n 3, 1) := by decide +kernel
theorem d_jdk_52_14_5 : decode jdk_52_method_14_code 5 = .ok (.iconst 0, 1) := by decide +kernel
theorem d_jdk_52_14_6 : decode jdk_52_method_14_code 6 = .ok (.istore 4, 2) := by decide +kernel
theorem d_jdk_52_14_8 : decode jdk_52_method_14_code 8 = .ok (.iload 4, 2) := by decide +kernel
theorem d_jdk_52_14_10 : decode jdk_52_method_14_code 10 = .ok (.iload_n 2, 1) := by decide +kernel
theorem d_jdk_52_14_11 : decode jdk_52_method_14_code 11 = .ok (.if_icmp .ge 21, 3) := by decide +kernel
theorem d_jdk_52_14_14 : decode jdk_52_method_14_code 14 = .ok (.aload_n 3, 1) := by decide +kernel
theorem d_jdk_52_14_15 : decode jdk_52_method_14_code 15 = .ok (.iload 4, 2) := by decide +kernel
theorem d_jdk_52_14_17 : decode jdk_52_method_14_code 17 = .ok (.aload_n 0, 1) := by decide +kernel
theorem d_jdk_52_14_18 : decode jdk_52_method_14_code 18 = .ok (.iload_n 1, 1) := by decide +kernel
theorem d_jdk_52_14_19 : decode jdk_52_method_14_code 19 = .ok (.caload, 1) := by decide +kernel
theorem d_jdk_52_14_20 : decode jdk_52_method_14_code 20 = .ok (.invokestatic 111, 3) := by decide +kernel
theorem d_jdk_52_14_23 : decode jdk_52_method_14_code 23 = .ok (.iinc 1 1, 3) := by decide +kernel
theorem d_jdk_52_14_26 : decode jdk_52_method_14_code 26 = .ok (.iinc 4 1, 3) := by decide +kernel
theorem d_jdk_52_14_29 : decode jdk_52_method_14_code 29 = .ok (.goto (-21), 3) := by decide +kernel
theorem d_jdk_52_14_32 : decode jdk_52_method_14_code 32 = .ok (.aload_n 3, 1) := by decide +kernel
theorem d_jdk_52_14_33 : decode jdk_52_method_14_code 33 = .ok (.areturn, 1) := by decide +kernel
theorem d_jdk_52_15_0 : decode jdk_52_method_15_code 0 = .ok (.iload_n 1, 1) := by decide +kernel
theorem d_jdk_52_15_1 : decode jdk_52_method_15_code 1 = .ok (.aload_n 0, 1) := by decide +kernel
theorem d_jdk_52_15_2 : decode jdk_52_method_15_code 2 = .ok (.arraylength, 1) := by decide +kernel
theorem d_jdk_52_15_3 : decode jdk_52_method_15_code 3 = .ok (.isub, 1) := by decide +kernel
theorem d_jdk_52_15_4 : decode jdk_52_method_15_code 4 = .ok (.bipush 31, 2) := by decide +kernel
theorem d_jdk_52_15_6 : decode jdk_52_method_15_code 6 = .ok (.iushr, 1) := by decide +kernel
theorem d_jdk_52_15_7 : decode jdk_52_method_15_code 7 = .ok (.i2b, 1) := by decide +kernel
theorem d_jdk_52_15_8 : decode jdk_52_method_15_code 8 = .ok (.ireturn, 1) := by decide +kernel
theorem d_jdk_52_16_0 : decode jdk_52_method_16_code 0 = .ok (.iload_n 2, 1) := by decide +kernel
theorem d_jdk_52_16_1 : decode jdk_52_method_16_code 1 = .ok (.newarray .byte, 2) := by decide +kernel
theorem d_jdk_52_16_3 : decode jdk_52_method_16_code 3 = .ok (.astore_n 3, 1) := by decide +kernel
theorem d_jdk_52_16_4 : decode jdk_52_method_16_code 4 = .ok (.aload_n 0, 1) := by decide +kernel
theorem d_jdk_52_16_5 : decode jdk_52_method_16_code 5 = .ok (.iload_n 1, 1) := by decide +kernel
theorem d_jdk_52_16_6 : decode jdk_52_method_16_code 6 = .ok (.aload_n 3, 1) := by decide +kernel
theorem d_jdk_52_16_7 : decode jdk_52_method_16_code 7 = .ok (.iconst 0, 1) := by decide +kernel
theorem d_jdk_52_16_8 : decode jdk_52_method_16_code 8 = .ok (.iload_n 2, 1) := by decide +kernel
theorem d_jdk_52_16_9 : decode jdk_52_method_16_code 9 = .ok (.invokestatic 115, 3) := by decide +kernel
theorem d_jdk_52_16_12 : decode jdk_52_method_16_code 12 = .ok (.istore 4, 2) := by decide +kernel
theorem d_jdk_52_16_14 : decode jdk_52_method_16_code 14 = .ok (.iload 4, 2) := by decide +kernel
theorem d_jdk_52_16_16 : decode jdk_52_method_16_code 16 = .ok (.iload_n 2, 1) := by decide +kernel
theorem d_jdk_52_16_17 : decode jdk_52_method_16_code 17 = .ok (.if_icmp .eq 40, 3) := by decide +kernel
theorem d_jdk_52_16_20 : decode jdk_52_method_16_code 20 = .ok (.aload_n 0, 1) := by decide +kernel
theorem d_jdk_52_16_21 : decode jdk_52_method_16_code 21 = .ok (.iload_n 1, 1) := by decide +kernel
theorem d_jdk_52_16_22 : decode jdk_52_method_16_code 22 = .ok (.iload_n 2, 1) := by decide +kernel
theorem d_jdk_52_16_23 : decode jdk_52_method_16_code 23 = .ok (.invokestatic 119, 3) := by decide +kernel
theorem d_jdk_52_16_26 : decode jdk_52_method_16_code 26 = .ok (.astore 5, 2) := by decide +kernel
theorem d_jdk_52_16_28 : decode jdk_52_method_16_code 28 = .ok (.aload 5, 2) := by decide +kernel
theorem d_jdk_52_16_30 : decode jdk_52_method_16_code 30 = .ok (.iload 4, 2) := by decide +kernel
theorem d_jdk_52_16_32 : decode jdk_52_method_16_code 32 = .ok (.invokestatic 71, 3) := by decide +kernel
theorem d_jdk_52_16_35 : decode jdk_52_method_16_code 35 = .ok (.sipush 255, 3) := by decide +kernel
theorem d_jdk_52_16_38 : decode jdk_52_method_16_code 38 = .ok (.if_icmp .gt 16, 3) := by decide +kernel
theorem d_jdk_52_16_54 : decode jdk_52_method_16_code 54 = .ok (.aload 5, 2) := by decide +kernel
theorem d_jdk_52_16_56 : decode jdk_52_method_16_code 56 = .ok (.areturn, 1) := by decide +kernel
theorem d_jdk_52_16_57 : decode jdk_52_method_16_code 57 = .ok (.aload_n 3, 1) := by decide +kernel
theorem d_jdk_52_16_58 : decode jdk_52_method_16_code 58 = .ok (.areturn, 1) := by decide +kernel
theorem d_jdk_52_21_0 : decode jdk_52_method_21_code 0 = .ok (.iconst 0, 1) := by decide +kernel
theorem d_jdk_52_21_1 : decode jdk_52_method_21_code 1 = .ok (.istore 5, 2) := by decide +kernel
theorem d_jdk_52_21_3 : decode jdk_52_method_21_code 3 = .ok (.iload 5, 2) := by decide +kernel
theorem d_jdk_52_21_5 : decode jdk_52_method_21_code 5 = .ok (.iload 4, 2) := by decide +kernel
theorem d_jdk_52_21_7 : decode jdk_52_method_21_code 7 = .ok (.if_icmp .ge 37, 3) := by decide +kernel
theorem d_jdk_52_21_10 : decode jdk_52_method_21_code 10 = .ok (.aload_n 0, 1) := by decide +kernel
theorem d_jdk_52_21_11 : decode jdk_52_method_21_code 11 = .ok (.iload_n 1, 1) := by decide +kernel
theorem d_jdk_52_21_12 : decode jdk_52_method_21_code 12 = .ok (.caload, 1) := by decide +kernel
theorem d_jdk_52_21_13 : decode jdk_52_method_21_code 13 = .ok (.istore 6, 2) := by decide +kernel
theorem d_jdk_52_21_15 : decode jdk_52_method_21_code 15 = .ok (.iload 6, 2) := by decide +kernel
theorem d_jdk_52_21_17 : decode jdk_52_method_21_code 17 = .ok (.sipush 255, 3) := by decide +kernel
theorem d_jdk_52_21_20 : decode jdk_52_method_21_code 20 = .ok (.if_icmp .le 6, 3) := by decide +kernel
theorem d_jdk_52_21_23 : decode jdk_52_method_21_code 23 = .ok (.iload 5, 2) := by decide +kernel
theorem d_jdk_52_21_25 : decode jdk_52_method_21_code 25 = .ok (.ireturn, 1) := by decide +kernel
theorem d_jdk_52_21_26 : decode jdk_52_method_21_code 26 = .ok (.aload_n 2, 1) := by decide +kernel
theorem d_jdk_52_21_27 : decode jdk_52_method_21_code 27 = .ok (.iload_n 3, 1) := by decide +kernel
theorem d_jdk_52_21_28 : decode jdk_52_method_21_code 28 = .ok (.iload 6, 2) := by decide +kernel
theorem d_jdk_52_21_30 : decode jdk_52_method_21_code 30 = .ok (.i2b, 1) := by decide +kernel
theorem d_jdk_52_21_31 : decode jdk_52_method_21_code 31 = .ok (.bastore, 1) := by decide +kernel
theorem d_jdk_52_21_32 : decode jdk_52_method_21_code 32 = .ok (.iinc 1 1, 3) := by decide +kernel
theorem d_jdk_52_21_35 : decode jdk_52_method_21_code 35 = .ok (.iinc 3 1, 3) := by decide +kernel
theorem d_jdk_52_21_38 : decode jdk_52_method_21_code 38 = .ok (.iinc 5 1, 3) := by decide +kernel
theorem d_jdk_52_21_41 : decode jdk_52_method_21_code 41 = .ok (.goto (-38), 3) := by decide +kernel
theorem d_jdk_52_21_44 : decode jdk_52_method_21_code 44 = .ok (.iload 4, 2) := by decide +kernel
theorem d_jdk_52_21_46 : decode jdk_52_method_21_code 46 = .ok (.ireturn, 1) := by decide +kernel
theorem d_jdk_52_2_0 : decode jdk_52_method_2_code 0 = .ok (.iload_n 0, 1) := by decide +kernel
theorem d_jdk_52_2_1 : decode jdk_52_method_2_code 1 = .ok (.invokestatic 11, 3) := by decide +kernel
theorem d_jdk_52_2_4 : decode jdk_52_method_2_code 4 = .ok (.newarray .byte, 2) := by decide +kernel
theorem d_jdk_52_2_6 : decode jdk_52_method_2_code 6 = .ok (.areturn, 1) := by decide +kernel
theorem d_jdk_52_3_0 : decode jdk_52_method_3_code 0 = .ok (.iload_n 0, 1) := by decide +kernel
theorem d_jdk_52_3_1 : decode jdk_52_method_3_code 1 = .ok (.ifCond .ge 11, 3) := by decide +kernel
theorem d_jdk_52_3_12 : decode jdk_52_method_3_code 12 = .ok (.iload_n 0, 1) := by decide +kernel
theorem d_jdk_52_3_13 : decode jdk_52_method_3_code 13 = .ok (.ldc 20, 2) := by decide +kernel
theorem d_jdk_52_3_15 : decode jdk_52_method_3_code 15 = .ok (.if_icmp .lt 40, 3) := by decide +kernel
theorem d_jdk_52_3_55 : decode jdk_52_method_3_code 55 = .ok (.iload_n 0, 1) := by decide +kernel
theorem d_jdk_52_3_56 : decode jdk_52_method_3_code 56 = .ok (.iconst 1, 1) := by decide +kernel
theorem d_jdk_52_3_57 : decode jdk_52_method_3_code 57 = .ok (.ishl, 1) := by decide +kernel
theorem d_jdk_52_3_58 : decode jdk_52_method_3_code 58 = .ok (.ireturn, 1) := by decide +kernel
theorem d_jdk_52_4_0 : decode jdk_52_method_4_code 0 = .ok (.getstatic 44, 3) := by decide +kernel
theorem d_jdk_52_4_3 : decode jdk_52_method_4_code 3 = .ok (.ifCond .ne 25, 3) := by decide +kernel
theorem d_jdk_52_4_28 : decode jdk_52_method_4_code 28 = .ok (.iload_n 1, 1) := by decide +kernel
theorem d_jdk_52_4_29 : decode jdk_52_method_4_code 29 = .ok (.iconst 1, 1) := by decide +kernel
theorem d_jdk_52_4_30 : decode jdk_52_method_4_code 30 = .ok (.ishl, 1) := by decide +kernel
theorem d_jdk_52_4_31 : decode jdk_52_method_4_code 31 = .ok (.istore_n 1, 1) := by decide +kernel
theorem d_jdk_52_4_32 : decode jdk_52_method_4_code 32 = .ok (.aload_n 0, 1) := by decide +kernel
theorem d_jdk_52_4_33 : decode jdk_52_method_4_code 33 = .ok (.iload_n 1, 1) := by decide +kernel
theorem d_jdk_52_4_34 : decode jdk_52_method_4_code 34 = .ok (.iinc 1 1, 3) := by decide +kernel
theorem d_jdk_52_4_37 : decode jdk_52_method_4_code 37 = .ok (.iload_n 2, 1) := by decide +kernel
theorem d_jdk_52_4_38 : decode jdk_52_method_4_code 38 = .ok (.getstatic 59, 3) := by decide +kernel
theorem d_jdk_52_4_41 : decode jdk_52_method_4_code 41 = .ok (.ishr, 1) := by decide +kernel
theorem d_jdk_52_4_42 : decode jdk_52_method_4_code 42 = .ok (.i2b, 1) := by decide +kernel
theorem d_jdk_52_4_43 : decode jdk_52_method_4_code 43 = .ok (.bastore, 1) := by decide +kernel
theorem d_jdk_52_4_44 : decode jdk_52_method_4_code 44 = .ok (.aload_n 0, 1) := by decide +kernel
theorem d_jdk_52_4_45 : decode jdk_52_method_4_code 45 = .ok (.iload_n 1, 1) := by decide +kernel
theorem d_jdk_52_4_46 : decode jdk_52_method_4_code 46 = .ok (.iload_n 2, 1) := by decide +kernel
theorem d_jdk_52_4_47 : decode jdk_52_method_4_code 47 = .ok (.getstatic 63, 3) := by decide +kernel
theorem d_jdk_52_4_50 : decode jdk_52_method_4_code 50 = .ok (.ishr, 1) := by decide +kernel
theorem d_jdk_52_4_51 : decode jdk_52_method_4_code 51 = .ok (.i2b, 1) := by decide +kernel
theorem d_jdk_52_4_52 : decode jdk_52_method_4_code 52 = .ok (.bastore, 1) := by decide +kernel
theorem d_jdk_52_4_53 : decode jdk_52_method_4_code 53 = .ok (.return_, 1) := by decide +kernel
theorem d_jdk_52_5_0 : decode jdk_52_method_5_code 0 = .ok (.getstatic 44, 3) := by decide +kernel
theorem d_jdk_52_5_3 : decode jdk_52_method_5_code 3 = .ok (.ifCond .ne 25, 3) := by decide +kernel
theorem d_jdk_52_5_28 : decode jdk_52_method_5_code 28 = .ok (.iload_n 1, 1) := by decide +kernel
theorem d_jdk_52_5_29 : decode jdk_52_method_5_code 29 = .ok (.iconst 1, 1) := by decide +kernel
theorem d_jdk_52_5_30 : decode jdk_52_method_5_code 30 = .ok (.ishl, 1) := by decide +kernel
theorem d_jdk_52_5_31 : decode jdk_52_method_5_code 31 = .ok (.istore_n 1, 1) := by decide +kernel
theorem d_jdk_52_5_32 : decode jdk_52_method_5_code 32 = .ok (.aload_n 0, 1) := by decide +kernel
theorem d_jdk_52_5_33 : decode jdk_52_method_5_code 33 = .ok (.iload_n 1, 1) := by decide +kernel
theorem d_jdk_52_5_34 : decode jdk_52_method_5_code 34 = .ok (.iinc 1 1, 3) := by decide +kernel
theorem d_jdk_52_5_37 : decode jdk_52_method_5_code 37 = .ok (.baload, 1) := by decide +kernel
theorem d_jdk_52_5_38 : decode jdk_52_method_5_code 38 = .ok (.sipush 255, 3) := by decide +kernel
theorem d_jdk_52_5_41 : decode jdk_52_method_5_code 41 = .ok (.iand, 1) := by decide +kernel
theorem d_jdk_52_5_42 : decode jdk_52_method_5_code 42 = .ok (.getstatic 59, 3) := by decide +kernel
theorem d_jdk_52_5_45 : decode jdk_52_method_5_code 45 = .ok (.ishl, 1) := by decide +kernel
theorem d_jdk_52_5_46 : decode jdk_52_method_5_code 46 = .ok (.aload_n 0, 1) := by decide +kernel
theorem d_jdk_52_5_47 : decode jdk_52_method_5_code 47 = .ok (.iload_n 1, 1) := by decide +kernel
theorem d_jdk_52_5_48 : decode jdk_52_method_5_code 48 = .ok (.baload, 1) := by decide +kernel
theorem d_jdk_52_5_49 : decode jdk_52_method_5_code 49 = .ok (.sipush 255, 3) := by decide +kernel
theorem d_jdk_52_5_52 : decode jdk_52_method_5_code 52 = .ok (.iand, 1) := by decide +kernel
theorem d_jdk_52_5_53 : decode jdk_52_method_5_code 53 = .ok (.getstatic 63, 3) := by decide +kernel
theorem d_jdk_52_5_56 : decode jdk_52_method_5_code 56 = .ok (.ishl, 1) := by decide +kernel
theorem d_jdk_52_5_57 : decode jdk_52_method_5_code 57 = .ok (.ior, 1) := by decide +kernel
theorem d_jdk_52_5_58 : decode jdk_52_method_5_code 58 = .ok (.i2c, 1) := by decide +kernel
theorem d_jdk_52_5_59 : decode jdk_52_method_5_code 59 = .ok (.ireturn, 1) := by decide +kernel
theorem d_2_0 : decode method_2_code 0 = .ok (.iload_n 0, 1) := by decide +kernel
theorem d_2_1 : decode method_2_code 1 = .ok (.ifCond .ne 5, 3) := by decide +kernel
theorem d_2_4 : decode method_2_code 4 = .ok (.aconst_null, 1) := by decide +kernel
theorem d_2_5 : decode method_2_code 5 = .ok (.areturn, 1) := by decide +kernel
theorem d_2_6 : decode method_2_code 6 = .ok (.iload_n 0, 1) := by decide +kernel
theorem d_2_7 : decode method_2_code 7 = .ok (.iconst 1, 1) := by decide +kernel
theorem d_2_8 : decode method_2_code 8 = .ok (.if_icmp .ne 6, 3) := by decide +kernel
theorem d_2_11 : decode method_2_code 11 = .ok (.ldc 7, 2) := by decide +kernel
theorem d_2_13 : decode method_2_code 13 = .ok (.areturn, 1) := by decide +kernel
theorem d_2_14 : decode method_2_code 14 = .ok (.iload_n 0, 1) := by decide +kernel
theorem d_2_15 : decode method_2_code 15 = .ok (.iconst 2, 1) := by decide +kernel
theorem d_2_16 : decode method_2_code 16 = .ok (.if_icmp .ne 24, 3) := by decide +kernel
theorem d_2_19 : decode method_2_code 19 = .ok (.iconst 1, 1) := by decide +kernel
theorem d_2_20 : decode method_2_code 20 = .ok (.newarray .char, 2) := by decide +kernel
theorem d_2_22 : decode method_2_code 22 = .ok (.astore_n 3, 1) := by decide +kernel
theorem d_2_23 : decode method_2_code 23 = .ok (.aload_n 3, 1) := by decide +kernel
theorem d_2_24 : decode method_2_code 24 = .ok (.iconst 0, 1) := by decide +kernel
theorem d_2_25 : decode method_2_code 25 = .ok (.iload_n 1, 1) := by decide +kernel
theorem d_2_26 : decode method_2_code 26 = .ok (.ldc 9, 2) := by decide +kernel
theorem d_2_28 : decode method_2_code 28 = .ok (.iand, 1) := by decide +kernel
theorem d_2_29 : decode method_2_code 29 = .ok (.i2c, 1) := by decide +kernel
theorem d_2_30 : decode method_2_code 30 = .ok (.castore, 1) := by decide +kernel
theorem d_2_31 : decode method_2_code 31 = .ok (.new 10, 3) := by decide +kernel
theorem d_2_34 : decode method_2_code 34 = .ok (.dup, 1) := by decide +kernel
theorem d_2_35 : decode method_2_code 35 = .ok (.aload_n 3, 1) := by decide +kernel
theorem d_2_36 : decode method_2_code 36 = .ok (.invokespecial 12, 3) := by decide +kernel
theorem d_2_39 : decode method_2_code 39 = .ok (.areturn, 1) := by decide +kernel
theorem d_2_40 : decode method_2_code 40 = .ok (.iconst 2, 1) := by decide +kernel
theorem d_2_41 : decode method_2_code 41 = .ok (.newarray .char, 2) := by decide +kernel
theorem d_2_43 : decode method_2_code 43 = .ok (.astore_n 3, 1) := by decide +kernel
theorem d_2_44 : decode method_2_code 44 = .ok (.aload_n 3, 1) := by decide +kernel
theorem d_2_45 : decode method_2_code 45 = .ok (.iconst 0, 1) := by decide +kernel
theorem d_2_46 : decode method_2_code 46 = .ok (.iload_n 1, 1) := by decide +kernel
theorem d_2_47 : decode method_2_code 47 = .ok (.ldc 9, 2) := by decide +kernel
theorem d_2_49 : decode method_2_code 49 = .ok (.iand, 1) := by decide +kernel
theorem d_2_50 : decode method_2_code 50 = .ok (.i2c, 1) := by decide +kernel
theorem d_2_51 : decode method_2_code 51 = .ok (.castore, 1) := by decide +kernel
theorem d_2_52 : decode method_2_code 52 = .ok (.aload_n 3, 1) := by decide +kernel
theorem d_2_53 : decode method_2_code 53 = .ok (.iconst 1, 1) := by decide +kernel
theorem d_2_54 : decode method_2_code 54 = .ok (.iload_n 2, 1) := by decide +kernel
theorem d_2_55 : decode method_2_code 55 = .ok (.ldc 9, 2) := by decide +kernel
theorem d_2_57 : decode method_2_code 57 = .ok (.iand, 1) := by decide +kernel
theorem d_2_58 : decode method_2_code 58 = .ok (.i2c, 1) := by decide +kernel
theorem d_2_59 : decode method_2_code 59 = .ok (.castore, 1) := by decide +kernel
theorem d_2_60 : decode method_2_code 60 = .ok (.new 10, 3) := by decide +kernel
theorem d_2_63 : decode method_2_code 63 = .ok (.dup, 1) := by decide +kernel
theorem d_2_64 : decode method_2_code 64 = .ok (.aload_n 3, 1) := by decide +kernel
theorem d_2_65 : decode method_2_code 65 = .ok (.invokespecial 12, 3) := by decide +kernel
theorem d_2_68 : decode method_2_code 68 = .ok (.areturn, 1) := by decide +kernel
theorem d_prog_33_1_0 : decode prog_33_method_1_code 0 = .ok (.aload_n 0, 1) := by decide +kernel
theorem d_prog_33_1_1 : decode prog_33_method_1_code 1 = .ok (.invokespecial 1, 3) := by decide +kernel
theorem d_prog_33_1_4 : decode prog_33_method_1_code 4 = .ok (.aload_n 0, 1) := by decide +kernel
theorem d_prog_33_1_5 : decode prog_33_method_1_code 5 = .ok (.aload_n 1, 1) := by decide +kernel
theorem d_prog_33_1_6 : decode prog_33_method_1_code 6 = .ok (.putfield 7, 3) := by decide +kernel
theorem d_prog_33_1_9 : decode prog_33_method_1_code 9 = .ok (.aload_n 0, 1) := by decide +kernel
theorem d_prog_33_1_10 : decode prog_33_method_1_code 10 = .ok (.aload_n 2, 1) := by decide +kernel
theorem d_prog_33_1_11 : decode prog_33_method_1_code 11 = .ok (.putfield 13, 3) := by decide +kernel
theorem d_prog_33_1_14 : decode prog_33_method_1_code 14 = .ok (.return_, 1) := by decide +kernel
theorem d_prog_33_2_0 : decode prog_33_method_2_code 0 = .ok (.aload_n 0, 1) := by decide +kernel
theorem d_prog_33_2_1 : decode prog_33_method_2_code 1 = .ok (.getfield 7, 3) := by decide +kernel
theorem d_prog_33_2_4 : decode prog_33_method_2_code 4 = .ok (.ifnull 7, 3) := by decide +kernel
theorem d_prog_33_2_7 : decode prog_33_method_2_code 7 = .ok (.iconst 1, 1) := by decide +kernel
theorem d_prog_33_2_8 : decode prog_33_method_2_code 8 = .ok (.goto 4, 3) := by decide +kernel
theorem d_prog_33_2_11 : decode prog_33_method_2_code 11 = .ok (.iconst 0, 1) := by decide +kernel
theorem d_prog_33_2_12 : decode prog_33_method_2_code 12 = .ok (.ireturn, 1) := by decide +kernel
theorem pd_0 : parseMethodDescriptor "([CI[BII)I" = some ⟨[(.array .char), .int, (.array .byte), .int, .int], some .int⟩ := by decide +kernel
theorem pd_1 : parseMethodDescriptor "([CII)[B" = some ⟨[(.array .char), .int, .int], some (.array .byte)⟩ := by decide +kernel
theorem pd_2 : parseMethodDescriptor "([BI)B" = some ⟨[(.array .byte), .int], some .byte⟩ := by decide +kernel
theorem pd_3 : parseMethodDescriptor "(I)I" = some ⟨[.int], some .int⟩ := by decide +kernel
theorem pd_4 : parseMethodDescriptor "(I)[B" = some ⟨[.int], some (.array .byte)⟩ := by decide +kernel
theorem pd_5 : parseMethodDescriptor "([BII)V" = some ⟨[(.array .byte), .int, .int], none⟩ := by decide +kernel
theorem pd_6 : parseMethodDescriptor "([BI)C" = some ⟨[(.array .byte), .int], some .char⟩ := by decide +kernel
theorem pd_7 : parseMethodDescriptor "([CIILjava/lang/Void;)V" = some ⟨[(.array .char), .int, .int, (.object "java/lang/Void")], none⟩ := by decide +kernel
theorem pd_8 : parseMethodDescriptor "()V" = some ⟨[], none⟩ := by decide +kernel
theorem pd_9 : parseMethodDescriptor "([C)V" = some ⟨[(.array .char)], none⟩ := by decide +kernel
theorem pd_10 : parseMethodDescriptor "(III)Ljava/lang/String;" = some ⟨[.int, .int, .int], some (.object "java/lang/String")⟩ := by decide +kernel
theorem pd_11 : parseMethodDescriptor "(Ljava/lang/String;Ljava/lang/String;)V" = some ⟨[(.object "java/lang/String"), (.object "java/lang/String")], none⟩ := by decide +kernel
theorem pd_12 : parseMethodDescriptor "()Z" = some ⟨[], some .boolean⟩ := by decide +kernel
theorem pn_0 : plainName "java/lang/StringUTF16" = true := by first | (simp [plainName, overriddenIn]; done) | decide +kernel
theorem pn_1 : plainName "java/lang/String" = true := by first | (simp [plainName, overriddenIn]; done) | decide +kernel
theorem pn_2 : plainName "java/lang/Record" = true := by first | (simp [plainName, overriddenIn]; done) | decide +kernel
theorem pn_3 : plainName "com/example/colophon/colophon/Pairing$Part" = true := by first | (simp [plainName, overriddenIn]; done) | decide +kernel
theorem pn_4 : plainName "com/example/colophon/colophon/PartIsNamePinLaw" = true := by first | (simp [plainName, overriddenIn]; done) | decide +kernel
theorem w_0 {a0 : Array Value} {Z : State} (hw : ∀ d ∈ tables_1, d.before a0 Z = true) : (Jvm.Cond.methodLink "com/example/colophon/colophon/PartIsNamePinLaw" (15 : Nat) ({ cls := "com/example/colophon/colophon/PartIsNamePinLaw", name := "draw", desc := "(III)Ljava/lang/String;" } : Jvm.MethodName)).before a0 Z = true := hw _ (List.mem_of_getElem? (i := 0) rfl)
theorem w_1 {a0 : Array Value} {Z : State} (hw : ∀ d ∈ tables_1, d.before a0 Z = true) : (Jvm.Cond.static ({ cls := "com/example/colophon/colophon/PartIsNamePinLaw", name := "draw", desc := "(III)Ljava/lang/String;" } : Jvm.MethodName)).before a0 Z = true := hw _ (List.mem_of_getElem? (i := 1) rfl)
theorem w_2 {a0 : Array Value} {Z : State} (hw : ∀ d ∈ tables_1, d.before a0 Z = true) : (Jvm.Cond.initialized "com/example/colophon/colophon/PartIsNamePinLaw").before a0 Z = true := hw _ (List.mem_of_getElem? (i := 2) rfl)
theorem w_3 {a0 : Array Value} {Z : State} (hw : ∀ d ∈ tables_1, d.before a0 Z = true) : (Jvm.Cond.code ({ cls := "com/example/colophon/colophon/PartIsNamePinLaw", name := "draw", desc := "(III)Ljava/lang/String;" } : Jvm.MethodName) method_2_code (4 : Nat) (Option.some (Jvm.ClassFile.FieldType.object "java/lang/String"))).before a0 Z = true := hw _ (List.mem_of_getElem? (i := 3) rfl)
theorem w_4 {a0 : Array Value} {Z : State} (hw : ∀ d ∈ tables_1, d.before a0 Z = true) : (Jvm.Cond.classLink "com/example/colophon/colophon/PartIsNamePinLaw" (21 : Nat) "com/example/colophon/colophon/Pairing$Part").before a0 Z = true := hw _ (List.mem_of_getElem? (i := 4) rfl)
theorem w_5 {a0 : Array Value} {Z : State} (hw : ∀ d ∈ tables_1, d.before a0 Z = true) : (Jvm.Cond.instantiable "com/example/colophon/colophon/Pairing$Part" (2 : Nat)).before a0 Z = true := hw _ (List.mem_of_getElem? (i := 5) rfl)
theorem w_6 {a0 : Array Value} {Z : State} (hw : ∀ d ∈ tables_1, d.before a0 Z = true) : (Jvm.Cond.initialized "com/example/colophon/colophon/Pairing$Part").before a0 Z = true := hw _ (List.mem_of_getElem? (i := 6) rfl)
theorem w_7 {a0 : Array Value} {Z : State} (hw : ∀ d ∈ tables_1, d.before a0 Z = true) : (Jvm.Cond.methodLink "com/example/colophon/colophon/PartIsNamePinLaw" (23 : Nat) ({ cls := "com/example/colophon/colophon/Pairing$Part", name := "<init>", desc := "(Ljava/lang/String;Ljava/lang/String;)V" } : Jvm.MethodName)).before a0 Z = true := hw _ (List.mem_of_getElem? (i := 7) rfl)
theorem w_8 {a0 : Array Value} {Z : State} (hw : ∀ d ∈ tables_1, d.before a0 Z = true) : (Jvm.Cond.instanceMethod ({ cls := "com/example/colophon/colophon/Pairing$Part", name := "<init>", desc := "(Ljava/lang/String;Ljava/lang/String;)V" } : Jvm.MethodName)).before a0 Z = true := hw _ (List.mem_of_getElem? (i := 8) rfl)
theorem w_9 {a0 : Array Value} {Z : State} (hw : ∀ d ∈ tables_1, d.before a0 Z = true) : (Jvm.Cond.code ({ cls := "com/example/colophon/colophon/Pairing$Part", name := "<init>", desc := "(Ljava/lang/String;Ljava/lang/String;)V" } : Jvm.MethodName) prog_33_method_1_code (3 : Nat) (Option.none : Option Jvm.ClassFile.FieldType)).before a0 Z = true := hw _ (List.mem_of_getElem? (i := 9) rfl)
theorem w_10 {a0 : Array Value} {Z : State} (hw : ∀ d ∈ tables_1, d.before a0 Z = true) : (Jvm.Cond.methodLink "com/example/colophon/colophon/Pairing$Part" (1 : Nat) ({ cls := "java/lang/Record", name := "<init>", desc := "()V" } : Jvm.MethodName)).before a0 Z = true := hw _ (List.mem_of_getElem? (i := 10) rfl)
theorem w_11 {a0 : Array Value} {Z : State} (hw : ∀ d ∈ tables_1, d.before a0 Z = true) : (Jvm.Cond.instanceMethod ({ cls := "java/lang/Record", name := "<init>", desc := "()V" } : Jvm.MethodName)).before a0 Z = true := hw _ (List.mem_of_getElem? (i := 11) rfl)
theorem w_13 {a0 : Array Value} {Z : State} (hw : ∀ d ∈ tables_1, d.before a0 Z = true) : (Jvm.Cond.initialized "java/lang/Record").before a0 Z = true := hw _ (List.mem_of_getElem? (i := 13) rfl)
theorem w_14 {a0 : Array Value} {Z : State} (hw : ∀ d ∈ tables_1, d.before a0 Z = true) : (Jvm.Cond.code ({ cls := "java/lang/Record", name := "<init>", desc := "()V" } : Jvm.MethodName) jdk_30_method_1_code (1 : Nat) (Option.none : Option Jvm.ClassFile.FieldType)).before a0 Z = true := hw _ (List.mem_of_getElem? (i := 14) rfl)
theorem w_15 {a0 : Array Value} {Z : State} (hw : ∀ d ∈ tables_1, d.before a0 Z = true) : (Jvm.Cond.methodLink "java/lang/Record" (1 : Nat) ({ cls := "java/lang/Object", name := "<init>", desc := "()V" } : Jvm.MethodName)).before a0 Z = true := hw _ (List.mem_of_getElem? (i := 15) rfl)
theorem w_16 {a0 : Array Value} {Z : State} (hw : ∀ d ∈ tables_1, d.before a0 Z = true) : (Jvm.Cond.instanceMethod ({ cls := "java/lang/Object", name := "<init>", desc := "()V" } : Jvm.MethodName)).before a0 Z = true := hw _ (List.mem_of_getElem? (i := 16) rfl)
theorem w_17 {a0 : Array Value} {Z : State} (hw : ∀ d ∈ tables_1, d.before a0 Z = true) : (Jvm.Cond.code ({ cls := "java/lang/Object", name := "<init>", desc := "()V" } : Jvm.MethodName) object_method_1_code (1 : Nat) (Option.none : Option Jvm.ClassFile.FieldType)).before a0 Z = true := hw _ (List.mem_of_getElem? (i := 17) rfl)
theorem w_18 {a0 : Array Value} {Z : State} (hw : ∀ d ∈ tables_1, d.before a0 Z = true) : (Jvm.Cond.fieldLink "com/example/colophon/colophon/Pairing$Part" (7 : Nat) "com/example/colophon/colophon/Pairing$Part" "role" "Ljava/lang/String;").before a0 Z = true := hw _ (List.mem_of_getElem? (i := 18) rfl)
theorem w_19 {a0 : Array Value} {Z : State} (hw : ∀ d ∈ tables_1, d.before a0 Z = true) : (Jvm.Cond.laysFinal "com/example/colophon/colophon/Pairing$Part" "com/example/colophon/colophon/Pairing$Part" "role" "Ljava/lang/String;").before a0 Z = true := hw _ (List.mem_of_getElem? (i := 19) rfl)
theorem w_20 {a0 : Array Value} {Z : State} (hw : ∀ d ∈ tables_1, d.before a0 Z = true) : (Jvm.Cond.fieldLink "com/example/colophon/colophon/Pairing$Part" (13 : Nat) "com/example/colophon/colophon/Pairing$Part" "text" "Ljava/lang/String;").before a0 Z = true := hw _ (List.mem_of_getElem? (i := 20) rfl)
theorem w_21 {a0 : Array Value} {Z : State} (hw : ∀ d ∈ tables_1, d.before a0 Z = true) : (Jvm.Cond.laysFinal "com/example/colophon/colophon/Pairing$Part" "com/example/colophon/colophon/Pairing$Part" "text" "Ljava/lang/String;").before a0 Z = true := hw _ (List.mem_of_getElem? (i := 21) rfl)
theorem w_22 {a0 : Array Value} {Z : State} (hw : ∀ d ∈ tables_1, d.before a0 Z = true) : (Jvm.Cond.methodLink "com/example/colophon/colophon/PartIsNamePinLaw" (26 : Nat) ({ cls := "com/example/colophon/colophon/Pairing$Part", name := "isName", desc := "()Z" } : Jvm.MethodName)).before a0 Z = true := hw _ (List.mem_of_getElem? (i := 22) rfl)
theorem w_23 {a0 : Array Value} {Z : State} (hw : ∀ d ∈ tables_1, d.before a0 Z = true) : (Jvm.Cond.declares ({ cls := "com/example/colophon/colophon/Pairing$Part", name := "isName", desc := "()Z" } : Jvm.MethodName)).before a0 Z = true := hw _ (List.mem_of_getElem? (i := 23) rfl)
theorem w_24 {a0 : Array Value} {Z : State} (hw : ∀ d ∈ tables_1, d.before a0 Z = true) : (Jvm.Cond.instanceMethod ({ cls := "com/example/colophon/colophon/Pairing$Part", name := "isName", desc := "()Z" } : Jvm.MethodName)).before a0 Z = true := hw _ (List.mem_of_getElem? (i := 24) rfl)
theorem w_25 {a0 : Array Value} {Z : State} (hw : ∀ d ∈ tables_1, d.before a0 Z = true) : (Jvm.Cond.selects "com/example/colophon/colophon/Pairing$Part" ({ cls := "com/example/colophon/colophon/Pairing$Part", name := "isName", desc := "()Z" } : Jvm.MethodName) ({ cls := "com/example/colophon/colophon/Pairing$Part", name := "isName", desc := "()Z" } : Jvm.MethodName)).before a0 Z = true := hw _ (List.mem_of_getElem? (i := 25) rfl)
theorem w_26 {a0 : Array Value} {Z : State} (hw : ∀ d ∈ tables_1, d.before a0 Z = true) : (Jvm.Cond.code ({ cls := "com/example/colophon/colophon/Pairing$Part", name := "isName", desc := "()Z" } : Jvm.MethodName) prog_33_method_2_code (1 : Nat) (Option.some Jvm.ClassFile.FieldType.boolean)).before a0 Z = true := hw _ (List.mem_of_getElem? (i := 26) rfl)
theorem w_27 {a0 : Array Value} {Z : State} (hw : ∀ d ∈ tables_1, d.before a0 Z = true) : (Jvm.Cond.arrayClass Jvm.ClassFile.FieldType.char).before a0 Z = true := hw _ (List.mem_of_getElem? (i := 27) rfl)
theorem w_28 {a0 : Array Value} {Z : State} (hw : ∀ d ∈ tables_1, d.before a0 Z = true) : (Jvm.Cond.constant "com/example/colophon/colophon/PartIsNamePinLaw" (9 : Nat) (65535 : Int32)).before a0 Z = true := hw _ (List.mem_of_getElem? (i := 28) rfl)
theorem w_29 {a0 : Array Value} {Z : State} (hw : ∀ d ∈ tables_1, d.before a0 Z = true) : (Jvm.Cond.classLink "com/example/colophon/colophon/PartIsNamePinLaw" (10 : Nat) "java/lang/String").before a0 Z = true := hw _ (List.mem_of_getElem? (i := 29) rfl)
theorem w_30 {a0 : Array Value} {Z : State} (hw : ∀ d ∈ tables_1, d.before a0 Z = true) : (Jvm.Cond.instantiable "java/lang/String" (4 : Nat)).before a0 Z = true := hw _ (List.mem_of_getElem? (i := 30) rfl)
theorem w_31 {a0 : Array Value} {Z : State} (hw : ∀ d ∈ tables_1, d.before a0 Z = true) : (Jvm.Cond.initialized "java/lang/String").before a0 Z = true := hw _ (List.mem_of_getElem? (i := 31) rfl)
theorem w_32 {a0 : Array Value} {Z : State} (hw : ∀ d ∈ tables_1, d.before a0 Z = true) : (Jvm.Cond.methodLink "com/example/colophon/colophon/PartIsNamePinLaw" (12 : Nat) ({ cls := "java/lang/String", name := "<init>", desc := "([C)V" } : Jvm.MethodName)).before a0 Z = true := hw _ (List.mem_of_getElem? (i := 32) rfl)
theorem w_33 {a0 : Array Value} {Z : State} (hw : ∀ d ∈ tables_1, d.before a0 Z = true) : (Jvm.Cond.instanceMethod ({ cls := "java/lang/String", name := "<init>", desc := "([C)V" } : Jvm.MethodName)).before a0 Z = true := hw _ (List.mem_of_getElem? (i := 33) rfl)
theorem w_34 {a0 : Array Value} {Z : State} (hw : ∀ d ∈ tables_1, d.before a0 Z = true) : (Jvm.Cond.code ({ cls := "java/lang/String", name := "<init>", desc := "([C)V" } : Jvm.MethodName) jdk_42_method_3_code (2 : Nat) (Option.none : Option Jvm.ClassFile.FieldType)).before a0 Z = true := hw _ (List.mem_of_getElem? (i := 34) rfl)
theorem w_35 {a0 : Array Value} {Z : State} (hw : ∀ d ∈ tables_1, d.before a0 Z = true) : (Jvm.Cond.methodLink "java/lang/String" (27 : Nat) ({ cls := "java/lang/String", name := "<init>", desc := "([CIILjava/lang/Void;)V" } : Jvm.MethodName)).before a0 Z = true := hw _ (List.mem_of_getElem? (i := 35) rfl)
theorem w_36 {a0 : Array Value} {Z : State} (hw : ∀ d ∈ tables_1, d.before a0 Z = true) : (Jvm.Cond.instanceMethod ({ cls := "java/lang/String", name := "<init>", desc := "([CIILjava/lang/Void;)V" } : Jvm.MethodName)).before a0 Z = true := hw _ (List.mem_of_getElem? (i := 36) rfl)
theorem w_38 {a0 : Array Value} {Z : State} (hw : ∀ d ∈ tables_1, d.before a0 Z = true) : (Jvm.Cond.code ({ cls := "java/lang/String", name := "<init>", desc := "([CIILjava/lang/Void;)V" } : Jvm.MethodName) jdk_42_method_149_code (6 : Nat) (Option.none : Option Jvm.ClassFile.FieldType)).before a0 Z = true := hw _ (List.mem_of_getElem? (i := 38) rfl)
theorem w_39 {a0 : Array Value} {Z : State} (hw : ∀ d ∈ tables_1, d.before a0 Z = true) : (Jvm.Cond.methodLink "java/lang/String" (1 : Nat) ({ cls := "java/lang/Object", name := "<init>", desc := "()V" } : Jvm.MethodName)).before a0 Z = true := hw _ (List.mem_of_getElem? (i := 39) rfl)
theorem w_40 {a0 : Array Value} {Z : State} (hw : ∀ d ∈ tables_1, d.before a0 Z = true) : (Jvm.Cond.fieldLink "java/lang/String" (38 : Nat) "java/lang/String" "COMPACT_STRINGS" "Z").before a0 Z = true := hw _ (List.mem_of_getElem? (i := 40) rfl)
theorem w_41 {a0 : Array Value} {Z : State} (hw : ∀ d ∈ tables_1, d.before a0 Z = true) : (Jvm.Cond.methodLink "java/lang/String" (177 : Nat) ({ cls := "java/lang/StringUTF16", name := "compress", desc := "([CII)[B" } : Jvm.MethodName)).before a0 Z = true := hw _ (List.mem_of_getElem? (i := 41) rfl)
theorem w_42 {a0 : Array Value} {Z : State} (hw : ∀ d ∈ tables_1, d.before a0 Z = true) : (Jvm.Cond.static ({ cls := "java/lang/StringUTF16", name := "compress", desc := "([CII)[B" } : Jvm.MethodName)).before a0 Z = true := hw _ (List.mem_of_getElem? (i := 42) rfl)
theorem w_43 {a0 : Array Value} {Z : State} (hw : ∀ d ∈ tables_1, d.before a0 Z = true) : (Jvm.Cond.initialized "java/lang/StringUTF16").before a0 Z = true := hw _ (List.mem_of_getElem? (i := 43) rfl)
theorem w_44 {a0 : Array Value} {Z : State} (hw : ∀ d ∈ tables_1, d.before a0 Z = true) : (Jvm.Cond.code ({ cls := "java/lang/StringUTF16", name := "compress", desc := "([CII)[B" } : Jvm.MethodName) jdk_52_method_16_code (6 : Nat) (Option.some (Jvm.ClassFile.FieldType.array Jvm.ClassFile.FieldType.byte))).before a0 Z = true := hw _ (List.mem_of_getElem? (i := 44) rfl)
theorem w_45 {a0 : Array Value} {Z : State} (hw : ∀ d ∈ tables_1, d.before a0 Z = true) : (Jvm.Cond.arrayClass Jvm.ClassFile.FieldType.byte).before a0 Z = true := hw _ (List.mem_of_getElem? (i := 45) rfl)
theorem w_46 {a0 : Array Value} {Z : State} (hw : ∀ d ∈ tables_1, d.before a0 Z = true) : (Jvm.Cond.methodLink "java/lang/StringUTF16" (115 : Nat) ({ cls := "java/lang/StringUTF16", name := "compress", desc := "([CI[BII)I" } : Jvm.MethodName)).before a0 Z = true := hw _ (List.mem_of_getElem? (i := 46) rfl)
theorem w_47 {a0 : Array Value} {Z : State} (hw : ∀ d ∈ tables_1, d.before a0 Z = true) : (Jvm.Cond.static ({ cls := "java/lang/StringUTF16", name := "compress", desc := "([CI[BII)I" } : Jvm.MethodName)).before a0 Z = true := hw _ (List.mem_of_getElem? (i := 47) rfl)
theorem w_48 {a0 : Array Value} {Z : State} (hw : ∀ d ∈ tables_1, d.before a0 Z = true) : (Jvm.Cond.code ({ cls := "java/lang/StringUTF16", name := "compress", desc := "([CI[BII)I" } : Jvm.MethodName) jdk_52_method_21_code (7 : Nat) (Option.some Jvm.ClassFile.FieldType.int)).before a0 Z = true := hw _ (List.mem_of_getElem? (i := 48) rfl)
theorem w_49 {a0 : Array Value} {Z : State} (hw : ∀ d ∈ tables_1, d.before a0 Z = true) : (Jvm.Cond.methodLink "java/lang/String" (47 : Nat) ({ cls := "java/lang/StringUTF16", name := "coderFromArrayLen", desc := "([BI)B" } : Jvm.MethodName)).before a0 Z = true := hw _ (List.mem_of_getElem? (i := 49) rfl)
theorem w_50 {a0 : Array Value} {Z : State} (hw : ∀ d ∈ tables_1, d.before a0 Z = true) : (Jvm.Cond.static ({ cls := "java/lang/StringUTF16", name := "coderFromArrayLen", desc := "([BI)B" } : Jvm.MethodName)).before a0 Z = true := hw _ (List.mem_of_getElem? (i := 50) rfl)
theorem w_51 {a0 : Array Value} {Z : State} (hw : ∀ d ∈ tables_1, d.before a0 Z = true) : (Jvm.Cond.code ({ cls := "java/lang/StringUTF16", name := "coderFromArrayLen", desc := "([BI)B" } : Jvm.MethodName) jdk_52_method_15_code (2 : Nat) (Option.some Jvm.ClassFile.FieldType.byte)).before a0 Z = true := hw _ (List.mem_of_getElem? (i := 51) rfl)
theorem w_52 {a0 : Array Value} {Z : State} (hw : ∀ d ∈ tables_1, d.before a0 Z = true) : (Jvm.Cond.fieldLink "java/lang/String" (15 : Nat) "java/lang/String" "coder" "B").before a0 Z = true := hw _ (List.mem_of_getElem? (i := 52) rfl)
theorem w_53 {a0 : Array Value} {Z : State} (hw : ∀ d ∈ tables_1, d.before a0 Z = true) : (Jvm.Cond.laysFinal "java/lang/String" "java/lang/String" "coder" "B").before a0 Z = true := hw _ (List.mem_of_getElem? (i := 53) rfl)
theorem w_54 {a0 : Array Value} {Z : State} (hw : ∀ d ∈ tables_1, d.before a0 Z = true) : (Jvm.Cond.fieldLink "java/lang/String" (9 : Nat) "java/lang/String" "value" "[B").before a0 Z = true := hw _ (List.mem_of_getElem? (i := 54) rfl)
theorem w_55 {a0 : Array Value} {Z : State} (hw : ∀ d ∈ tables_1, d.before a0 Z = true) : (Jvm.Cond.laysFinal "java/lang/String" "java/lang/String" "value" "[B").before a0 Z = true := hw _ (List.mem_of_getElem? (i := 55) rfl)
theorem w_56 {a0 : Array Value} {Z : State} (hw : ∀ d ∈ tables_1, d.before a0 Z = true) : (Jvm.Cond.methodLink "java/lang/StringUTF16" (119 : Nat) ({ cls := "java/lang/StringUTF16", name := "toBytes", desc := "([CII)[B" } : Jvm.MethodName)).before a0 Z = true := hw _ (List.mem_of_getElem? (i := 56) rfl)
theorem w_57 {a0 : Array Value} {Z : State} (hw : ∀ d ∈ tables_1, d.before a0 Z = true) : (Jvm.Cond.static ({ cls := "java/lang/StringUTF16", name := "toBytes", desc := "([CII)[B" } : Jvm.MethodName)).before a0 Z = true := hw _ (List.mem_of_getElem? (i := 57) rfl)
theorem w_58 {a0 : Array Value} {Z : State} (hw : ∀ d ∈ tables_1, d.before a0 Z = true) : (Jvm.Cond.code ({ cls := "java/lang/StringUTF16", name := "toBytes", desc := "([CII)[B" } : Jvm.MethodName) jdk_52_method_14_code (5 : Nat) (Option.some (Jvm.ClassFile.FieldType.array Jvm.ClassFile.FieldType.byte))).before a0 Z = true := hw _ (List.mem_of_getElem? (i := 58) rfl)
theorem w_59 {a0 : Array Value} {Z : State} (hw : ∀ d ∈ tables_1, d.before a0 Z = true) : (Jvm.Cond.methodLink "java/lang/StringUTF16" (107 : Nat) ({ cls := "java/lang/StringUTF16", name := "newBytesFor", desc := "(I)[B" } : Jvm.MethodName)).before a0 Z = true := hw _ (List.mem_of_getElem? (i := 59) rfl)
theorem w_60 {a0 : Array Value} {Z : State} (hw : ∀ d ∈ tables_1, d.before a0 Z = true) : (Jvm.Cond.static ({ cls := "java/lang/StringUTF16", name := "newBytesFor", desc := "(I)[B" } : Jvm.MethodName)).before a0 Z = true := hw _ (List.mem_of_getElem? (i := 60) rfl)
theorem w_61 {a0 : Array Value} {Z : State} (hw : ∀ d ∈ tables_1, d.before a0 Z = true) : (Jvm.Cond.code ({ cls := "java/lang/StringUTF16", name := "newBytesFor", desc := "(I)[B" } : Jvm.MethodName) jdk_52_method_2_code (1 : Nat) (Option.some (Jvm.ClassFile.FieldType.array Jvm.ClassFile.FieldType.byte))).before a0 Z = true := hw _ (List.mem_of_getElem? (i := 61) rfl)
theorem w_62 {a0 : Array Value} {Z : State} (hw : ∀ d ∈ tables_1, d.before a0 Z = true) : (Jvm.Cond.methodLink "java/lang/StringUTF16" (11 : Nat) ({ cls := "java/lang/StringUTF16", name := "newBytesLength", desc := "(I)I" } : Jvm.MethodName)).before a0 Z = true := hw _ (List.mem_of_getElem? (i := 62) rfl)
theorem w_63 {a0 : Array Value} {Z : State} (hw : ∀ d ∈ tables_1, d.before a0 Z = true) : (Jvm.Cond.static ({ cls := "java/lang/StringUTF16", name := "newBytesLength", desc := "(I)I" } : Jvm.MethodName)).before a0 Z = true := hw _ (List.mem_of_getElem? (i := 63) rfl)
theorem w_64 {a0 : Array Value} {Z : State} (hw : ∀ d ∈ tables_1, d.before a0 Z = true) : (Jvm.Cond.code ({ cls := "java/lang/StringUTF16", name := "newBytesLength", desc := "(I)I" } : Jvm.MethodName) jdk_52_method_3_code (1 : Nat) (Option.some Jvm.ClassFile.FieldType.int)).before a0 Z = true := hw _ (List.mem_of_getElem? (i := 64) rfl)
theorem w_65 {a0 : Array Value} {Z : State} (hw : ∀ d ∈ tables_1, d.before a0 Z = true) : (Jvm.Cond.constant "java/lang/StringUTF16" (20 : Nat) (1073741823 : Int32)).before a0 Z = true := hw _ (List.mem_of_getElem? (i := 65) rfl)
theorem w_66 {a0 : Array Value} {Z : State} (hw : ∀ d ∈ tables_1, d.before a0 Z = true) : (Jvm.Cond.methodLink "java/lang/StringUTF16" (111 : Nat) ({ cls := "java/lang/StringUTF16", name := "putChar", desc := "([BII)V" } : Jvm.MethodName)).before a0 Z = true := hw _ (List.mem_of_getElem? (i := 66) rfl)
theorem w_67 {a0 : Array Value} {Z : State} (hw : ∀ d ∈ tables_1, d.before a0 Z = true) : (Jvm.Cond.static ({ cls := "java/lang/StringUTF16", name := "putChar", desc := "([BII)V" } : Jvm.MethodName)).before a0 Z = true := hw _ (List.mem_of_getElem? (i := 67) rfl)
theorem w_68 {a0 : Array Value} {Z : State} (hw : ∀ d ∈ tables_1, d.before a0 Z = true) : (Jvm.Cond.code ({ cls := "java/lang/StringUTF16", name := "putChar", desc := "([BII)V" } : Jvm.MethodName) jdk_52_method_4_code (3 : Nat) (Option.none : Option Jvm.ClassFile.FieldType)).before a0 Z = true := hw _ (List.mem_of_getElem? (i := 68) rfl)
theorem w_69 {a0 : Array Value} {Z : State} (hw : ∀ d ∈ tables_1, d.before a0 Z = true) : (Jvm.Cond.fieldLink "java/lang/StringUTF16" (44 : Nat) "java/lang/StringUTF16" "$assertionsDisabled" "Z").before a0 Z = true := hw _ (List.mem_of_getElem? (i := 69) rfl)
theorem w_70 {a0 : Array Value} {Z : State} (hw : ∀ d ∈ tables_1, d.before a0 Z = true) : (Jvm.Cond.fieldLink "java/lang/StringUTF16" (59 : Nat) "java/lang/StringUTF16" "HI_BYTE_SHIFT" "I").before a0 Z = true := hw _ (List.mem_of_getElem? (i := 70) rfl)
theorem w_71 {a0 : Array Value} {Z : State} (hw : ∀ d ∈ tables_1, d.before a0 Z = true) : (Jvm.Cond.fieldLink "java/lang/StringUTF16" (63 : Nat) "java/lang/StringUTF16" "LO_BYTE_SHIFT" "I").before a0 Z = true := hw _ (List.mem_of_getElem? (i := 71) rfl)
theorem w_72 {a0 : Array Value} {Z : State} (hw : ∀ d ∈ tables_1, d.before a0 Z = true) : (Jvm.Cond.methodLink "java/lang/StringUTF16" (71 : Nat) ({ cls := "java/lang/StringUTF16", name := "getChar", desc := "([BI)C" } : Jvm.MethodName)).before a0 Z = true := hw _ (List.mem_of_getElem? (i := 72) rfl)
theorem w_73 {a0 : Array Value} {Z : State} (hw : ∀ d ∈ tables_1, d.before a0 Z = true) : (Jvm.Cond.static ({ cls := "java/lang/StringUTF16", name := "getChar", desc := "([BI)C" } : Jvm.MethodName)).before a0 Z = true := hw _ (List.mem_of_getElem? (i := 73) rfl)
theorem w_74 {a0 : Array Value} {Z : State} (hw : ∀ d ∈ tables_1, d.before a0 Z = true) : (Jvm.Cond.code ({ cls := "java/lang/StringUTF16", name := "getChar", desc := "([BI)C" } : Jvm.MethodName) jdk_52_method_5_code (2 : Nat) (Option.some Jvm.ClassFile.FieldType.char)).before a0 Z = true := hw _ (List.mem_of_getElem? (i := 74) rfl)
theorem w_75 {a0 : Array Value} {Z : State} (hw : ∀ d ∈ tables_1, d.before a0 Z = true) : (Jvm.Cond.stringLink "com/example/colophon/colophon/PartIsNamePinLaw" (7 : Nat) "").before a0 Z = true := hw _ (List.mem_of_getElem? (i := 75) rfl)
theorem own_wS {a0 : Array Value} {Z : State} (hw : ∀ d ∈ tables_1, d.before a0 Z = true) : ∀ a ∈ Bundle.stringAtoms, a.before a0 Z = true := fun a ha => hw a ((by decide +kernel : ∀ a ∈ Bundle.stringAtoms, a ∈ tables_1) a ha)
theorem own_eq_int {args : Array Value} {s : State} {t : Term} {k : Int32} (h : (Jvm.Cond.eq t (Jvm.Term.int k)).value args s none s [] = some true) : t.eval args s none [] s = some (.int k) := by
  simp only [Cond.value, Term.int_eval] at h
  cases ht : t.eval args s none [] s with
  | none => simp [ht] at h
  | some v =>
    cases v <;> simp [ht] at h
    subst h; rfl
theorem own_fits_ref {C : String} {v : Value} (h : v.isRef = true) : fits (.object C) v = true := by cases v <;> simp [Value.isRef] at h <;> rfl
theorem own_cat_ref {v : Value} (h : v.isRef = true) : v.category = 1 := by cases v <;> simp [Value.isRef] at h <;> rfl
theorem own_ins_keep {Z : State} {h h' : Heap} {a : Addr} {C : String} {ws : List Addr} (F : Ins Z h a C true) (K : Keep h h' ws) : Ins Z h' a C true := by
  obtain ⟨cell, cT, h1, h2, h3⟩ := F
  obtain ⟨c', q1, q2, q3, -⟩ := K.2.2 a cell h1
  exact ⟨c', cT, q1, h2, by rw [q2, q3]; exact h3⟩
def EL : List (String × Nat) := []
theorem hEL {a0 : Array Value} {Z : State} (hw : ∀ d ∈ tables_1, d.before a0 Z = true) : EW Z a0 EL := EW.nil
def Gl (Z : State) : Prop := ∃ (zc : Int32), ∃ (fm : Value), (Sta Z Z.heap "java/lang/String" "COMPACT_STRINGS" "Z" (.int zc)) ∧ (¬ zc = 0) ∧ (Sta Z Z.heap "jdk/internal/util/Preconditions" "SIOOBE_FORMATTER" "Ljava/util/function/BiFunction;" fm) ∧ (fm.isRef = true) ∧ (Sta Z Z.heap "java/lang/StringUTF16" "$assertionsDisabled" "Z" (.int (1 : Int32))) ∧ (Sta Z Z.heap "java/lang/StringUTF16" "HI_BYTE_SHIFT" "I" (.int (0 : Int32))) ∧ (Sta Z Z.heap "java/lang/StringUTF16" "LO_BYTE_SHIFT" "I" (.int (8 : Int32)))
set_option maxRecDepth 65536 in
set_option maxHeartbeats 40000000 in
theorem own_cmp5 (l : Launch) (Z : State) (a0 : Array Value) (hw : ∀ d ∈ tables_1, d.before a0 Z = true) (G : Gl Z) (n0 : Nat) (h0 : Heap) (O0 : Old Z n0 h0) (b : Nat) (d : Nat) (kb : ClassId) (kd : ClassId) (z : Int32) (cs : List Int32) (vs : List Value) (hne : b ≠ d) (hz : z = Int32.ofNat cs.length) (hn : cs.length < 2147483648) (hv : vs.length = cs.length) (gw0 : n0 ≤ d) (q0 : Arv Z h0 b kb .char z (cs.map Value.int) (.int 0)) (q1 : Arv Z h0 d kd .byte z vs (.int (0 : Int32))) :
    MetF l [] Z n0 (⟨"java/lang/StringUTF16", "compress", "([CI[BII)I"⟩ : MethodName) jdk_52_method_21_code 7 (Option.some FieldType.int) ({ frames := 0, cells := 0, slots := 0, locals := 0 } : Room) #[(.ref b), (.int (0 : Int32)), (.ref d), (.int (0 : Int32)), (.int z)] h0 [d] (fun r h' => ∃ w, r = some w ∧ w = (.int (Int32.ofNat (own_fst cs))) ∧ (Arv Z h' d kd .byte z ((cs.take (own_fst cs)).map own_lo ++ vs.drop (own_fst cs)) (.int (0 : Int32)))) := by
  refine metF (plainFor_of_name pn_0) O0 (Ls := #[.val (.ref b), .val (.int (0 : Int32)), .val (.ref d), .val (.int (0 : Int32)), .val (.int z), .unset, .unset]) (fun m => by first | rfl | (simp [entryFrame, mkF, argsToLocals, Value.category]; done)) ?_
  intro p e s m below meth c T0 X0
  have K0_h0 := Keep.refl h0 [d]
  have n0le := X0.n0le
  have ltq0 := own_n q0.lt
  have ltq1 := own_n q1.lt
  obtain ⟨zc, fm, G_cs, G_zc, G_fm, isref_fm, G_assertionsDisabled, G_HI_BYTE_SHIFT, G_LO_BYTE_SHIFT⟩ := id G
  have hfl := own_fst_le cs
  have hlt0 := hn
  have loop : ∀ (n i : Nat) (T : State) (h : Heap) (L : List Loc) (s6 : Slot), n = own_fst cs - i → i ≤ own_fst cs → One s6 → WP p l e ({ frames := 0, cells := 0, slots := 0, locals := 0 } : Room) s m #[(.ref b), (.int (0 : Int32)), (.ref d), (.int (0 : Int32)), (.int z)] below meth c Z "java/lang/StringUTF16" "compress" jdk_52_method_21_code 7 (Option.some FieldType.int) n0 (fun _ => True) (fun _ _ => True) T h L 0 0 → Keep h0 h [d] → Arv Z h b kb .char z (cs.map Value.int) (.int 0) → Arv Z h d kd .byte z ((cs.take i).map own_lo ++ vs.drop i) (.int (0 : Int32)) → Run p.tables e below (PF s below n0 h0 [d] (fun r h' => ∃ w, r = some w ∧ w = (.int (Int32.ofNat (own_fst cs))) ∧ (Arv Z h' d kd .byte z ((cs.take (own_fst cs)).map own_lo ++ vs.drop (own_fst cs)) (.int (0 : Int32)))) ({ frames := 0, cells := 0, slots := 0, locals := 0 } : Room).cells ({ frames := 0, cells := 0, slots := 0, locals := 0 } : Room).slots) T (mkF m 3 #[.val (.ref b), .val (.int (Int32.ofNat i)), .val (.ref d), .val (.int (Int32.ofNat i)), .val (.int z), .val (.int (Int32.ofNat i)), s6] []) := by
    intro n
    induction n with
    | zero =>
      intro i T h L s6 hni hij h6 X K Vb Vd
      have hi : i = own_fst cs := by omega
      subst hi
      have lb := own_n Vb.lt
      have ld := own_n Vd.lt
      have lh0 := K.1
      have lb0 := own_n q0.lt
      have ld0 := own_n q1.lt
      have nle := X.n0le
      by_cases hc1 : own_fst cs < cs.length
      · have hlt := own_lt hc1 hn
        rw [← hz] at hlt
        refine k_iload X d_jdk_52_21_3 rfl (pc' := 5) rfl ?_
        refine k_iload X d_jdk_52_21_5 rfl (pc' := 7) rfl ?_
        refine k_icmpNo X d_jdk_52_21_7 (tlt hlt).2.1 (pc' := 10) rfl ?_
        refine k_aloadN X d_jdk_52_21_10 rfl rfl (pc' := 11) rfl ?_
        refine k_iloadN X d_jdk_52_21_11 rfl (pc' := 12) rfl ?_
        refine k_caload X d_jdk_52_21_12 Vb (own_nn (by omega)) hlt (v := (.int (cs.getD (own_fst cs) 0))) (own_getc' cs (by omega)) (pc' := 13) rfl ?_
        refine k_istore X d_jdk_52_21_13 (Ls' := #[.val (.ref b), .val (.int (Int32.ofNat (own_fst cs))), .val (.ref d), .val (.int (Int32.ofNat (own_fst cs))), .val (.int z), .val (.int (Int32.ofNat (own_fst cs))), .val (.int (cs.getD (own_fst cs) 0))]) (own_store h6 ⟨_, rfl⟩) (pc' := 15) rfl ?_
        refine k_iload X d_jdk_52_21_15 rfl (pc' := 17) rfl ?_
        refine k_sipush X d_jdk_52_21_17 (w := (255 : Int32)) rfl (pc' := 20) rfl ?_
        refine k_icmpNo X d_jdk_52_21_20 (tlt (own_fst_hi cs hc1)).2.2.2 (pc' := 23) rfl ?_
        refine k_iload X d_jdk_52_21_23 rfl (pc' := 25) rfl ?_
        exact k_retFI X d_jdk_52_21_25 rfl K ⟨_, rfl, rfl, Vd⟩ (by decide) (by decide)
      · have he : own_fst cs = cs.length := by omega
        have hnl : ¬ (Int32.ofNat (own_fst cs) < z) := by rw [he, ← hz]; exact Int32.lt_irrefl
        refine k_iload X d_jdk_52_21_3 rfl (pc' := 5) rfl ?_
        refine k_iload X d_jdk_52_21_5 rfl (pc' := 7) rfl ?_
        refine k_icmpYes X d_jdk_52_21_7 (flt hnl).2.1 (pc' := 44) (by decide) (by decide) ?_
        refine k_iload X d_jdk_52_21_44 rfl (pc' := 46) rfl ?_
        exact k_retFI X d_jdk_52_21_46 rfl K ⟨_, rfl, by rw [he, ← hz], Vd⟩ (by decide) (by decide)
    | succ n ih =>
      intro i T h L s6 hni hij h6 X K Vb Vd
      have hi : i < own_fst cs := by omega
      have hlt := own_lt (show i < cs.length by omega) hn
      rw [← hz] at hlt
      have hle := own_fst_lo cs i hi
      have lb := own_n Vb.lt
      have ld := own_n Vd.lt
      have lh0 := K.1
      have lb0 := own_n q0.lt
      have ld0 := own_n q1.lt
      have nle := X.n0le
      refine k_iload X d_jdk_52_21_3 rfl (pc' := 5) rfl ?_
      refine k_iload X d_jdk_52_21_5 rfl (pc' := 7) rfl ?_
      refine k_icmpNo X d_jdk_52_21_7 (tlt hlt).2.1 (pc' := 10) rfl ?_
      refine k_aloadN X d_jdk_52_21_10 rfl rfl (pc' := 11) rfl ?_
      refine k_iloadN X d_jdk_52_21_11 rfl (pc' := 12) rfl ?_
      refine k_caload X d_jdk_52_21_12 Vb (own_nn (by omega)) hlt (v := (.int (cs.getD i 0))) (own_getc' cs (by omega)) (pc' := 13) rfl ?_
      refine k_istore X d_jdk_52_21_13 (Ls' := #[.val (.ref b), .val (.int (Int32.ofNat i)), .val (.ref d), .val (.int (Int32.ofNat i)), .val (.int z), .val (.int (Int32.ofNat i)), .val (.int (cs.getD i 0))]) (own_store h6 ⟨_, rfl⟩) (pc' := 15) rfl ?_
      refine k_iload X d_jdk_52_21_15 rfl (pc' := 17) rfl ?_
      refine k_sipush X d_jdk_52_21_17 (w := (255 : Int32)) rfl (pc' := 20) rfl ?_
      refine k_icmpYes X d_jdk_52_21_20 (flt hle).2.2.2 (pc' := 26) (by decide) (by decide) ?_
      refine k_aloadN X d_jdk_52_21_26 rfl rfl (pc' := 27) rfl ?_
      refine k_iloadN X d_jdk_52_21_27 rfl (pc' := 28) rfl ?_
      refine k_iload X d_jdk_52_21_28 rfl (pc' := 30) rfl ?_
      refine k_i2b X d_jdk_52_21_30 (w := ((cs.getD i 0).toInt8.toInt32)) rfl (pc' := 31) rfl ?_
      have ge3 : n0 ≤ d := by omega
      refine k_bastore X (w := ((cs.getD i 0).toInt8.toInt32)) (i) d_jdk_52_21_31 Vd (own_nn (by omega)) hlt (own_clamp (by omega)) (by simp; omega) (own_i2b _) (vs' := ((cs.take (i + 1)).map own_lo ++ vs.drop (i + 1))) (own_turn cs vs i (by omega) hv) trivial ge3 (pc' := 32) rfl fun T2 h2 L2 X2 K2 V2 => ?_
      have sz_h2 := K2.1
      have K0_h2 : Keep h0 h2 [d] := K.trans K2 (allS (Or.inl (List.mem_of_getElem? (i := 0) rfl)) all0)
      refine k_iinc X2 d_jdk_52_21_32 rfl (w := (Int32.ofNat (i + 1))) (own_succ i) (Ls' := #[.val (.ref b), .val (.int (Int32.ofNat (i + 1))), .val (.ref d), .val (.int (Int32.ofNat i)), .val (.int z), .val (.int (Int32.ofNat i)), .val (.int (cs.getD i 0))]) rfl (pc' := 35) rfl ?_
      refine k_iinc X2 d_jdk_52_21_35 rfl (w := (Int32.ofNat (i + 1))) (own_succ i) (Ls' := #[.val (.ref b), .val (.int (Int32.ofNat (i + 1))), .val (.ref d), .val (.int (Int32.ofNat (i + 1))), .val (.int z), .val (.int (Int32.ofNat i)), .val (.int (cs.getD i 0))]) rfl (pc' := 38) rfl ?_
      refine k_iinc X2 d_jdk_52_21_38 rfl (w := (Int32.ofNat (i + 1))) (own_succ i) (Ls' := #[.val (.ref b), .val (.int (Int32.ofNat (i + 1))), .val (.ref d), .val (.int (Int32.ofNat (i + 1))), .val (.int z), .val (.int (Int32.ofNat (i + 1))), .val (.int (cs.getD i 0))]) rfl (pc' := 41) rfl ?_
      refine k_goto X2 d_jdk_52_21_41 (pc' := 3) (by decide) (by decide) ?_
      have c4 := (Vb.keep K2 (ninS (own_ne (by omega) : b ≠ d) nin0))
      exact ih (i + 1) _ _ _ _ (by omega) (by omega) (One.val rfl) X2 K0_h2 c4 V2
  refine k_iconst X0 d_jdk_52_21_0 (w := (0 : Int32)) rfl (pc' := 1) rfl ?_
  refine k_istore X0 d_jdk_52_21_1 (Ls' := #[.val (.ref b), .val (.int (0 : Int32)), .val (.ref d), .val (.int (0 : Int32)), .val (.int z), .val (.int (0 : Int32)), .unset]) rfl (pc' := 3) rfl ?_
  exact loop _ 0 _ _ _ _ rfl (by omega) One.u X0 K0_h0 q0 (by simpa using q1)
set_option maxRecDepth 65536 in
set_option maxHeartbeats 40000000 in
theorem own_cmp3L (l : Launch) (Z : State) (a0 : Array Value) (hw : ∀ d ∈ tables_1, d.before a0 Z = true) (G : Gl Z) (n0 : Nat) (h0 : Heap) (O0 : Old Z n0 h0) (b : Nat) (kb : ClassId) (z : Int32) (cs : List Int32) (hz : z = Int32.ofNat cs.length) (hn : cs.length ≤ 2) (hall : ∀ c ∈ cs, ¬ 255 < c)  (q0 : Arv Z h0 b kb .char z (cs.map Value.int) (.int 0)) :
    MetF l [] Z n0 (⟨"java/lang/StringUTF16", "compress", "([CII)[B"⟩ : MethodName) jdk_52_method_16_code 6 (Option.some (FieldType.array FieldType.byte)) ({ frames := 1, cells := 1, slots := 2, locals := 18 } : Room) #[(.ref b), (.int (0 : Int32)), (.int z)] h0 [] (fun r h' => ∃ w, r = some w ∧ ∃ (t : Nat), ∃ (kt : ClassId), w = (.ref t) ∧ (Arv Z h' t kt .byte z (own_lat cs) (.int (0 : Int32))) ∧ (h0.size ≤ t)) := by
  refine metF (plainFor_of_name pn_0) O0 (Ls := #[.val (.ref b), .val (.int (0 : Int32)), .val (.int z), .unset, .unset, .unset]) (fun m => by first | rfl | (simp [entryFrame, mkF, argsToLocals, Value.category]; done)) ?_
  intro p e s m below meth c T0 X0
  have K0_h0 := Keep.refl h0 []
  have n0le := X0.n0le
  have ltq0 := own_n q0.lt
  obtain ⟨zc, fm, G_cs, G_zc, G_fm, isref_fm, G_assertionsDisabled, G_HI_BYTE_SHIFT, G_LO_BYTE_SHIFT⟩ := id G
  have hf := own_fst_all cs hall
  have hnz : ¬ z < 0 := by rw [hz]; exact own_nn (by omega)
  have hcl : z.toNatClampNeg = cs.length := by rw [hz]; exact own_clamp (by omega)
  refine k_iloadN X0 d_jdk_52_16_0 rfl (pc' := 1) rfl ?_
  refine k_newP X0 d_jdk_52_16_1 (w_45 hw) hnz (cap := 2) (by omega) (by decide) (by decide) (by decide) (pc' := 3) rfl fun T5 h5 b5 k5 g5 X5 K5 V5 S5 lt5 ge5 => ?_
  have sz_h5 := K5.1
  have K0_h5 : Keep h0 h5 [] := K0_h0.trans K5 all0
  have Vp : Arv Z h5 b5 k5 .byte z (List.replicate cs.length (.int (0 : Int32))) (.int (0 : Int32)) := Arv.pad V5 (fun i => by simpa using pad_rep [] (.int (0 : Int32)) cs.length i)
  refine k_astoreN X5 d_jdk_52_16_3 rfl (Ls' := #[.val (.ref b), .val (.int (0 : Int32)), .val (.int z), .val (.ref b5), .unset, .unset]) rfl (pc' := 4) rfl ?_
  refine k_aloadN X5 d_jdk_52_16_4 rfl rfl (pc' := 5) rfl ?_
  refine k_iloadN X5 d_jdk_52_16_5 rfl (pc' := 6) rfl ?_
  refine k_aloadN X5 d_jdk_52_16_6 rfl rfl (pc' := 7) rfl ?_
  refine k_iconst X5 d_jdk_52_16_7 (w := (0 : Int32)) rfl (pc' := 8) rfl ?_
  refine k_iloadN X5 d_jdk_52_16_8 rfl (pc' := 9) rfl ?_
  have c6 := (q0.keep K5 nin0)
  have ge7 : n0 ≤ b5 := by omega
  refine k_callSVF X5 (y := (⟨"java/lang/StringUTF16", "compress", "([CI[BII)I"⟩ : MethodName)) d_jdk_52_16_9 (w_46 hw) (w_47 hw) (w_43 hw) (w_48 hw) (by decide) (argsL := [(.ref b), (.int (0 : Int32)), (.ref b5), (.int (0 : Int32)), (.int z)]) (rest := []) (own_cmp5 l Z a0 hw G n0 h5 X5.old b b5 kb k5 z cs (List.replicate cs.length (.int (0 : Int32))) (by omega) hz (by omega) (by simp) (by omega) c6 Vp) rfl pd_0 rfl rfl (by decide) (W := 0) (Nat.le_of_eq rfl) (by decide) (by decide) (by decide) (allS ⟨trivial, ge7⟩ all0) (pc' := 12) rfl ?_
  rintro _ T8 h8 L8 X8 K8 ⟨rfl, q8_0⟩
  have sz_h8 := K8.1
  have K0_h8 : Keep h0 h8 [] := K0_h5.trans K8 (allS (Or.inr (by omega)) all0)
  have lt8_0 := own_n q8_0.lt
  refine k_istore X8 d_jdk_52_16_12 (Ls' := #[.val (.ref b), .val (.int (0 : Int32)), .val (.int z), .val (.ref b5), .val (.int (Int32.ofNat (own_fst cs))), .unset]) rfl (pc' := 14) rfl ?_
  refine k_iload X8 d_jdk_52_16_14 rfl (pc' := 16) rfl ?_
  refine k_iloadN X8 d_jdk_52_16_16 rfl (pc' := 17) rfl ?_
  have hz2 : Int32.ofNat (own_fst cs) = z := by rw [hf, ← hz]
  refine k_icmpYes X8 d_jdk_52_16_17 (teq hz2).1 (pc' := 57) (by decide) (by decide) ?_
  refine k_aloadN X8 d_jdk_52_16_57 rfl rfl (pc' := 58) rfl ?_
  have Vl : Arv Z h8 b5 k5 .byte z (own_lat cs) (.int (0 : Int32)) := by simpa [hf, own_lat] using q8_0
  exact k_retFA X8 d_jdk_52_16_58 rfl rfl rfl rfl K0_h8 ⟨_, rfl, _, _, rfl, Vl, by omega⟩ (by decide) (by decide)
set_option maxRecDepth 65536 in
set_option maxHeartbeats 40000000 in
theorem own_codL (l : Launch) (Z : State) (a0 : Array Value) (hw : ∀ d ∈ tables_1, d.before a0 Z = true) (G : Gl Z) (n0 : Nat) (h0 : Heap) (O0 : Old Z n0 h0) (d : Nat) (k : ClassId) (z : Int32) (bs : List Value) (dv : Value)  (q0 : Arv Z h0 d k .byte z bs dv) :
    MetF l [] Z n0 (⟨"java/lang/StringUTF16", "coderFromArrayLen", "([BI)B"⟩ : MethodName) jdk_52_method_15_code 2 (Option.some FieldType.byte) ({ frames := 0, cells := 0, slots := 0, locals := 0 } : Room) #[(.ref d), (.int z)] h0 [] (fun r h' => ∃ w, r = some w ∧ w = (.int (0 : Int32)) ∧ True) := by
  refine metF (plainFor_of_name pn_0) O0 (Ls := #[.val (.ref d), .val (.int z)]) (fun m => by first | rfl | (simp [entryFrame, mkF, argsToLocals, Value.category]; done)) ?_
  intro p e s m below meth c T0 X0
  have K0_h0 := Keep.refl h0 []
  have n0le := X0.n0le
  have ltq0 := own_n q0.lt
  obtain ⟨zc, fm, G_cs, G_zc, G_fm, isref_fm, G_assertionsDisabled, G_HI_BYTE_SHIFT, G_LO_BYTE_SHIFT⟩ := id G
  refine k_iloadN X0 d_jdk_52_15_0 rfl (pc' := 1) rfl ?_
  refine k_aloadN X0 d_jdk_52_15_1 rfl rfl (pc' := 2) rfl ?_
  refine k_arlen X0 d_jdk_52_15_2 q0 (pc' := 3) rfl ?_
  refine k_isub X0 d_jdk_52_15_3 (w := (0 : Int32)) (Int32.sub_self z) (pc' := 4) rfl ?_
  refine k_bipush X0 d_jdk_52_15_4 (w := (31 : Int32)) rfl (pc' := 6) rfl ?_
  refine k_iushr X0 d_jdk_52_15_6 (w := (0 : Int32)) (by decide) (pc' := 7) rfl ?_
  refine k_i2b X0 d_jdk_52_15_7 (w := (0 : Int32)) (by decide) (pc' := 8) rfl ?_
  exact k_retFN X0 (w := (0 : Int32)) d_jdk_52_15_8 (t := .byte) rfl (by simp) rfl K0_h0 ⟨_, rfl, rfl, trivial⟩ (by decide) (by decide)
set_option maxRecDepth 65536 in
set_option maxHeartbeats 40000000 in
theorem own_init4L (l : Launch) (Z : State) (a0 : Array Value) (hw : ∀ d ∈ tables_1, d.before a0 Z = true) (G : Gl Z) (n0 : Nat) (h0 : Heap) (O0 : Old Z n0 h0) (a : Nat) (b : Nat) (kb : ClassId) (z : Int32) (cs : List Int32) (hz : z = Int32.ofNat cs.length) (h1 : 0 < cs.length) (hn : cs.length ≤ 2) (hall : ∀ c ∈ cs, ¬ 255 < c) (gw0 : n0 ≤ a) (q0 : Exa Z h0 a "java/lang/String") (q1 : Fld Z h0 a "java/lang/String" "value" "[B" .null) (q2 : Fld Z h0 a "java/lang/String" "coder" "B" (.int (0 : Int32))) (q3 : Arv Z h0 b kb .char z (cs.map Value.int) (.int 0)) :
    MetF l [] Z n0 (⟨"java/lang/String", "<init>", "([CIILjava/lang/Void;)V"⟩ : MethodName) jdk_42_method_149_code 6 (Option.none : Option FieldType) ({ frames := 2, cells := 1, slots := 2, locals := 35 } : Room) #[(.ref a), (.ref b), (.int (0 : Int32)), (.int z), .null] h0 [a] (fun r h' => r = none ∧ ∃ (t : Nat), ∃ (kt : ClassId), (Exa Z h' a "java/lang/String") ∧ (Fld Z h' a "java/lang/String" "coder" "B" (.int (0 : Int32))) ∧ (Fld Z h' a "java/lang/String" "value" "[B" (.ref t)) ∧ (Arv Z h' t kt .byte z (own_lat cs) (.int (0 : Int32))) ∧ (h0.size ≤ t)) := by
  refine metF (plainFor_of_name pn_1) O0 (Ls := #[.val (.ref a), .val (.ref b), .val (.int (0 : Int32)), .val (.int z), .val .null, .unset]) (fun m => by first | rfl | (simp [entryFrame, mkF, argsToLocals, Value.category]; done)) ?_
  intro p e s m below meth c T0 X0
  have K0_h0 := Keep.refl h0 [a]
  have n0le := X0.n0le
  have ltq0 := own_n q0.lt
  have ltq1 := own_n q1.lt
  have ltq2 := own_n q2.lt
  have ltq3 := own_n q3.lt
  obtain ⟨zc, fm, G_cs, G_zc, G_fm, isref_fm, G_assertionsDisabled, G_HI_BYTE_SHIFT, G_LO_BYTE_SHIFT⟩ := id G
  have hnz0 : ¬ z = 0 := by rw [hz]; exact own_nz h1 (by omega)
  refine k_aloadN X0 d_jdk_42_149_0 rfl rfl (pc' := 1) rfl ?_
  refine k_initO X0 d_jdk_42_149_1 (w_39 hw) (w_16 hw) (w_17 hw) rfl (by decide) (W := 0) (Nat.le_of_eq rfl) (by decide) (pc' := 4) rfl fun T10 X11 => ?_
  refine k_iloadN X11 d_jdk_42_149_4 rfl (pc' := 5) rfl ?_
  refine k_ifYes X11 d_jdk_42_149_5 ((if0 _ _).trans (feq hnz0).2) (pc' := 27) (by decide) (by decide) ?_
  refine k_getS X11 d_jdk_42_149_27 (host := "") (Or.inl (w_40 hw)) Via.refl (G_cs.ext X11.old.2) (pc' := 30) rfl fun T12 X13 => ?_
  refine k_ifNo X13 d_jdk_42_149_30 ((if0 _ _).trans (feq G_zc).1) (pc' := 33) rfl ?_
  refine k_aloadN X13 d_jdk_42_149_33 rfl rfl (pc' := 34) rfl ?_
  refine k_iloadN X13 d_jdk_42_149_34 rfl (pc' := 35) rfl ?_
  refine k_iloadN X13 d_jdk_42_149_35 rfl (pc' := 36) rfl ?_
  refine k_callSVF X13 (y := (⟨"java/lang/StringUTF16", "compress", "([CII)[B"⟩ : MethodName)) d_jdk_42_149_36 (w_41 hw) (w_42 hw) (w_43 hw) (w_44 hw) (by decide) (argsL := [(.ref b), (.int (0 : Int32)), (.int z)]) (rest := []) (own_cmp3L l Z a0 hw G n0 h0 X13.old b kb z cs hz (by omega) hall q3) rfl pd_1 rfl rfl (by decide) (W := 0) (Nat.le_of_eq rfl) (by decide) (by decide) (by decide) all0 (pc' := 39) rfl ?_
  rintro _ T16 h16 L16 X16 K16 ⟨t_14, kt_15, rfl, q16_0, q16_1⟩
  have sz_h16 := K16.1
  have K0_h16 : Keep h0 h16 [a] := K0_h0.trans K16 all0
  have lt16_0 := own_n q16_0.lt
  refine k_astore X16 d_jdk_42_149_39 rfl (Ls' := #[.val (.ref a), .val (.ref b), .val (.int (0 : Int32)), .val (.int z), .val .null, .val (.ref t_14)]) rfl (pc' := 41) rfl ?_
  refine k_aloadN X16 d_jdk_42_149_41 rfl rfl (pc' := 42) rfl ?_
  refine k_aload X16 d_jdk_42_149_42 rfl rfl (pc' := 44) rfl ?_
  refine k_iloadN X16 d_jdk_42_149_44 rfl (pc' := 45) rfl ?_
  refine k_callSVF X16 (y := (⟨"java/lang/StringUTF16", "coderFromArrayLen", "([BI)B"⟩ : MethodName)) d_jdk_42_149_45 (w_49 hw) (w_50 hw) (w_43 hw) (w_51 hw) (by decide) (argsL := [(.ref t_14), (.int z)]) (rest := [(.ref a)]) (own_codL l Z a0 hw G n0 h16 X16.old t_14 kt_15 z (own_lat cs) (.int (0 : Int32)) q16_0) rfl pd_2 rfl rfl (by decide) (W := 1) (Nat.le_of_eq rfl) (by decide) (by decide) (by decide) all0 (pc' := 48) rfl ?_
  rintro _ T18 h18 L18 X18 K18 ⟨rfl, -⟩
  have sz_h18 := K18.1
  have K0_h18 : Keep h0 h18 [a] := K0_h16.trans K18 all0
  have c20 := ((q2.keep K16 nin0).keep K18 nin0)
  have c21 := ((q0.keep K16).keep K18)
  have ge23 : n0 ≤ a := by omega
  refine k_putF X18 d_jdk_42_149_48 (host := "") (Or.inl (w_52 hw)) Via.refl c20 c21 (Or.inr ⟨(w_53 hw), rfl, X18.hnm⟩) (w_30 hw) (ty := .byte) (by decide) rfl rfl trivial ge23 (pc' := 51) rfl fun T22 h22 L22 X22 W22 K22 => ?_
  have sz_h22 := K22.1
  have K0_h22 : Keep h0 h22 [a] := K0_h18.trans K22 (allS (Or.inl (List.mem_of_getElem? (i := 0) rfl)) all0)
  have F22 := c20.same W22
  refine k_aloadN X22 d_jdk_42_149_51 rfl rfl (pc' := 52) rfl ?_
  refine k_aload X22 d_jdk_42_149_52 rfl rfl (pc' := 54) rfl ?_
  have c24 := (((q1.keep K16 nin0).keep K18 nin0).other W22 (Or.inr (slot_ne (Or.inr (w_55 hw)) (Or.inr (w_53 hw)) (by decide) (t := (.array .byte)) (t' := .byte) (by decide) (by decide))))
  have c25 := (c21.keep K22)
  have ge27 : n0 ≤ a := by omega
  refine k_putF X22 d_jdk_42_149_54 (host := "") (Or.inl (w_54 hw)) Via.refl c24 c25 (Or.inr ⟨(w_55 hw), rfl, X22.hnm⟩) (w_30 hw) (ty := (.array .byte)) (by decide) rfl rfl trivial ge27 (pc' := 57) rfl fun T26 h26 L26 X26 W26 K26 => ?_
  have sz_h26 := K26.1
  have K0_h26 : Keep h0 h26 [a] := K0_h22.trans K26 (allS (Or.inl (List.mem_of_getElem? (i := 0) rfl)) all0)
  have F26 := c24.same W26
  have c28 := (c25.keep K26)
  have c29 := (F22.other W26 (Or.inr (slot_ne (Or.inr (w_53 hw)) (Or.inr (w_55 hw)) (by decide) (t := .byte) (t' := (.array .byte)) (by decide) (by decide))))
  have c30 := (((q16_0.keep K18 nin0).keep K22 (ninS (own_ne (by omega) : t_14 ≠ a) nin0)).keep K26 (ninS (own_ne (by omega) : t_14 ≠ a) nin0))
  exact k_retFV X26 d_jdk_42_149_57 rfl K0_h26 ⟨rfl, _, _, c28, c29, F26, c30, by omega⟩ (by decide) (by decide)
set_option maxRecDepth 65536 in
set_option maxHeartbeats 40000000 in
theorem own_putC (l : Launch) (Z : State) (a0 : Array Value) (hw : ∀ d ∈ tables_1, d.before a0 Z = true) (G : Gl Z) (n0 : Nat) (h0 : Heap) (O0 : Old Z n0 h0) (d : Nat) (kd : ClassId) (zz : Int32) (vs : List Value) (i : Nat) (c0 : Int32) (hi : 2 * i + 1 < vs.length) (hzz : zz = Int32.ofNat vs.length) (hb0 : vs.length < 2147483648) (gw0 : n0 ≤ d) (q0 : Arv Z h0 d kd .byte zz vs (.int (0 : Int32))) :
    MetF l [] Z n0 (⟨"java/lang/StringUTF16", "putChar", "([BII)V"⟩ : MethodName) jdk_52_method_4_code 3 (Option.none : Option FieldType) ({ frames := 0, cells := 0, slots := 0, locals := 0 } : Room) #[(.ref d), (.int (Int32.ofNat i)), (.int c0)] h0 [d] (fun r h' => r = none ∧ (Arv Z h' d kd .byte zz ((vs.set (2 * i) (own_lo c0)).set (2 * i + 1) (own_hi c0)) (.int (0 : Int32)))) := by
  refine metF (plainFor_of_name pn_0) O0 (Ls := #[.val (.ref d), .val (.int (Int32.ofNat i)), .val (.int c0)]) (fun m => by first | rfl | (simp [entryFrame, mkF, argsToLocals, Value.category]; done)) ?_
  intro p e s m below meth c T0 X0
  have K0_h0 := Keep.refl h0 [d]
  have n0le := X0.n0le
  have ltq0 := own_n q0.lt
  obtain ⟨zc, fm, G_cs, G_zc, G_fm, isref_fm, G_assertionsDisabled, G_HI_BYTE_SHIFT, G_LO_BYTE_SHIFT⟩ := id G
  have l1 := own_lt (show 2 * i < vs.length by omega) hb0
  have l2 := own_lt hi hb0
  rw [← hzz] at l1 l2
  refine k_getS X0 d_jdk_52_4_0 (host := "") (Or.inl (w_69 hw)) Via.refl (G_assertionsDisabled.ext X0.old.2) (pc' := 3) rfl fun T31 X32 => ?_
  refine k_ifYes X32 d_jdk_52_4_3 (by decide) (pc' := 28) (by decide) (by decide) ?_
  refine k_iloadN X32 d_jdk_52_4_28 rfl (pc' := 29) rfl ?_
  refine k_iconst X32 d_jdk_52_4_29 (w := (1 : Int32)) rfl (pc' := 30) rfl ?_
  refine k_ishl X32 d_jdk_52_4_30 (w := (Int32.ofNat (2 * i))) (own_shl1 (by omega)) (pc' := 31) rfl ?_
  refine k_istoreN X32 d_jdk_52_4_31 (Ls' := #[.val (.ref d), .val (.int (Int32.ofNat (2 * i))), .val (.int c0)]) rfl (pc' := 32) rfl ?_
  refine k_aloadN X32 d_jdk_52_4_32 rfl rfl (pc' := 33) rfl ?_
  refine k_iloadN X32 d_jdk_52_4_33 rfl (pc' := 34) rfl ?_
  refine k_iinc X32 d_jdk_52_4_34 rfl (w := (Int32.ofNat (2 * i + 1))) (own_succ (2 * i)) (Ls' := #[.val (.ref d), .val (.int (Int32.ofNat (2 * i + 1))), .val (.int c0)]) rfl (pc' := 37) rfl ?_
  refine k_iloadN X32 d_jdk_52_4_37 rfl (pc' := 38) rfl ?_
  refine k_getS X32 d_jdk_52_4_38 (host := "") (Or.inl (w_70 hw)) Via.refl (G_HI_BYTE_SHIFT.ext X32.old.2) (pc' := 41) rfl fun T33 X34 => ?_
  refine k_ishr X34 d_jdk_52_4_41 (w := c0) (own_shr0 c0) (pc' := 42) rfl ?_
  refine k_i2b X34 d_jdk_52_4_42 (w := (c0.toInt8.toInt32)) rfl (pc' := 43) rfl ?_
  have ge36 : n0 ≤ d := by omega
  refine k_bastore X34 (w := (c0.toInt8.toInt32)) (2 * i) d_jdk_52_4_43 q0 (own_nn (by omega)) l1 (own_clamp (by omega)) (by omega) (own_i2b _) (vs' := (vs.set (2 * i) (own_lo c0))) rfl trivial ge36 (pc' := 44) rfl fun T35 h35 L35 X35 K35 V35 => ?_
  have sz_h35 := K35.1
  have K0_h35 : Keep h0 h35 [d] := K0_h0.trans K35 (allS (Or.inl (List.mem_of_getElem? (i := 0) rfl)) all0)
  refine k_aloadN X35 d_jdk_52_4_44 rfl rfl (pc' := 45) rfl ?_
  refine k_iloadN X35 d_jdk_52_4_45 rfl (pc' := 46) rfl ?_
  refine k_iloadN X35 d_jdk_52_4_46 rfl (pc' := 47) rfl ?_
  refine k_getS X35 d_jdk_52_4_47 (host := "") (Or.inl (w_71 hw)) Via.refl (G_LO_BYTE_SHIFT.ext X35.old.2) (pc' := 50) rfl fun T37 X38 => ?_
  refine k_ishr X38 d_jdk_52_4_50 (w := (c0 >>> ((8 : Int32) &&& 31))) rfl (pc' := 51) rfl ?_
  refine k_i2b X38 d_jdk_52_4_51 (w := ((c0 >>> ((8 : Int32) &&& 31)).toInt8.toInt32)) rfl (pc' := 52) rfl ?_
  have ge40 : n0 ≤ d := by omega
  refine k_bastore X38 (w := ((c0 >>> ((8 : Int32) &&& 31)).toInt8.toInt32)) (2 * i + 1) d_jdk_52_4_52 V35 (own_nn (by omega)) l2 (own_clamp (by omega)) (by simp; omega) (own_i2b _) (vs' := ((vs.set (2 * i) (own_lo c0)).set (2 * i + 1) (own_hi c0))) rfl trivial ge40 (pc' := 53) rfl fun T39 h39 L39 X39 K39 V39 => ?_
  have sz_h39 := K39.1
  have K0_h39 : Keep h0 h39 [d] := K0_h35.trans K39 (allS (Or.inl (List.mem_of_getElem? (i := 0) rfl)) all0)
  exact k_retFV X39 d_jdk_52_4_53 rfl K0_h39 ⟨rfl, V39⟩ (by decide) (by decide)
set_option maxRecDepth 65536 in
set_option maxHeartbeats 40000000 in
theorem own_getC (l : Launch) (Z : State) (a0 : Array Value) (hw : ∀ d ∈ tables_1, d.before a0 Z = true) (G : Gl Z) (n0 : Nat) (h0 : Heap) (O0 : Old Z n0 h0) (d : Nat) (kd : ClassId) (zz : Int32) (cs : List Int32) (j : Nat) (jv : Int32) (hjv : jv = Int32.ofNat j) (hj : j < cs.length) (hzz : zz = Int32.ofNat (2 * cs.length)) (hb0 : 2 * cs.length < 2147483648) (hr : ¬ cs.getD j 0 < 0 ∧ ¬ 65535 < cs.getD j 0)  (q0 : Arv Z h0 d kd .byte zz (own_u16 cs) (.int (0 : Int32))) :
    MetF l [] Z n0 (⟨"java/lang/StringUTF16", "getChar", "([BI)C"⟩ : MethodName) jdk_52_method_5_code 2 (Option.some FieldType.char) ({ frames := 0, cells := 0, slots := 0, locals := 0 } : Room) #[(.ref d), (.int jv)] h0 [] (fun r h' => ∃ w, r = some w ∧ w = (.int (cs.getD j 0)) ∧ True) := by
  subst hjv
  refine metF (plainFor_of_name pn_0) O0 (Ls := #[.val (.ref d), .val (.int (Int32.ofNat j))]) (fun m => by first | rfl | (simp [entryFrame, mkF, argsToLocals, Value.category]; done)) ?_
  intro p e s m below meth c T0 X0
  have K0_h0 := Keep.refl h0 []
  have n0le := X0.n0le
  have ltq0 := own_n q0.lt
  obtain ⟨zc, fm, G_cs, G_zc, G_fm, isref_fm, G_assertionsDisabled, G_HI_BYTE_SHIFT, G_LO_BYTE_SHIFT⟩ := id G
  have l1 := own_lt (show 2 * j < 2 * cs.length by omega) hb0
  have l2 := own_lt (show 2 * j + 1 < 2 * cs.length by omega) hb0
  rw [← hzz] at l1 l2
  refine k_getS X0 d_jdk_52_5_0 (host := "") (Or.inl (w_69 hw)) Via.refl (G_assertionsDisabled.ext X0.old.2) (pc' := 3) rfl fun T41 X42 => ?_
  refine k_ifYes X42 d_jdk_52_5_3 (by decide) (pc' := 28) (by decide) (by decide) ?_
  refine k_iloadN X42 d_jdk_52_5_28 rfl (pc' := 29) rfl ?_
  refine k_iconst X42 d_jdk_52_5_29 (w := (1 : Int32)) rfl (pc' := 30) rfl ?_
  refine k_ishl X42 d_jdk_52_5_30 (w := (Int32.ofNat (2 * j))) (own_shl1 (by omega)) (pc' := 31) rfl ?_
  refine k_istoreN X42 d_jdk_52_5_31 (Ls' := #[.val (.ref d), .val (.int (Int32.ofNat (2 * j)))]) rfl (pc' := 32) rfl ?_
  refine k_aloadN X42 d_jdk_52_5_32 rfl rfl (pc' := 33) rfl ?_
  refine k_iloadN X42 d_jdk_52_5_33 rfl (pc' := 34) rfl ?_
  refine k_iinc X42 d_jdk_52_5_34 rfl (w := (Int32.ofNat (2 * j + 1))) (own_succ (2 * j)) (Ls' := #[.val (.ref d), .val (.int (Int32.ofNat (2 * j + 1)))]) rfl (pc' := 37) rfl ?_
  refine k_baload X42 d_jdk_52_5_37 q0 (own_nn (by omega)) l1 (v := (.int ((cs.getD j 0).toInt8.toInt32))) (by rw [own_clamp (by omega)]; exact own_u16lo cs j _ hj) (pc' := 38) rfl ?_
  refine k_sipush X42 d_jdk_52_5_38 (w := (255 : Int32)) rfl (pc' := 41) rfl ?_
  refine k_iand X42 d_jdk_52_5_41 (w := (((cs.getD j 0).toInt8.toInt32) &&& (255 : Int32))) rfl (pc' := 42) rfl ?_
  refine k_getS X42 d_jdk_52_5_42 (host := "") (Or.inl (w_70 hw)) Via.refl (G_HI_BYTE_SHIFT.ext X42.old.2) (pc' := 45) rfl fun T43 X44 => ?_
  refine k_ishl X44 d_jdk_52_5_45 (w := ((cs.getD j 0).toInt8.toInt32 &&& (255 : Int32))) (own_shl0 _) (pc' := 46) rfl ?_
  refine k_aloadN X44 d_jdk_52_5_46 rfl rfl (pc' := 47) rfl ?_
  refine k_iloadN X44 d_jdk_52_5_47 rfl (pc' := 48) rfl ?_
  refine k_baload X44 d_jdk_52_5_48 q0 (own_nn (by omega)) l2 (v := (.int ((cs.getD j 0 >>> ((8 : Int32) &&& 31)).toInt8.toInt32))) (by rw [own_clamp (by omega)]; exact own_u16hi cs j _ hj) (pc' := 49) rfl ?_
  refine k_sipush X44 d_jdk_52_5_49 (w := (255 : Int32)) rfl (pc' := 52) rfl ?_
  refine k_iand X44 d_jdk_52_5_52 (w := (((cs.getD j 0 >>> ((8 : Int32) &&& 31)).toInt8.toInt32) &&& (255 : Int32))) rfl (pc' := 53) rfl ?_
  refine k_getS X44 d_jdk_52_5_53 (host := "") (Or.inl (w_71 hw)) Via.refl (G_LO_BYTE_SHIFT.ext X44.old.2) (pc' := 56) rfl fun T45 X46 => ?_
  refine k_ishl X46 d_jdk_52_5_56 (w := ((((cs.getD j 0 >>> ((8 : Int32) &&& 31)).toInt8.toInt32) &&& (255 : Int32)) <<< ((8 : Int32) &&& 31))) rfl (pc' := 57) rfl ?_
  refine k_ior X46 d_jdk_52_5_57 (w := (((cs.getD j 0).toInt8.toInt32 &&& (255 : Int32)) ||| ((((cs.getD j 0 >>> ((8 : Int32) &&& 31)).toInt8.toInt32) &&& (255 : Int32)) <<< ((8 : Int32) &&& 31)))) rfl (pc' := 58) rfl ?_
  refine k_i2c X46 d_jdk_52_5_58 (w := (cs.getD j 0)) (own_join hr.1 hr.2) (pc' := 59) rfl ?_
  exact k_retFN X46 (w := (cs.getD j 0)) d_jdk_52_5_59 (t := .char) rfl (by simp) (own_i2c_id hr.1 hr.2) K0_h0 ⟨_, rfl, rfl, trivial⟩ (by decide) (by decide)
set_option maxRecDepth 65536 in
set_option maxHeartbeats 40000000 in
theorem own_nbl (l : Launch) (Z : State) (a0 : Array Value) (hw : ∀ d ∈ tables_1, d.before a0 Z = true) (G : Gl Z) (n0 : Nat) (h0 : Heap) (O0 : Old Z n0 h0) (n : Nat) (zv : Int32) (hzv : zv = Int32.ofNat n) (hn : n < 1073741823)   :
    MetF l [] Z n0 (⟨"java/lang/StringUTF16", "newBytesLength", "(I)I"⟩ : MethodName) jdk_52_method_3_code 1 (Option.some FieldType.int) ({ frames := 0, cells := 0, slots := 0, locals := 0 } : Room) #[(.int zv)] h0 [] (fun r h' => ∃ w, r = some w ∧ w = (.int (Int32.ofNat (2 * n))) ∧ True) := by
  subst hzv
  refine metF (plainFor_of_name pn_0) O0 (Ls := #[.val (.int (Int32.ofNat n))]) (fun m => by first | rfl | (simp [entryFrame, mkF, argsToLocals, Value.category]; done)) ?_
  intro p e s m below meth c T0 X0
  have K0_h0 := Keep.refl h0 []
  have n0le := X0.n0le
  obtain ⟨zc, fm, G_cs, G_zc, G_fm, isref_fm, G_assertionsDisabled, G_HI_BYTE_SHIFT, G_LO_BYTE_SHIFT⟩ := id G
  have h1 : Int32.ofNat n < (1073741823 : Int32) := own_lt hn (by decide)
  refine k_iloadN X0 d_jdk_52_3_0 rfl (pc' := 1) rfl ?_
  refine k_ifYes X0 d_jdk_52_3_1 ((if0 _ _).trans (flt (own_nn (by omega))).2.1) (pc' := 12) (by decide) (by decide) ?_
  refine k_iloadN X0 d_jdk_52_3_12 rfl (pc' := 13) rfl ?_
  refine k_ldcI X0 d_jdk_52_3_13 (w_65 hw) (pc' := 15) rfl ?_
  refine k_icmpYes X0 d_jdk_52_3_15 (tlt h1).1 (pc' := 55) (by decide) (by decide) ?_
  refine k_iloadN X0 d_jdk_52_3_55 rfl (pc' := 56) rfl ?_
  refine k_iconst X0 d_jdk_52_3_56 (w := (1 : Int32)) rfl (pc' := 57) rfl ?_
  refine k_ishl X0 d_jdk_52_3_57 (w := (Int32.ofNat (2 * n))) (own_shl1 (by omega)) (pc' := 58) rfl ?_
  exact k_retFI X0 d_jdk_52_3_58 rfl K0_h0 ⟨_, rfl, rfl, trivial⟩ (by decide) (by decide)
set_option maxRecDepth 65536 in
set_option maxHeartbeats 40000000 in
theorem own_nbf (l : Launch) (Z : State) (a0 : Array Value) (hw : ∀ d ∈ tables_1, d.before a0 Z = true) (G : Gl Z) (n0 : Nat) (h0 : Heap) (O0 : Old Z n0 h0) (n : Nat) (zv : Int32) (hzv : zv = Int32.ofNat n) (hn : n ≤ 2)   :
    MetF l [] Z n0 (⟨"java/lang/StringUTF16", "newBytesFor", "(I)[B"⟩ : MethodName) jdk_52_method_2_code 1 (Option.some (FieldType.array FieldType.byte)) ({ frames := 1, cells := 1, slots := 4, locals := 12 } : Room) #[(.int zv)] h0 [] (fun r h' => ∃ w, r = some w ∧ ∃ (t : Nat), ∃ (kt : ClassId), w = (.ref t) ∧ (Arv Z h' t kt .byte (Int32.ofNat (2 * n)) (List.replicate (2 * n) (.int (0 : Int32))) (.int (0 : Int32))) ∧ (h0.size ≤ t)) := by
  refine metF (plainFor_of_name pn_0) O0 (Ls := #[.val (.int zv)]) (fun m => by first | rfl | (simp [entryFrame, mkF, argsToLocals, Value.category]; done)) ?_
  intro p e s m below meth c T0 X0
  have K0_h0 := Keep.refl h0 []
  have n0le := X0.n0le
  obtain ⟨zc, fm, G_cs, G_zc, G_fm, isref_fm, G_assertionsDisabled, G_HI_BYTE_SHIFT, G_LO_BYTE_SHIFT⟩ := id G
  refine k_iloadN X0 d_jdk_52_2_0 rfl (pc' := 1) rfl ?_
  refine k_callSVF X0 (y := (⟨"java/lang/StringUTF16", "newBytesLength", "(I)I"⟩ : MethodName)) d_jdk_52_2_1 (w_62 hw) (w_63 hw) (w_43 hw) (w_64 hw) (by decide) (argsL := [(.int zv)]) (rest := []) (own_nbl l Z a0 hw G n0 h0 X0.old n zv hzv (by omega) ) rfl pd_3 rfl rfl (by decide) (W := 0) (Nat.le_of_eq rfl) (by decide) (by decide) (by decide) all0 (pc' := 4) rfl ?_
  rintro _ T47 h47 L47 X47 K47 ⟨rfl, -⟩
  have sz_h47 := K47.1
  have K0_h47 : Keep h0 h47 [] := K0_h0.trans K47 all0
  refine k_newP X47 d_jdk_52_2_4 (w_45 hw) (own_nn (by omega)) (cap := 4) (by rw [own_clamp (by omega)]; omega) (by decide) (by decide) (by decide) (pc' := 6) rfl fun T49 h49 b49 k49 g49 X49 K49 V49 S49 lt49 ge49 => ?_
  have sz_h49 := K49.1
  have K0_h49 : Keep h0 h49 [] := K0_h47.trans K49 all0
  have Vp : Arv Z h49 b49 k49 .byte (Int32.ofNat (2 * n)) (List.replicate (2 * n) (.int (0 : Int32))) (.int (0 : Int32)) := Arv.pad V49 (fun i => by simpa using pad_rep [] (.int (0 : Int32)) (2 * n) i)
  exact k_retFA X49 d_jdk_52_2_6 rfl rfl rfl rfl K0_h49 ⟨_, rfl, _, _, rfl, Vp, by omega⟩ (by decide) (by decide)
set_option maxRecDepth 65536 in
set_option maxHeartbeats 40000000 in
theorem own_toB (l : Launch) (Z : State) (a0 : Array Value) (hw : ∀ d ∈ tables_1, d.before a0 Z = true) (G : Gl Z) (n0 : Nat) (h0 : Heap) (O0 : Old Z n0 h0) (b : Nat) (kb : ClassId) (z : Int32) (cs : List Int32) (hz : z = Int32.ofNat cs.length) (hn : cs.length ≤ 2)  (q0 : Arv Z h0 b kb .char z (cs.map Value.int) (.int 0)) :
    MetF l [] Z n0 (⟨"java/lang/StringUTF16", "toBytes", "([CII)[B"⟩ : MethodName) jdk_52_method_14_code 5 (Option.some (FieldType.array FieldType.byte)) ({ frames := 2, cells := 1, slots := 4, locals := 24 } : Room) #[(.ref b), (.int (0 : Int32)), (.int z)] h0 [] (fun r h' => ∃ w, r = some w ∧ ∃ (t : Nat), ∃ (kt : ClassId), w = (.ref t) ∧ (Arv Z h' t kt .byte (Int32.ofNat (2 * cs.length)) (own_u16 cs) (.int (0 : Int32))) ∧ (h0.size ≤ t)) := by
  refine metF (plainFor_of_name pn_0) O0 (Ls := #[.val (.ref b), .val (.int (0 : Int32)), .val (.int z), .unset, .unset]) (fun m => by first | rfl | (simp [entryFrame, mkF, argsToLocals, Value.category]; done)) ?_
  intro p e s m below meth c T0 X0
  have K0_h0 := Keep.refl h0 []
  have n0le := X0.n0le
  have ltq0 := own_n q0.lt
  obtain ⟨zc, fm, G_cs, G_zc, G_fm, isref_fm, G_assertionsDisabled, G_HI_BYTE_SHIFT, G_LO_BYTE_SHIFT⟩ := id G
  refine k_iloadN X0 d_jdk_52_14_0 rfl (pc' := 1) rfl ?_
  refine k_callSVF X0 (y := (⟨"java/lang/StringUTF16", "newBytesFor", "(I)[B"⟩ : MethodName)) d_jdk_52_14_1 (w_59 hw) (w_60 hw) (w_43 hw) (w_61 hw) (by decide) (argsL := [(.int z)]) (rest := []) (own_nbf l Z a0 hw G n0 h0 X0.old (cs.length) z hz hn ) rfl pd_4 rfl rfl (by decide) (W := 0) (Nat.le_of_eq rfl) (by decide) (by decide) (by decide) all0 (pc' := 4) rfl ?_
  rintro _ T52 h52 L52 X52 K52 ⟨t_50, kt_51, rfl, q52_0, q52_1⟩
  have sz_h52 := K52.1
  have K0_h52 : Keep h0 h52 [] := K0_h0.trans K52 all0
  have lt52_0 := own_n q52_0.lt
  refine k_astoreN X52 d_jdk_52_14_4 rfl (Ls' := #[.val (.ref b), .val (.int (0 : Int32)), .val (.int z), .val (.ref t_50), .unset]) rfl (pc' := 5) rfl ?_
  refine k_iconst X52 d_jdk_52_14_5 (w := (0 : Int32)) rfl (pc' := 6) rfl ?_
  refine k_istore X52 d_jdk_52_14_6 (Ls' := #[.val (.ref b), .val (.int (0 : Int32)), .val (.int z), .val (.ref t_50), .val (.int (0 : Int32))]) rfl (pc' := 8) rfl ?_
  have loop : ∀ (n i : Nat) (T : State) (h : Heap) (L : List Loc) (cl sl : Nat), n = cs.length - i → i ≤ cs.length → cl = 1 → sl = 4 → WP p l e ({ frames := 2, cells := 1, slots := 4, locals := 24 } : Room) s m #[(.ref b), (.int (0 : Int32)), (.int z)] below meth c Z "java/lang/StringUTF16" "toBytes" jdk_52_method_14_code 5 (Option.some (FieldType.array FieldType.byte)) n0 (fun _ => True) (fun _ _ => True) T h L cl sl → Keep h0 h [] → Arv Z h b kb .char z (cs.map Value.int) (.int 0) → Arv Z h t_50 kt_51 .byte (Int32.ofNat (2 * cs.length)) (own_u16 (cs.take i) ++ List.replicate (2 * (cs.length - i)) (.int (0 : Int32))) (.int (0 : Int32)) → Run p.tables e below (PF s below n0 h0 [] (fun r h' => ∃ w, r = some w ∧ ∃ (t : Nat), ∃ (kt : ClassId), w = (.ref t) ∧ (Arv Z h' t kt .byte (Int32.ofNat (2 * cs.length)) (own_u16 cs) (.int (0 : Int32))) ∧ (h0.size ≤ t)) ({ frames := 2, cells := 1, slots := 4, locals := 24 } : Room).cells ({ frames := 2, cells := 1, slots := 4, locals := 24 } : Room).slots) T (mkF m 8 #[.val (.ref b), .val (.int (Int32.ofNat i)), .val (.int z), .val (.ref t_50), .val (.int (Int32.ofNat i))] []) := by
    intro n
    induction n with
    | zero =>
      intro i T h L cl sl hni hij hcl hsl X K Vb Vd
      subst hcl hsl
      have hi : i = cs.length := by omega
      subst hi
      have hnl : ¬ (Int32.ofNat cs.length < z) := by rw [← hz]; exact Int32.lt_irrefl
      have lb := own_n Vb.lt
      have ld := own_n Vd.lt
      have lh0 := K.1
      have lb0 := own_n q0.lt
      have nle := X.n0le
      refine k_iload X d_jdk_52_14_8 rfl (pc' := 10) rfl ?_
      refine k_iloadN X d_jdk_52_14_10 rfl (pc' := 11) rfl ?_
      refine k_icmpYes X d_jdk_52_14_11 (flt hnl).2.1 (pc' := 32) (by decide) (by decide) ?_
      refine k_aloadN X d_jdk_52_14_32 rfl rfl (pc' := 33) rfl ?_
      have Ve : Arv Z h t_50 kt_51 .byte (Int32.ofNat (2 * cs.length)) (own_u16 cs) (.int (0 : Int32)) := by simpa using Vd
      exact k_retFA X d_jdk_52_14_33 rfl rfl rfl rfl K ⟨_, rfl, _, _, rfl, Ve, by omega⟩ (by decide) (by decide)
    | succ n ih =>
      intro i T h L cl sl hni hij hcl hsl X K Vb Vd
      subst hcl hsl
      have hi : i < cs.length := by omega
      have hlt := own_lt hi (by omega)
      rw [← hz] at hlt
      have lb := own_n Vb.lt
      have ld := own_n Vd.lt
      have lh0 := K.1
      have lb0 := own_n q0.lt
      have nle := X.n0le
      refine k_iload X d_jdk_52_14_8 rfl (pc' := 10) rfl ?_
      refine k_iloadN X d_jdk_52_14_10 rfl (pc' := 11) rfl ?_
      refine k_icmpNo X d_jdk_52_14_11 (tlt hlt).2.1 (pc' := 14) rfl ?_
      refine k_aloadN X d_jdk_52_14_14 rfl rfl (pc' := 15) rfl ?_
      refine k_iload X d_jdk_52_14_15 rfl (pc' := 17) rfl ?_
      refine k_aloadN X d_jdk_52_14_17 rfl rfl (pc' := 18) rfl ?_
      refine k_iloadN X d_jdk_52_14_18 rfl (pc' := 19) rfl ?_
      refine k_caload X d_jdk_52_14_19 Vb (own_nn (by omega)) hlt (v := (.int (cs.getD i 0))) (own_getc' cs (by omega)) (pc' := 20) rfl ?_
      have ge54 : n0 ≤ t_50 := by omega
      refine k_callSNF X (y := (⟨"java/lang/StringUTF16", "putChar", "([BII)V"⟩ : MethodName)) d_jdk_52_14_20 (w_66 hw) (w_67 hw) (w_43 hw) (w_68 hw) (by decide) (argsL := [(.ref t_50), (.int (Int32.ofNat i)), (.int (cs.getD i 0))]) (rest := []) (own_putC l Z a0 hw G n0 h X.old t_50 kt_51 (Int32.ofNat (2 * cs.length)) (own_u16 (cs.take i) ++ List.replicate (2 * (cs.length - i)) (.int (0 : Int32))) i (cs.getD i 0) (by rw [own_u16l cs i hij]; omega) (by rw [own_u16l cs i hij]) (by rw [own_u16l cs i hij]; omega) (by omega) Vd) rfl pd_5 rfl rfl (by decide) (W := 0) (Nat.le_of_eq rfl) (by decide) (by decide) (by decide) (allS ⟨trivial, ge54⟩ all0) (pc' := 23) rfl ?_
      rintro T55 h55 L55 X55 K55 q55_0
      have sz_h55 := K55.1
      have K0_h55 : Keep h0 h55 [] := K.trans K55 (allS (Or.inr (by omega)) all0)
      have lt55_0 := own_n q55_0.lt
      refine k_iinc X55 d_jdk_52_14_23 rfl (w := (Int32.ofNat (i + 1))) (own_succ i) (Ls' := #[.val (.ref b), .val (.int (Int32.ofNat (i + 1))), .val (.int z), .val (.ref t_50), .val (.int (Int32.ofNat i))]) rfl (pc' := 26) rfl ?_
      refine k_iinc X55 d_jdk_52_14_26 rfl (w := (Int32.ofNat (i + 1))) (own_succ i) (Ls' := #[.val (.ref b), .val (.int (Int32.ofNat (i + 1))), .val (.int z), .val (.ref t_50), .val (.int (Int32.ofNat (i + 1)))]) rfl (pc' := 29) rfl ?_
      refine k_goto X55 d_jdk_52_14_29 (pc' := 8) (by decide) (by decide) ?_
      have c56 := (Vb.keep K55 (ninS (own_ne (by omega) : b ≠ t_50) nin0))
      rw [own_u16turn cs i hi] at q55_0
      exact ih (i + 1) _ _ _ _ _ (by omega) (by omega) rfl rfl X55 K0_h55 c56 q55_0
  have c57 := (q0.keep K52 nin0)
  exact loop _ 0 _ _ _ _ _ rfl (by omega) rfl rfl X52 K0_h52 c57 (by simpa [own_u16] using q52_0)
set_option maxRecDepth 65536 in
set_option maxHeartbeats 40000000 in
theorem own_cmp3U (l : Launch) (Z : State) (a0 : Array Value) (hw : ∀ d ∈ tables_1, d.before a0 Z = true) (G : Gl Z) (n0 : Nat) (h0 : Heap) (O0 : Old Z n0 h0) (b : Nat) (kb : ClassId) (z : Int32) (cs : List Int32) (hz : z = Int32.ofNat cs.length) (hn : cs.length ≤ 2) (hj : own_fst cs < cs.length)  (q0 : Arv Z h0 b kb .char z (cs.map Value.int) (.int 0)) :
    MetF l [] Z n0 (⟨"java/lang/StringUTF16", "compress", "([CII)[B"⟩ : MethodName) jdk_52_method_16_code 6 (Option.some (FieldType.array FieldType.byte)) ({ frames := 3, cells := 2, slots := 6, locals := 40 } : Room) #[(.ref b), (.int (0 : Int32)), (.int z)] h0 [] (fun r h' => ∃ w, r = some w ∧ ∃ (t : Nat), ∃ (kt : ClassId), w = (.ref t) ∧ (Arv Z h' t kt .byte (Int32.ofNat (2 * cs.length)) (own_u16 cs) (.int (0 : Int32))) ∧ (h0.size ≤ t)) := by
  refine metF (plainFor_of_name pn_0) O0 (Ls := #[.val (.ref b), .val (.int (0 : Int32)), .val (.int z), .unset, .unset, .unset]) (fun m => by first | rfl | (simp [entryFrame, mkF, argsToLocals, Value.category]; done)) ?_
  intro p e s m below meth c T0 X0
  have K0_h0 := Keep.refl h0 []
  have n0le := X0.n0le
  have ltq0 := own_n q0.lt
  obtain ⟨zc, fm, G_cs, G_zc, G_fm, isref_fm, G_assertionsDisabled, G_HI_BYTE_SHIFT, G_LO_BYTE_SHIFT⟩ := id G
  have hnz : ¬ z < 0 := by rw [hz]; exact own_nn (by omega)
  have hcl : z.toNatClampNeg = cs.length := by rw [hz]; exact own_clamp (by omega)
  have hrg := own_rng q0 hz (by omega) (own_fst cs) hj
  refine k_iloadN X0 d_jdk_52_16_0 rfl (pc' := 1) rfl ?_
  refine k_newP X0 d_jdk_52_16_1 (w_45 hw) hnz (cap := 2) (by omega) (by decide) (by decide) (by decide) (pc' := 3) rfl fun T58 h58 b58 k58 g58 X58 K58 V58 S58 lt58 ge58 => ?_
  have sz_h58 := K58.1
  have K0_h58 : Keep h0 h58 [] := K0_h0.trans K58 all0
  have Vp : Arv Z h58 b58 k58 .byte z (List.replicate cs.length (.int (0 : Int32))) (.int (0 : Int32)) := Arv.pad V58 (fun i => by simpa using pad_rep [] (.int (0 : Int32)) cs.length i)
  refine k_astoreN X58 d_jdk_52_16_3 rfl (Ls' := #[.val (.ref b), .val (.int (0 : Int32)), .val (.int z), .val (.ref b58), .unset, .unset]) rfl (pc' := 4) rfl ?_
  refine k_aloadN X58 d_jdk_52_16_4 rfl rfl (pc' := 5) rfl ?_
  refine k_iloadN X58 d_jdk_52_16_5 rfl (pc' := 6) rfl ?_
  refine k_aloadN X58 d_jdk_52_16_6 rfl rfl (pc' := 7) rfl ?_
  refine k_iconst X58 d_jdk_52_16_7 (w := (0 : Int32)) rfl (pc' := 8) rfl ?_
  refine k_iloadN X58 d_jdk_52_16_8 rfl (pc' := 9) rfl ?_
  have c59 := (q0.keep K58 nin0)
  have ge60 : n0 ≤ b58 := by omega
  refine k_callSVF X58 (y := (⟨"java/lang/StringUTF16", "compress", "([CI[BII)I"⟩ : MethodName)) d_jdk_52_16_9 (w_46 hw) (w_47 hw) (w_43 hw) (w_48 hw) (by decide) (argsL := [(.ref b), (.int (0 : Int32)), (.ref b58), (.int (0 : Int32)), (.int z)]) (rest := []) (own_cmp5 l Z a0 hw G n0 h58 X58.old b b58 kb k58 z cs (List.replicate cs.length (.int (0 : Int32))) (by omega) hz (by omega) (by simp) (by omega) c59 Vp) rfl pd_0 rfl rfl (by decide) (W := 0) (Nat.le_of_eq rfl) (by decide) (by decide) (by decide) (allS ⟨trivial, ge60⟩ all0) (pc' := 12) rfl ?_
  rintro _ T61 h61 L61 X61 K61 ⟨rfl, q61_0⟩
  have sz_h61 := K61.1
  have K0_h61 : Keep h0 h61 [] := K0_h58.trans K61 (allS (Or.inr (by omega)) all0)
  have lt61_0 := own_n q61_0.lt
  refine k_istore X61 d_jdk_52_16_12 (Ls' := #[.val (.ref b), .val (.int (0 : Int32)), .val (.int z), .val (.ref b58), .val (.int (Int32.ofNat (own_fst cs))), .unset]) rfl (pc' := 14) rfl ?_
  refine k_iload X61 d_jdk_52_16_14 rfl (pc' := 16) rfl ?_
  refine k_iloadN X61 d_jdk_52_16_16 rfl (pc' := 17) rfl ?_
  have hz2 : ¬ (Int32.ofNat (own_fst cs) = z) := by rw [hz]; intro q; have := own_lt hj (by omega); rw [q] at this; exact Int32.lt_irrefl this
  refine k_icmpNo X61 d_jdk_52_16_17 (feq hz2).1 (pc' := 20) rfl ?_
  refine k_aloadN X61 d_jdk_52_16_20 rfl rfl (pc' := 21) rfl ?_
  refine k_iloadN X61 d_jdk_52_16_21 rfl (pc' := 22) rfl ?_
  refine k_iloadN X61 d_jdk_52_16_22 rfl (pc' := 23) rfl ?_
  have c63 := (c59.keep K61 (ninS (own_ne (by omega) : b ≠ b58) nin0))
  refine k_callSVF X61 (y := (⟨"java/lang/StringUTF16", "toBytes", "([CII)[B"⟩ : MethodName)) d_jdk_52_16_23 (w_56 hw) (w_57 hw) (w_43 hw) (w_58 hw) (by decide) (argsL := [(.ref b), (.int (0 : Int32)), (.int z)]) (rest := []) (own_toB l Z a0 hw G n0 h61 X61.old b kb z cs hz hn c63) rfl pd_1 rfl rfl (by decide) (W := 0) (Nat.le_of_eq rfl) (by decide) (by decide) (by decide) all0 (pc' := 26) rfl ?_
  rintro _ T66 h66 L66 X66 K66 ⟨t_64, kt_65, rfl, q66_0, q66_1⟩
  have sz_h66 := K66.1
  have K0_h66 : Keep h0 h66 [] := K0_h61.trans K66 all0
  have lt66_0 := own_n q66_0.lt
  refine k_astore X66 d_jdk_52_16_26 rfl (Ls' := #[.val (.ref b), .val (.int (0 : Int32)), .val (.int z), .val (.ref b58), .val (.int (Int32.ofNat (own_fst cs))), .val (.ref t_64)]) rfl (pc' := 28) rfl ?_
  refine k_aload X66 d_jdk_52_16_28 rfl rfl (pc' := 30) rfl ?_
  refine k_iload X66 d_jdk_52_16_30 rfl (pc' := 32) rfl ?_
  refine k_callSVF X66 (y := (⟨"java/lang/StringUTF16", "getChar", "([BI)C"⟩ : MethodName)) d_jdk_52_16_32 (w_72 hw) (w_73 hw) (w_43 hw) (w_74 hw) (by decide) (argsL := [(.ref t_64), (.int (Int32.ofNat (own_fst cs)))]) (rest := []) (own_getC l Z a0 hw G n0 h66 X66.old t_64 kt_65 (Int32.ofNat (2 * cs.length)) cs (own_fst cs) (Int32.ofNat (own_fst cs)) rfl hj rfl (by omega) hrg q66_0) rfl pd_6 rfl rfl (by decide) (W := 0) (Nat.le_of_eq rfl) (by decide) (by decide) (by decide) all0 (pc' := 35) rfl ?_
  rintro _ T68 h68 L68 X68 K68 ⟨rfl, -⟩
  have sz_h68 := K68.1
  have K0_h68 : Keep h0 h68 [] := K0_h66.trans K68 all0
  refine k_sipush X68 d_jdk_52_16_35 (w := (255 : Int32)) rfl (pc' := 38) rfl ?_
  refine k_icmpYes X68 d_jdk_52_16_38 (tlt (own_fst_hi cs hj)).2.2.1 (pc' := 54) (by decide) (by decide) ?_
  refine k_aload X68 d_jdk_52_16_54 rfl rfl (pc' := 56) rfl ?_
  have c70 := (q66_0.keep K68 nin0)
  exact k_retFA X68 d_jdk_52_16_56 rfl rfl rfl rfl K0_h68 ⟨_, rfl, _, _, rfl, c70, by omega⟩ (by decide) (by decide)
set_option maxRecDepth 65536 in
set_option maxHeartbeats 40000000 in
theorem own_codU (l : Launch) (Z : State) (a0 : Array Value) (hw : ∀ d ∈ tables_1, d.before a0 Z = true) (G : Gl Z) (n0 : Nat) (h0 : Heap) (O0 : Old Z n0 h0) (d : Nat) (k : ClassId) (z : Int32) (cs : List Int32) (bs : List Value) (dv : Value) (hz : z = Int32.ofNat cs.length) (h1 : 0 < cs.length) (hn : cs.length < 1073741824)  (q0 : Arv Z h0 d k .byte (Int32.ofNat (2 * cs.length)) bs dv) :
    MetF l [] Z n0 (⟨"java/lang/StringUTF16", "coderFromArrayLen", "([BI)B"⟩ : MethodName) jdk_52_method_15_code 2 (Option.some FieldType.byte) ({ frames := 0, cells := 0, slots := 0, locals := 0 } : Room) #[(.ref d), (.int z)] h0 [] (fun r h' => ∃ w, r = some w ∧ w = (.int (1 : Int32)) ∧ True) := by
  subst hz
  refine metF (plainFor_of_name pn_0) O0 (Ls := #[.val (.ref d), .val (.int (Int32.ofNat cs.length))]) (fun m => by first | rfl | (simp [entryFrame, mkF, argsToLocals, Value.category]; done)) ?_
  intro p e s m below meth c T0 X0
  have K0_h0 := Keep.refl h0 []
  have n0le := X0.n0le
  have ltq0 := own_n q0.lt
  obtain ⟨zc, fm, G_cs, G_zc, G_fm, isref_fm, G_assertionsDisabled, G_HI_BYTE_SHIFT, G_LO_BYTE_SHIFT⟩ := id G
  refine k_iloadN X0 d_jdk_52_15_0 rfl (pc' := 1) rfl ?_
  refine k_aloadN X0 d_jdk_52_15_1 rfl rfl (pc' := 2) rfl ?_
  refine k_arlen X0 d_jdk_52_15_2 q0 (pc' := 3) rfl ?_
  refine k_isub X0 d_jdk_52_15_3 (w := ((Int32.ofNat cs.length) - (Int32.ofNat (2 * cs.length)))) rfl (pc' := 4) rfl ?_
  refine k_bipush X0 d_jdk_52_15_4 (w := (31 : Int32)) rfl (pc' := 6) rfl ?_
  refine k_iushr X0 d_jdk_52_15_6 (w := (1 : Int32)) (own_neg31 h1 hn) (pc' := 7) rfl ?_
  refine k_i2b X0 d_jdk_52_15_7 (w := (1 : Int32)) (by decide) (pc' := 8) rfl ?_
  exact k_retFN X0 (w := (1 : Int32)) d_jdk_52_15_8 (t := .byte) rfl (by simp) rfl K0_h0 ⟨_, rfl, rfl, trivial⟩ (by decide) (by decide)
set_option maxRecDepth 65536 in
set_option maxHeartbeats 40000000 in
theorem own_init4U (l : Launch) (Z : State) (a0 : Array Value) (hw : ∀ d ∈ tables_1, d.before a0 Z = true) (G : Gl Z) (n0 : Nat) (h0 : Heap) (O0 : Old Z n0 h0) (a : Nat) (b : Nat) (kb : ClassId) (z : Int32) (cs : List Int32) (hz : z = Int32.ofNat cs.length) (h1 : 0 < cs.length) (hn : cs.length ≤ 2) (hj : own_fst cs < cs.length) (gw0 : n0 ≤ a) (q0 : Exa Z h0 a "java/lang/String") (q1 : Fld Z h0 a "java/lang/String" "value" "[B" .null) (q2 : Fld Z h0 a "java/lang/String" "coder" "B" (.int (0 : Int32))) (q3 : Arv Z h0 b kb .char z (cs.map Value.int) (.int 0)) :
    MetF l [] Z n0 (⟨"java/lang/String", "<init>", "([CIILjava/lang/Void;)V"⟩ : MethodName) jdk_42_method_149_code 6 (Option.none : Option FieldType) ({ frames := 4, cells := 2, slots := 6, locals := 57 } : Room) #[(.ref a), (.ref b), (.int (0 : Int32)), (.int z), .null] h0 [a] (fun r h' => r = none ∧ ∃ (t : Nat), ∃ (kt : ClassId), (Exa Z h' a "java/lang/String") ∧ (Fld Z h' a "java/lang/String" "coder" "B" (.int (1 : Int32))) ∧ (Fld Z h' a "java/lang/String" "value" "[B" (.ref t)) ∧ (Arv Z h' t kt .byte (Int32.ofNat (2 * cs.length)) (own_u16 cs) (.int (0 : Int32))) ∧ (h0.size ≤ t)) := by
  refine metF (plainFor_of_name pn_1) O0 (Ls := #[.val (.ref a), .val (.ref b), .val (.int (0 : Int32)), .val (.int z), .val .null, .unset]) (fun m => by first | rfl | (simp [entryFrame, mkF, argsToLocals, Value.category]; done)) ?_
  intro p e s m below meth c T0 X0
  have K0_h0 := Keep.refl h0 [a]
  have n0le := X0.n0le
  have ltq0 := own_n q0.lt
  have ltq1 := own_n q1.lt
  have ltq2 := own_n q2.lt
  have ltq3 := own_n q3.lt
  obtain ⟨zc, fm, G_cs, G_zc, G_fm, isref_fm, G_assertionsDisabled, G_HI_BYTE_SHIFT, G_LO_BYTE_SHIFT⟩ := id G
  have hnz0 : ¬ z = 0 := by rw [hz]; exact own_nz h1 (by omega)
  refine k_aloadN X0 d_jdk_42_149_0 rfl rfl (pc' := 1) rfl ?_
  refine k_initO X0 d_jdk_42_149_1 (w_39 hw) (w_16 hw) (w_17 hw) rfl (by decide) (W := 0) (Nat.le_of_eq rfl) (by decide) (pc' := 4) rfl fun T71 X72 => ?_
  refine k_iloadN X72 d_jdk_42_149_4 rfl (pc' := 5) rfl ?_
  refine k_ifYes X72 d_jdk_42_149_5 ((if0 _ _).trans (feq hnz0).2) (pc' := 27) (by decide) (by decide) ?_
  refine k_getS X72 d_jdk_42_149_27 (host := "") (Or.inl (w_40 hw)) Via.refl (G_cs.ext X72.old.2) (pc' := 30) rfl fun T73 X74 => ?_
  refine k_ifNo X74 d_jdk_42_149_30 ((if0 _ _).trans (feq G_zc).1) (pc' := 33) rfl ?_
  refine k_aloadN X74 d_jdk_42_149_33 rfl rfl (pc' := 34) rfl ?_
  refine k_iloadN X74 d_jdk_42_149_34 rfl (pc' := 35) rfl ?_
  refine k_iloadN X74 d_jdk_42_149_35 rfl (pc' := 36) rfl ?_
  refine k_callSVF X74 (y := (⟨"java/lang/StringUTF16", "compress", "([CII)[B"⟩ : MethodName)) d_jdk_42_149_36 (w_41 hw) (w_42 hw) (w_43 hw) (w_44 hw) (by decide) (argsL := [(.ref b), (.int (0 : Int32)), (.int z)]) (rest := []) (own_cmp3U l Z a0 hw G n0 h0 X74.old b kb z cs hz (by omega) hj q3) rfl pd_1 rfl rfl (by decide) (W := 0) (Nat.le_of_eq rfl) (by decide) (by decide) (by decide) all0 (pc' := 39) rfl ?_
  rintro _ T77 h77 L77 X77 K77 ⟨t_75, kt_76, rfl, q77_0, q77_1⟩
  have sz_h77 := K77.1
  have K0_h77 : Keep h0 h77 [a] := K0_h0.trans K77 all0
  have lt77_0 := own_n q77_0.lt
  refine k_astore X77 d_jdk_42_149_39 rfl (Ls' := #[.val (.ref a), .val (.ref b), .val (.int (0 : Int32)), .val (.int z), .val .null, .val (.ref t_75)]) rfl (pc' := 41) rfl ?_
  refine k_aloadN X77 d_jdk_42_149_41 rfl rfl (pc' := 42) rfl ?_
  refine k_aload X77 d_jdk_42_149_42 rfl rfl (pc' := 44) rfl ?_
  refine k_iloadN X77 d_jdk_42_149_44 rfl (pc' := 45) rfl ?_
  refine k_callSVF X77 (y := (⟨"java/lang/StringUTF16", "coderFromArrayLen", "([BI)B"⟩ : MethodName)) d_jdk_42_149_45 (w_49 hw) (w_50 hw) (w_43 hw) (w_51 hw) (by decide) (argsL := [(.ref t_75), (.int z)]) (rest := [(.ref a)]) (own_codU l Z a0 hw G n0 h77 X77.old t_75 kt_76 z cs (own_u16 cs) (.int (0 : Int32)) hz h1 (by omega) q77_0) rfl pd_2 rfl rfl (by decide) (W := 1) (Nat.le_of_eq rfl) (by decide) (by decide) (by decide) all0 (pc' := 48) rfl ?_
  rintro _ T79 h79 L79 X79 K79 ⟨rfl, -⟩
  have sz_h79 := K79.1
  have K0_h79 : Keep h0 h79 [a] := K0_h77.trans K79 all0
  have c81 := ((q2.keep K77 nin0).keep K79 nin0)
  have c82 := ((q0.keep K77).keep K79)
  have ge84 : n0 ≤ a := by omega
  refine k_putF X79 d_jdk_42_149_48 (host := "") (Or.inl (w_52 hw)) Via.refl c81 c82 (Or.inr ⟨(w_53 hw), rfl, X79.hnm⟩) (w_30 hw) (ty := .byte) (by decide) rfl rfl trivial ge84 (pc' := 51) rfl fun T83 h83 L83 X83 W83 K83 => ?_
  have sz_h83 := K83.1
  have K0_h83 : Keep h0 h83 [a] := K0_h79.trans K83 (allS (Or.inl (List.mem_of_getElem? (i := 0) rfl)) all0)
  have F83 := c81.same W83
  refine k_aloadN X83 d_jdk_42_149_51 rfl rfl (pc' := 52) rfl ?_
  refine k_aload X83 d_jdk_42_149_52 rfl rfl (pc' := 54) rfl ?_
  have c85 := (((q1.keep K77 nin0).keep K79 nin0).other W83 (Or.inr (slot_ne (Or.inr (w_55 hw)) (Or.inr (w_53 hw)) (by decide) (t := (.array .byte)) (t' := .byte) (by decide) (by decide))))
  have c86 := (c82.keep K83)
  have ge88 : n0 ≤ a := by omega
  refine k_putF X83 d_jdk_42_149_54 (host := "") (Or.inl (w_54 hw)) Via.refl c85 c86 (Or.inr ⟨(w_55 hw), rfl, X83.hnm⟩) (w_30 hw) (ty := (.array .byte)) (by decide) rfl rfl trivial ge88 (pc' := 57) rfl fun T87 h87 L87 X87 W87 K87 => ?_
  have sz_h87 := K87.1
  have K0_h87 : Keep h0 h87 [a] := K0_h83.trans K87 (allS (Or.inl (List.mem_of_getElem? (i := 0) rfl)) all0)
  have F87 := c85.same W87
  have c89 := (c86.keep K87)
  have c90 := (F83.other W87 (Or.inr (slot_ne (Or.inr (w_53 hw)) (Or.inr (w_55 hw)) (by decide) (t := .byte) (t' := (.array .byte)) (by decide) (by decide))))
  have c91 := (((q77_0.keep K79 nin0).keep K83 (ninS (own_ne (by omega) : t_75 ≠ a) nin0)).keep K87 (ninS (own_ne (by omega) : t_75 ≠ a) nin0))
  exact k_retFV X87 d_jdk_42_149_57 rfl K0_h87 ⟨rfl, _, _, c89, c90, F87, c91, by omega⟩ (by decide) (by decide)
set_option maxRecDepth 65536 in
set_option maxHeartbeats 40000000 in
theorem own_initU (l : Launch) (Z : State) (a0 : Array Value) (hw : ∀ d ∈ tables_1, d.before a0 Z = true) (G : Gl Z) (n0 : Nat) (h0 : Heap) (O0 : Old Z n0 h0) (a : Nat) (b : Nat) (kb : ClassId) (z : Int32) (vs : List Value) (cs : List Int32) (hvs : vs = cs.map Value.int) (hz : z = Int32.ofNat cs.length) (h1 : 0 < cs.length) (hn : cs.length ≤ 2) (hj : own_fst cs < cs.length) (gw0 : n0 ≤ a) (q0 : Exa Z h0 a "java/lang/String") (q1 : Fld Z h0 a "java/lang/String" "value" "[B" .null) (q2 : Fld Z h0 a "java/lang/String" "coder" "B" (.int (0 : Int32))) (q3 : Arv Z h0 b kb .char z vs (.int (0 : Int32))) :
    MetF l [] Z n0 (⟨"java/lang/String", "<init>", "([C)V"⟩ : MethodName) jdk_42_method_3_code 2 (Option.none : Option FieldType) ({ frames := 5, cells := 2, slots := 6, locals := 74 } : Room) #[(.ref a), (.ref b)] h0 [a] (fun r h' => r = none ∧ ∃ (t : Nat), ∃ (kt : ClassId), (Exa Z h' a "java/lang/String") ∧ (Fld Z h' a "java/lang/String" "coder" "B" (.int (1 : Int32))) ∧ (Fld Z h' a "java/lang/String" "value" "[B" (.ref t)) ∧ (Arv Z h' t kt .byte (Int32.ofNat (2 * cs.length)) (own_u16 cs) (.int (0 : Int32))) ∧ (h0.size ≤ t)) := by
  subst hvs
  refine metF (plainFor_of_name pn_1) O0 (Ls := #[.val (.ref a), .val (.ref b)]) (fun m => by first | rfl | (simp [entryFrame, mkF, argsToLocals, Value.category]; done)) ?_
  intro p e s m below meth c T0 X0
  have K0_h0 := Keep.refl h0 [a]
  have n0le := X0.n0le
  have ltq0 := own_n q0.lt
  have ltq1 := own_n q1.lt
  have ltq2 := own_n q2.lt
  have ltq3 := own_n q3.lt
  obtain ⟨zc, fm, G_cs, G_zc, G_fm, isref_fm, G_assertionsDisabled, G_HI_BYTE_SHIFT, G_LO_BYTE_SHIFT⟩ := id G
  refine k_aloadN X0 d_jdk_42_3_0 rfl rfl (pc' := 1) rfl ?_
  refine k_aloadN X0 d_jdk_42_3_1 rfl rfl (pc' := 2) rfl ?_
  refine k_iconst X0 d_jdk_42_3_2 (w := (0 : Int32)) rfl (pc' := 3) rfl ?_
  refine k_aloadN X0 d_jdk_42_3_3 rfl rfl (pc' := 4) rfl ?_
  refine k_arlen X0 d_jdk_42_3_4 q3 (pc' := 5) rfl ?_
  refine k_aconstNull X0 d_jdk_42_3_5 (pc' := 6) rfl ?_
  have ge94 : n0 ≤ a := by omega
  refine k_callPNF X0 (y := (⟨"java/lang/String", "<init>", "([CIILjava/lang/Void;)V"⟩ : MethodName)) d_jdk_42_3_6 (w_35 hw) (w_36 hw) (w_31 hw) (w_38 hw) (by decide) rfl rfl (argsL := [(.ref b), (.int (0 : Int32)), (.int z), .null]) (rest := []) (own_init4U l Z a0 hw G n0 h0 X0.old a b kb z cs hz h1 hn hj (by omega) q0 q1 q2 q3) rfl pd_7 rfl rfl (by decide) (W := 0) (Nat.le_of_eq rfl) (by decide) (by decide) (by decide) (allS ⟨trivial, ge94⟩ all0) (pc' := 9) rfl ?_
  rintro T95 h95 L95 X95 K95 ⟨t_92, kt_93, q95_0, q95_1, q95_2, q95_3, q95_4⟩
  have sz_h95 := K95.1
  have K0_h95 : Keep h0 h95 [a] := K0_h0.trans K95 (allS (Or.inl (List.mem_of_getElem? (i := 0) rfl)) all0)
  have lt95_0 := own_n q95_0.lt
  have lt95_1 := own_n q95_1.lt
  have lt95_2 := own_n q95_2.lt
  have lt95_3 := own_n q95_3.lt
  exact k_retFV X95 d_jdk_42_3_9 rfl K0_h95 ⟨rfl, _, _, q95_0, q95_1, q95_2, q95_3, by omega⟩ (by decide) (by decide)
set_option maxRecDepth 65536 in
set_option maxHeartbeats 40000000 in
theorem own_initL (l : Launch) (Z : State) (a0 : Array Value) (hw : ∀ d ∈ tables_1, d.before a0 Z = true) (G : Gl Z) (n0 : Nat) (h0 : Heap) (O0 : Old Z n0 h0) (a : Nat) (b : Nat) (kb : ClassId) (z : Int32) (vs : List Value) (cs : List Int32) (hvs : vs = cs.map Value.int) (hz : z = Int32.ofNat cs.length) (h1 : 0 < cs.length) (hn : cs.length ≤ 2) (hall : ∀ c ∈ cs, ¬ 255 < c) (gw0 : n0 ≤ a) (q0 : Exa Z h0 a "java/lang/String") (q1 : Fld Z h0 a "java/lang/String" "value" "[B" .null) (q2 : Fld Z h0 a "java/lang/String" "coder" "B" (.int (0 : Int32))) (q3 : Arv Z h0 b kb .char z vs (.int (0 : Int32))) :
    MetF l [] Z n0 (⟨"java/lang/String", "<init>", "([C)V"⟩ : MethodName) jdk_42_method_3_code 2 (Option.none : Option FieldType) ({ frames := 5, cells := 2, slots := 6, locals := 74 } : Room) #[(.ref a), (.ref b)] h0 [a] (fun r h' => r = none ∧ ∃ (t : Nat), ∃ (kt : ClassId), (Exa Z h' a "java/lang/String") ∧ (Fld Z h' a "java/lang/String" "coder" "B" (.int (0 : Int32))) ∧ (Fld Z h' a "java/lang/String" "value" "[B" (.ref t)) ∧ (Arv Z h' t kt .byte z (own_lat cs) (.int (0 : Int32))) ∧ (h0.size ≤ t)) := by
  subst hvs
  refine metF (plainFor_of_name pn_1) O0 (Ls := #[.val (.ref a), .val (.ref b)]) (fun m => by first | rfl | (simp [entryFrame, mkF, argsToLocals, Value.category]; done)) ?_
  intro p e s m below meth c T0 X0
  have K0_h0 := Keep.refl h0 [a]
  have n0le := X0.n0le
  have ltq0 := own_n q0.lt
  have ltq1 := own_n q1.lt
  have ltq2 := own_n q2.lt
  have ltq3 := own_n q3.lt
  obtain ⟨zc, fm, G_cs, G_zc, G_fm, isref_fm, G_assertionsDisabled, G_HI_BYTE_SHIFT, G_LO_BYTE_SHIFT⟩ := id G
  refine k_aloadN X0 d_jdk_42_3_0 rfl rfl (pc' := 1) rfl ?_
  refine k_aloadN X0 d_jdk_42_3_1 rfl rfl (pc' := 2) rfl ?_
  refine k_iconst X0 d_jdk_42_3_2 (w := (0 : Int32)) rfl (pc' := 3) rfl ?_
  refine k_aloadN X0 d_jdk_42_3_3 rfl rfl (pc' := 4) rfl ?_
  refine k_arlen X0 d_jdk_42_3_4 q3 (pc' := 5) rfl ?_
  refine k_aconstNull X0 d_jdk_42_3_5 (pc' := 6) rfl ?_
  have ge98 : n0 ≤ a := by omega
  refine k_callPNF X0 (y := (⟨"java/lang/String", "<init>", "([CIILjava/lang/Void;)V"⟩ : MethodName)) d_jdk_42_3_6 (w_35 hw) (w_36 hw) (w_31 hw) (w_38 hw) (by decide) rfl rfl (argsL := [(.ref b), (.int (0 : Int32)), (.int z), .null]) (rest := []) (own_init4L l Z a0 hw G n0 h0 X0.old a b kb z cs hz h1 hn hall (by omega) q0 q1 q2 q3) rfl pd_7 rfl rfl (by decide) (W := 0) (Nat.le_of_eq rfl) (by decide) (by decide) (by decide) (allS ⟨trivial, ge98⟩ all0) (pc' := 9) rfl ?_
  rintro T99 h99 L99 X99 K99 ⟨t_96, kt_97, q99_0, q99_1, q99_2, q99_3, q99_4⟩
  have sz_h99 := K99.1
  have K0_h99 : Keep h0 h99 [a] := K0_h0.trans K99 (allS (Or.inl (List.mem_of_getElem? (i := 0) rfl)) all0)
  have lt99_0 := own_n q99_0.lt
  have lt99_1 := own_n q99_1.lt
  have lt99_2 := own_n q99_2.lt
  have lt99_3 := own_n q99_3.lt
  exact k_retFV X99 d_jdk_42_3_9 rfl K0_h99 ⟨rfl, _, _, q99_0, q99_1, q99_2, q99_3, by omega⟩ (by decide) (by decide)
set_option maxRecDepth 65536 in
set_option maxHeartbeats 40000000 in
theorem own_initS (l : Launch) (Z : State) (a0 : Array Value) (hw : ∀ d ∈ tables_1, d.before a0 Z = true) (G : Gl Z) (n0 : Nat) (h0 : Heap) (O0 : Old Z n0 h0) (a : Nat) (b : Nat) (kb : ClassId) (z : Int32) (vs : List Value) (cs : List Int32) (hvs : vs = cs.map Value.int) (hz : z = Int32.ofNat cs.length) (h1 : 0 < cs.length) (hn : cs.length ≤ 2) (gw0 : n0 ≤ a) (q0 : Exa Z h0 a "java/lang/String") (q1 : Fld Z h0 a "java/lang/String" "value" "[B" .null) (q2 : Fld Z h0 a "java/lang/String" "coder" "B" (.int (0 : Int32))) (q3 : Arv Z h0 b kb .char z vs (.int (0 : Int32))) :
    MetF l [] Z n0 (⟨"java/lang/String", "<init>", "([C)V"⟩ : MethodName) jdk_42_method_3_code 2 (Option.none : Option FieldType) ({ frames := 5, cells := 2, slots := 6, locals := 74 } : Room) #[(.ref a), (.ref b)] h0 [a] (fun r h' => r = none ∧ ∃ (t : Nat), ∃ (kt : ClassId), ∃ (cd : Int32), ∃ (zz : Int32), ∃ (bs : List Value), (Exa Z h' a "java/lang/String") ∧ (Fld Z h' a "java/lang/String" "coder" "B" (.int cd)) ∧ (Fld Z h' a "java/lang/String" "value" "[B" (.ref t)) ∧ (Arv Z h' t kt .byte zz bs (.int (0 : Int32))) ∧ (h0.size ≤ t) ∧ (own_cod cs cd zz bs)) := by
  by_cases hf : own_fst cs = cs.length
  · refine (own_initL l Z a0 hw G n0 h0 O0 a b kb z vs cs hvs hz h1 hn (own_all_of_fst hf) gw0 q0 q1 q2 q3).mono ?_
    rintro r h' ⟨rfl, t, kt, r1, r2, r3, r4, r5⟩
    exact ⟨rfl, t, kt, _, _, _, r1, r2, r3, r4, r5, Or.inl ⟨hf, rfl, hz, rfl⟩⟩
  · have hj : own_fst cs < cs.length := by have := own_fst_le cs; omega
    refine (own_initU l Z a0 hw G n0 h0 O0 a b kb z vs cs hvs hz h1 hn hj gw0 q0 q1 q2 q3).mono ?_
    rintro r h' ⟨rfl, t, kt, r1, r2, r3, r4, r5⟩
    exact ⟨rfl, t, kt, _, _, _, r1, r2, r3, r4, r5, Or.inr ⟨hj, rfl, rfl, rfl⟩⟩
set_option maxRecDepth 65536 in
set_option maxHeartbeats 40000000 in
theorem own_recInit (l : Launch) (Z : State) (a0 : Array Value) (hw : ∀ d ∈ tables_1, d.before a0 Z = true) (G : Gl Z) (n0 : Nat) (h0 : Heap) (O0 : Old Z n0 h0) (a : Nat)   :
    MetF l [] Z n0 (⟨"java/lang/Record", "<init>", "()V"⟩ : MethodName) jdk_30_method_1_code 1 (Option.none : Option FieldType) ({ frames := 1, cells := 0, slots := 0, locals := 12 } : Room) #[(.ref a)] h0 [] (fun r h' => r = none ∧ True) := by
  refine metF (plainFor_of_name pn_2) O0 (Ls := #[.val (.ref a)]) (fun m => by first | rfl | (simp [entryFrame, mkF, argsToLocals, Value.category]; done)) ?_
  intro p e s m below meth c T0 X0
  have K0_h0 := Keep.refl h0 []
  have n0le := X0.n0le
  obtain ⟨zc, fm, G_cs, G_zc, G_fm, isref_fm, G_assertionsDisabled, G_HI_BYTE_SHIFT, G_LO_BYTE_SHIFT⟩ := id G
  refine k_aloadN X0 d_jdk_30_1_0 rfl rfl (pc' := 1) rfl ?_
  refine k_initO X0 d_jdk_30_1_1 (w_15 hw) (w_16 hw) (w_17 hw) rfl (by decide) (W := 0) (Nat.le_of_eq rfl) (by decide) (pc' := 4) rfl fun T100 X101 => ?_
  exact k_retFV X101 d_jdk_30_1_4 rfl K0_h0 ⟨rfl, trivial⟩ (by decide) (by decide)
set_option maxRecDepth 65536 in
set_option maxHeartbeats 40000000 in
theorem own_ptInit (l : Launch) (Z : State) (a0 : Array Value) (hw : ∀ d ∈ tables_1, d.before a0 Z = true) (G : Gl Z) (n0 : Nat) (h0 : Heap) (O0 : Old Z n0 h0) (a : Nat) (rv : Value) (tv : Value) (hrv : rv.isRef = true) (htv : tv.isRef = true) (gw0 : n0 ≤ a) (q0 : Exa Z h0 a "com/example/colophon/colophon/Pairing$Part") (q1 : Fld Z h0 a "com/example/colophon/colophon/Pairing$Part" "role" "Ljava/lang/String;" .null) (q2 : Fld Z h0 a "com/example/colophon/colophon/Pairing$Part" "text" "Ljava/lang/String;" .null) :
    MetF l [] Z n0 (⟨"com/example/colophon/colophon/Pairing$Part", "<init>", "(Ljava/lang/String;Ljava/lang/String;)V"⟩ : MethodName) prog_33_method_1_code 3 (Option.none : Option FieldType) ({ frames := 2, cells := 0, slots := 0, locals := 24 } : Room) #[(.ref a), rv, tv] h0 [a] (fun r h' => r = none ∧ (Exa Z h' a "com/example/colophon/colophon/Pairing$Part") ∧ (Fld Z h' a "com/example/colophon/colophon/Pairing$Part" "role" "Ljava/lang/String;" rv)) := by
  rcases ref_cases hrv with rfl | ⟨z1, rfl⟩ <;> rcases ref_cases htv with rfl | ⟨z2, rfl⟩
  · refine metF (plainFor_of_name pn_3) O0 (Ls := #[.val (.ref a), .val .null, .val .null]) (fun m => by first | rfl | (simp [entryFrame, mkF, argsToLocals, Value.category]; done)) ?_
    intro p e s m below meth c T0 X0
    have K0_h0 := Keep.refl h0 [a]
    have n0le := X0.n0le
    have ltq0 := own_n q0.lt
    have ltq1 := own_n q1.lt
    have ltq2 := own_n q2.lt
    obtain ⟨zc, fm, G_cs, G_zc, G_fm, isref_fm, G_assertionsDisabled, G_HI_BYTE_SHIFT, G_LO_BYTE_SHIFT⟩ := id G
    refine k_aloadN X0 d_prog_33_1_0 rfl rfl (pc' := 1) rfl ?_
    refine k_callPNF X0 (y := (⟨"java/lang/Record", "<init>", "()V"⟩ : MethodName)) d_prog_33_1_1 (w_10 hw) (w_11 hw) (w_13 hw) (w_14 hw) (by decide) rfl rfl (argsL := []) (rest := []) (own_recInit l Z a0 hw G n0 h0 X0.old a ) rfl pd_8 rfl rfl (by decide) (W := 0) (Nat.le_of_eq rfl) (by decide) (by decide) (by decide) all0 (pc' := 4) rfl ?_
    rintro T102 h102 L102 X102 K102 -
    have sz_h102 := K102.1
    have K0_h102 : Keep h0 h102 [a] := K0_h0.trans K102 all0
    refine k_aloadN X102 d_prog_33_1_4 rfl rfl (pc' := 5) rfl ?_
    refine k_aloadN X102 d_prog_33_1_5 rfl rfl (pc' := 6) rfl ?_
    have c103 := (q1.keep K102 nin0)
    have c104 := (q0.keep K102)
    have ge106 : n0 ≤ a := by omega
    refine k_putF X102 d_prog_33_1_6 (host := "") (Or.inl (w_18 hw)) Via.refl c103 c104 (Or.inr ⟨(w_19 hw), rfl, X102.hnm⟩) (w_5 hw) (ty := (.object "java/lang/String")) (by decide) rfl rfl trivial ge106 (pc' := 9) rfl fun T105 h105 L105 X105 W105 K105 => ?_
    have sz_h105 := K105.1
    have K0_h105 : Keep h0 h105 [a] := K0_h102.trans K105 (allS (Or.inl (List.mem_of_getElem? (i := 0) rfl)) all0)
    have F105 := c103.same W105
    refine k_aloadN X105 d_prog_33_1_9 rfl rfl (pc' := 10) rfl ?_
    refine k_aloadN X105 d_prog_33_1_10 rfl rfl (pc' := 11) rfl ?_
    have c107 := ((q2.keep K102 nin0).other W105 (Or.inr (slot_ne (Or.inr (w_21 hw)) (Or.inr (w_19 hw)) (by decide) (t := (.object "java/lang/String")) (t' := (.object "java/lang/String")) (by decide) (by decide))))
    have c108 := (c104.keep K105)
    have ge110 : n0 ≤ a := by omega
    refine k_putF X105 d_prog_33_1_11 (host := "") (Or.inl (w_20 hw)) Via.refl c107 c108 (Or.inr ⟨(w_21 hw), rfl, X105.hnm⟩) (w_5 hw) (ty := (.object "java/lang/String")) (by decide) rfl rfl trivial ge110 (pc' := 14) rfl fun T109 h109 L109 X109 W109 K109 => ?_
    have sz_h109 := K109.1
    have K0_h109 : Keep h0 h109 [a] := K0_h105.trans K109 (allS (Or.inl (List.mem_of_getElem? (i := 0) rfl)) all0)
    have F109 := c107.same W109
    have c111 := (c108.keep K109)
    have c112 := (F105.other W109 (Or.inr (slot_ne (Or.inr (w_19 hw)) (Or.inr (w_21 hw)) (by decide) (t := (.object "java/lang/String")) (t' := (.object "java/lang/String")) (by decide) (by decide))))
    exact k_retFV X109 d_prog_33_1_14 rfl K0_h109 ⟨rfl, c111, c112⟩ (by decide) (by decide)
  · refine metF (plainFor_of_name pn_3) O0 (Ls := #[.val (.ref a), .val .null, .val (.ref z2)]) (fun m => by first | rfl | (simp [entryFrame, mkF, argsToLocals, Value.category]; done)) ?_
    intro p e s m below meth c T0 X0
    have K0_h0 := Keep.refl h0 [a]
    have n0le := X0.n0le
    have ltq0 := own_n q0.lt
    have ltq1 := own_n q1.lt
    have ltq2 := own_n q2.lt
    obtain ⟨zc, fm, G_cs, G_zc, G_fm, isref_fm, G_assertionsDisabled, G_HI_BYTE_SHIFT, G_LO_BYTE_SHIFT⟩ := id G
    refine k_aloadN X0 d_prog_33_1_0 rfl rfl (pc' := 1) rfl ?_
    refine k_callPNF X0 (y := (⟨"java/lang/Record", "<init>", "()V"⟩ : MethodName)) d_prog_33_1_1 (w_10 hw) (w_11 hw) (w_13 hw) (w_14 hw) (by decide) rfl rfl (argsL := []) (rest := []) (own_recInit l Z a0 hw G n0 h0 X0.old a ) rfl pd_8 rfl rfl (by decide) (W := 0) (Nat.le_of_eq rfl) (by decide) (by decide) (by decide) all0 (pc' := 4) rfl ?_
    rintro T113 h113 L113 X113 K113 -
    have sz_h113 := K113.1
    have K0_h113 : Keep h0 h113 [a] := K0_h0.trans K113 all0
    refine k_aloadN X113 d_prog_33_1_4 rfl rfl (pc' := 5) rfl ?_
    refine k_aloadN X113 d_prog_33_1_5 rfl rfl (pc' := 6) rfl ?_
    have c114 := (q1.keep K113 nin0)
    have c115 := (q0.keep K113)
    have ge117 : n0 ≤ a := by omega
    refine k_putF X113 d_prog_33_1_6 (host := "") (Or.inl (w_18 hw)) Via.refl c114 c115 (Or.inr ⟨(w_19 hw), rfl, X113.hnm⟩) (w_5 hw) (ty := (.object "java/lang/String")) (by decide) rfl rfl trivial ge117 (pc' := 9) rfl fun T116 h116 L116 X116 W116 K116 => ?_
    have sz_h116 := K116.1
    have K0_h116 : Keep h0 h116 [a] := K0_h113.trans K116 (allS (Or.inl (List.mem_of_getElem? (i := 0) rfl)) all0)
    have F116 := c114.same W116
    refine k_aloadN X116 d_prog_33_1_9 rfl rfl (pc' := 10) rfl ?_
    refine k_aloadN X116 d_prog_33_1_10 rfl rfl (pc' := 11) rfl ?_
    have c118 := ((q2.keep K113 nin0).other W116 (Or.inr (slot_ne (Or.inr (w_21 hw)) (Or.inr (w_19 hw)) (by decide) (t := (.object "java/lang/String")) (t' := (.object "java/lang/String")) (by decide) (by decide))))
    have c119 := (c115.keep K116)
    have ge121 : n0 ≤ a := by omega
    refine k_putF X116 d_prog_33_1_11 (host := "") (Or.inl (w_20 hw)) Via.refl c118 c119 (Or.inr ⟨(w_21 hw), rfl, X116.hnm⟩) (w_5 hw) (ty := (.object "java/lang/String")) (by decide) rfl rfl trivial ge121 (pc' := 14) rfl fun T120 h120 L120 X120 W120 K120 => ?_
    have sz_h120 := K120.1
    have K0_h120 : Keep h0 h120 [a] := K0_h116.trans K120 (allS (Or.inl (List.mem_of_getElem? (i := 0) rfl)) all0)
    have F120 := c118.same W120
    have c122 := (c119.keep K120)
    have c123 := (F116.other W120 (Or.inr (slot_ne (Or.inr (w_19 hw)) (Or.inr (w_21 hw)) (by decide) (t := (.object "java/lang/String")) (t' := (.object "java/lang/String")) (by decide) (by decide))))
    exact k_retFV X120 d_prog_33_1_14 rfl K0_h120 ⟨rfl, c122, c123⟩ (by decide) (by decide)
  · refine metF (plainFor_of_name pn_3) O0 (Ls := #[.val (.ref a), .val (.ref z1), .val .null]) (fun m => by first | rfl | (simp [entryFrame, mkF, argsToLocals, Value.category]; done)) ?_
    intro p e s m below meth c T0 X0
    have K0_h0 := Keep.refl h0 [a]
    have n0le := X0.n0le
    have ltq0 := own_n q0.lt
    have ltq1 := own_n q1.lt
    have ltq2 := own_n q2.lt
    obtain ⟨zc, fm, G_cs, G_zc, G_fm, isref_fm, G_assertionsDisabled, G_HI_BYTE_SHIFT, G_LO_BYTE_SHIFT⟩ := id G
    refine k_aloadN X0 d_prog_33_1_0 rfl rfl (pc' := 1) rfl ?_
    refine k_callPNF X0 (y := (⟨"java/lang/Record", "<init>", "()V"⟩ : MethodName)) d_prog_33_1_1 (w_10 hw) (w_11 hw) (w_13 hw) (w_14 hw) (by decide) rfl rfl (argsL := []) (rest := []) (own_recInit l Z a0 hw G n0 h0 X0.old a ) rfl pd_8 rfl rfl (by decide) (W := 0) (Nat.le_of_eq rfl) (by decide) (by decide) (by decide) all0 (pc' := 4) rfl ?_
    rintro T124 h124 L124 X124 K124 -
    have sz_h124 := K124.1
    have K0_h124 : Keep h0 h124 [a] := K0_h0.trans K124 all0
    refine k_aloadN X124 d_prog_33_1_4 rfl rfl (pc' := 5) rfl ?_
    refine k_aloadN X124 d_prog_33_1_5 rfl rfl (pc' := 6) rfl ?_
    have c125 := (q1.keep K124 nin0)
    have c126 := (q0.keep K124)
    have ge128 : n0 ≤ a := by omega
    refine k_putF X124 d_prog_33_1_6 (host := "") (Or.inl (w_18 hw)) Via.refl c125 c126 (Or.inr ⟨(w_19 hw), rfl, X124.hnm⟩) (w_5 hw) (ty := (.object "java/lang/String")) (by decide) rfl rfl trivial ge128 (pc' := 9) rfl fun T127 h127 L127 X127 W127 K127 => ?_
    have sz_h127 := K127.1
    have K0_h127 : Keep h0 h127 [a] := K0_h124.trans K127 (allS (Or.inl (List.mem_of_getElem? (i := 0) rfl)) all0)
    have F127 := c125.same W127
    refine k_aloadN X127 d_prog_33_1_9 rfl rfl (pc' := 10) rfl ?_
    refine k_aloadN X127 d_prog_33_1_10 rfl rfl (pc' := 11) rfl ?_
    have c129 := ((q2.keep K124 nin0).other W127 (Or.inr (slot_ne (Or.inr (w_21 hw)) (Or.inr (w_19 hw)) (by decide) (t := (.object "java/lang/String")) (t' := (.object "java/lang/String")) (by decide) (by decide))))
    have c130 := (c126.keep K127)
    have ge132 : n0 ≤ a := by omega
    refine k_putF X127 d_prog_33_1_11 (host := "") (Or.inl (w_20 hw)) Via.refl c129 c130 (Or.inr ⟨(w_21 hw), rfl, X127.hnm⟩) (w_5 hw) (ty := (.object "java/lang/String")) (by decide) rfl rfl trivial ge132 (pc' := 14) rfl fun T131 h131 L131 X131 W131 K131 => ?_
    have sz_h131 := K131.1
    have K0_h131 : Keep h0 h131 [a] := K0_h127.trans K131 (allS (Or.inl (List.mem_of_getElem? (i := 0) rfl)) all0)
    have F131 := c129.same W131
    have c133 := (c130.keep K131)
    have c134 := (F127.other W131 (Or.inr (slot_ne (Or.inr (w_19 hw)) (Or.inr (w_21 hw)) (by decide) (t := (.object "java/lang/String")) (t' := (.object "java/lang/String")) (by decide) (by decide))))
    exact k_retFV X131 d_prog_33_1_14 rfl K0_h131 ⟨rfl, c133, c134⟩ (by decide) (by decide)
  · refine metF (plainFor_of_name pn_3) O0 (Ls := #[.val (.ref a), .val (.ref z1), .val (.ref z2)]) (fun m => by first | rfl | (simp [entryFrame, mkF, argsToLocals, Value.category]; done)) ?_
    intro p e s m below meth c T0 X0
    have K0_h0 := Keep.refl h0 [a]
    have n0le := X0.n0le
    have ltq0 := own_n q0.lt
    have ltq1 := own_n q1.lt
    have ltq2 := own_n q2.lt
    obtain ⟨zc, fm, G_cs, G_zc, G_fm, isref_fm, G_assertionsDisabled, G_HI_BYTE_SHIFT, G_LO_BYTE_SHIFT⟩ := id G
    refine k_aloadN X0 d_prog_33_1_0 rfl rfl (pc' := 1) rfl ?_
    refine k_callPNF X0 (y := (⟨"java/lang/Record", "<init>", "()V"⟩ : MethodName)) d_prog_33_1_1 (w_10 hw) (w_11 hw) (w_13 hw) (w_14 hw) (by decide) rfl rfl (argsL := []) (rest := []) (own_recInit l Z a0 hw G n0 h0 X0.old a ) rfl pd_8 rfl rfl (by decide) (W := 0) (Nat.le_of_eq rfl) (by decide) (by decide) (by decide) all0 (pc' := 4) rfl ?_
    rintro T135 h135 L135 X135 K135 -
    have sz_h135 := K135.1
    have K0_h135 : Keep h0 h135 [a] := K0_h0.trans K135 all0
    refine k_aloadN X135 d_prog_33_1_4 rfl rfl (pc' := 5) rfl ?_
    refine k_aloadN X135 d_prog_33_1_5 rfl rfl (pc' := 6) rfl ?_
    have c136 := (q1.keep K135 nin0)
    have c137 := (q0.keep K135)
    have ge139 : n0 ≤ a := by omega
    refine k_putF X135 d_prog_33_1_6 (host := "") (Or.inl (w_18 hw)) Via.refl c136 c137 (Or.inr ⟨(w_19 hw), rfl, X135.hnm⟩) (w_5 hw) (ty := (.object "java/lang/String")) (by decide) rfl rfl trivial ge139 (pc' := 9) rfl fun T138 h138 L138 X138 W138 K138 => ?_
    have sz_h138 := K138.1
    have K0_h138 : Keep h0 h138 [a] := K0_h135.trans K138 (allS (Or.inl (List.mem_of_getElem? (i := 0) rfl)) all0)
    have F138 := c136.same W138
    refine k_aloadN X138 d_prog_33_1_9 rfl rfl (pc' := 10) rfl ?_
    refine k_aloadN X138 d_prog_33_1_10 rfl rfl (pc' := 11) rfl ?_
    have c140 := ((q2.keep K135 nin0).other W138 (Or.inr (slot_ne (Or.inr (w_21 hw)) (Or.inr (w_19 hw)) (by decide) (t := (.object "java/lang/String")) (t' := (.object "java/lang/String")) (by decide) (by decide))))
    have c141 := (c137.keep K138)
    have ge143 : n0 ≤ a := by omega
    refine k_putF X138 d_prog_33_1_11 (host := "") (Or.inl (w_20 hw)) Via.refl c140 c141 (Or.inr ⟨(w_21 hw), rfl, X138.hnm⟩) (w_5 hw) (ty := (.object "java/lang/String")) (by decide) rfl rfl trivial ge143 (pc' := 14) rfl fun T142 h142 L142 X142 W142 K142 => ?_
    have sz_h142 := K142.1
    have K0_h142 : Keep h0 h142 [a] := K0_h138.trans K142 (allS (Or.inl (List.mem_of_getElem? (i := 0) rfl)) all0)
    have F142 := c140.same W142
    have c144 := (c141.keep K142)
    have c145 := (F138.other W142 (Or.inr (slot_ne (Or.inr (w_19 hw)) (Or.inr (w_21 hw)) (by decide) (t := (.object "java/lang/String")) (t' := (.object "java/lang/String")) (by decide) (by decide))))
    exact k_retFV X142 d_prog_33_1_14 rfl K0_h142 ⟨rfl, c144, c145⟩ (by decide) (by decide)
set_option maxRecDepth 65536 in
set_option maxHeartbeats 40000000 in
theorem own_isN0 (l : Launch) (Z : State) (a0 : Array Value) (hw : ∀ d ∈ tables_1, d.before a0 Z = true) (G : Gl Z) (n0 : Nat) (h0 : Heap) (O0 : Old Z n0 h0) (a : Nat)  (q0 : Fld Z h0 a "com/example/colophon/colophon/Pairing$Part" "role" "Ljava/lang/String;" .null) :
    MetF l [] Z n0 (⟨"com/example/colophon/colophon/Pairing$Part", "isName", "()Z"⟩ : MethodName) prog_33_method_2_code 1 (Option.some FieldType.boolean) ({ frames := 0, cells := 0, slots := 0, locals := 0 } : Room) #[(.ref a)] h0 [] (fun r h' => ∃ w, r = some w ∧ w = (.int (0 : Int32)) ∧ True) := by
  refine metF (plainFor_of_name pn_3) O0 (Ls := #[.val (.ref a)]) (fun m => by first | rfl | (simp [entryFrame, mkF, argsToLocals, Value.category]; done)) ?_
  intro p e s m below meth c T0 X0
  have K0_h0 := Keep.refl h0 []
  have n0le := X0.n0le
  have ltq0 := own_n q0.lt
  obtain ⟨zc, fm, G_cs, G_zc, G_fm, isref_fm, G_assertionsDisabled, G_HI_BYTE_SHIFT, G_LO_BYTE_SHIFT⟩ := id G
  refine k_aloadN X0 d_prog_33_2_0 rfl rfl (pc' := 1) rfl ?_
  refine k_getF X0 d_prog_33_2_1 (host := "") (Or.inl (w_18 hw)) Via.refl q0 (pc' := 4) rfl fun T146 X147 => ?_
  refine k_ifnullYes X147 d_prog_33_2_4 (pc' := 11) (by decide) (by decide) ?_
  refine k_iconst X147 d_prog_33_2_11 (w := (0 : Int32)) rfl (pc' := 12) rfl ?_
  exact k_retFN X147 (w := (0 : Int32)) d_prog_33_2_12 (t := .boolean) rfl (by simp) rfl K0_h0 ⟨_, rfl, rfl, trivial⟩ (by decide) (by decide)
set_option maxRecDepth 65536 in
set_option maxHeartbeats 40000000 in
theorem own_isN1 (l : Launch) (Z : State) (a0 : Array Value) (hw : ∀ d ∈ tables_1, d.before a0 Z = true) (G : Gl Z) (n0 : Nat) (h0 : Heap) (O0 : Old Z n0 h0) (a : Nat) (z : Nat)  (q0 : Fld Z h0 a "com/example/colophon/colophon/Pairing$Part" "role" "Ljava/lang/String;" (.ref z)) :
    MetF l [] Z n0 (⟨"com/example/colophon/colophon/Pairing$Part", "isName", "()Z"⟩ : MethodName) prog_33_method_2_code 1 (Option.some FieldType.boolean) ({ frames := 0, cells := 0, slots := 0, locals := 0 } : Room) #[(.ref a)] h0 [] (fun r h' => ∃ w, r = some w ∧ w = (.int (1 : Int32)) ∧ True) := by
  refine metF (plainFor_of_name pn_3) O0 (Ls := #[.val (.ref a)]) (fun m => by first | rfl | (simp [entryFrame, mkF, argsToLocals, Value.category]; done)) ?_
  intro p e s m below meth c T0 X0
  have K0_h0 := Keep.refl h0 []
  have n0le := X0.n0le
  have ltq0 := own_n q0.lt
  obtain ⟨zc, fm, G_cs, G_zc, G_fm, isref_fm, G_assertionsDisabled, G_HI_BYTE_SHIFT, G_LO_BYTE_SHIFT⟩ := id G
  refine k_aloadN X0 d_prog_33_2_0 rfl rfl (pc' := 1) rfl ?_
  refine k_getF X0 d_prog_33_2_1 (host := "") (Or.inl (w_18 hw)) Via.refl q0 (pc' := 4) rfl fun T148 X149 => ?_
  refine k_ifnullNo X149 d_prog_33_2_4 (pc' := 7) rfl ?_
  refine k_iconst X149 d_prog_33_2_7 (w := (1 : Int32)) rfl (pc' := 8) rfl ?_
  refine k_goto X149 d_prog_33_2_8 (pc' := 12) (by decide) (by decide) ?_
  exact k_retFN X149 (w := (1 : Int32)) d_prog_33_2_12 (t := .boolean) rfl (by simp) rfl K0_h0 ⟨_, rfl, rfl, trivial⟩ (by decide) (by decide)
set_option maxRecDepth 65536 in
set_option maxHeartbeats 40000000 in
theorem own_draw0 (l : Launch) (Z : State) (a0 : Array Value) (hw : ∀ d ∈ tables_1, d.before a0 Z = true) (G : Gl Z) (n0 : Nat) (h0 : Heap) (O0 : Old Z n0 h0) (x : Int32) (z : Int32)   :
    MetH l [] Z EL n0 (⟨"com/example/colophon/colophon/PartIsNamePinLaw", "draw", "(III)Ljava/lang/String;"⟩ : MethodName) method_2_code 4 (Option.some (FieldType.object "java/lang/String")) ({ frames := 0, cells := 0, slots := 0, locals := 0 } : Room) #[(.int (0 : Int32)), (.int x), (.int z)] h0 [] (fun r v' h' => ∃ w, r = some w ∧ w = .null ∧ True) := by
  refine metH (hEL hw) (plainFor_of_name pn_4) O0 (Ls := #[.val (.int (0 : Int32)), .val (.int x), .val (.int z), .unset]) (fun m => by first | rfl | (simp [entryFrame, mkF, argsToLocals, Value.category]; done)) ?_
  intro p e s m below meth c T0 v0 X0 hSf
  have K0_h0 := Keep.refl h0 []
  have n0le := X0.n0le
  obtain ⟨zc, fm, G_cs, G_zc, G_fm, isref_fm, G_assertionsDisabled, G_HI_BYTE_SHIFT, G_LO_BYTE_SHIFT⟩ := id G
  refine k_iloadN X0 d_2_0 rfl (pc' := 1) rfl ?_
  refine k_ifNo X0 d_2_1 (by decide) (pc' := 4) rfl ?_
  refine k_aconstNull X0 d_2_4 (pc' := 5) rfl ?_
  exact k_retHA X0 d_2_5 rfl rfl rfl rfl K0_h0 (fun v' C' => ⟨_, rfl, rfl, trivial⟩) (by decide) (by decide)
set_option maxRecDepth 65536 in
set_option maxHeartbeats 40000000 in
theorem own_draw1 (l : Launch) (Z : State) (a0 : Array Value) (hw : ∀ d ∈ tables_1, d.before a0 Z = true) (G : Gl Z) (n0 : Nat) (h0 : Heap) (O0 : Old Z n0 h0) (k : Int32) (x : Int32) (z : Int32) (hk : ¬ k = 0)   :
    MetH l [] Z EL n0 (⟨"com/example/colophon/colophon/PartIsNamePinLaw", "draw", "(III)Ljava/lang/String;"⟩ : MethodName) method_2_code 4 (Option.some (FieldType.object "java/lang/String")) ({ frames := 6, cells := 4, slots := 12, locals := 88 } : Room) #[(.int k), (.int x), (.int z)] h0 [] (fun r v' h' => ∃ w, r = some w ∧ ∃ (r : Nat), w = (.ref r) ∧ True) := by
  refine metH (hEL hw) (plainFor_of_name pn_4) O0 (Ls := #[.val (.int k), .val (.int x), .val (.int z), .unset]) (fun m => by first | rfl | (simp [entryFrame, mkF, argsToLocals, Value.category]; done)) ?_
  intro p e s m below meth c T0 v0 X0 hSf
  have K0_h0 := Keep.refl h0 []
  have n0le := X0.n0le
  obtain ⟨zc, fm, G_cs, G_zc, G_fm, isref_fm, G_assertionsDisabled, G_HI_BYTE_SHIFT, G_LO_BYTE_SHIFT⟩ := id G
  refine k_iloadN X0 d_2_0 rfl (pc' := 1) rfl ?_
  refine k_ifYes X0 d_2_1 ((if0 _ _).trans (feq hk).2) (pc' := 6) (by decide) (by decide) ?_
  refine k_iloadN X0 d_2_6 rfl (pc' := 7) rfl ?_
  refine k_iconst X0 d_2_7 (w := (1 : Int32)) rfl (pc' := 8) rfl ?_
  by_cases hc150 : k = (1 : Int32)
  · refine k_icmpNo X0 d_2_8 (teq hc150).2 (pc' := 11) rfl ?_
    refine k_ldcO X0 d_2_11 (w_75 hw) (own_wS hw) (n := 0) (by decide) (by decide) (by decide) (by decide) (pc' := 13) rfl fun s151 v151 T151 h151 X151 K151 C151 => ?_
    have sz_h151 := K151.1
    have K0_h151 : Keep h0 h151 [] := K0_h0.trans K151 all0
    exact k_retHA X151 d_2_13 rfl rfl rfl rfl K0_h151 (fun v' C' => ⟨_, rfl, _, rfl, trivial⟩) (by decide) (by decide)
  · refine k_icmpYes X0 d_2_8 (feq hc150).2 (pc' := 14) (by decide) (by decide) ?_
    refine k_iloadN X0 d_2_14 rfl (pc' := 15) rfl ?_
    refine k_iconst X0 d_2_15 (w := (2 : Int32)) rfl (pc' := 16) rfl ?_
    by_cases hc152 : k = (2 : Int32)
    · refine k_icmpNo X0 d_2_16 (teq hc152).2 (pc' := 19) rfl ?_
      refine k_iconst X0 d_2_19 (w := (1 : Int32)) rfl (pc' := 20) rfl ?_
      refine k_newP X0 d_2_20 (w_27 hw) (by decide) (cap := 1) (by decide) (by decide) (by decide) (by decide) (pc' := 22) rfl fun T153 h153 b153 k153 g153 X153 K153 V153 S153 lt153 ge153 => ?_
      have sz_h153 := K153.1
      have K0_h153 : Keep h0 h153 [] := K0_h0.trans K153 all0
      have V153' : Arv Z h153 b153 k153 .char (1 : Int32) [(.int (0 : Int32))] (.int (0 : Int32)) := Arv.pad V153 (pad_rep [] (.int (0 : Int32)) 1)
      refine k_astoreN X153 d_2_22 rfl (Ls' := #[.val (.int k), .val (.int x), .val (.int z), .val (.ref b153)]) rfl (pc' := 23) rfl ?_
      refine k_aloadN X153 d_2_23 rfl rfl (pc' := 24) rfl ?_
      refine k_iconst X153 d_2_24 (w := (0 : Int32)) rfl (pc' := 25) rfl ?_
      refine k_iloadN X153 d_2_25 rfl (pc' := 26) rfl ?_
      refine k_ldcI X153 d_2_26 (w_28 hw) (pc' := 28) rfl ?_
      refine k_iand X153 d_2_28 (w := (x &&& (65535 : Int32))) rfl (pc' := 29) rfl ?_
      refine k_i2c X153 d_2_29 (w := ((x &&& (65535 : Int32)).toUInt32.toUInt16.toUInt32.toInt32)) rfl (pc' := 30) rfl ?_
      have ge155 : n0 ≤ b153 := by omega
      refine k_castore X153 (w := (nar .char ((x &&& (65535 : Int32)).toUInt32.toUInt16.toUInt32.toInt32))) 0 d_2_30 V153' (by decide) (by decide) rfl (Nat.le_of_ble_eq_true rfl) rfl (vs' := [(.int (nar .char ((x &&& (65535 : Int32)).toUInt32.toUInt16.toUInt32.toInt32)))]) rfl S153 ge155 (pc' := 31) rfl fun T154 h154 L154 X154 K154 V154 => ?_
      have sz_h154 := K154.1
      have K0_h154 : Keep h0 h154 [] := K0_h153.trans K154 (allS (Or.inr (by omega)) all0)
      refine k_newO X154 d_2_31 (w_29 hw) (w_30 hw) (w_31 hw) (by decide) (by decide) (pc' := 34) rfl fun T156 h156 b156 g156 X156 K156 E156 D156 S156 lt156 ge156 => ?_
      have sz_h156 := K156.1
      have K0_h156 : Keep h0 h156 [] := K0_h154.trans K156 all0
      have Fn156_coder : Fld Z h156 b156 "java/lang/String" "coder" "B" (.int (0 : Int32)) := D156 (Or.inr (w_53 hw)) (ty := .byte) (by decide)
      have Fn156_value : Fld Z h156 b156 "java/lang/String" "value" "[B" .null := D156 (Or.inr (w_55 hw)) (ty := (.array .byte)) (by decide)
      refine k_dup X156 d_2_34 rfl (pc' := 35) rfl ?_
      refine k_aloadN X156 d_2_35 rfl rfl (pc' := 36) rfl ?_
      have c157 := (V154.keep K156 nin0)
      have ge163 : n0 ≤ b156 := by omega
      refine k_callPNF X156 (y := (⟨"java/lang/String", "<init>", "([C)V"⟩ : MethodName)) d_2_36 (w_32 hw) (w_33 hw) (w_31 hw) (w_34 hw) (by decide) rfl rfl (argsL := [(.ref b153)]) (rest := [(.ref b156)]) (own_initS l Z a0 hw G n0 h156 X156.old b156 b153 k153 (1 : Int32) [(.int (nar .char ((x &&& (65535 : Int32)).toUInt32.toUInt16.toUInt32.toInt32)))] [(nar .char ((x &&& (65535 : Int32)).toUInt32.toUInt16.toUInt32.toInt32))] rfl rfl (by simp) (by simp) (by omega) E156 Fn156_value Fn156_coder c157) rfl pd_9 rfl rfl (by decide) (W := 1) (Nat.le_of_eq rfl) (by decide) (by decide) (by decide) (allS ⟨S156, ge163⟩ all0) (pc' := 39) rfl ?_
      rintro T164 h164 L164 X164 K164 ⟨t_158, kt_159, cd_160, zz_161, bs_162, q164_0, q164_1, q164_2, q164_3, q164_4, q164_5⟩
      have sz_h164 := K164.1
      have K0_h164 : Keep h0 h164 [] := K0_h156.trans K164 (allS (Or.inr (by omega)) all0)
      have lt164_0 := own_n q164_0.lt
      have lt164_1 := own_n q164_1.lt
      have lt164_2 := own_n q164_2.lt
      have lt164_3 := own_n q164_3.lt
      exact k_retHA X164 d_2_39 rfl rfl rfl rfl K0_h164 (fun v' C' => ⟨_, rfl, _, rfl, trivial⟩) (by decide) (by decide)
    · refine k_icmpYes X0 d_2_16 (feq hc152).2 (pc' := 40) (by decide) (by decide) ?_
      refine k_iconst X0 d_2_40 (w := (2 : Int32)) rfl (pc' := 41) rfl ?_
      refine k_newP X0 d_2_41 (w_27 hw) (by decide) (cap := 2) (by decide) (by decide) (by decide) (by decide) (pc' := 43) rfl fun T165 h165 b165 k165 g165 X165 K165 V165 S165 lt165 ge165 => ?_
      have sz_h165 := K165.1
      have K0_h165 : Keep h0 h165 [] := K0_h0.trans K165 all0
      have V165' : Arv Z h165 b165 k165 .char (2 : Int32) [(.int (0 : Int32)), (.int (0 : Int32))] (.int (0 : Int32)) := Arv.pad V165 (pad_rep [] (.int (0 : Int32)) 2)
      refine k_astoreN X165 d_2_43 rfl (Ls' := #[.val (.int k), .val (.int x), .val (.int z), .val (.ref b165)]) rfl (pc' := 44) rfl ?_
      refine k_aloadN X165 d_2_44 rfl rfl (pc' := 45) rfl ?_
      refine k_iconst X165 d_2_45 (w := (0 : Int32)) rfl (pc' := 46) rfl ?_
      refine k_iloadN X165 d_2_46 rfl (pc' := 47) rfl ?_
      refine k_ldcI X165 d_2_47 (w_28 hw) (pc' := 49) rfl ?_
      refine k_iand X165 d_2_49 (w := (x &&& (65535 : Int32))) rfl (pc' := 50) rfl ?_
      refine k_i2c X165 d_2_50 (w := ((x &&& (65535 : Int32)).toUInt32.toUInt16.toUInt32.toInt32)) rfl (pc' := 51) rfl ?_
      have ge167 : n0 ≤ b165 := by omega
      refine k_castore X165 (w := (nar .char ((x &&& (65535 : Int32)).toUInt32.toUInt16.toUInt32.toInt32))) 0 d_2_51 V165' (by decide) (by decide) rfl (Nat.le_of_ble_eq_true rfl) rfl (vs' := [(.int (nar .char ((x &&& (65535 : Int32)).toUInt32.toUInt16.toUInt32.toInt32))), (.int (0 : Int32))]) rfl S165 ge167 (pc' := 52) rfl fun T166 h166 L166 X166 K166 V166 => ?_
      have sz_h166 := K166.1
      have K0_h166 : Keep h0 h166 [] := K0_h165.trans K166 (allS (Or.inr (by omega)) all0)
      refine k_aloadN X166 d_2_52 rfl rfl (pc' := 53) rfl ?_
      refine k_iconst X166 d_2_53 (w := (1 : Int32)) rfl (pc' := 54) rfl ?_
      refine k_iloadN X166 d_2_54 rfl (pc' := 55) rfl ?_
      refine k_ldcI X166 d_2_55 (w_28 hw) (pc' := 57) rfl ?_
      refine k_iand X166 d_2_57 (w := (z &&& (65535 : Int32))) rfl (pc' := 58) rfl ?_
      refine k_i2c X166 d_2_58 (w := ((z &&& (65535 : Int32)).toUInt32.toUInt16.toUInt32.toInt32)) rfl (pc' := 59) rfl ?_
      have c169 := (X165.sf K166 (allS ⟨S165, ge167⟩ all0) S165)
      have ge170 : n0 ≤ b165 := by omega
      refine k_castore X166 (w := (nar .char ((z &&& (65535 : Int32)).toUInt32.toUInt16.toUInt32.toInt32))) 1 d_2_59 V166 (by decide) (by decide) rfl (Nat.le_of_ble_eq_true rfl) rfl (vs' := [(.int (nar .char ((x &&& (65535 : Int32)).toUInt32.toUInt16.toUInt32.toInt32))), (.int (nar .char ((z &&& (65535 : Int32)).toUInt32.toUInt16.toUInt32.toInt32)))]) rfl c169 ge170 (pc' := 60) rfl fun T168 h168 L168 X168 K168 V168 => ?_
      have sz_h168 := K168.1
      have K0_h168 : Keep h0 h168 [] := K0_h166.trans K168 (allS (Or.inr (by omega)) all0)
      refine k_newO X168 d_2_60 (w_29 hw) (w_30 hw) (w_31 hw) (by decide) (by decide) (pc' := 63) rfl fun T171 h171 b171 g171 X171 K171 E171 D171 S171 lt171 ge171 => ?_
      have sz_h171 := K171.1
      have K0_h171 : Keep h0 h171 [] := K0_h168.trans K171 all0
      have Fn171_coder : Fld Z h171 b171 "java/lang/String" "coder" "B" (.int (0 : Int32)) := D171 (Or.inr (w_53 hw)) (ty := .byte) (by decide)
      have Fn171_value : Fld Z h171 b171 "java/lang/String" "value" "[B" .null := D171 (Or.inr (w_55 hw)) (ty := (.array .byte)) (by decide)
      refine k_dup X171 d_2_63 rfl (pc' := 64) rfl ?_
      refine k_aloadN X171 d_2_64 rfl rfl (pc' := 65) rfl ?_
      have c172 := (V168.keep K171 nin0)
      have ge178 : n0 ≤ b171 := by omega
      refine k_callPNF X171 (y := (⟨"java/lang/String", "<init>", "([C)V"⟩ : MethodName)) d_2_65 (w_32 hw) (w_33 hw) (w_31 hw) (w_34 hw) (by decide) rfl rfl (argsL := [(.ref b165)]) (rest := [(.ref b171)]) (own_initS l Z a0 hw G n0 h171 X171.old b171 b165 k165 (2 : Int32) [(.int (nar .char ((x &&& (65535 : Int32)).toUInt32.toUInt16.toUInt32.toInt32))), (.int (nar .char ((z &&& (65535 : Int32)).toUInt32.toUInt16.toUInt32.toInt32)))] [(nar .char ((x &&& (65535 : Int32)).toUInt32.toUInt16.toUInt32.toInt32)), (nar .char ((z &&& (65535 : Int32)).toUInt32.toUInt16.toUInt32.toInt32))] rfl rfl (by simp) (by simp) (by omega) E171 Fn171_value Fn171_coder c172) rfl pd_9 rfl rfl (by decide) (W := 1) (Nat.le_of_eq rfl) (by decide) (by decide) (by decide) (allS ⟨S171, ge178⟩ all0) (pc' := 68) rfl ?_
      rintro T179 h179 L179 X179 K179 ⟨t_173, kt_174, cd_175, zz_176, bs_177, q179_0, q179_1, q179_2, q179_3, q179_4, q179_5⟩
      have sz_h179 := K179.1
      have K0_h179 : Keep h0 h179 [] := K0_h171.trans K179 (allS (Or.inr (by omega)) all0)
      have lt179_0 := own_n q179_0.lt
      have lt179_1 := own_n q179_1.lt
      have lt179_2 := own_n q179_2.lt
      have lt179_3 := own_n q179_3.lt
      exact k_retHA X179 d_2_68 rfl rfl rfl rfl K0_h179 (fun v' C' => ⟨_, rfl, _, rfl, trivial⟩) (by decide) (by decide)
set_option maxRecDepth 65536 in
set_option maxHeartbeats 40000000 in
theorem own_law (l : Launch) (Z : State) (a0 : Array Value) (hw : ∀ d ∈ tables_1, d.before a0 Z = true) (G : Gl Z) (n0 : Nat) (h0 : Heap) (O0 : Old Z n0 h0) (p0 : Int32) (p1 : Int32) (p2 : Int32) (p3 : Int32) (p4 : Int32) :
    MetH l tables_1 Z EL n0 (⟨"com/example/colophon/colophon/PartIsNamePinLaw", "law", "(IIIII)Z"⟩ : MethodName) code 11 (some .boolean) room_1 #[(.int p0), (.int p1), (.int p2), (.int p3), (.int p4)] h0 [] (fun r v' h' => ∃ w, r = some w ∧ w = .int (1 : Int32) ∧ True) := by
  refine metH (hEL hw) (plainFor_of_name pn_4) O0 (Ls := #[.val (.int p0), .val (.int p1), .val (.int p2), .val (.int p3), .val (.int p4), .unset, .unset, .unset, .unset, .unset, .unset]) (fun m => by first | rfl | (simp [entryFrame, mkF, argsToLocals, Value.category]; done)) ?_
  intro p e s m below meth c T0 v0 X0 hSf
  have K0_h0 := Keep.refl h0 []
  have n0le := X0.n0le
  obtain ⟨zc, fm, G_cs, G_zc, G_fm, isref_fm, G_assertionsDisabled, G_HI_BYTE_SHIFT, G_LO_BYTE_SHIFT⟩ := id G
  by_cases hc180 : (p0 &&& (3 : Int32)) = (0 : Int32)
  · by_cases hc181 : (((p0.toUInt32 >>> ((2 : Int32) &&& 31).toUInt32).toInt32) &&& (3 : Int32)) = (0 : Int32)
    · refine k_iloadN X0 at_0 rfl (pc' := 1) rfl ?_
      refine k_iconst X0 at_1 (w := (3 : Int32)) rfl (pc' := 2) rfl ?_
      refine k_iand X0 at_2 (w := (0 : Int32)) hc180 (pc' := 3) rfl ?_
      refine k_istore X0 at_3 (Ls' := #[.val (.int p0), .val (.int p1), .val (.int p2), .val (.int p3), .val (.int p4), .val (.int (0 : Int32)), .unset, .unset, .unset, .unset, .unset]) rfl (pc' := 5) rfl ?_
      refine k_iloadN X0 at_5 rfl (pc' := 6) rfl ?_
      refine k_iconst X0 at_6 (w := (2 : Int32)) rfl (pc' := 7) rfl ?_
      refine k_iushr X0 at_7 (w := ((p0.toUInt32 >>> ((2 : Int32) &&& 31).toUInt32).toInt32)) rfl (pc' := 8) rfl ?_
      refine k_iconst X0 at_8 (w := (3 : Int32)) rfl (pc' := 9) rfl ?_
      refine k_iand X0 at_9 (w := (0 : Int32)) hc181 (pc' := 10) rfl ?_
      refine k_istore X0 at_10 (Ls' := #[.val (.int p0), .val (.int p1), .val (.int p2), .val (.int p3), .val (.int p4), .val (.int (0 : Int32)), .val (.int (0 : Int32)), .unset, .unset, .unset, .unset]) rfl (pc' := 12) rfl ?_
      refine k_iload X0 at_12 rfl (pc' := 14) rfl ?_
      refine k_iloadN X0 at_14 rfl (pc' := 15) rfl ?_
      refine k_iloadN X0 at_15 rfl (pc' := 16) rfl ?_
      refine k_callSVH X0 (y := (⟨"com/example/colophon/colophon/PartIsNamePinLaw", "draw", "(III)Ljava/lang/String;"⟩ : MethodName)) at_16 (w_0 hw) (w_1 hw) (w_2 hw) (w_3 hw) (by decide) (argsL := [(.int (0 : Int32)), (.int p1), (.int p2)]) (rest := []) (own_draw0 l Z a0 hw G n0 h0 X0.old p1 p2 ) rfl pd_10 rfl rfl (by decide) (W := 0) (Nat.le_of_eq rfl) (by decide) (by decide) (by decide) all0 (pc' := 19) rfl ?_
      rintro _ v182 T182 h182 L182 X182 K182 C182 ⟨rfl, -⟩
      have sz_h182 := K182.1
      have K0_h182 : Keep h0 h182 [] := K0_h0.trans K182 all0
      refine k_astore X182 at_19 rfl (Ls' := #[.val (.int p0), .val (.int p1), .val (.int p2), .val (.int p3), .val (.int p4), .val (.int (0 : Int32)), .val (.int (0 : Int32)), .val .null, .unset, .unset, .unset]) rfl (pc' := 21) rfl ?_
      refine k_iload X182 at_21 rfl (pc' := 23) rfl ?_
      refine k_iloadN X182 at_23 rfl (pc' := 24) rfl ?_
      refine k_iload X182 at_24 rfl (pc' := 26) rfl ?_
      refine k_callSVH X182 (y := (⟨"com/example/colophon/colophon/PartIsNamePinLaw", "draw", "(III)Ljava/lang/String;"⟩ : MethodName)) at_26 (w_0 hw) (w_1 hw) (w_2 hw) (w_3 hw) (by decide) (argsL := [(.int (0 : Int32)), (.int p3), (.int p4)]) (rest := []) (own_draw0 l Z a0 hw G n0 h182 X182.old p3 p4 ) rfl pd_10 rfl rfl (by decide) (W := 0) (Nat.le_of_eq rfl) (by decide) (by decide) (by decide) all0 (pc' := 29) rfl ?_
      rintro _ v184 T184 h184 L184 X184 K184 C184 ⟨rfl, -⟩
      have sz_h184 := K184.1
      have K0_h184 : Keep h0 h184 [] := K0_h182.trans K184 all0
      refine k_astore X184 at_29 rfl (Ls' := #[.val (.int p0), .val (.int p1), .val (.int p2), .val (.int p3), .val (.int p4), .val (.int (0 : Int32)), .val (.int (0 : Int32)), .val .null, .val .null, .unset, .unset]) rfl (pc' := 31) rfl ?_
      refine k_newO X184 at_31 (w_4 hw) (w_5 hw) (w_6 hw) (by decide) (by decide) (pc' := 34) rfl fun T186 h186 b186 g186 X186 K186 E186 D186 S186 lt186 ge186 => ?_
      have sz_h186 := K186.1
      have K0_h186 : Keep h0 h186 [] := K0_h184.trans K186 all0
      have Fn186_role : Fld Z h186 b186 "com/example/colophon/colophon/Pairing$Part" "role" "Ljava/lang/String;" .null := D186 (Or.inr (w_19 hw)) (ty := (.object "java/lang/String")) (by decide)
      have Fn186_text : Fld Z h186 b186 "com/example/colophon/colophon/Pairing$Part" "text" "Ljava/lang/String;" .null := D186 (Or.inr (w_21 hw)) (ty := (.object "java/lang/String")) (by decide)
      refine k_dup X186 at_34 rfl (pc' := 35) rfl ?_
      refine k_aload X186 at_35 rfl rfl (pc' := 37) rfl ?_
      refine k_aload X186 at_37 rfl rfl (pc' := 39) rfl ?_
      have ge187 : n0 ≤ b186 := by omega
      refine k_callPNF X186 (y := (⟨"com/example/colophon/colophon/Pairing$Part", "<init>", "(Ljava/lang/String;Ljava/lang/String;)V"⟩ : MethodName)) at_39 (w_7 hw) (w_8 hw) (w_6 hw) (w_9 hw) (by decide) rfl rfl (argsL := [.null, .null]) (rest := [(.ref b186)]) (own_ptInit l Z a0 hw G n0 h186 X186.old b186 (.null) (.null) rfl rfl (by omega) E186 Fn186_role Fn186_text) rfl pd_11 rfl rfl (by decide) (W := 1) (Nat.le_of_eq rfl) (by decide) (by decide) (by decide) (allS ⟨S186, ge187⟩ all0) (pc' := 42) rfl ?_
      rintro T188 h188 L188 X188 K188 ⟨q188_0, q188_1⟩
      have sz_h188 := K188.1
      have K0_h188 : Keep h0 h188 [] := K0_h186.trans K188 (allS (Or.inr (by omega)) all0)
      have lt188_0 := own_n q188_0.lt
      have lt188_1 := own_n q188_1.lt
      refine k_astore X188 at_42 rfl (Ls' := #[.val (.int p0), .val (.int p1), .val (.int p2), .val (.int p3), .val (.int p4), .val (.int (0 : Int32)), .val (.int (0 : Int32)), .val .null, .val .null, .val (.ref b186), .unset]) rfl (pc' := 44) rfl ?_
      refine k_iload X188 at_44 rfl (pc' := 46) rfl ?_
      refine k_ifYes X188 at_46 (by decide) (pc' := 53) (by decide) (by decide) ?_
      refine k_iconst X188 at_53 (w := (0 : Int32)) rfl (pc' := 54) rfl ?_
      refine k_istore X188 at_54 (Ls' := #[.val (.int p0), .val (.int p1), .val (.int p2), .val (.int p3), .val (.int p4), .val (.int (0 : Int32)), .val (.int (0 : Int32)), .val .null, .val .null, .val (.ref b186), .val (.int (0 : Int32))]) rfl (pc' := 56) rfl ?_
      refine k_aload X188 at_56 rfl rfl (pc' := 58) rfl ?_
      refine k_callVVF X188 (y := (⟨"com/example/colophon/colophon/Pairing$Part", "isName", "()Z"⟩ : MethodName)) at_58 (w_22 hw) (w_23 hw) (w_25 hw) (w_24 hw) (w_6 hw) (w_26 hw) (by decide) (notFace_of_selects (args := #[]) (mvT X188.hZ (w_25 hw))) q188_0 (argsL := []) (rest := []) (own_isN0 l Z a0 hw G n0 h188 X188.old b186 q188_1) rfl pd_12 rfl rfl (by decide) (W := 0) (Nat.le_of_eq rfl) (by decide) (by decide) (by decide) all0 (pc' := 61) rfl ?_
      rintro _ T189 h189 L189 X189 K189 ⟨rfl, -⟩
      have sz_h189 := K189.1
      have K0_h189 : Keep h0 h189 [] := K0_h188.trans K189 all0
      refine k_iload X189 at_61 rfl (pc' := 63) rfl ?_
      refine k_icmpNo X189 at_63 (by decide) (pc' := 66) rfl ?_
      refine k_iconst X189 at_66 (w := (1 : Int32)) rfl (pc' := 67) rfl ?_
      refine k_goto X189 at_67 (pc' := 71) (by decide) (by decide) ?_
      exact k_retHN X189 (w := (1 : Int32)) at_71 (t := .boolean) rfl (by simp) rfl K0_h189 (fun v' C' => ⟨_, rfl, rfl, trivial⟩) (by decide) (by decide)
    · refine k_iloadN X0 at_0 rfl (pc' := 1) rfl ?_
      refine k_iconst X0 at_1 (w := (3 : Int32)) rfl (pc' := 2) rfl ?_
      refine k_iand X0 at_2 (w := (0 : Int32)) hc180 (pc' := 3) rfl ?_
      refine k_istore X0 at_3 (Ls' := #[.val (.int p0), .val (.int p1), .val (.int p2), .val (.int p3), .val (.int p4), .val (.int (0 : Int32)), .unset, .unset, .unset, .unset, .unset]) rfl (pc' := 5) rfl ?_
      refine k_iloadN X0 at_5 rfl (pc' := 6) rfl ?_
      refine k_iconst X0 at_6 (w := (2 : Int32)) rfl (pc' := 7) rfl ?_
      refine k_iushr X0 at_7 (w := ((p0.toUInt32 >>> ((2 : Int32) &&& 31).toUInt32).toInt32)) rfl (pc' := 8) rfl ?_
      refine k_iconst X0 at_8 (w := (3 : Int32)) rfl (pc' := 9) rfl ?_
      refine k_iand X0 at_9 (w := (((p0.toUInt32 >>> ((2 : Int32) &&& 31).toUInt32).toInt32) &&& (3 : Int32))) rfl (pc' := 10) rfl ?_
      refine k_istore X0 at_10 (Ls' := #[.val (.int p0), .val (.int p1), .val (.int p2), .val (.int p3), .val (.int p4), .val (.int (0 : Int32)), .val (.int (((p0.toUInt32 >>> ((2 : Int32) &&& 31).toUInt32).toInt32) &&& (3 : Int32))), .unset, .unset, .unset, .unset]) rfl (pc' := 12) rfl ?_
      refine k_iload X0 at_12 rfl (pc' := 14) rfl ?_
      refine k_iloadN X0 at_14 rfl (pc' := 15) rfl ?_
      refine k_iloadN X0 at_15 rfl (pc' := 16) rfl ?_
      refine k_callSVH X0 (y := (⟨"com/example/colophon/colophon/PartIsNamePinLaw", "draw", "(III)Ljava/lang/String;"⟩ : MethodName)) at_16 (w_0 hw) (w_1 hw) (w_2 hw) (w_3 hw) (by decide) (argsL := [(.int (0 : Int32)), (.int p1), (.int p2)]) (rest := []) (own_draw0 l Z a0 hw G n0 h0 X0.old p1 p2 ) rfl pd_10 rfl rfl (by decide) (W := 0) (Nat.le_of_eq rfl) (by decide) (by decide) (by decide) all0 (pc' := 19) rfl ?_
      rintro _ v191 T191 h191 L191 X191 K191 C191 ⟨rfl, -⟩
      have sz_h191 := K191.1
      have K0_h191 : Keep h0 h191 [] := K0_h0.trans K191 all0
      refine k_astore X191 at_19 rfl (Ls' := #[.val (.int p0), .val (.int p1), .val (.int p2), .val (.int p3), .val (.int p4), .val (.int (0 : Int32)), .val (.int (((p0.toUInt32 >>> ((2 : Int32) &&& 31).toUInt32).toInt32) &&& (3 : Int32))), .val .null, .unset, .unset, .unset]) rfl (pc' := 21) rfl ?_
      refine k_iload X191 at_21 rfl (pc' := 23) rfl ?_
      refine k_iloadN X191 at_23 rfl (pc' := 24) rfl ?_
      refine k_iload X191 at_24 rfl (pc' := 26) rfl ?_
      refine k_callSVH X191 (y := (⟨"com/example/colophon/colophon/PartIsNamePinLaw", "draw", "(III)Ljava/lang/String;"⟩ : MethodName)) at_26 (w_0 hw) (w_1 hw) (w_2 hw) (w_3 hw) (by decide) (argsL := [(.int (((p0.toUInt32 >>> ((2 : Int32) &&& 31).toUInt32).toInt32) &&& (3 : Int32))), (.int p3), (.int p4)]) (rest := []) (own_draw1 l Z a0 hw G n0 h191 X191.old (((p0.toUInt32 >>> ((2 : Int32) &&& 31).toUInt32).toInt32) &&& (3 : Int32)) p3 p4 hc181 ) rfl pd_10 rfl rfl (by decide) (W := 0) (Nat.le_of_eq rfl) (by decide) (by decide) (by decide) all0 (pc' := 29) rfl ?_
      rintro _ v194 T194 h194 L194 X194 K194 C194 ⟨r_193, rfl, -⟩
      have sz_h194 := K194.1
      have K0_h194 : Keep h0 h194 [] := K0_h191.trans K194 all0
      refine k_astore X194 at_29 rfl (Ls' := #[.val (.int p0), .val (.int p1), .val (.int p2), .val (.int p3), .val (.int p4), .val (.int (0 : Int32)), .val (.int (((p0.toUInt32 >>> ((2 : Int32) &&& 31).toUInt32).toInt32) &&& (3 : Int32))), .val .null, .val (.ref r_193), .unset, .unset]) rfl (pc' := 31) rfl ?_
      refine k_newO X194 at_31 (w_4 hw) (w_5 hw) (w_6 hw) (by decide) (by decide) (pc' := 34) rfl fun T196 h196 b196 g196 X196 K196 E196 D196 S196 lt196 ge196 => ?_
      have sz_h196 := K196.1
      have K0_h196 : Keep h0 h196 [] := K0_h194.trans K196 all0
      have Fn196_role : Fld Z h196 b196 "com/example/colophon/colophon/Pairing$Part" "role" "Ljava/lang/String;" .null := D196 (Or.inr (w_19 hw)) (ty := (.object "java/lang/String")) (by decide)
      have Fn196_text : Fld Z h196 b196 "com/example/colophon/colophon/Pairing$Part" "text" "Ljava/lang/String;" .null := D196 (Or.inr (w_21 hw)) (ty := (.object "java/lang/String")) (by decide)
      refine k_dup X196 at_34 rfl (pc' := 35) rfl ?_
      refine k_aload X196 at_35 rfl rfl (pc' := 37) rfl ?_
      refine k_aload X196 at_37 rfl rfl (pc' := 39) rfl ?_
      have ge197 : n0 ≤ b196 := by omega
      refine k_callPNF X196 (y := (⟨"com/example/colophon/colophon/Pairing$Part", "<init>", "(Ljava/lang/String;Ljava/lang/String;)V"⟩ : MethodName)) at_39 (w_7 hw) (w_8 hw) (w_6 hw) (w_9 hw) (by decide) rfl rfl (argsL := [.null, (.ref r_193)]) (rest := [(.ref b196)]) (own_ptInit l Z a0 hw G n0 h196 X196.old b196 (.null) (.ref r_193) rfl rfl (by omega) E196 Fn196_role Fn196_text) rfl pd_11 rfl rfl (by decide) (W := 1) (Nat.le_of_eq rfl) (by decide) (by decide) (by decide) (allS ⟨S196, ge197⟩ all0) (pc' := 42) rfl ?_
      rintro T198 h198 L198 X198 K198 ⟨q198_0, q198_1⟩
      have sz_h198 := K198.1
      have K0_h198 : Keep h0 h198 [] := K0_h196.trans K198 (allS (Or.inr (by omega)) all0)
      have lt198_0 := own_n q198_0.lt
      have lt198_1 := own_n q198_1.lt
      refine k_astore X198 at_42 rfl (Ls' := #[.val (.int p0), .val (.int p1), .val (.int p2), .val (.int p3), .val (.int p4), .val (.int (0 : Int32)), .val (.int (((p0.toUInt32 >>> ((2 : Int32) &&& 31).toUInt32).toInt32) &&& (3 : Int32))), .val .null, .val (.ref r_193), .val (.ref b196), .unset]) rfl (pc' := 44) rfl ?_
      refine k_iload X198 at_44 rfl (pc' := 46) rfl ?_
      refine k_ifYes X198 at_46 (by decide) (pc' := 53) (by decide) (by decide) ?_
      refine k_iconst X198 at_53 (w := (0 : Int32)) rfl (pc' := 54) rfl ?_
      refine k_istore X198 at_54 (Ls' := #[.val (.int p0), .val (.int p1), .val (.int p2), .val (.int p3), .val (.int p4), .val (.int (0 : Int32)), .val (.int (((p0.toUInt32 >>> ((2 : Int32) &&& 31).toUInt32).toInt32) &&& (3 : Int32))), .val .null, .val (.ref r_193), .val (.ref b196), .val (.int (0 : Int32))]) rfl (pc' := 56) rfl ?_
      refine k_aload X198 at_56 rfl rfl (pc' := 58) rfl ?_
      refine k_callVVF X198 (y := (⟨"com/example/colophon/colophon/Pairing$Part", "isName", "()Z"⟩ : MethodName)) at_58 (w_22 hw) (w_23 hw) (w_25 hw) (w_24 hw) (w_6 hw) (w_26 hw) (by decide) (notFace_of_selects (args := #[]) (mvT X198.hZ (w_25 hw))) q198_0 (argsL := []) (rest := []) (own_isN0 l Z a0 hw G n0 h198 X198.old b196 q198_1) rfl pd_12 rfl rfl (by decide) (W := 0) (Nat.le_of_eq rfl) (by decide) (by decide) (by decide) all0 (pc' := 61) rfl ?_
      rintro _ T199 h199 L199 X199 K199 ⟨rfl, -⟩
      have sz_h199 := K199.1
      have K0_h199 : Keep h0 h199 [] := K0_h198.trans K199 all0
      refine k_iload X199 at_61 rfl (pc' := 63) rfl ?_
      refine k_icmpNo X199 at_63 (by decide) (pc' := 66) rfl ?_
      refine k_iconst X199 at_66 (w := (1 : Int32)) rfl (pc' := 67) rfl ?_
      refine k_goto X199 at_67 (pc' := 71) (by decide) (by decide) ?_
      exact k_retHN X199 (w := (1 : Int32)) at_71 (t := .boolean) rfl (by simp) rfl K0_h199 (fun v' C' => ⟨_, rfl, rfl, trivial⟩) (by decide) (by decide)
  · by_cases hc201 : (((p0.toUInt32 >>> ((2 : Int32) &&& 31).toUInt32).toInt32) &&& (3 : Int32)) = (0 : Int32)
    · refine k_iloadN X0 at_0 rfl (pc' := 1) rfl ?_
      refine k_iconst X0 at_1 (w := (3 : Int32)) rfl (pc' := 2) rfl ?_
      refine k_iand X0 at_2 (w := (p0 &&& (3 : Int32))) rfl (pc' := 3) rfl ?_
      refine k_istore X0 at_3 (Ls' := #[.val (.int p0), .val (.int p1), .val (.int p2), .val (.int p3), .val (.int p4), .val (.int (p0 &&& (3 : Int32))), .unset, .unset, .unset, .unset, .unset]) rfl (pc' := 5) rfl ?_
      refine k_iloadN X0 at_5 rfl (pc' := 6) rfl ?_
      refine k_iconst X0 at_6 (w := (2 : Int32)) rfl (pc' := 7) rfl ?_
      refine k_iushr X0 at_7 (w := ((p0.toUInt32 >>> ((2 : Int32) &&& 31).toUInt32).toInt32)) rfl (pc' := 8) rfl ?_
      refine k_iconst X0 at_8 (w := (3 : Int32)) rfl (pc' := 9) rfl ?_
      refine k_iand X0 at_9 (w := (0 : Int32)) hc201 (pc' := 10) rfl ?_
      refine k_istore X0 at_10 (Ls' := #[.val (.int p0), .val (.int p1), .val (.int p2), .val (.int p3), .val (.int p4), .val (.int (p0 &&& (3 : Int32))), .val (.int (0 : Int32)), .unset, .unset, .unset, .unset]) rfl (pc' := 12) rfl ?_
      refine k_iload X0 at_12 rfl (pc' := 14) rfl ?_
      refine k_iloadN X0 at_14 rfl (pc' := 15) rfl ?_
      refine k_iloadN X0 at_15 rfl (pc' := 16) rfl ?_
      refine k_callSVH X0 (y := (⟨"com/example/colophon/colophon/PartIsNamePinLaw", "draw", "(III)Ljava/lang/String;"⟩ : MethodName)) at_16 (w_0 hw) (w_1 hw) (w_2 hw) (w_3 hw) (by decide) (argsL := [(.int (p0 &&& (3 : Int32))), (.int p1), (.int p2)]) (rest := []) (own_draw1 l Z a0 hw G n0 h0 X0.old (p0 &&& (3 : Int32)) p1 p2 hc180 ) rfl pd_10 rfl rfl (by decide) (W := 0) (Nat.le_of_eq rfl) (by decide) (by decide) (by decide) all0 (pc' := 19) rfl ?_
      rintro _ v203 T203 h203 L203 X203 K203 C203 ⟨r_202, rfl, -⟩
      have sz_h203 := K203.1
      have K0_h203 : Keep h0 h203 [] := K0_h0.trans K203 all0
      refine k_astore X203 at_19 rfl (Ls' := #[.val (.int p0), .val (.int p1), .val (.int p2), .val (.int p3), .val (.int p4), .val (.int (p0 &&& (3 : Int32))), .val (.int (0 : Int32)), .val (.ref r_202), .unset, .unset, .unset]) rfl (pc' := 21) rfl ?_
      refine k_iload X203 at_21 rfl (pc' := 23) rfl ?_
      refine k_iloadN X203 at_23 rfl (pc' := 24) rfl ?_
      refine k_iload X203 at_24 rfl (pc' := 26) rfl ?_
      refine k_callSVH X203 (y := (⟨"com/example/colophon/colophon/PartIsNamePinLaw", "draw", "(III)Ljava/lang/String;"⟩ : MethodName)) at_26 (w_0 hw) (w_1 hw) (w_2 hw) (w_3 hw) (by decide) (argsL := [(.int (0 : Int32)), (.int p3), (.int p4)]) (rest := []) (own_draw0 l Z a0 hw G n0 h203 X203.old p3 p4 ) rfl pd_10 rfl rfl (by decide) (W := 0) (Nat.le_of_eq rfl) (by decide) (by decide) (by decide) all0 (pc' := 29) rfl ?_
      rintro _ v205 T205 h205 L205 X205 K205 C205 ⟨rfl, -⟩
      have sz_h205 := K205.1
      have K0_h205 : Keep h0 h205 [] := K0_h203.trans K205 all0
      refine k_astore X205 at_29 rfl (Ls' := #[.val (.int p0), .val (.int p1), .val (.int p2), .val (.int p3), .val (.int p4), .val (.int (p0 &&& (3 : Int32))), .val (.int (0 : Int32)), .val (.ref r_202), .val .null, .unset, .unset]) rfl (pc' := 31) rfl ?_
      refine k_newO X205 at_31 (w_4 hw) (w_5 hw) (w_6 hw) (by decide) (by decide) (pc' := 34) rfl fun T207 h207 b207 g207 X207 K207 E207 D207 S207 lt207 ge207 => ?_
      have sz_h207 := K207.1
      have K0_h207 : Keep h0 h207 [] := K0_h205.trans K207 all0
      have Fn207_role : Fld Z h207 b207 "com/example/colophon/colophon/Pairing$Part" "role" "Ljava/lang/String;" .null := D207 (Or.inr (w_19 hw)) (ty := (.object "java/lang/String")) (by decide)
      have Fn207_text : Fld Z h207 b207 "com/example/colophon/colophon/Pairing$Part" "text" "Ljava/lang/String;" .null := D207 (Or.inr (w_21 hw)) (ty := (.object "java/lang/String")) (by decide)
      refine k_dup X207 at_34 rfl (pc' := 35) rfl ?_
      refine k_aload X207 at_35 rfl rfl (pc' := 37) rfl ?_
      refine k_aload X207 at_37 rfl rfl (pc' := 39) rfl ?_
      have ge208 : n0 ≤ b207 := by omega
      refine k_callPNF X207 (y := (⟨"com/example/colophon/colophon/Pairing$Part", "<init>", "(Ljava/lang/String;Ljava/lang/String;)V"⟩ : MethodName)) at_39 (w_7 hw) (w_8 hw) (w_6 hw) (w_9 hw) (by decide) rfl rfl (argsL := [(.ref r_202), .null]) (rest := [(.ref b207)]) (own_ptInit l Z a0 hw G n0 h207 X207.old b207 (.ref r_202) (.null) rfl rfl (by omega) E207 Fn207_role Fn207_text) rfl pd_11 rfl rfl (by decide) (W := 1) (Nat.le_of_eq rfl) (by decide) (by decide) (by decide) (allS ⟨S207, ge208⟩ all0) (pc' := 42) rfl ?_
      rintro T209 h209 L209 X209 K209 ⟨q209_0, q209_1⟩
      have sz_h209 := K209.1
      have K0_h209 : Keep h0 h209 [] := K0_h207.trans K209 (allS (Or.inr (by omega)) all0)
      have lt209_0 := own_n q209_0.lt
      have lt209_1 := own_n q209_1.lt
      refine k_astore X209 at_42 rfl (Ls' := #[.val (.int p0), .val (.int p1), .val (.int p2), .val (.int p3), .val (.int p4), .val (.int (p0 &&& (3 : Int32))), .val (.int (0 : Int32)), .val (.ref r_202), .val .null, .val (.ref b207), .unset]) rfl (pc' := 44) rfl ?_
      refine k_iload X209 at_44 rfl (pc' := 46) rfl ?_
      refine k_ifNo X209 at_46 ((if0 _ _).trans (feq hc180).1) (pc' := 49) rfl ?_
      refine k_iconst X209 at_49 (w := (1 : Int32)) rfl (pc' := 50) rfl ?_
      refine k_goto X209 at_50 (pc' := 54) (by decide) (by decide) ?_
      refine k_istore X209 at_54 (Ls' := #[.val (.int p0), .val (.int p1), .val (.int p2), .val (.int p3), .val (.int p4), .val (.int (p0 &&& (3 : Int32))), .val (.int (0 : Int32)), .val (.ref r_202), .val .null, .val (.ref b207), .val (.int (1 : Int32))]) rfl (pc' := 56) rfl ?_
      refine k_aload X209 at_56 rfl rfl (pc' := 58) rfl ?_
      refine k_callVVF X209 (y := (⟨"com/example/colophon/colophon/Pairing$Part", "isName", "()Z"⟩ : MethodName)) at_58 (w_22 hw) (w_23 hw) (w_25 hw) (w_24 hw) (w_6 hw) (w_26 hw) (by decide) (notFace_of_selects (args := #[]) (mvT X209.hZ (w_25 hw))) q209_0 (argsL := []) (rest := []) (own_isN1 l Z a0 hw G n0 h209 X209.old b207 r_202 q209_1) rfl pd_12 rfl rfl (by decide) (W := 0) (Nat.le_of_eq rfl) (by decide) (by decide) (by decide) all0 (pc' := 61) rfl ?_
      rintro _ T210 h210 L210 X210 K210 ⟨rfl, -⟩
      have sz_h210 := K210.1
      have K0_h210 : Keep h0 h210 [] := K0_h209.trans K210 all0
      refine k_iload X210 at_61 rfl (pc' := 63) rfl ?_
      refine k_icmpNo X210 at_63 (by decide) (pc' := 66) rfl ?_
      refine k_iconst X210 at_66 (w := (1 : Int32)) rfl (pc' := 67) rfl ?_
      refine k_goto X210 at_67 (pc' := 71) (by decide) (by decide) ?_
      exact k_retHN X210 (w := (1 : Int32)) at_71 (t := .boolean) rfl (by simp) rfl K0_h210 (fun v' C' => ⟨_, rfl, rfl, trivial⟩) (by decide) (by decide)
    · refine k_iloadN X0 at_0 rfl (pc' := 1) rfl ?_
      refine k_iconst X0 at_1 (w := (3 : Int32)) rfl (pc' := 2) rfl ?_
      refine k_iand X0 at_2 (w := (p0 &&& (3 : Int32))) rfl (pc' := 3) rfl ?_
      refine k_istore X0 at_3 (Ls' := #[.val (.int p0), .val (.int p1), .val (.int p2), .val (.int p3), .val (.int p4), .val (.int (p0 &&& (3 : Int32))), .unset, .unset, .unset, .unset, .unset]) rfl (pc' := 5) rfl ?_
      refine k_iloadN X0 at_5 rfl (pc' := 6) rfl ?_
      refine k_iconst X0 at_6 (w := (2 : Int32)) rfl (pc' := 7) rfl ?_
      refine k_iushr X0 at_7 (w := ((p0.toUInt32 >>> ((2 : Int32) &&& 31).toUInt32).toInt32)) rfl (pc' := 8) rfl ?_
      refine k_iconst X0 at_8 (w := (3 : Int32)) rfl (pc' := 9) rfl ?_
      refine k_iand X0 at_9 (w := (((p0.toUInt32 >>> ((2 : Int32) &&& 31).toUInt32).toInt32) &&& (3 : Int32))) rfl (pc' := 10) rfl ?_
      refine k_istore X0 at_10 (Ls' := #[.val (.int p0), .val (.int p1), .val (.int p2), .val (.int p3), .val (.int p4), .val (.int (p0 &&& (3 : Int32))), .val (.int (((p0.toUInt32 >>> ((2 : Int32) &&& 31).toUInt32).toInt32) &&& (3 : Int32))), .unset, .unset, .unset, .unset]) rfl (pc' := 12) rfl ?_
      refine k_iload X0 at_12 rfl (pc' := 14) rfl ?_
      refine k_iloadN X0 at_14 rfl (pc' := 15) rfl ?_
      refine k_iloadN X0 at_15 rfl (pc' := 16) rfl ?_
      refine k_callSVH X0 (y := (⟨"com/example/colophon/colophon/PartIsNamePinLaw", "draw", "(III)Ljava/lang/String;"⟩ : MethodName)) at_16 (w_0 hw) (w_1 hw) (w_2 hw) (w_3 hw) (by decide) (argsL := [(.int (p0 &&& (3 : Int32))), (.int p1), (.int p2)]) (rest := []) (own_draw1 l Z a0 hw G n0 h0 X0.old (p0 &&& (3 : Int32)) p1 p2 hc180 ) rfl pd_10 rfl rfl (by decide) (W := 0) (Nat.le_of_eq rfl) (by decide) (by decide) (by decide) all0 (pc' := 19) rfl ?_
      rintro _ v213 T213 h213 L213 X213 K213 C213 ⟨r_212, rfl, -⟩
      have sz_h213 := K213.1
      have K0_h213 : Keep h0 h213 [] := K0_h0.trans K213 all0
      refine k_astore X213 at_19 rfl (Ls' := #[.val (.int p0), .val (.int p1), .val (.int p2), .val (.int p3), .val (.int p4), .val (.int (p0 &&& (3 : Int32))), .val (.int (((p0.toUInt32 >>> ((2 : Int32) &&& 31).toUInt32).toInt32) &&& (3 : Int32))), .val (.ref r_212), .unset, .unset, .unset]) rfl (pc' := 21) rfl ?_
      refine k_iload X213 at_21 rfl (pc' := 23) rfl ?_
      refine k_iloadN X213 at_23 rfl (pc' := 24) rfl ?_
      refine k_iload X213 at_24 rfl (pc' := 26) rfl ?_
      refine k_callSVH X213 (y := (⟨"com/example/colophon/colophon/PartIsNamePinLaw", "draw", "(III)Ljava/lang/String;"⟩ : MethodName)) at_26 (w_0 hw) (w_1 hw) (w_2 hw) (w_3 hw) (by decide) (argsL := [(.int (((p0.toUInt32 >>> ((2 : Int32) &&& 31).toUInt32).toInt32) &&& (3 : Int32))), (.int p3), (.int p4)]) (rest := []) (own_draw1 l Z a0 hw G n0 h213 X213.old (((p0.toUInt32 >>> ((2 : Int32) &&& 31).toUInt32).toInt32) &&& (3 : Int32)) p3 p4 hc201 ) rfl pd_10 rfl rfl (by decide) (W := 0) (Nat.le_of_eq rfl) (by decide) (by decide) (by decide) all0 (pc' := 29) rfl ?_
      rintro _ v216 T216 h216 L216 X216 K216 C216 ⟨r_215, rfl, -⟩
      have sz_h216 := K216.1
      have K0_h216 : Keep h0 h216 [] := K0_h213.trans K216 all0
      refine k_astore X216 at_29 rfl (Ls' := #[.val (.int p0), .val (.int p1), .val (.int p2), .val (.int p3), .val (.int p4), .val (.int (p0 &&& (3 : Int32))), .val (.int (((p0.toUInt32 >>> ((2 : Int32) &&& 31).toUInt32).toInt32) &&& (3 : Int32))), .val (.ref r_212), .val (.ref r_215), .unset, .unset]) rfl (pc' := 31) rfl ?_
      refine k_newO X216 at_31 (w_4 hw) (w_5 hw) (w_6 hw) (by decide) (by decide) (pc' := 34) rfl fun T218 h218 b218 g218 X218 K218 E218 D218 S218 lt218 ge218 => ?_
      have sz_h218 := K218.1
      have K0_h218 : Keep h0 h218 [] := K0_h216.trans K218 all0
      have Fn218_role : Fld Z h218 b218 "com/example/colophon/colophon/Pairing$Part" "role" "Ljava/lang/String;" .null := D218 (Or.inr (w_19 hw)) (ty := (.object "java/lang/String")) (by decide)
      have Fn218_text : Fld Z h218 b218 "com/example/colophon/colophon/Pairing$Part" "text" "Ljava/lang/String;" .null := D218 (Or.inr (w_21 hw)) (ty := (.object "java/lang/String")) (by decide)
      refine k_dup X218 at_34 rfl (pc' := 35) rfl ?_
      refine k_aload X218 at_35 rfl rfl (pc' := 37) rfl ?_
      refine k_aload X218 at_37 rfl rfl (pc' := 39) rfl ?_
      have ge219 : n0 ≤ b218 := by omega
      refine k_callPNF X218 (y := (⟨"com/example/colophon/colophon/Pairing$Part", "<init>", "(Ljava/lang/String;Ljava/lang/String;)V"⟩ : MethodName)) at_39 (w_7 hw) (w_8 hw) (w_6 hw) (w_9 hw) (by decide) rfl rfl (argsL := [(.ref r_212), (.ref r_215)]) (rest := [(.ref b218)]) (own_ptInit l Z a0 hw G n0 h218 X218.old b218 (.ref r_212) (.ref r_215) rfl rfl (by omega) E218 Fn218_role Fn218_text) rfl pd_11 rfl rfl (by decide) (W := 1) (Nat.le_of_eq rfl) (by decide) (by decide) (by decide) (allS ⟨S218, ge219⟩ all0) (pc' := 42) rfl ?_
      rintro T220 h220 L220 X220 K220 ⟨q220_0, q220_1⟩
      have sz_h220 := K220.1
      have K0_h220 : Keep h0 h220 [] := K0_h218.trans K220 (allS (Or.inr (by omega)) all0)
      have lt220_0 := own_n q220_0.lt
      have lt220_1 := own_n q220_1.lt
      refine k_astore X220 at_42 rfl (Ls' := #[.val (.int p0), .val (.int p1), .val (.int p2), .val (.int p3), .val (.int p4), .val (.int (p0 &&& (3 : Int32))), .val (.int (((p0.toUInt32 >>> ((2 : Int32) &&& 31).toUInt32).toInt32) &&& (3 : Int32))), .val (.ref r_212), .val (.ref r_215), .val (.ref b218), .unset]) rfl (pc' := 44) rfl ?_
      refine k_iload X220 at_44 rfl (pc' := 46) rfl ?_
      refine k_ifNo X220 at_46 ((if0 _ _).trans (feq hc180).1) (pc' := 49) rfl ?_
      refine k_iconst X220 at_49 (w := (1 : Int32)) rfl (pc' := 50) rfl ?_
      refine k_goto X220 at_50 (pc' := 54) (by decide) (by decide) ?_
      refine k_istore X220 at_54 (Ls' := #[.val (.int p0), .val (.int p1), .val (.int p2), .val (.int p3), .val (.int p4), .val (.int (p0 &&& (3 : Int32))), .val (.int (((p0.toUInt32 >>> ((2 : Int32) &&& 31).toUInt32).toInt32) &&& (3 : Int32))), .val (.ref r_212), .val (.ref r_215), .val (.ref b218), .val (.int (1 : Int32))]) rfl (pc' := 56) rfl ?_
      refine k_aload X220 at_56 rfl rfl (pc' := 58) rfl ?_
      refine k_callVVF X220 (y := (⟨"com/example/colophon/colophon/Pairing$Part", "isName", "()Z"⟩ : MethodName)) at_58 (w_22 hw) (w_23 hw) (w_25 hw) (w_24 hw) (w_6 hw) (w_26 hw) (by decide) (notFace_of_selects (args := #[]) (mvT X220.hZ (w_25 hw))) q220_0 (argsL := []) (rest := []) (own_isN1 l Z a0 hw G n0 h220 X220.old b218 r_212 q220_1) rfl pd_12 rfl rfl (by decide) (W := 0) (Nat.le_of_eq rfl) (by decide) (by decide) (by decide) all0 (pc' := 61) rfl ?_
      rintro _ T221 h221 L221 X221 K221 ⟨rfl, -⟩
      have sz_h221 := K221.1
      have K0_h221 : Keep h0 h221 [] := K0_h220.trans K221 all0
      refine k_iload X221 at_61 rfl (pc' := 63) rfl ?_
      refine k_icmpNo X221 at_63 (by decide) (pc' := 66) rfl ?_
      refine k_iconst X221 at_66 (w := (1 : Int32)) rfl (pc' := 67) rfl ?_
      refine k_goto X221 at_67 (pc' := 71) (by decide) (by decide) ?_
      exact k_retHN X221 (w := (1 : Int32)) at_71 (t := .boolean) rfl (by simp) rfl K0_h221 (fun v' C' => ⟨_, rfl, rfl, trivial⟩) (by decide) (by decide)
set_option maxRecDepth 65536 in
set_option maxHeartbeats 40000000 in
theorem comes_1 {Post : Tables → Env → Array Value → State → Outcome → State → Prop} (hpost : ∀ tb e args s v u, (limb_1_1.after args s (.returned v) u = true ∧ limb_1_2.after args s (.returned v) u = true ∧ True) → ReturnedEndW s (.returned v) u (Jvm.fieldLocs frame_1_writes args s ++ Jvm.arrayLocs frame_1_arrays args s ++ Jvm.staticLocs frame_1_statics s) 32 1152 → Post tb e args s (.returned v) u) :
    ArmFor flags0 classFile x code maxLocals ret World_1 tables_1 room_1 Calls_1 rest_1 Pre_1 Post := by
  intro l hfl _ _ p e ha hc hk s m args below hf hA hF happ hP
  obtain ⟨hcalls, hrest, hpre⟩ := hP
  obtain ⟨-, -, -, hnamed, -, -, -, hat⟩ := (Spec.applies_iff hf).mp happ
  obtain ⟨hg, hn⟩ := and_e (Cond.before_iff.mp (show (Jvm.Cond.and given_1 narrow_1).before args s = true from hpre))
  obtain ⟨hcnt, g0⟩ := and_e hg
  obtain ⟨j0, g1⟩ := and_e g0
  obtain ⟨j1, g2⟩ := and_e g1
  obtain ⟨j2, g3⟩ := and_e g2
  obtain ⟨j3, g4⟩ := and_e g3
  obtain ⟨w0, w1, w2, w3, w4, rfl⟩ : ∃ w0 w1 w2 w3 w4 : Value, args = #[w0, w1, w2, w3, w4] := by
    have hs : args.size = 5 := by simpa [Cond.value, given_1] using hcnt
    obtain ⟨L⟩ := args
    match L, hs with
    | [w0, w1, w2, w3, w4], _ => exact ⟨w0, w1, w2, w3, w4, rfl⟩
  have hw := fun d (hd : d ∈ tables_1) => atoms_spec (ws := Jvm.Cond.code x code maxLocals ret :: tables_1) hat d (List.mem_cons_of_mem _ hd)
  obtain ⟨hsets, hown0⟩ := atoms_of _ (rest_1_c_eq ▸ (show rest_1_c.before _ s = true from hrest))
  have hfit : Fit s := fun {y c} hc i hi => by
    obtain ⟨ha, rfl⟩ := Array.getElem?_eq_some_iff.mp hc
    have q := List.all_eq_true.mp ((Array.all_eq_true_iff_forall_mem.mp hF) _ (Array.getElem_mem ha)) i (List.mem_range.mpr hi)
    simpa [Array.getElem?_eq_getElem hi] using q
  obtain ⟨i0, e0⟩ := is_v j0
  obtain rfl : w0 = (.int i0) := Option.some.inj e0
  obtain ⟨i1, e1⟩ := is_v j1
  obtain rfl : w1 = (.int i1) := Option.some.inj e1
  obtain ⟨i2, e2⟩ := is_v j2
  obtain rfl : w2 = (.int i2) := Option.some.inj e2
  obtain ⟨i3, e3⟩ := is_v j3
  obtain rfl : w3 = (.int i3) := Option.some.inj e3
  obtain ⟨i4, e4⟩ := is_v g4
  obtain rfl : w4 = (.int i4) := Option.some.inj e4
  obtain ⟨zc, ezc⟩ := is_v (Cond.before_iff.mp (hsets _ (List.mem_of_getElem? (i := 1) rfl)))
  have nzc := not_v (Cond.before_iff.mp (hsets _ (List.mem_of_getElem? (i := 2) rfl)))
  obtain ⟨fm, efm, rfm⟩ := isR_v (Cond.before_iff.mp (hsets _ (List.mem_of_getElem? (i := 8) rfl)))
  have G : Gl s := ⟨zc, fm, Sta.start ezc (Or.inl (hsets _ (List.mem_of_getElem? (i := 0) rfl))), gotF (Cond.eq_ints ezc (Term.int_eval (0))) nzc, Sta.start efm (Or.inl (hsets _ (List.mem_of_getElem? (i := 7) rfl))), rfm, Sta.start (own_eq_int (Cond.before_iff.mp (hsets _ (List.mem_of_getElem? (i := 12) rfl)))) (Or.inl (hsets _ (List.mem_of_getElem? (i := 11) rfl))), Sta.start (own_eq_int (Cond.before_iff.mp (hsets _ (List.mem_of_getElem? (i := 15) rfl)))) (Or.inl (hsets _ (List.mem_of_getElem? (i := 14) rfl))), Sta.start (own_eq_int (Cond.before_iff.mp (hsets _ (List.mem_of_getElem? (i := 18) rfl)))) (Or.inl (hsets _ (List.mem_of_getElem? (i := 17) rfl)))⟩
  have hCH : CHv s EL s.vm s.heap := fun q hq => nomatch hq
  obtain ⟨n, o, r1, r2, r3, _, L, rfl, ⟨⟨-, w, rfl, rfl, -⟩, N⟩, -, hq⟩ := own_law l s _ hw G s.heap.size s.heap (Old.start s) i0 i1 i2 i3 i4 p e ha hc hk s m _ below hf ((Spec.applies_iff_loose hf).mp happ).1 ⟨rfl, State.Warmed39.refl s, rfl, hCH, fun _ q => nomatch q⟩ trivial
  exact ⟨n, _, r1, r2, r3, hpost _ _ _ _ _ _ ⟨Cond.after_iff.mpr rfl, Cond.after_iff.mpr (eq_i res_at (Term.int_eval (1)) rfl), trivial⟩ ⟨hq.1, hq.2.1, hq.2.2.1, (hq.2.2.2.sift fun y hy => Or.inr (N y hy)).mono (by decide) (by decide)⟩⟩
theorem main_1_1 : Claimed_1_1 := comes_1 fun _ _ _ _ _ _ h hF => ⟨h.1, hF⟩
theorem main_1_2 : Claimed_1_2 := comes_1 fun _ _ _ _ _ _ h hF => ⟨h.2.1, hF⟩
end OwnProof
end Jvm.Pilot.@@N@@
namespace Jvm.Pilot.@@N@@
open Jvm Jvm.ClassFile Sem Op Lib Jvm.Free Jvm.Stand Jvm.Pilot.@@N@@.Jvm.D
/-! MADE BY PROGRAM (witnessworld.py) out of the Statement's table words and the real class files: 21 classes; the members and pool entries that the words name. The judged class is class 1, her method 2. -/
namespace start1
open Jvm.ClassFile
def u (s : String) : CpInfo := .utf8 (stringToUtf16 s)
/-- a pool by its gaps: so many unusable entries, then the entry; so many at the end -/
def gap : Nat → List CpInfo → List CpInfo
  | 0, r => r
  | n + 1, r => .unusable :: gap n r
def poolList (es : List (Nat × CpInfo)) (last : Nat) : List CpInfo := es.foldr (fun e r => gap e.1 (e.2 :: r)) (gap last [])
def pool (es : List (Nat × CpInfo)) (last : Nat) : Array CpInfo := ⟨poolList es last⟩
def fileOf (pool : Array CpInfo) (this : Nat) (attrs : Array Attribute := #[]) (ms : Array MethodInfo := #[]) (fl : Nat := 33) (sup : Nat := 0) (ifs : Array Nat := #[]) (fds : Array FieldInfo := #[]) : ClassFile where
  minorVersion := 0
  majorVersion := 65
  constantPool := pool
  accessFlags := fl
  thisClass := this
  superClass := sup
  interfaces := ifs
  fields := fds
  methods := ms
  attributes := attrs
def plain (name : String) (sup : Option ClassId) : Class where
  name := name
  kind := .ordinary
  loader := none
  accessFlags := 33
  super := sup
  interfaces := #[]
  cf := none
  fields := #[]
  methods := #[]
  instanceTypes := #[]
  staticTypes := #[]
  resolved := #[]
  callSites := []
  init := .initialized
  statics := none
  mirror := none

def pool0 : Array CpInfo := pool [(5, u "<init>"), (0, u "()V"), (1, .class_ 10), (1, u "java/lang/Object")] 113

def k0c0 : Code := { maxStack := 0, maxLocals := 1, code := object_method_1_code, exceptionTable := #[], attributes := #[] }
def k0m0 : Method := { name := "<init>", desc := "()V", sig := { parameters := [], returnType := none }, accessFlags := 1, code := some k0c0 }
/-- java/lang/Object -/
def k0 : Class := { plain "java/lang/Object" none with
  accessFlags := 33
  interfaces := #[]
  cf := some (fileOf pool0 8 #[] #[{ accessFlags := 1, nameIndex := 5, descriptorIndex := 6, attributes := #[] }] 33 0 #[] #[])
  fields := #[]
  methods := #[k0m0]
  instanceTypes := #[]
  staticTypes := #[]
  resolved := Array.replicate 124 none
  statics := none }

def pool1 : Array CpInfo := pool [(2, .class_ 4), (1, u "java/lang/Object"), (0, u "<init>"), (0, u "()V"), (0, .string 8), (0, u ""), (0, .integer 65535), (0, .class_ 11), (0, u "java/lang/String"), (0, .methodref 10 13), (0, .nameAndType 5 14), (0, u "([C)V"), (0, .methodref 16 17), (0, .class_ 18), (0, .nameAndType 19 20), (0, u "com/example/colophon/colophon/PartIsNamePinLaw"), (0, u "draw"), (0, u "(III)Ljava/lang/String;"), (0, .class_ 22), (0, u "com/example/colophon/colophon/Pairing$Part"), (0, .methodref 21 24), (0, .nameAndType 5 25), (0, u "(Ljava/lang/String;Ljava/lang/String;)V"), (0, .methodref 21 27), (0, .nameAndType 28 29), (0, u "isName"), (0, u "()Z"), (3, u "law"), (0, u "(IIIII)Z")] 6

def k1m0 : Method := { name := "<init>", desc := "()V", sig := { parameters := [], returnType := none }, accessFlags := 2, code := none }
def k1c1 : Code := { maxStack := 4, maxLocals := 4, code := method_2_code, exceptionTable := #[], attributes := #[] }
def k1m1 : Method := { name := "draw", desc := "(III)Ljava/lang/String;", sig := { parameters := [.int, .int, .int], returnType := some (.object "java/lang/String") }, accessFlags := 10, code := some k1c1 }
def k1c2 : Code := { maxStack := 4, maxLocals := 11, code := code, exceptionTable := #[], attributes := #[] }
def k1m2 : Method := { name := "law", desc := "(IIIII)Z", sig := { parameters := [.int, .int, .int, .int, .int], returnType := some .boolean }, accessFlags := 9, code := some k1c2 }
/-- com/example/colophon/colophon/PartIsNamePinLaw -/
def k1 : Class := { plain "com/example/colophon/colophon/PartIsNamePinLaw" (some 0) with
  accessFlags := 49
  interfaces := #[]
  cf := some (fileOf pool1 16 #[] #[{ accessFlags := 2, nameIndex := 5, descriptorIndex := 6, attributes := #[] }, { accessFlags := 10, nameIndex := 19, descriptorIndex := 20, attributes := #[] }, { accessFlags := 9, nameIndex := 33, descriptorIndex := 34, attributes := #[] }] 49 2 #[] #[])
  fields := #[]
  methods := #[k1m0, k1m1, k1m2]
  instanceTypes := #[]
  staticTypes := #[]
  resolved := Array.replicate 41 none
  statics := none }

def pool2 : Array CpInfo := pool [(1, .methodref 2 3), (0, .class_ 4), (0, .nameAndType 5 6), (0, u "java/lang/Object"), (0, u "<init>"), (0, u "()V"), (0, .class_ 8), (0, u "java/lang/Record")] 13

def k2c0 : Code := { maxStack := 1, maxLocals := 1, code := jdk_30_method_1_code, exceptionTable := #[], attributes := #[] }
def k2m0 : Method := { name := "<init>", desc := "()V", sig := { parameters := [], returnType := none }, accessFlags := 4, code := some k2c0 }
/-- java/lang/Record -/
def k2 : Class := { plain "java/lang/Record" (some 0) with
  accessFlags := 1057
  interfaces := #[]
  cf := some (fileOf pool2 7 #[] #[{ accessFlags := 4, nameIndex := 5, descriptorIndex := 6, attributes := #[] }] 1057 2 #[] #[])
  fields := #[]
  methods := #[k2m0]
  instanceTypes := #[]
  staticTypes := #[]
  resolved := Array.replicate 22 none
  statics := none }

def pool3 : Array CpInfo := pool [(1, .methodref 2 3), (0, .class_ 4), (0, .nameAndType 5 6), (0, u "java/lang/Record"), (0, u "<init>"), (0, u "()V"), (0, .fieldref 8 9), (0, .class_ 10), (0, .nameAndType 11 12), (0, u "com/example/colophon/colophon/Pairing$Part"), (0, u "role"), (0, u "Ljava/lang/String;"), (0, .fieldref 8 14), (0, .nameAndType 15 12), (0, u "text"), (12, u "(Ljava/lang/String;Ljava/lang/String;)V"), (3, u "isName"), (0, u "()Z"), (7, .class_ 42), (0, u "com/example/colophon/colophon/Pairing")] 20

def k3c0 : Code := { maxStack := 2, maxLocals := 3, code := prog_33_method_1_code, exceptionTable := #[], attributes := #[] }
def k3m0 : Method := { name := "<init>", desc := "(Ljava/lang/String;Ljava/lang/String;)V", sig := { parameters := [(.object "java/lang/String"), (.object "java/lang/String")], returnType := none }, accessFlags := 0, code := some k3c0 }
def k3c1 : Code := { maxStack := 1, maxLocals := 1, code := prog_33_method_2_code, exceptionTable := #[], attributes := #[] }
def k3m1 : Method := { name := "isName", desc := "()Z", sig := { parameters := [], returnType := some .boolean }, accessFlags := 0, code := some k3c1 }
/-- com/example/colophon/colophon/Pairing$Part -/
def k3 : Class := { plain "com/example/colophon/colophon/Pairing$Part" (some 2) with
  accessFlags := 48
  interfaces := #[]
  cf := some (fileOf pool3 8 #[.nestHost 41] #[{ accessFlags := 0, nameIndex := 5, descriptorIndex := 28, attributes := #[] }, { accessFlags := 0, nameIndex := 32, descriptorIndex := 33, attributes := #[] }] 48 2 #[] #[{ accessFlags := 18, nameIndex := 11, descriptorIndex := 12, attributes := #[] }, { accessFlags := 18, nameIndex := 15, descriptorIndex := 12, attributes := #[] }])
  fields := #[{ name := "role", type := (.object "java/lang/String"), accessFlags := 18, slot := 0, constantValue := 0 }, { name := "text", type := (.object "java/lang/String"), accessFlags := 18, slot := 1, constantValue := 0 }]
  methods := #[k3m0, k3m1]
  instanceTypes := #[(.object "java/lang/String"), (.object "java/lang/String")]
  staticTypes := #[]
  resolved := Array.replicate 63 none
  statics := none }

def pool4 : Array CpInfo := pool [(1, .class_ 2), (0, u "java/io/Serializable"), (0, .class_ 4), (0, u "java/lang/Object")] 2

/-- java/io/Serializable -/
def k4 : Class := { plain "java/io/Serializable" (some 0) with
  accessFlags := 1537
  interfaces := #[]
  cf := some (fileOf pool4 1 #[] #[] 1537 3 #[] #[])
  fields := #[]
  methods := #[]
  instanceTypes := #[]
  staticTypes := #[]
  resolved := Array.replicate 7 none
  statics := none }

def pool5 : Array CpInfo := pool [(1, .class_ 2), (0, u "java/lang/Comparable"), (0, .class_ 4), (0, u "java/lang/Object")] 7

/-- java/lang/Comparable -/
def k5 : Class := { plain "java/lang/Comparable" (some 0) with
  accessFlags := 1537
  interfaces := #[]
  cf := some (fileOf pool5 1 #[] #[] 1537 3 #[] #[])
  fields := #[]
  methods := #[]
  instanceTypes := #[]
  staticTypes := #[]
  resolved := Array.replicate 12 none
  statics := none }

def pool6 : Array CpInfo := pool [(2, .class_ 4), (1, u "java/lang/CharSequence"), (42, .class_ 48), (0, u "java/lang/CharSequence$1CodePointIterator"), (10, .class_ 60), (0, u "java/lang/CharSequence$1CharIterator"), (5, .class_ 67), (0, u "java/lang/Object")] 63

/-- java/lang/CharSequence -/
def k6 : Class := { plain "java/lang/CharSequence" (some 0) with
  accessFlags := 1537
  interfaces := #[]
  cf := some (fileOf pool6 2 #[.nestMembers #[47, 59]] #[] 1537 66 #[] #[])
  fields := #[]
  methods := #[]
  instanceTypes := #[]
  staticTypes := #[]
  resolved := Array.replicate 131 none
  statics := none }

def pool7 : Array CpInfo := pool [(1, .class_ 2), (0, u "java/lang/constant/Constable"), (0, .class_ 4), (0, u "java/lang/Object")] 6

/-- java/lang/constant/Constable -/
def k7 : Class := { plain "java/lang/constant/Constable" (some 0) with
  accessFlags := 1537
  interfaces := #[]
  cf := some (fileOf pool7 1 #[] #[] 1537 3 #[] #[])
  fields := #[]
  methods := #[]
  instanceTypes := #[]
  staticTypes := #[]
  resolved := Array.replicate 11 none
  statics := none }

def pool8 : Array CpInfo := pool [(1, .class_ 2), (0, u "java/lang/constant/ConstantDesc"), (0, .class_ 4), (0, u "java/lang/Object")] 32

/-- java/lang/constant/ConstantDesc -/
def k8 : Class := { plain "java/lang/constant/ConstantDesc" (some 0) with
  accessFlags := 1537
  interfaces := #[]
  cf := some (fileOf pool8 1 #[] #[] 1537 3 #[] #[])
  fields := #[]
  methods := #[]
  instanceTypes := #[]
  staticTypes := #[]
  resolved := Array.replicate 37 none
  statics := none }

def pool9 : Array CpInfo := pool [(1, .methodref 2 3), (0, .class_ 4), (0, .nameAndType 5 6), (0, u "java/lang/Object"), (0, u "<init>"), (0, u "()V"), (2, .fieldref 10 11), (0, .class_ 12), (0, .nameAndType 13 14), (0, u "java/lang/String"), (0, u "value"), (0, u "[B"), (0, .fieldref 10 16), (0, .nameAndType 17 18), (0, u "coder"), (0, u "B"), (2, u "hash"), (0, u "I"), (2, u "hashIsZero"), (0, u "Z"), (0, .methodref 10 28), (0, .nameAndType 5 29), (0, u "([CIILjava/lang/Void;)V"), (8, .fieldref 10 39), (0, .nameAndType 40 26), (0, u "COMPACT_STRINGS"), (1, .class_ 44), (1, u "java/lang/StringUTF16"), (0, u "compress"), (1, .methodref 42 48), (0, .nameAndType 49 50), (0, u "coderFromArrayLen"), (0, u "([BI)B"), (126, .methodref 42 178), (0, .nameAndType 45 179), (0, u "([CII)[B"), (395, .class_ 576), (0, u "java/lang/CharSequence"), (22, u "CASE_INSENSITIVE_ORDER"), (0, u "Ljava/util/Comparator;"), (409, u "([C)V"), (90, u "serialPersistentFields"), (0, u "[Ljava/io/ObjectStreamField;"), (0, .class_ 1104), (0, u "java/lang/String$CaseInsensitiveComparator"), (1, .class_ 1107), (0, u "java/io/Serializable"), (0, .class_ 1109), (0, u "java/lang/Comparable"), (0, .class_ 1111), (0, u "java/lang/constant/Constable"), (0, .class_ 1113), (0, u "java/lang/constant/ConstantDesc"), (2, u "serialVersionUID"), (0, u "J"), (3, u "REPL"), (0, u "C"), (2, u "LATIN1"), (1, u "UTF16")] 323

def k9m0 : Method := { name := "<init>", desc := "()V", sig := { parameters := [], returnType := none }, accessFlags := 1, code := none }
def k9c1 : Code := { maxStack := 5, maxLocals := 2, code := jdk_42_method_3_code, exceptionTable := #[], attributes := #[] }
def k9m1 : Method := { name := "<init>", desc := "([C)V", sig := { parameters := [(.array .char)], returnType := none }, accessFlags := 1, code := some k9c1 }
def k9c2 : Code := { maxStack := 4, maxLocals := 6, code := jdk_42_method_149_code, exceptionTable := #[], attributes := #[] }
def k9m2 : Method := { name := "<init>", desc := "([CIILjava/lang/Void;)V", sig := { parameters := [(.array .char), .int, .int, (.object "java/lang/Void")], returnType := none }, accessFlags := 2, code := some k9c2 }
/-- java/lang/String -/
def k9 : Class := { plain "java/lang/String" (some 0) with
  accessFlags := 49
  interfaces := #[4, 5, 6, 7, 8]
  cf := some (fileOf pool9 10 #[.nestMembers #[1103]] #[{ accessFlags := 1, nameIndex := 5, descriptorIndex := 6, attributes := #[] }, { accessFlags := 1, nameIndex := 5, descriptorIndex := 1010, attributes := #[] }, { accessFlags := 2, nameIndex := 5, descriptorIndex := 29, attributes := #[] }] 49 2 #[1106, 1108, 575, 1110, 1112] #[{ accessFlags := 18, nameIndex := 13, descriptorIndex := 14, attributes := #[] }, { accessFlags := 18, nameIndex := 17, descriptorIndex := 18, attributes := #[] }, { accessFlags := 2, nameIndex := 21, descriptorIndex := 22, attributes := #[] }, { accessFlags := 2, nameIndex := 25, descriptorIndex := 26, attributes := #[] }, { accessFlags := 26, nameIndex := 1116, descriptorIndex := 1117, attributes := #[] }, { accessFlags := 24, nameIndex := 40, descriptorIndex := 26, attributes := #[] }, { accessFlags := 26, nameIndex := 1101, descriptorIndex := 1102, attributes := #[] }, { accessFlags := 26, nameIndex := 1121, descriptorIndex := 1122, attributes := #[] }, { accessFlags := 25, nameIndex := 599, descriptorIndex := 600, attributes := #[] }, { accessFlags := 24, nameIndex := 1125, descriptorIndex := 18, attributes := #[] }, { accessFlags := 24, nameIndex := 1127, descriptorIndex := 18, attributes := #[] }])
  fields := #[{ name := "value", type := (.array .byte), accessFlags := 18, slot := 0, constantValue := 0 }, { name := "coder", type := .byte, accessFlags := 18, slot := 1, constantValue := 0 }, { name := "hash", type := .int, accessFlags := 2, slot := 2, constantValue := 0 }, { name := "hashIsZero", type := .boolean, accessFlags := 2, slot := 3, constantValue := 0 }, { name := "serialVersionUID", type := .long, accessFlags := 26, slot := 0, constantValue := 0 }, { name := "COMPACT_STRINGS", type := .boolean, accessFlags := 24, slot := 1, constantValue := 0 }, { name := "serialPersistentFields", type := (.array (.object "java/io/ObjectStreamField")), accessFlags := 26, slot := 2, constantValue := 0 }, { name := "REPL", type := .char, accessFlags := 26, slot := 3, constantValue := 0 }, { name := "CASE_INSENSITIVE_ORDER", type := (.object "java/util/Comparator"), accessFlags := 25, slot := 4, constantValue := 0 }, { name := "LATIN1", type := .byte, accessFlags := 24, slot := 5, constantValue := 0 }, { name := "UTF16", type := .byte, accessFlags := 24, slot := 6, constantValue := 0 }]
  methods := #[k9m0, k9m1, k9m2]
  instanceTypes := #[(.array .byte), .byte, .int, .boolean]
  staticTypes := #[.long, .boolean, (.array (.object "java/io/ObjectStreamField")), .char, (.object "java/util/Comparator"), .byte, .byte]
  resolved := Array.replicate 1451 none
  statics := some 0 }

def pool10 : Array CpInfo := pool [(6, .class_ 8), (1, u "java/lang/Object"), (0, u "<init>"), (0, u "()V"), (0, .methodref 12 13), (0, .class_ 14), (0, .nameAndType 15 16), (0, u "java/lang/StringUTF16"), (0, u "newBytesLength"), (0, u "(I)I"), (3, .integer 1073741823), (23, .fieldref 12 45), (0, .nameAndType 46 47), (0, u "$assertionsDisabled"), (0, u "Z"), (11, .fieldref 12 60), (0, .nameAndType 61 62), (0, u "HI_BYTE_SHIFT"), (0, u "I"), (0, .fieldref 12 64), (0, .nameAndType 65 62), (0, u "LO_BYTE_SHIFT"), (5, .methodref 12 72), (0, .nameAndType 73 74), (0, u "getChar"), (0, u "([BI)C"), (32, .methodref 12 108), (0, .nameAndType 109 110), (0, u "newBytesFor"), (0, u "(I)[B"), (0, .methodref 12 112), (0, .nameAndType 113 114), (0, u "putChar"), (0, u "([BII)V"), (0, .methodref 12 116), (0, .nameAndType 117 118), (0, u "compress"), (0, u "([CI[BII)I"), (0, .methodref 12 120), (0, .nameAndType 121 122), (0, u "toBytes"), (0, u "([CII)[B"), (138, u "coderFromArrayLen"), (0, u "([BI)B"), (106, .class_ 371), (1, u "java/lang/StringUTF16$LinesSpliterator"), (58, u "MAX_LENGTH"), (196, .class_ 628), (0, u "java/lang/StringUTF16$CodePointsSpliterator"), (0, .class_ 630), (0, u "java/lang/StringUTF16$CharsSpliterator")] 4

def k10m0 : Method := { name := "<init>", desc := "()V", sig := { parameters := [], returnType := none }, accessFlags := 0, code := none }
def k10c1 : Code := { maxStack := 1, maxLocals := 1, code := jdk_52_method_2_code, exceptionTable := #[], attributes := #[] }
def k10m1 : Method := { name := "newBytesFor", desc := "(I)[B", sig := { parameters := [.int], returnType := some (.array .byte) }, accessFlags := 9, code := some k10c1 }
def k10c2 : Code := { maxStack := 4, maxLocals := 1, code := jdk_52_method_3_code, exceptionTable := #[], attributes := #[] }
def k10m2 : Method := { name := "newBytesLength", desc := "(I)I", sig := { parameters := [.int], returnType := some .int }, accessFlags := 9, code := some k10c2 }
def k10c3 : Code := { maxStack := 4, maxLocals := 3, code := jdk_52_method_4_code, exceptionTable := #[], attributes := #[] }
def k10m3 : Method := { name := "putChar", desc := "([BII)V", sig := { parameters := [(.array .byte), .int, .int], returnType := none }, accessFlags := 8, code := some k10c3 }
def k10c4 : Code := { maxStack := 3, maxLocals := 2, code := jdk_52_method_5_code, exceptionTable := #[], attributes := #[] }
def k10m4 : Method := { name := "getChar", desc := "([BI)C", sig := { parameters := [(.array .byte), .int], returnType := some .char }, accessFlags := 8, code := some k10c4 }
def k10c5 : Code := { maxStack := 4, maxLocals := 5, code := jdk_52_method_14_code, exceptionTable := #[], attributes := #[] }
def k10m5 : Method := { name := "toBytes", desc := "([CII)[B", sig := { parameters := [(.array .char), .int, .int], returnType := some (.array .byte) }, accessFlags := 9, code := some k10c5 }
def k10c6 : Code := { maxStack := 2, maxLocals := 2, code := jdk_52_method_15_code, exceptionTable := #[], attributes := #[] }
def k10m6 : Method := { name := "coderFromArrayLen", desc := "([BI)B", sig := { parameters := [(.array .byte), .int], returnType := some .byte }, accessFlags := 8, code := some k10c6 }
def k10c7 : Code := { maxStack := 5, maxLocals := 6, code := jdk_52_method_16_code, exceptionTable := #[], attributes := #[] }
def k10m7 : Method := { name := "compress", desc := "([CII)[B", sig := { parameters := [(.array .char), .int, .int], returnType := some (.array .byte) }, accessFlags := 9, code := some k10c7 }
def k10c8 : Code := { maxStack := 3, maxLocals := 7, code := jdk_52_method_21_code, exceptionTable := #[], attributes := #[] }
def k10m8 : Method := { name := "compress", desc := "([CI[BII)I", sig := { parameters := [(.array .char), .int, (.array .byte), .int, .int], returnType := some .int }, accessFlags := 9, code := some k10c8 }
/-- java/lang/StringUTF16 -/
def k10 : Class := { plain "java/lang/StringUTF16" (some 0) with
  accessFlags := 48
  interfaces := #[]
  cf := some (fileOf pool10 12 #[.nestMembers #[627, 629, 369]] #[{ accessFlags := 0, nameIndex := 9, descriptorIndex := 10, attributes := #[] }, { accessFlags := 9, nameIndex := 109, descriptorIndex := 110, attributes := #[] }, { accessFlags := 9, nameIndex := 15, descriptorIndex := 16, attributes := #[] }, { accessFlags := 8, nameIndex := 113, descriptorIndex := 114, attributes := #[] }, { accessFlags := 8, nameIndex := 73, descriptorIndex := 74, attributes := #[] }, { accessFlags := 9, nameIndex := 121, descriptorIndex := 122, attributes := #[] }, { accessFlags := 8, nameIndex := 261, descriptorIndex := 262, attributes := #[] }, { accessFlags := 9, nameIndex := 117, descriptorIndex := 122, attributes := #[] }, { accessFlags := 9, nameIndex := 117, descriptorIndex := 118, attributes := #[] }] 48 6 #[] #[{ accessFlags := 26, nameIndex := 61, descriptorIndex := 62, attributes := #[] }, { accessFlags := 26, nameIndex := 65, descriptorIndex := 62, attributes := #[] }, { accessFlags := 24, nameIndex := 430, descriptorIndex := 62, attributes := #[] }, { accessFlags := 4120, nameIndex := 46, descriptorIndex := 47, attributes := #[] }])
  fields := #[{ name := "HI_BYTE_SHIFT", type := .int, accessFlags := 26, slot := 0, constantValue := 0 }, { name := "LO_BYTE_SHIFT", type := .int, accessFlags := 26, slot := 1, constantValue := 0 }, { name := "MAX_LENGTH", type := .int, accessFlags := 24, slot := 2, constantValue := 0 }, { name := "$assertionsDisabled", type := .boolean, accessFlags := 4120, slot := 3, constantValue := 0 }]
  methods := #[k10m0, k10m1, k10m2, k10m3, k10m4, k10m5, k10m6, k10m7, k10m8]
  instanceTypes := #[]
  staticTypes := #[.int, .int, .int, .boolean]
  resolved := Array.replicate 635 none
  statics := some 1 }

def pool11 : Array CpInfo := pool [(4, .class_ 6), (1, u "java/lang/Object"), (0, u "<init>"), (0, u "()V"), (5, .class_ 16), (1, u "java/lang/StringLatin1"), (104, u "$assertionsDisabled"), (0, u "Z"), (98, .class_ 223), (1, u "java/lang/StringLatin1$LinesSpliterator"), (166, .class_ 391), (0, u "java/lang/StringLatin1$CharsSpliterator")] 3

def k11m0 : Method := { name := "<init>", desc := "()V", sig := { parameters := [], returnType := none }, accessFlags := 0, code := none }
/-- java/lang/StringLatin1 -/
def k11 : Class := { plain "java/lang/StringLatin1" (some 0) with
  accessFlags := 48
  interfaces := #[]
  cf := some (fileOf pool11 14 #[.nestMembers #[390, 221]] #[{ accessFlags := 0, nameIndex := 7, descriptorIndex := 8, attributes := #[] }] 48 4 #[] #[{ accessFlags := 4120, nameIndex := 121, descriptorIndex := 122, attributes := #[] }])
  fields := #[{ name := "$assertionsDisabled", type := .boolean, accessFlags := 4120, slot := 0, constantValue := 0 }]
  methods := #[k11m0]
  instanceTypes := #[]
  staticTypes := #[.boolean]
  resolved := Array.replicate 395 none
  statics := none }

def pool12 : Array CpInfo := pool [(2, .class_ 4), (1, u "java/lang/Object"), (0, u "<init>"), (0, u "()V"), (17, .class_ 26), (1, u "jdk/internal/util/Preconditions"), (28, .class_ 56), (0, u "jdk/internal/util/Preconditions$4"), (57, .class_ 115), (0, u "jdk/internal/util/Preconditions$1"), (7, u "SIOOBE_FORMATTER"), (0, u "Ljava/util/function/BiFunction;"), (0, .class_ 126), (0, u "jdk/internal/util/Preconditions$2"), (3, u "AIOOBE_FORMATTER"), (0, .class_ 132), (0, u "jdk/internal/util/Preconditions$3"), (3, u "IOOBE_FORMATTER")] 57

def k12m0 : Method := { name := "<init>", desc := "()V", sig := { parameters := [], returnType := none }, accessFlags := 1, code := none }
/-- jdk/internal/util/Preconditions -/
def k12 : Class := { plain "jdk/internal/util/Preconditions" (some 0) with
  accessFlags := 33
  interfaces := #[]
  cf := some (fileOf pool12 24 #[.nestMembers #[55, 131, 125, 114]] #[{ accessFlags := 1, nameIndex := 5, descriptorIndex := 6, attributes := #[] }] 33 2 #[] #[{ accessFlags := 25, nameIndex := 123, descriptorIndex := 124, attributes := #[] }, { accessFlags := 25, nameIndex := 130, descriptorIndex := 124, attributes := #[] }, { accessFlags := 25, nameIndex := 136, descriptorIndex := 124, attributes := #[] }])
  fields := #[{ name := "SIOOBE_FORMATTER", type := (.object "java/util/function/BiFunction"), accessFlags := 25, slot := 0, constantValue := 0 }, { name := "AIOOBE_FORMATTER", type := (.object "java/util/function/BiFunction"), accessFlags := 25, slot := 1, constantValue := 0 }, { name := "IOOBE_FORMATTER", type := (.object "java/util/function/BiFunction"), accessFlags := 25, slot := 2, constantValue := 0 }]
  methods := #[k12m0]
  instanceTypes := #[]
  staticTypes := #[(.object "java/util/function/BiFunction"), (.object "java/util/function/BiFunction"), (.object "java/util/function/BiFunction")]
  resolved := Array.replicate 194 none
  statics := some 2 }

def pool13 : Array CpInfo := pool [(9, u "<init>"), (6, .class_ 18), (1, u "java/lang/Object"), (0, u "()V"), (1, .class_ 23), (1, u "jdk/internal/util/ArraysSupport"), (0, u "LOG2_ARRAY_LONG_INDEX_SCALE"), (0, u "I"), (2, u "U"), (0, u "Ljdk/internal/misc/Unsafe;"), (8, u "BIG_ENDIAN"), (0, u "Z"), (8, u "LOG2_BYTE_BIT_SIZE"), (4, u "LOG2_ARRAY_INT_INDEX_SCALE"), (54, u "JLA"), (0, u "Ljdk/internal/access/JavaLangAccess;"), (11, u "LOG2_ARRAY_BOOLEAN_INDEX_SCALE"), (9, u "LOG2_ARRAY_BYTE_INDEX_SCALE"), (5, u "LOG2_ARRAY_CHAR_INDEX_SCALE"), (5, u "LOG2_ARRAY_SHORT_INDEX_SCALE"), (18, u "LOG2_ARRAY_FLOAT_INDEX_SCALE"), (24, u "LOG2_ARRAY_DOUBLE_INDEX_SCALE"), (89, u "T_BOOLEAN"), (2, u "T_CHAR"), (1, u "T_FLOAT"), (1, u "T_DOUBLE"), (1, u "T_BYTE"), (1, u "T_SHORT"), (1, u "T_INT"), (1, u "T_LONG"), (1, u "SOFT_MAX_ARRAY_LENGTH")] 83

def k13m0 : Method := { name := "<init>", desc := "()V", sig := { parameters := [], returnType := none }, accessFlags := 2, code := none }
/-- jdk/internal/util/ArraysSupport -/
def k13 : Class := { plain "jdk/internal/util/ArraysSupport" (some 0) with
  accessFlags := 33
  interfaces := #[]
  cf := some (fileOf pool13 21 #[] #[{ accessFlags := 2, nameIndex := 9, descriptorIndex := 19, attributes := #[] }] 33 16 #[] #[{ accessFlags := 24, nameIndex := 28, descriptorIndex := 29, attributes := #[] }, { accessFlags := 26, nameIndex := 38, descriptorIndex := 39, attributes := #[] }, { accessFlags := 25, nameIndex := 121, descriptorIndex := 25, attributes := #[] }, { accessFlags := 25, nameIndex := 131, descriptorIndex := 25, attributes := #[] }, { accessFlags := 25, nameIndex := 137, descriptorIndex := 25, attributes := #[] }, { accessFlags := 25, nameIndex := 143, descriptorIndex := 25, attributes := #[] }, { accessFlags := 25, nameIndex := 53, descriptorIndex := 25, attributes := #[] }, { accessFlags := 25, nameIndex := 24, descriptorIndex := 25, attributes := #[] }, { accessFlags := 25, nameIndex := 162, descriptorIndex := 25, attributes := #[] }, { accessFlags := 25, nameIndex := 187, descriptorIndex := 25, attributes := #[] }, { accessFlags := 26, nameIndex := 48, descriptorIndex := 25, attributes := #[] }, { accessFlags := 25, nameIndex := 277, descriptorIndex := 25, attributes := #[] }, { accessFlags := 25, nameIndex := 280, descriptorIndex := 25, attributes := #[] }, { accessFlags := 25, nameIndex := 282, descriptorIndex := 25, attributes := #[] }, { accessFlags := 25, nameIndex := 284, descriptorIndex := 25, attributes := #[] }, { accessFlags := 25, nameIndex := 286, descriptorIndex := 25, attributes := #[] }, { accessFlags := 25, nameIndex := 288, descriptorIndex := 25, attributes := #[] }, { accessFlags := 25, nameIndex := 290, descriptorIndex := 25, attributes := #[] }, { accessFlags := 25, nameIndex := 292, descriptorIndex := 25, attributes := #[] }, { accessFlags := 26, nameIndex := 108, descriptorIndex := 109, attributes := #[] }, { accessFlags := 25, nameIndex := 294, descriptorIndex := 25, attributes := #[] }])
  fields := #[{ name := "U", type := (.object "jdk/internal/misc/Unsafe"), accessFlags := 24, slot := 0, constantValue := 0 }, { name := "BIG_ENDIAN", type := .boolean, accessFlags := 26, slot := 1, constantValue := 0 }, { name := "LOG2_ARRAY_BOOLEAN_INDEX_SCALE", type := .int, accessFlags := 25, slot := 2, constantValue := 0 }, { name := "LOG2_ARRAY_BYTE_INDEX_SCALE", type := .int, accessFlags := 25, slot := 3, constantValue := 0 }, { name := "LOG2_ARRAY_CHAR_INDEX_SCALE", type := .int, accessFlags := 25, slot := 4, constantValue := 0 }, { name := "LOG2_ARRAY_SHORT_INDEX_SCALE", type := .int, accessFlags := 25, slot := 5, constantValue := 0 }, { name := "LOG2_ARRAY_INT_INDEX_SCALE", type := .int, accessFlags := 25, slot := 6, constantValue := 0 }, { name := "LOG2_ARRAY_LONG_INDEX_SCALE", type := .int, accessFlags := 25, slot := 7, constantValue := 0 }, { name := "LOG2_ARRAY_FLOAT_INDEX_SCALE", type := .int, accessFlags := 25, slot := 8, constantValue := 0 }, { name := "LOG2_ARRAY_DOUBLE_INDEX_SCALE", type := .int, accessFlags := 25, slot := 9, constantValue := 0 }, { name := "LOG2_BYTE_BIT_SIZE", type := .int, accessFlags := 26, slot := 10, constantValue := 0 }, { name := "T_BOOLEAN", type := .int, accessFlags := 25, slot := 11, constantValue := 0 }, { name := "T_CHAR", type := .int, accessFlags := 25, slot := 12, constantValue := 0 }, { name := "T_FLOAT", type := .int, accessFlags := 25, slot := 13, constantValue := 0 }, { name := "T_DOUBLE", type := .int, accessFlags := 25, slot := 14, constantValue := 0 }, { name := "T_BYTE", type := .int, accessFlags := 25, slot := 15, constantValue := 0 }, { name := "T_SHORT", type := .int, accessFlags := 25, slot := 16, constantValue := 0 }, { name := "T_INT", type := .int, accessFlags := 25, slot := 17, constantValue := 0 }, { name := "T_LONG", type := .int, accessFlags := 25, slot := 18, constantValue := 0 }, { name := "JLA", type := (.object "jdk/internal/access/JavaLangAccess"), accessFlags := 26, slot := 19, constantValue := 0 }, { name := "SOFT_MAX_ARRAY_LENGTH", type := .int, accessFlags := 25, slot := 20, constantValue := 0 }]
  methods := #[k13m0]
  instanceTypes := #[]
  staticTypes := #[(.object "jdk/internal/misc/Unsafe"), .boolean, .int, .int, .int, .int, .int, .int, .int, .int, .int, .int, .int, .int, .int, .int, .int, .int, .int, (.object "jdk/internal/access/JavaLangAccess"), .int]
  resolved := Array.replicate 378 none
  statics := none }

def pool14 : Array CpInfo := pool [(1, u "java/lang/Cloneable"), (0, .class_ 1), (0, u "java/lang/Object"), (0, .class_ 3)] 3

/-- java/lang/Cloneable -/
def k14 : Class := { plain "java/lang/Cloneable" (some 0) with
  accessFlags := 1537
  interfaces := #[]
  cf := some (fileOf pool14 2 #[] #[] 1537 4 #[] #[])
  fields := #[]
  methods := #[]
  instanceTypes := #[]
  staticTypes := #[]
  resolved := Array.replicate 8 none
  statics := none }

/-- the primitive byte -/
def k15 : Class := { plain "byte" none with kind := .primitive 'B', accessFlags := 0x411 }
/-- [B -/
def k16 : Class := { plain "[B" (some 0) with kind := .array 15 .byte, interfaces := #[14, 4], accessFlags := 1041 }

/-- the primitive char -/
def k17 : Class := { plain "char" none with kind := .primitive 'C', accessFlags := 0x411 }
/-- [C -/
def k18 : Class := { plain "[C" (some 0) with kind := .array 17 .char, interfaces := #[14, 4], accessFlags := 1041 }

/-- the primitive int -/
def k19 : Class := { plain "int" none with kind := .primitive 'I', accessFlags := 0x411 }
/-- [I -/
def k20 : Class := { plain "[I" (some 0) with kind := .array 19 .int, interfaces := #[14, 4], accessFlags := 1041 }

def heap : Heap := #[{ cls := 9, slots := #[.long 0, .int 1, .null, .int 0, .null, .int 0, .int 0], vm := .statics 9 },
  { cls := 10, slots := #[.int 0, .int 8, .int 0, .int 1], vm := .statics 10 },
  { cls := 12, slots := #[.null, .null, .null], vm := .statics 12 }]
def classes : Array Class := #[k0, k1, k2, k3, k4, k5, k6, k7, k8, k9, k10, k11, k12, k13, k14, k15, k16, k17, k18, k19, k20]
def interned : List (Array UInt16 × Addr) := []
def slotsUsed : Nat := 14
def theMethod : MethodId := ⟨1, 2⟩
def args0 : Array Value := #[.int 5, .int 6, .int 7, .int 8, .int 9]
def aboutOver (below : List Frame) : State where
  vm := { classes := classes, interned := interned.toArray }
  heap := heap
  slotsUsed := slotsUsed
  threads := #[{ frames := .invoking theMethod args0 :: below }]
def below0 : List Frame := [.native { method := ⟨0, 0⟩, args := #[] }]
def about1 : State := aboutOver below0
def p0 : Program := .bare "" "" ""
def e0 : Env := launch0.env 0 0 0
theorem w_frames : about1.frames = Frame.invoking theMethod args0 :: below0 := rfl
set_option maxRecDepth 65536 in
theorem w_args : argsFit about1.vm theMethod args0 = true := by decide +kernel
set_option maxRecDepth 65536 in
theorem w_heap : heapFits about1 = true := by decide +kernel
set_option maxRecDepth 65536 in
theorem w_runnable : about1.curStatus? = some .runnable := by decide +kernel
set_option maxRecDepth 65536 in
theorem w_alone : about1.alone = true := by decide +kernel
set_option maxRecDepth 65536 in
theorem w_named : about1.methodNamed? x = some theMethod := by decide +kernel
set_option maxRecDepth 65536 in
theorem w_hears : about1.hears theMethod below0 = true := by decide +kernel
set_option maxRecDepth 65536 in
theorem w_ripe : about1.ripe theMethod args0 below0 = true := by decide +kernel
theorem w_running : about1.status = .running := rfl
set_option maxRecDepth 65536 in
theorem w_room : about1.hasRoom e0.platform room_1 = true :=
  launch0.hasRoom_least _ room_1 (by decide +kernel) (by decide +kernel) (by decide +kernel) (by decide +kernel) (by decide +kernel) (by decide +kernel)
theorem allAtoms_all (ts : List Jvm.Cond) (a : Array Jvm.Value) (st : Jvm.State) : (allAtoms ts).before a st = ts.all (fun c => c.before a st) := by
  induction ts with
  | nil => rfl
  | cons c t ih =>
    show (Jvm.Cond.and c (allAtoms t)).before a st = _
    rw [Jvm.Cond.before_and, ih, List.all_cons]
def words1 : List Jvm.Cond := Jvm.Cond.code x code maxLocals ret :: tables_1
/-- a 'code' word, met by the world's own term for the bytes: nothing is compared byte by byte -/
theorem code_word {y : MethodName} {bytes : ByteArray} {mx : Nat} {rt : Option FieldType} {a : Array Value} {s : State} {m : MethodId} {meth : Method} {c : Code} (h1 : s.methodNamed? y = some m) (h2 : s.vm.method? m = some meth) (h3 : meth.code = some c) (h4 : c.code = bytes)
    (h5 : (c.maxLocals == mx && c.exceptionTable.isEmpty && decide (c.maxStack ≤ mostOperands) && decide (meth.sig.returnType = rt) && !meth.locks && decide (parseMethodDescriptor y.desc = some meth.sig)) = true) : (Jvm.Cond.code y bytes mx rt).before a s = true := by
  simp only [Bool.and_eq_true, beq_iff_eq, Bool.not_eq_true', decide_eq_true_eq] at h5
  obtain ⟨⟨⟨⟨⟨g1, g2⟩, g3⟩, g4⟩, g5⟩, g6⟩ := h5
  simp [Cond.before, Cond.holds, Cond.value, h1, h2, h3, h4, g1, g2, g3, g4, g5, g6]
def isCode : Jvm.Cond → Bool
  | .code _ _ _ _ => true
  | _ => false
theorem all_split {L : List Jvm.Cond} {P : Jvm.Cond → Bool} (h1 : L.all (fun c => isCode c || P c) = true) (h2 : ∀ c ∈ L.filter isCode, P c = true) : L.all P = true := by
  refine List.all_eq_true.mpr fun c hc => ?_
  have h := List.all_eq_true.mp h1 c hc
  rcases Bool.eq_false_or_eq_true (isCode c) with hi | hi
  · exact h2 c (List.mem_filter.mpr ⟨hc, hi⟩)
  · simpa [hi] using h
set_option maxRecDepth 65536 in
theorem w_c0 : (Jvm.Cond.code x code maxLocals ret).before args0 about1 = true := code_word (m := ⟨1, 2⟩) (meth := k1m2) (c := k1c2) (by decide +kernel) rfl rfl rfl (by decide +kernel)
set_option maxRecDepth 65536 in
theorem w_c1 : (Jvm.Cond.code ({ cls := "com/example/colophon/colophon/PartIsNamePinLaw", name := "draw", desc := "(III)Ljava/lang/String;" } : Jvm.MethodName) method_2_code (4 : Nat) (Option.some (Jvm.ClassFile.FieldType.object "java/lang/String"))).before args0 about1 = true := code_word (m := ⟨1, 1⟩) (meth := k1m1) (c := k1c1) (by decide +kernel) rfl rfl rfl (by decide +kernel)
set_option maxRecDepth 65536 in
theorem w_c2 : (Jvm.Cond.code ({ cls := "com/example/colophon/colophon/Pairing$Part", name := "<init>", desc := "(Ljava/lang/String;Ljava/lang/String;)V" } : Jvm.MethodName) prog_33_method_1_code (3 : Nat) (Option.none : Option Jvm.ClassFile.FieldType)).before args0 about1 = true := code_word (m := ⟨3, 0⟩) (meth := k3m0) (c := k3c0) (by decide +kernel) rfl rfl rfl (by decide +kernel)
set_option maxRecDepth 65536 in
theorem w_c3 : (Jvm.Cond.code ({ cls := "java/lang/Record", name := "<init>", desc := "()V" } : Jvm.MethodName) jdk_30_method_1_code (1 : Nat) (Option.none : Option Jvm.ClassFile.FieldType)).before args0 about1 = true := code_word (m := ⟨2, 0⟩) (meth := k2m0) (c := k2c0) (by decide +kernel) rfl rfl rfl (by decide +kernel)
set_option maxRecDepth 65536 in
theorem w_c4 : (Jvm.Cond.code ({ cls := "java/lang/Object", name := "<init>", desc := "()V" } : Jvm.MethodName) object_method_1_code (1 : Nat) (Option.none : Option Jvm.ClassFile.FieldType)).before args0 about1 = true := code_word (m := ⟨0, 0⟩) (meth := k0m0) (c := k0c0) (by decide +kernel) rfl rfl rfl (by decide +kernel)
set_option maxRecDepth 65536 in
theorem w_c5 : (Jvm.Cond.code ({ cls := "com/example/colophon/colophon/Pairing$Part", name := "isName", desc := "()Z" } : Jvm.MethodName) prog_33_method_2_code (1 : Nat) (Option.some Jvm.ClassFile.FieldType.boolean)).before args0 about1 = true := code_word (m := ⟨3, 1⟩) (meth := k3m1) (c := k3c1) (by decide +kernel) rfl rfl rfl (by decide +kernel)
set_option maxRecDepth 65536 in
theorem w_c6 : (Jvm.Cond.code ({ cls := "java/lang/String", name := "<init>", desc := "([C)V" } : Jvm.MethodName) jdk_42_method_3_code (2 : Nat) (Option.none : Option Jvm.ClassFile.FieldType)).before args0 about1 = true := code_word (m := ⟨9, 1⟩) (meth := k9m1) (c := k9c1) (by decide +kernel) rfl rfl rfl (by decide +kernel)
set_option maxRecDepth 65536 in
theorem w_c7 : (Jvm.Cond.code ({ cls := "java/lang/String", name := "<init>", desc := "([CIILjava/lang/Void;)V" } : Jvm.MethodName) jdk_42_method_149_code (6 : Nat) (Option.none : Option Jvm.ClassFile.FieldType)).before args0 about1 = true := code_word (m := ⟨9, 2⟩) (meth := k9m2) (c := k9c2) (by decide +kernel) rfl rfl rfl (by decide +kernel)
set_option maxRecDepth 65536 in
theorem w_c8 : (Jvm.Cond.code ({ cls := "java/lang/StringUTF16", name := "compress", desc := "([CII)[B" } : Jvm.MethodName) jdk_52_method_16_code (6 : Nat) (Option.some (Jvm.ClassFile.FieldType.array Jvm.ClassFile.FieldType.byte))).before args0 about1 = true := code_word (m := ⟨10, 7⟩) (meth := k10m7) (c := k10c7) (by decide +kernel) rfl rfl rfl (by decide +kernel)
set_option maxRecDepth 65536 in
theorem w_c9 : (Jvm.Cond.code ({ cls := "java/lang/StringUTF16", name := "compress", desc := "([CI[BII)I" } : Jvm.MethodName) jdk_52_method_21_code (7 : Nat) (Option.some Jvm.ClassFile.FieldType.int)).before args0 about1 = true := code_word (m := ⟨10, 8⟩) (meth := k10m8) (c := k10c8) (by decide +kernel) rfl rfl rfl (by decide +kernel)
set_option maxRecDepth 65536 in
theorem w_c10 : (Jvm.Cond.code ({ cls := "java/lang/StringUTF16", name := "coderFromArrayLen", desc := "([BI)B" } : Jvm.MethodName) jdk_52_method_15_code (2 : Nat) (Option.some Jvm.ClassFile.FieldType.byte)).before args0 about1 = true := code_word (m := ⟨10, 6⟩) (meth := k10m6) (c := k10c6) (by decide +kernel) rfl rfl rfl (by decide +kernel)
set_option maxRecDepth 65536 in
theorem w_c11 : (Jvm.Cond.code ({ cls := "java/lang/StringUTF16", name := "toBytes", desc := "([CII)[B" } : Jvm.MethodName) jdk_52_method_14_code (5 : Nat) (Option.some (Jvm.ClassFile.FieldType.array Jvm.ClassFile.FieldType.byte))).before args0 about1 = true := code_word (m := ⟨10, 5⟩) (meth := k10m5) (c := k10c5) (by decide +kernel) rfl rfl rfl (by decide +kernel)
set_option maxRecDepth 65536 in
theorem w_c12 : (Jvm.Cond.code ({ cls := "java/lang/StringUTF16", name := "newBytesFor", desc := "(I)[B" } : Jvm.MethodName) jdk_52_method_2_code (1 : Nat) (Option.some (Jvm.ClassFile.FieldType.array Jvm.ClassFile.FieldType.byte))).before args0 about1 = true := code_word (m := ⟨10, 1⟩) (meth := k10m1) (c := k10c1) (by decide +kernel) rfl rfl rfl (by decide +kernel)
set_option maxRecDepth 65536 in
theorem w_c13 : (Jvm.Cond.code ({ cls := "java/lang/StringUTF16", name := "newBytesLength", desc := "(I)I" } : Jvm.MethodName) jdk_52_method_3_code (1 : Nat) (Option.some Jvm.ClassFile.FieldType.int)).before args0 about1 = true := code_word (m := ⟨10, 2⟩) (meth := k10m2) (c := k10c2) (by decide +kernel) rfl rfl rfl (by decide +kernel)
set_option maxRecDepth 65536 in
theorem w_c14 : (Jvm.Cond.code ({ cls := "java/lang/StringUTF16", name := "putChar", desc := "([BII)V" } : Jvm.MethodName) jdk_52_method_4_code (3 : Nat) (Option.none : Option Jvm.ClassFile.FieldType)).before args0 about1 = true := code_word (m := ⟨10, 3⟩) (meth := k10m3) (c := k10c3) (by decide +kernel) rfl rfl rfl (by decide +kernel)
set_option maxRecDepth 65536 in
theorem w_c15 : (Jvm.Cond.code ({ cls := "java/lang/StringUTF16", name := "getChar", desc := "([BI)C" } : Jvm.MethodName) jdk_52_method_5_code (2 : Nat) (Option.some Jvm.ClassFile.FieldType.char)).before args0 about1 = true := code_word (m := ⟨10, 4⟩) (meth := k10m4) (c := k10c4) (by decide +kernel) rfl rfl rfl (by decide +kernel)
def codes1 : List Jvm.Cond := [Jvm.Cond.code x code maxLocals ret, Jvm.Cond.code ({ cls := "com/example/colophon/colophon/PartIsNamePinLaw", name := "draw", desc := "(III)Ljava/lang/String;" } : Jvm.MethodName) method_2_code (4 : Nat) (Option.some (Jvm.ClassFile.FieldType.object "java/lang/String")), Jvm.Cond.code ({ cls := "com/example/colophon/colophon/Pairing$Part", name := "<init>", desc := "(Ljava/lang/String;Ljava/lang/String;)V" } : Jvm.MethodName) prog_33_method_1_code (3 : Nat) (Option.none : Option Jvm.ClassFile.FieldType), Jvm.Cond.code ({ cls := "java/lang/Record", name := "<init>", desc := "()V" } : Jvm.MethodName) jdk_30_method_1_code (1 : Nat) (Option.none : Option Jvm.ClassFile.FieldType), Jvm.Cond.code ({ cls := "java/lang/Object", name := "<init>", desc := "()V" } : Jvm.MethodName) object_method_1_code (1 : Nat) (Option.none : Option Jvm.ClassFile.FieldType), Jvm.Cond.code ({ cls := "com/example/colophon/colophon/Pairing$Part", name := "isName", desc := "()Z" } : Jvm.MethodName) prog_33_method_2_code (1 : Nat) (Option.some Jvm.ClassFile.FieldType.boolean), Jvm.Cond.code ({ cls := "java/lang/String", name := "<init>", desc := "([C)V" } : Jvm.MethodName) jdk_42_method_3_code (2 : Nat) (Option.none : Option Jvm.ClassFile.FieldType), Jvm.Cond.code ({ cls := "java/lang/String", name := "<init>", desc := "([CIILjava/lang/Void;)V" } : Jvm.MethodName) jdk_42_method_149_code (6 : Nat) (Option.none : Option Jvm.ClassFile.FieldType), Jvm.Cond.code ({ cls := "java/lang/StringUTF16", name := "compress", desc := "([CII)[B" } : Jvm.MethodName) jdk_52_method_16_code (6 : Nat) (Option.some (Jvm.ClassFile.FieldType.array Jvm.ClassFile.FieldType.byte)), Jvm.Cond.code ({ cls := "java/lang/StringUTF16", name := "compress", desc := "([CI[BII)I" } : Jvm.MethodName) jdk_52_method_21_code (7 : Nat) (Option.some Jvm.ClassFile.FieldType.int), Jvm.Cond.code ({ cls := "java/lang/StringUTF16", name := "coderFromArrayLen", desc := "([BI)B" } : Jvm.MethodName) jdk_52_method_15_code (2 : Nat) (Option.some Jvm.ClassFile.FieldType.byte), Jvm.Cond.code ({ cls := "java/lang/StringUTF16", name := "toBytes", desc := "([CII)[B" } : Jvm.MethodName) jdk_52_method_14_code (5 : Nat) (Option.some (Jvm.ClassFile.FieldType.array Jvm.ClassFile.FieldType.byte)), Jvm.Cond.code ({ cls := "java/lang/StringUTF16", name := "newBytesFor", desc := "(I)[B" } : Jvm.MethodName) jdk_52_method_2_code (1 : Nat) (Option.some (Jvm.ClassFile.FieldType.array Jvm.ClassFile.FieldType.byte)), Jvm.Cond.code ({ cls := "java/lang/StringUTF16", name := "newBytesLength", desc := "(I)I" } : Jvm.MethodName) jdk_52_method_3_code (1 : Nat) (Option.some Jvm.ClassFile.FieldType.int), Jvm.Cond.code ({ cls := "java/lang/StringUTF16", name := "putChar", desc := "([BII)V" } : Jvm.MethodName) jdk_52_method_4_code (3 : Nat) (Option.none : Option Jvm.ClassFile.FieldType), Jvm.Cond.code ({ cls := "java/lang/StringUTF16", name := "getChar", desc := "([BI)C" } : Jvm.MethodName) jdk_52_method_5_code (2 : Nat) (Option.some Jvm.ClassFile.FieldType.char)]
set_option maxRecDepth 65536 in
theorem codes_eq : words1.filter isCode = codes1 := rfl
theorem w_codes : ∀ c ∈ words1.filter isCode, c.before args0 about1 = true := by
  rw [codes_eq]
  intro c hc
  simp only [codes1, List.mem_cons, List.not_mem_nil, or_false] at hc
  rcases hc with rfl | rfl | rfl | rfl | rfl | rfl | rfl | rfl | rfl | rfl | rfl | rfl | rfl | rfl | rfl | rfl
  · exact w_c0
  · exact w_c1
  · exact w_c2
  · exact w_c3
  · exact w_c4
  · exact w_c5
  · exact w_c6
  · exact w_c7
  · exact w_c8
  · exact w_c9
  · exact w_c10
  · exact w_c11
  · exact w_c12
  · exact w_c13
  · exact w_c14
  · exact w_c15
set_option maxRecDepth 65536 in
theorem w_t1 : (words1.take 24).all (fun c => isCode c || c.before args0 about1) = true := by decide +kernel
set_option maxRecDepth 65536 in
theorem w_t2 : ((words1.drop 24).take 24).all (fun c => isCode c || c.before args0 about1) = true := by decide +kernel
set_option maxRecDepth 65536 in
theorem w_t3 : (((words1.drop 24).drop 24).take 24).all (fun c => isCode c || c.before args0 about1) = true := by decide +kernel
set_option maxRecDepth 65536 in
theorem w_t4 : (((words1.drop 24).drop 24).drop 24).all (fun c => isCode c || c.before args0 about1) = true := by decide +kernel
theorem w_tables : (allAtoms (Jvm.Cond.code x code maxLocals ret :: tables_1)).before args0 about1 = true := by
  rw [allAtoms_all]
  show words1.all (fun c => c.before args0 about1) = true
  refine all_split ?_ w_codes
  rw [← List.take_append_drop 24 words1, List.all_append, w_t1, ← List.take_append_drop 24 (words1.drop 24), List.all_append, w_t2, ← List.take_append_drop 24 ((words1.drop 24).drop 24), List.all_append, w_t3, w_t4]
  rfl
set_option maxRecDepth 65536 in
theorem w_rest : rest_1_c.before args0 about1 = true := by decide +kernel
set_option maxRecDepth 65536 in
theorem w_case : (Jvm.Cond.and given_1 narrow_1).before args0 about1 = true := by decide +kernel
theorem w_applies : (headSpec (Jvm.Cond.code x code maxLocals ret :: tables_1) room_1).applies x e0.platform about1 = true :=
  (Spec.applies_iff w_frames).mpr ⟨w_running, w_runnable, w_alone, w_named, w_hears, w_ripe, w_room, w_tables⟩
theorem atStart : AtStart classFile x code maxLocals ret World_1 tables_1 room_1 Calls_1 rest_1 Pre_1 launch0 p0 e0 about1 theMethod args0 below0 :=
  ⟨lists_1, trivial, launch0.admits_env _ _ _, launch0.least_env, fairChoices_fair.cas, fairChoices_fair.clock, w_frames, w_args, w_heap, w_applies, trivial, w_rest, w_case⟩
end start1
theorem witness_1 : WitnessClaimed_1 := ⟨start1.p0, start1.e0, start1.about1, start1.theMethod, start1.args0, start1.below0, start1.atStart⟩
end Jvm.Pilot.@@N@@
