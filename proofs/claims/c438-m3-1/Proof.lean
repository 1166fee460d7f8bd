import JvmDerived
import JvmDerived.Pilot.@@N@@Statement
import JvmDerived.Pilot.@@N@@Code
set_option linter.unusedVariables false
set_option linter.unusedSimpArgs false
namespace Jvm.RoadKit
open Sem ClassFile Op Lib Jvm.Stand Jvm.Free Jvm.LawKit
section New
variable {p : Program} {l : Launch} {e : Env} {R : Room} {s : State} {m : MethodId} {args : Array Value} {below : List Frame} {meth : Method} {c : Code} {T : State} {locs : List Loc} {cells slots : Nat}
theorem retI (X : Stand p l e R s m args below meth c T locs cells slots) (hx : p.tables.exec = Jvm.exec) {pc : Nat} {Ls : Array Slot} {z : Int32} {rest : List Value} (hret : meth.sig.returnType = some .int) (hd : decode c.code pc = .ok (.ireturn, 1)) {fs : List Frame}
    (hl : ∀ (f : JFrame) (acts : List Action), f.method = m → f.locked = none → f.entered = [] → (doReturn e (T.setTop f) acts (some (.int z))).1 = T.setFrames fs) : Steps p.tables e below (T.setTop (mkF m pc Ls (.int z :: rest))) (T.setFrames fs) := by
  have hm' : T.vm.method? m = some meth := X.method'
  have hn : narrow .int (.int z) = .int z := rfl
  show Steps p.tables e below (T.setTop { method := m, pc := pc, locals := Ls, stack := _ :: rest, locked := none }) _
  jvm_step X.here [X.here.top, hx, hd, hm', hret, hn]
  first | (intro acts; rw [hl _ acts rfl rfl rfl]) | rw [hl _ _ rfl rfl rfl]
  exact Steps.refl _
end New
end Jvm.RoadKit
namespace Jvm.Pilot.@@N@@
namespace Own
open Jvm Jvm.ClassFile Sem Op Lib Jvm.Free Jvm.Stand Jvm.LawKit Jvm.RoadKit Bundle
/-- from this frame on the method comes to an end of which P holds -/
def Run (tb : Tables) (e : Env) (below : List Frame) (P : State → Prop) (T : State) (g : JFrame) : Prop := ∃ t, Steps tb e below (T.setTop g) t ∧ P t
theorem Run.of {tb : Tables} {e : Env} {below : List Frame} {P : State → Prop} {T T' : State} {g g' : JFrame} (st : ∀ target, Steps tb e below (T'.setTop g') target → Steps tb e below (T.setTop g) target) (k : Run tb e below P T' g') : Run tb e below P T g := by
  obtain ⟨t, h, hp⟩ := k; exact ⟨t, st _ h, hp⟩
theorem Run.tr {tb : Tables} {e : Env} {below : List Frame} {P : State → Prop} {T T' : State} {g g' : JFrame} (st : Steps tb e below (T.setTop g) (T'.setTop g')) (k : Run tb e below P T' g') : Run tb e below P T g := by
  obtain ⟨t, h, hp⟩ := k; exact ⟨t, st.trans h, hp⟩
/-- what is kept up while the heap grows and safe cells are written -/
def Cl (Z : State) (Inv : Heap → Prop) (Sf : Heap → Addr → Prop) : Prop :=
  (∀ (h h' : Heap) (ws : List Addr), Keep h h' ws → (∀ x ∈ ws, Sf h x) → Inv h → Inv h' ∧ ∀ x, Sf h x → Sf h' x) ∧
  (∀ (h : Heap) (x : Addr), h.size ≤ x → Sf h x) ∧
  (∀ (h : Heap) (x : Addr) (C : String), Exa Z h x C → C ≠ "java/lang/String" → C ≠ "[B" → Sf h x) ∧
  (∀ (h : Heap) (x : Addr) (c : Cell) (ty : FieldType), Arr Z h x c ty → ty ≠ .byte → Sf h x)
/-- where the walk of a body stands -/
def WP (p : Program) (l : Launch) (e : Env) (R : Room) (s : State) (m : MethodId) (args : Array Value) (below : List Frame) (meth : Method) (c : Code) (Z : State) (own mname : String) (bytes : ByteArray) (maxL : Nat) (ret : Option FieldType) (n0 : Nat) (Inv : Heap → Prop) (Sf : Heap → Addr → Prop) (T : State) (h : Heap) (locs : List Loc) (cells slots : Nat) : Prop :=
  Stand p l e R s m args below meth c T locs cells slots ∧ T.heap = h ∧ Z.Warmed39 s.vm ∧ s.vm.findClass own = some m.cls ∧ Fr n0 locs ∧ Old Z n0 h ∧ Inv h ∧ (p.tables.exec = Jvm.exec ∧ c.code = bytes ∧ c.maxLocals = maxL ∧ meth.sig.returnType = ret ∧ meth.locks = false ∧ meth.name = mname) ∧ Cl Z Inv Sf
theorem ext_keep {h h' : Heap} (E : Ext h h') : Keep h h' [] := (Keep.refl h []).ext E
theorem keep_id (h : Heap) : Keep h h [] := Keep.refl h []
theorem own_n {a b : Nat} (h : a < b) : a < b := h
theorem own_ne {a b : Nat} (h : a < b ∨ b < a) : a ≠ b := by omega
theorem own_ni {a b : Nat} (h : a ≠ b) : a < b ∨ b < a := by omega
theorem fr1 {k : Nat} {a : Addr} {sl : Nat} (q : k ≤ a) : Fr k [(⟨a, sl⟩ : Loc)] := fun y hy => by cases List.mem_singleton.mp hy; exact q
section Kit
variable {p : Program} {l : Launch} {e : Env} {R : Room} {s : State} {m : MethodId} {args : Array Value} {below : List Frame} {meth : Method} {c : Code} {Z : State} {own mname : String} {bytes : ByteArray} {maxL : Nat} {ret : Option FieldType} {n0 : Nat} {Inv : Heap → Prop} {Sf : Heap → Addr → Prop} {T : State} {h : Heap} {locs : List Loc} {cells slots : Nat} {a0 : Array Value} {P : State → Prop} {pc pc' : Nat} {Ls Ls' : Array Slot} {st : List Value}
theorem WP.hx (X : WP p l e R s m args below meth c Z own mname bytes maxL ret n0 Inv Sf T h locs cells slots) : p.tables.exec = Jvm.exec := X.2.2.2.2.2.2.2.1.1
theorem WP.hby (X : WP p l e R s m args below meth c Z own mname bytes maxL ret n0 Inv Sf T h locs cells slots) : c.code = bytes := X.2.2.2.2.2.2.2.1.2.1
theorem WP.hml (X : WP p l e R s m args below meth c Z own mname bytes maxL ret n0 Inv Sf T h locs cells slots) : c.maxLocals = maxL := X.2.2.2.2.2.2.2.1.2.2.1
theorem WP.hret (X : WP p l e R s m args below meth c Z own mname bytes maxL ret n0 Inv Sf T h locs cells slots) : meth.sig.returnType = ret := X.2.2.2.2.2.2.2.1.2.2.2.1
theorem WP.hlk (X : WP p l e R s m args below meth c Z own mname bytes maxL ret n0 Inv Sf T h locs cells slots) : meth.locks = false := X.2.2.2.2.2.2.2.1.2.2.2.2.1
theorem WP.hnm (X : WP p l e R s m args below meth c Z own mname bytes maxL ret n0 Inv Sf T h locs cells slots) : meth.name = mname := X.2.2.2.2.2.2.2.1.2.2.2.2.2
theorem WP.cl (X : WP p l e R s m args below meth c Z own mname bytes maxL ret n0 Inv Sf T h locs cells slots) : Cl Z Inv Sf := X.2.2.2.2.2.2.2.2
theorem WP.inv (X : WP p l e R s m args below meth c Z own mname bytes maxL ret n0 Inv Sf T h locs cells slots) : Inv h := X.2.2.2.2.2.2.1
theorem WP.old (X : WP p l e R s m args below meth c Z own mname bytes maxL ret n0 Inv Sf T h locs cells slots) : Old Z n0 h := X.2.2.2.2.2.1
theorem WP.n0le (X : WP p l e R s m args below meth c Z own mname bytes maxL ret n0 Inv Sf T h locs cells slots) : n0 ≤ h.size := X.old.1 ▸ X.old.2.1
theorem WP.fr (X : WP p l e R s m args below meth c Z own mname bytes maxL ret n0 Inv Sf T h locs cells slots) : Fr n0 locs := X.2.2.2.2.1
theorem WP.hown (X : WP p l e R s m args below meth c Z own mname bytes maxL ret n0 Inv Sf T h locs cells slots) : s.vm.findClass own = some m.cls := X.2.2.2.1
theorem WP.hZ (X : WP p l e R s m args below meth c Z own mname bytes maxL ret n0 Inv Sf T h locs cells slots) : Z.Warmed39 s.vm := X.2.2.1
theorem WP.eT (X : WP p l e R s m args below meth c Z own mname bytes maxL ret n0 Inv Sf T h locs cells slots) : T.heap = h := X.2.1
theorem WP.mv (X : WP p l e R s m args below meth c Z own mname bytes maxL ret n0 Inv Sf T h locs cells slots) {T' : State} {h' : Heap} {locs' : List Loc} {cells' slots' : Nat} (X' : Stand p l e R s m args below meth c T' locs' cells' slots') (e' : T'.heap = h') {ws : List Addr} (K : Keep h h' ws) (hs : ∀ x ∈ ws, Sf h x ∧ n0 ≤ x) (N : Fr n0 locs') : WP p l e R s m args below meth c Z own mname bytes maxL ret n0 Inv Sf T' h' locs' cells' slots' :=
  ⟨X', e', X.hZ, X.hown, N, X.old.keep K (fun x q => (hs x q).2), (X.cl.1 h h' ws K (fun x q => (hs x q).1) X.inv).1, X.2.2.2.2.2.2.2.1, X.cl⟩
theorem WP.same (X : WP p l e R s m args below meth c Z own mname bytes maxL ret n0 Inv Sf T h locs cells slots) {T' : State} (X' : Stand p l e R s m args below meth c T' locs cells slots) (e' : T'.heap = h) : WP p l e R s m args below meth c Z own mname bytes maxL ret n0 Inv Sf T' h locs cells slots := X.mv X' e' (keep_id h) (fun _ q => nomatch q) X.fr
/-- a safe cell stays safe -/
theorem WP.sf (X : WP p l e R s m args below meth c Z own mname bytes maxL ret n0 Inv Sf T h locs cells slots) {h' : Heap} {ws : List Addr} {x : Addr} (K : Keep h h' ws) (hs : ∀ x ∈ ws, Sf h x ∧ n0 ≤ x) (q : Sf h x) : Sf h' x := (X.cl.1 h h' ws K (fun x q => (hs x q).1) X.inv).2 x q
theorem WP.sfN (X : WP p l e R s m args below meth c Z own mname bytes maxL ret n0 Inv Sf T h locs cells slots) {x : Addr} (q : h.size ≤ x) : Sf h x := X.cl.2.1 h x q
theorem WP.sfE (X : WP p l e R s m args below meth c Z own mname bytes maxL ret n0 Inv Sf T h locs cells slots) {x : Addr} {C : String} (E : Exa Z h x C) (h1 : C ≠ "java/lang/String" := by decide) (h2 : C ≠ "[B" := by decide) : Sf h x := X.cl.2.2.1 h x C E h1 h2
theorem WP.sfA (X : WP p l e R s m args below meth c Z own mname bytes maxL ret n0 Inv Sf T h locs cells slots) {x : Addr} {k : ClassId} {ty : FieldType} {z : Int32} {vs : List Value} {d : Value} (A : Arv Z h x k ty z vs d) (h1 : ty ≠ .byte := by decide) : Sf h x := by
  obtain ⟨c, A, -⟩ := A; exact X.cl.2.2.2 h x c ty A h1

theorem k_aloadN (X : WP p l e R s m args below meth c Z own mname bytes maxL ret n0 Inv Sf T h locs cells slots) {k : Fin 4} {v : Value} (hd : decode bytes pc = .ok (.aload_n k, 1)) (hl : Ls[k.val]? = some (.val v)) (hv : v.isRef = true) (hp : pc + 1 = pc') (q : Run p.tables e below P T (mkF m pc' Ls (v :: st))) : Run p.tables e below P T (mkF m pc Ls (st)) := by
  subst hp; exact Run.of (fun _ k => XS.aloadN X.1.here X.hx rfl (hb X.hby hd) hl hv k) q
theorem k_aload (X : WP p l e R s m args below meth c Z own mname bytes maxL ret n0 Inv Sf T h locs cells slots) {k : Nat} {v : Value} (hd : decode bytes pc = .ok (.aload k, 2)) (hl : Ls[k]? = some (.val v)) (hv : v.isRef = true) (hp : pc + 2 = pc') (q : Run p.tables e below P T (mkF m pc' Ls (v :: st))) : Run p.tables e below P T (mkF m pc Ls (st)) := by
  subst hp; exact Run.of (fun _ k => XS.aload X.1.here X.hx rfl (hb X.hby hd) hl hv k) q
theorem k_iloadN (X : WP p l e R s m args below meth c Z own mname bytes maxL ret n0 Inv Sf T h locs cells slots) {k : Fin 4} {v : Int32} (hd : decode bytes pc = .ok (.iload_n k, 1)) (hl : Ls[k.val]? = some (.val (.int v))) (hp : pc + 1 = pc') (q : Run p.tables e below P T (mkF m pc' Ls (.int v :: st))) : Run p.tables e below P T (mkF m pc Ls (st)) := by
  subst hp; exact Run.of (fun _ k => XS.iloadN X.1.here X.hx rfl (hb X.hby hd) hl k) q
theorem k_iload (X : WP p l e R s m args below meth c Z own mname bytes maxL ret n0 Inv Sf T h locs cells slots) {k : Nat} {v : Int32} (hd : decode bytes pc = .ok (.iload k, 2)) (hl : Ls[k]? = some (.val (.int v))) (hp : pc + 2 = pc') (q : Run p.tables e below P T (mkF m pc' Ls (.int v :: st))) : Run p.tables e below P T (mkF m pc Ls (st)) := by
  subst hp; exact Run.of (fun _ k => XS.iload X.1.here X.hx rfl (hb X.hby hd) hl k) q
theorem k_astoreN (X : WP p l e R s m args below meth c Z own mname bytes maxL ret n0 Inv Sf T h locs cells slots) {k : Fin 4} {v : Value} (hd : decode bytes pc = .ok (.astore_n k, 1)) (hv : v.isRef = true) (hl : storeLocals Ls k.val v = some Ls') (hp : pc + 1 = pc') (q : Run p.tables e below P T (mkF m pc' Ls' (st))) : Run p.tables e below P T (mkF m pc Ls (v :: st)) := by
  subst hp; exact Run.of (fun _ k => XS.astoreN X.1.here X.hx rfl (hb X.hby hd) rfl hv hl k) q
theorem k_astore (X : WP p l e R s m args below meth c Z own mname bytes maxL ret n0 Inv Sf T h locs cells slots) {k : Nat} {v : Value} (hd : decode bytes pc = .ok (.astore k, 2)) (hv : v.isRef = true) (hl : storeLocals Ls k v = some Ls') (hp : pc + 2 = pc') (q : Run p.tables e below P T (mkF m pc' Ls' (st))) : Run p.tables e below P T (mkF m pc Ls (v :: st)) := by
  subst hp; exact Run.of (fun _ k => XS.astore X.1.here X.hx rfl (hb X.hby hd) rfl hv hl k) q
theorem k_istoreN (X : WP p l e R s m args below meth c Z own mname bytes maxL ret n0 Inv Sf T h locs cells slots) {k : Fin 4} {v : Int32} (hd : decode bytes pc = .ok (.istore_n k, 1)) (hl : storeLocals Ls k.val (.int v) = some Ls') (hp : pc + 1 = pc') (q : Run p.tables e below P T (mkF m pc' Ls' (st))) : Run p.tables e below P T (mkF m pc Ls (.int v :: st)) := by
  subst hp; exact Run.of (fun _ k => XS.istoreN X.1.here X.hx rfl (hb X.hby hd) rfl hl k) q
theorem k_istore (X : WP p l e R s m args below meth c Z own mname bytes maxL ret n0 Inv Sf T h locs cells slots) {k : Nat} {v : Int32} (hd : decode bytes pc = .ok (.istore k, 2)) (hl : storeLocals Ls k (.int v) = some Ls') (hp : pc + 2 = pc') (q : Run p.tables e below P T (mkF m pc' Ls' (st))) : Run p.tables e below P T (mkF m pc Ls (.int v :: st)) := by
  subst hp; exact Run.of (fun _ k => XS.istore X.1.here X.hx rfl (hb X.hby hd) rfl hl k) q
theorem k_iconst (X : WP p l e R s m args below meth c Z own mname bytes maxL ret n0 Inv Sf T h locs cells slots) {k : Int} {w : Int32} (hd : decode bytes pc = .ok (.iconst k, 1)) (hv : Int32.ofInt k = w) (hp : pc + 1 = pc') (q : Run p.tables e below P T (mkF m pc' Ls (.int w :: st))) : Run p.tables e below P T (mkF m pc Ls (st)) := by
  subst hp; subst hv; exact Run.of (fun _ k => XS.iconst X.1.here X.hx rfl (hb X.hby hd)  k) q
theorem k_bipush (X : WP p l e R s m args below meth c Z own mname bytes maxL ret n0 Inv Sf T h locs cells slots) {k : Int} {w : Int32} (hd : decode bytes pc = .ok (.bipush k, 2)) (hv : (Int8.ofInt k).toInt32 = w) (hp : pc + 2 = pc') (q : Run p.tables e below P T (mkF m pc' Ls (.int w :: st))) : Run p.tables e below P T (mkF m pc Ls (st)) := by
  subst hp; subst hv; exact Run.of (fun _ k => XS.bipush X.1.here X.hx rfl (hb X.hby hd)  k) q
theorem k_sipush (X : WP p l e R s m args below meth c Z own mname bytes maxL ret n0 Inv Sf T h locs cells slots) {k : Int} {w : Int32} (hd : decode bytes pc = .ok (.sipush k, 3)) (hv : (Int16.ofInt k).toInt32 = w) (hp : pc + 3 = pc') (q : Run p.tables e below P T (mkF m pc' Ls (.int w :: st))) : Run p.tables e below P T (mkF m pc Ls (st)) := by
  subst hp; subst hv; exact Run.of (fun _ k => XS.sipush X.1.here X.hx rfl (hb X.hby hd)  k) q
theorem k_aconstNull (X : WP p l e R s m args below meth c Z own mname bytes maxL ret n0 Inv Sf T h locs cells slots)  (hd : decode bytes pc = .ok (.aconst_null, 1))  (hp : pc + 1 = pc') (q : Run p.tables e below P T (mkF m pc' Ls (.null :: st))) : Run p.tables e below P T (mkF m pc Ls (st)) := by
  subst hp; exact Run.of (fun _ k => XS.aconstNull X.1.here X.hx rfl (hb X.hby hd)  k) q
theorem k_iadd (X : WP p l e R s m args below meth c Z own mname bytes maxL ret n0 Inv Sf T h locs cells slots) {x y w : Int32} (hd : decode bytes pc = .ok (.iadd, 1)) (hv : x + y = w) (hp : pc + 1 = pc') (q : Run p.tables e below P T (mkF m pc' Ls (.int w :: st))) : Run p.tables e below P T (mkF m pc Ls (.int y :: .int x :: st)) := by
  subst hp; subst hv; exact Run.of (fun _ k => XS.iadd X.1.here X.hx rfl (hb X.hby hd) rfl k) q
theorem k_isub (X : WP p l e R s m args below meth c Z own mname bytes maxL ret n0 Inv Sf T h locs cells slots) {x y w : Int32} (hd : decode bytes pc = .ok (.isub, 1)) (hv : x - y = w) (hp : pc + 1 = pc') (q : Run p.tables e below P T (mkF m pc' Ls (.int w :: st))) : Run p.tables e below P T (mkF m pc Ls (.int y :: .int x :: st)) := by
  subst hp; subst hv; exact Run.of (fun _ k => XS.isub X.1.here X.hx rfl (hb X.hby hd) rfl k) q
theorem k_imul (X : WP p l e R s m args below meth c Z own mname bytes maxL ret n0 Inv Sf T h locs cells slots) {x y w : Int32} (hd : decode bytes pc = .ok (.imul, 1)) (hv : x * y = w) (hp : pc + 1 = pc') (q : Run p.tables e below P T (mkF m pc' Ls (.int w :: st))) : Run p.tables e below P T (mkF m pc Ls (.int y :: .int x :: st)) := by
  subst hp; subst hv; exact Run.of (fun _ k => XS.imul X.1.here X.hx rfl (hb X.hby hd) rfl k) q
theorem k_iand (X : WP p l e R s m args below meth c Z own mname bytes maxL ret n0 Inv Sf T h locs cells slots) {x y w : Int32} (hd : decode bytes pc = .ok (.iand, 1)) (hv : x &&& y = w) (hp : pc + 1 = pc') (q : Run p.tables e below P T (mkF m pc' Ls (.int w :: st))) : Run p.tables e below P T (mkF m pc Ls (.int y :: .int x :: st)) := by
  subst hp; subst hv; exact Run.of (fun _ k => XS.iand X.1.here X.hx rfl (hb X.hby hd) rfl k) q
theorem k_ior (X : WP p l e R s m args below meth c Z own mname bytes maxL ret n0 Inv Sf T h locs cells slots) {x y w : Int32} (hd : decode bytes pc = .ok (.ior, 1)) (hv : x ||| y = w) (hp : pc + 1 = pc') (q : Run p.tables e below P T (mkF m pc' Ls (.int w :: st))) : Run p.tables e below P T (mkF m pc Ls (.int y :: .int x :: st)) := by
  subst hp; subst hv; exact Run.of (fun _ k => XS.ior X.1.here X.hx rfl (hb X.hby hd) rfl k) q
theorem k_ixor (X : WP p l e R s m args below meth c Z own mname bytes maxL ret n0 Inv Sf T h locs cells slots) {x y w : Int32} (hd : decode bytes pc = .ok (.ixor, 1)) (hv : x ^^^ y = w) (hp : pc + 1 = pc') (q : Run p.tables e below P T (mkF m pc' Ls (.int w :: st))) : Run p.tables e below P T (mkF m pc Ls (.int y :: .int x :: st)) := by
  subst hp; subst hv; exact Run.of (fun _ k => XS.ixor X.1.here X.hx rfl (hb X.hby hd) rfl k) q
theorem k_ishl (X : WP p l e R s m args below meth c Z own mname bytes maxL ret n0 Inv Sf T h locs cells slots) {x y w : Int32} (hd : decode bytes pc = .ok (.ishl, 1)) (hv : (x <<< (y &&& 31)) = w) (hp : pc + 1 = pc') (q : Run p.tables e below P T (mkF m pc' Ls (.int w :: st))) : Run p.tables e below P T (mkF m pc Ls (.int y :: .int x :: st)) := by
  subst hp; subst hv; exact Run.of (fun _ k => XS.ishl X.1.here X.hx rfl (hb X.hby hd) rfl k) q
theorem k_ishr (X : WP p l e R s m args below meth c Z own mname bytes maxL ret n0 Inv Sf T h locs cells slots) {x y w : Int32} (hd : decode bytes pc = .ok (.ishr, 1)) (hv : (x >>> (y &&& 31)) = w) (hp : pc + 1 = pc') (q : Run p.tables e below P T (mkF m pc' Ls (.int w :: st))) : Run p.tables e below P T (mkF m pc Ls (.int y :: .int x :: st)) := by
  subst hp; subst hv; exact Run.of (fun _ k => XS.ishr X.1.here X.hx rfl (hb X.hby hd) rfl k) q
theorem k_iushr (X : WP p l e R s m args below meth c Z own mname bytes maxL ret n0 Inv Sf T h locs cells slots) {x y w : Int32} (hd : decode bytes pc = .ok (.iushr, 1)) (hv : ((x.toUInt32 >>> (y &&& 31).toUInt32).toInt32) = w) (hp : pc + 1 = pc') (q : Run p.tables e below P T (mkF m pc' Ls (.int w :: st))) : Run p.tables e below P T (mkF m pc Ls (.int y :: .int x :: st)) := by
  subst hp; subst hv; exact Run.of (fun _ k => XS.iushr X.1.here X.hx rfl (hb X.hby hd) rfl k) q
theorem k_irem (X : WP p l e R s m args below meth c Z own mname bytes maxL ret n0 Inv Sf T h locs cells slots) {x y w : Int32} (hd : decode bytes pc = .ok (.irem, 1)) (hy : y ≠ 0) (hv : x - (x / y) * y = w) (hp : pc + 1 = pc') (q : Run p.tables e below P T (mkF m pc' Ls (.int w :: st))) : Run p.tables e below P T (mkF m pc Ls (.int y :: .int x :: st)) := by
  subst hp; subst hv; exact Run.of (fun _ k => XS.irem X.1.here X.hx rfl (hb X.hby hd) rfl hy k) q
theorem k_idiv (X : WP p l e R s m args below meth c Z own mname bytes maxL ret n0 Inv Sf T h locs cells slots) {x y w : Int32} (hd : decode bytes pc = .ok (.idiv, 1)) (hy : y ≠ 0) (hv : x / y = w) (hp : pc + 1 = pc') (q : Run p.tables e below P T (mkF m pc' Ls (.int w :: st))) : Run p.tables e below P T (mkF m pc Ls (.int y :: .int x :: st)) := by
  subst hp; subst hv; exact Run.of (fun _ k => XS.idiv X.1.here X.hx rfl (hb X.hby hd) rfl hy k) q
theorem k_ineg (X : WP p l e R s m args below meth c Z own mname bytes maxL ret n0 Inv Sf T h locs cells slots) {x w : Int32} (hd : decode bytes pc = .ok (.ineg, 1)) (hv : -x = w) (hp : pc + 1 = pc') (q : Run p.tables e below P T (mkF m pc' Ls (.int w :: st))) : Run p.tables e below P T (mkF m pc Ls (.int x :: st)) := by
  subst hp; subst hv; exact Run.of (fun _ k => XS.ineg X.1.here X.hx rfl (hb X.hby hd) rfl k) q
theorem k_i2c (X : WP p l e R s m args below meth c Z own mname bytes maxL ret n0 Inv Sf T h locs cells slots) {x w : Int32} (hd : decode bytes pc = .ok (.i2c, 1)) (hv : x.toUInt32.toUInt16.toUInt32.toInt32 = w) (hp : pc + 1 = pc') (q : Run p.tables e below P T (mkF m pc' Ls (.int w :: st))) : Run p.tables e below P T (mkF m pc Ls (.int x :: st)) := by
  subst hp; subst hv; exact Run.of (fun _ k => XS.i2c X.1.here X.hx rfl (hb X.hby hd) rfl k) q
theorem k_i2b (X : WP p l e R s m args below meth c Z own mname bytes maxL ret n0 Inv Sf T h locs cells slots) {x w : Int32} (hd : decode bytes pc = .ok (.i2b, 1)) (hv : x.toInt8.toInt32 = w) (hp : pc + 1 = pc') (q : Run p.tables e below P T (mkF m pc' Ls (.int w :: st))) : Run p.tables e below P T (mkF m pc Ls (.int x :: st)) := by
  subst hp; subst hv; exact Run.of (fun _ k => XS.i2b X.1.here X.hx rfl (hb X.hby hd) rfl k) q
theorem k_iinc (X : WP p l e R s m args below meth c Z own mname bytes maxL ret n0 Inv Sf T h locs cells slots) {k : Nat} {cst : Int} {x w : Int32} (hd : decode bytes pc = .ok (.iinc k cst, 3)) (hl : Ls[k]? = some (.val (.int x))) (hv : x + Int32.ofInt cst = w) (hl' : storeLocals Ls k (.int w) = some Ls') (hp : pc + 3 = pc') (q : Run p.tables e below P T (mkF m pc' Ls' (st))) : Run p.tables e below P T (mkF m pc Ls (st)) := by
  subst hp; subst hv; exact Run.of (fun _ k => XS.iinc X.1.here X.hx rfl (hb X.hby hd) hl hl' k) q
theorem k_dup (X : WP p l e R s m args below meth c Z own mname bytes maxL ret n0 Inv Sf T h locs cells slots) {v : Value} (hd : decode bytes pc = .ok (.dup, 1)) (hc : v.category = 1) (hp : pc + 1 = pc') (q : Run p.tables e below P T (mkF m pc' Ls (v :: v :: st))) : Run p.tables e below P T (mkF m pc Ls (v :: st)) := by
  subst hp; exact Run.of (fun _ k => XS.dup X.1.here X.hx rfl (hb X.hby hd) rfl hc k) q
theorem k_pop (X : WP p l e R s m args below meth c Z own mname bytes maxL ret n0 Inv Sf T h locs cells slots) {v : Value} (hd : decode bytes pc = .ok (.pop, 1)) (hc : v.category = 1) (hp : pc + 1 = pc') (q : Run p.tables e below P T (mkF m pc' Ls (st))) : Run p.tables e below P T (mkF m pc Ls (v :: st)) := by
  subst hp; exact Run.of (fun _ k => XS.pop X.1.here X.hx rfl (hb X.hby hd) rfl hc k) q
theorem k_goto (X : WP p l e R s m args below meth c Z own mname bytes maxL ret n0 Inv Sf T h locs cells slots) {o : Int} (hd : decode bytes pc = .ok (.goto o, 3))  (ho : 0 ≤ (pc : Int) + o) (hp : ((pc : Int) + o).toNat = pc') (q : Run p.tables e below P T (mkF m pc' Ls (st))) : Run p.tables e below P T (mkF m pc Ls (st)) := by
  exact Run.of (fun _ k => XS.goto X.1.here X.hx rfl (pc0 := pc) (pc' := pc') rfl (hb X.hby hd)  ho hp k) q
theorem k_ifYes (X : WP p l e R s m args below meth c Z own mname bytes maxL ret n0 Inv Sf T h locs cells slots) {cd : ClassFile.Cond} {o : Int} {x : Int32} (hd : decode bytes pc = .ok (.ifCond cd o, 3)) (hc : ifCond.holds cd x = true) (ho : 0 ≤ (pc : Int) + o) (hp : ((pc : Int) + o).toNat = pc') (q : Run p.tables e below P T (mkF m pc' Ls (st))) : Run p.tables e below P T (mkF m pc Ls (.int x :: st)) := by
  exact Run.of (fun _ k => XS.ifYes X.1.here X.hx rfl (pc0 := pc) (pc' := pc') rfl (hb X.hby hd) rfl hc ho hp k) q
theorem k_ifNo (X : WP p l e R s m args below meth c Z own mname bytes maxL ret n0 Inv Sf T h locs cells slots) {cd : ClassFile.Cond} {o : Int} {x : Int32} (hd : decode bytes pc = .ok (.ifCond cd o, 3)) (hc : ifCond.holds cd x = false) (hp : pc + 3 = pc') (q : Run p.tables e below P T (mkF m pc' Ls (st))) : Run p.tables e below P T (mkF m pc Ls (.int x :: st)) := by
  subst hp; exact Run.of (fun _ k => XS.ifNo X.1.here X.hx rfl (hb X.hby hd) rfl hc k) q
theorem k_icmpYes (X : WP p l e R s m args below meth c Z own mname bytes maxL ret n0 Inv Sf T h locs cells slots) {cd : ClassFile.Cond} {o : Int} {x y : Int32} (hd : decode bytes pc = .ok (.if_icmp cd o, 3)) (hc : if_icmp.holds cd x y = true) (ho : 0 ≤ (pc : Int) + o) (hp : ((pc : Int) + o).toNat = pc') (q : Run p.tables e below P T (mkF m pc' Ls (st))) : Run p.tables e below P T (mkF m pc Ls (.int y :: .int x :: st)) := by
  exact Run.of (fun _ k => XS.icmpYes X.1.here X.hx rfl (pc0 := pc) (pc' := pc') rfl (hb X.hby hd) rfl hc ho hp k) q
theorem k_icmpNo (X : WP p l e R s m args below meth c Z own mname bytes maxL ret n0 Inv Sf T h locs cells slots) {cd : ClassFile.Cond} {o : Int} {x y : Int32} (hd : decode bytes pc = .ok (.if_icmp cd o, 3)) (hc : if_icmp.holds cd x y = false) (hp : pc + 3 = pc') (q : Run p.tables e below P T (mkF m pc' Ls (st))) : Run p.tables e below P T (mkF m pc Ls (.int y :: .int x :: st)) := by
  subst hp; exact Run.of (fun _ k => XS.icmpNo X.1.here X.hx rfl (hb X.hby hd) rfl hc k) q
theorem k_ifnullYes (X : WP p l e R s m args below meth c Z own mname bytes maxL ret n0 Inv Sf T h locs cells slots) {o : Int} (hd : decode bytes pc = .ok (.ifnull o, 3))  (ho : 0 ≤ (pc : Int) + o) (hp : ((pc : Int) + o).toNat = pc') (q : Run p.tables e below P T (mkF m pc' Ls (st))) : Run p.tables e below P T (mkF m pc Ls (.null :: st)) := by
  exact Run.of (fun _ k => XS.ifnullYes X.1.here X.hx rfl (pc0 := pc) (pc' := pc') rfl (hb X.hby hd) rfl ho hp k) q
theorem k_ifnullNo (X : WP p l e R s m args below meth c Z own mname bytes maxL ret n0 Inv Sf T h locs cells slots) {o : Int} {a : Addr} (hd : decode bytes pc = .ok (.ifnull o, 3))  (hp : pc + 3 = pc') (q : Run p.tables e below P T (mkF m pc' Ls (st))) : Run p.tables e below P T (mkF m pc Ls (.ref a :: st)) := by
  subst hp; exact Run.of (fun _ k => XS.ifnullNo X.1.here X.hx rfl (hb X.hby hd) rfl k) q
theorem k_ifnonnullYes (X : WP p l e R s m args below meth c Z own mname bytes maxL ret n0 Inv Sf T h locs cells slots) {o : Int} {a : Addr} (hd : decode bytes pc = .ok (.ifnonnull o, 3))  (ho : 0 ≤ (pc : Int) + o) (hp : ((pc : Int) + o).toNat = pc') (q : Run p.tables e below P T (mkF m pc' Ls (st))) : Run p.tables e below P T (mkF m pc Ls (.ref a :: st)) := by
  exact Run.of (fun _ k => XS.ifnonnullYes X.1.here X.hx rfl (pc0 := pc) (pc' := pc') rfl (hb X.hby hd) rfl ho hp k) q
theorem k_ifnonnullNo (X : WP p l e R s m args below meth c Z own mname bytes maxL ret n0 Inv Sf T h locs cells slots) {o : Int} (hd : decode bytes pc = .ok (.ifnonnull o, 3))  (hp : pc + 3 = pc') (q : Run p.tables e below P T (mkF m pc' Ls (st))) : Run p.tables e below P T (mkF m pc Ls (.null :: st)) := by
  subst hp; exact Run.of (fun _ k => XS.ifnonnullNo X.1.here X.hx rfl (hb X.hby hd) rfl k) q
theorem k_acmp (X : WP p l e R s m args below meth c Z own mname bytes maxL ret n0 Inv Sf T h locs cells slots) {cd : ACond} {x y : Value} {o : Int} (same : Bool) (hd : decode bytes pc = .ok (.if_acmp cd o, 3)) (h1 : x.isRef = true) (h2 : y.isRef = true) (hq : decide (x = y) = same) (ho : 0 ≤ (pc : Int) + o) (hp : pc' = if acV cd same = true then ((pc : Int) + o).toNat else pc + 3) (q : Run p.tables e below P T (mkF m pc' Ls st)) : Run p.tables e below P T (mkF m pc Ls (y :: x :: st)) :=
  Run.of (fun _ k => Jvm.RoadKit.acmp (g := mkF m pc Ls (y :: x :: st)) X.1 X.hx rfl h1 h2 (pc0 := pc) (pc' := pc') (same := same) rfl (hb X.hby hd) rfl hq ho hp k) q
theorem k_getF (X : WP p l e R s m args below meth c Z own mname bytes maxL ret n0 Inv Sf T h locs cells slots) {R0 O n d host : String} {index : Nat} {a : Addr} {v : Value} (hd : decode bytes pc = .ok (.getfield index, 3)) (w : (Cond.fieldLink own index R0 n d).before a0 Z = true ∨ (Cond.fieldLinkNest own index R0 n d host).before a0 Z = true) (via : Via Z R0 O n d) (F : Fld Z h a O n d v) (hp : pc + 3 = pc')
    (q : ∀ T', WP p l e R s m args below meth c Z own mname bytes maxL ret n0 Inv Sf T' h locs cells slots → Run p.tables e below P T' (mkF m pc' Ls (v :: st))) : Run p.tables e below P T (mkF m pc Ls (.ref a :: st)) := by
  subst hp
  obtain ⟨T', X', e', k⟩ := Jvm.RoadKit.getF X.1 X.hx X.hZ X.hown w via X.eT F (g := mkF m pc Ls (.ref a :: st)) rfl rfl (hb X.hby hd)
  exact Run.of k (q T' (X.same X' e'))
theorem k_getS (X : WP p l e R s m args below meth c Z own mname bytes maxL ret n0 Inv Sf T h locs cells slots) {R0 O n d host : String} {index : Nat} {v : Value} (hd : decode bytes pc = .ok (.getstatic index, 3)) (w : (Cond.fieldLink own index R0 n d).before a0 Z = true ∨ (Cond.fieldLinkNest own index R0 n d host).before a0 Z = true) (via : Via Z R0 O n d) (F : Sta Z h O n d v) (hp : pc + 3 = pc')
    (q : ∀ T', WP p l e R s m args below meth c Z own mname bytes maxL ret n0 Inv Sf T' h locs cells slots → Run p.tables e below P T' (mkF m pc' Ls (v :: st))) : Run p.tables e below P T (mkF m pc Ls st) := by
  subst hp
  obtain ⟨T', X', e', k⟩ := Jvm.RoadKit.getS2 X.1 X.hx X.hZ X.hown w via X.eT F (g := mkF m pc Ls st) rfl (hb X.hby hd)
  exact Run.of k (q T' (X.same X' e'))
theorem k_putF (X : WP p l e R s m args below meth c Z own mname bytes maxL ret n0 Inv Sf T h locs cells slots) {R0 O n d host C : String} {index kk : Nat} {ty : FieldType} {a : Addr} {v old : Value} (hd : decode bytes pc = .ok (.putfield index, 3)) (w : (Cond.fieldLink own index R0 n d).before a0 Z = true ∨ (Cond.fieldLinkNest own index R0 n d host).before a0 Z = true) (via : Via Z R0 O n d) (F : Fld Z h a O n d old) (E : Exa Z h a C)
    (L : (Cond.lays C O n d).before a0 Z = true ∨ ((Cond.laysFinal C O n d).before a0 Z = true ∧ own = O ∧ meth.name = "<init>")) (wi : (Cond.instantiable C kk).before a0 Z = true) (hty : parseFieldDescriptor d = some ty) (hn : narrow ty v = v) (hf : fits ty v = true) (hsf : Sf h a) (hge : n0 ≤ a) (hp : pc + 3 = pc')
    (q : ∀ T' h' L', WP p l e R s m args below meth c Z own mname bytes maxL ret n0 Inv Sf T' h' L' cells slots → Wr h h' a (Jvm.RoadKit.slotOf Z O n d) v → Keep h h' [a] → Run p.tables e below P T' (mkF m pc' Ls st)) : Run p.tables e below P T (mkF m pc Ls (v :: .ref a :: st)) := by
  subst hp
  obtain ⟨T', h', X', e', W, k⟩ := Jvm.RoadKit.putF X.1 X.hx X.hZ X.hown w via X.eT F E L wi hty hn hf (g := mkF m pc Ls (v :: .ref a :: st)) rfl rfl (hb X.hby hd)
  have K := Keep.of_wr W
  exact Run.of k (q T' h' _ (X.mv X' e' K (allS ⟨hsf, hge⟩ all0) (X.fr.app (fr1 hge))) W K)
theorem k_newO (X : WP p l e R s m args below meth c Z own mname bytes maxL ret n0 Inv Sf T h locs cells slots) {C : String} {index n : Nat} (hd : decode bytes pc = .ok (.new index, 3)) (w : (Cond.classLink own index C).before a0 Z = true) (wi : (Cond.instantiable C n).before a0 Z = true) (wz : (Cond.initialized C).before a0 Z = true) (hc : cells + 1 ≤ R.cells) (hl : slots + n ≤ R.slots) (hp : pc + 3 = pc')
    (q : ∀ T' h' (b : Nat), b = h.size → WP p l e R s m args below meth c Z own mname bytes maxL ret n0 Inv Sf T' h' locs (cells + 1) (slots + n) → Keep h h' [] → Exa Z h' b C → (∀ {O nm d : String} {ty : FieldType}, Laid Z a0 C O nm d → parseFieldDescriptor d = some ty → Fld Z h' b O nm d (defaultValue ty)) → Sf h' b → b < h'.size → n0 ≤ b → Run p.tables e below P T' (mkF m pc' Ls (.ref b :: st))) : Run p.tables e below P T (mkF m pc Ls st) := by
  subst hp
  obtain ⟨T', h', X', e', E, A, D, -, k⟩ := Jvm.RoadKit.newO X.1 X.hx X.hZ X.hown w wi wz X.eT (g := mkF m pc Ls st) rfl (hb X.hby hd) hc hl
  have K := ext_keep E
  exact Run.of k (q T' h' h.size rfl (X.mv X' e' K (fun _ q => nomatch q) X.fr) K A (fun L t => D L t) (X.sf K (fun _ q => nomatch q) (X.sfN (Nat.le_refl _))) (own_n A.lt) X.n0le)
theorem k_newP (X : WP p l e R s m args below meth c Z own mname bytes maxL ret n0 Inv Sf T h locs cells slots) {aty : ArrayType} {n : Int32} {cap : Nat} (hd : decode bytes pc = .ok (.newarray aty, 2)) (w : (Cond.arrayClass (newarray.typeOf aty)).before a0 Z = true) (hn : ¬ n < 0) (hcap : n.toNatClampNeg ≤ cap) (hb' : cap * 8 ≤ 536870912) (hc : cells + 1 ≤ R.cells) (hl : slots + cap ≤ R.slots) (hp : pc + 2 = pc')
    (q : ∀ T' h' (b : Nat) k, b = h.size → WP p l e R s m args below meth c Z own mname bytes maxL ret n0 Inv Sf T' h' locs (cells + 1) (slots + cap) → Keep h h' [] → Arv Z h' b k (newarray.typeOf aty) n [] (defaultValue (newarray.typeOf aty)) → Sf h' b → b < h'.size → n0 ≤ b → Run p.tables e below P T' (mkF m pc' Ls (.ref b :: st))) : Run p.tables e below P T (mkF m pc Ls (.int n :: st)) := by
  subst hp
  obtain ⟨T', h', cA, X', e', E, A, k⟩ := Jvm.RoadKit.newP X.1 X.hx X.hZ w X.eT (g := mkF m pc Ls (.int n :: st)) rfl (hb X.hby hd) rfl hn hcap hb' hc hl
  have K := ext_keep E
  exact Run.of k (q T' h' h.size cA rfl (X.mv X' e' K (fun _ q => nomatch q) X.fr) K (Arv.new A hn) (X.sf K (fun _ q => nomatch q) (X.sfN (Nat.le_refl _))) (own_n A.lt) X.n0le)
theorem k_arlen (X : WP p l e R s m args below meth c Z own mname bytes maxL ret n0 Inv Sf T h locs cells slots) {a : Addr} {k : ClassId} {ty : FieldType} {z : Int32} {vs : List Value} {d : Value} (hd : decode bytes pc = .ok (.arraylength, 1)) (A : Arv Z h a k ty z vs d) (hp : pc + 1 = pc') (q : Run p.tables e below P T (mkF m pc' Ls (.int z :: st))) : Run p.tables e below P T (mkF m pc Ls (.ref a :: st)) := by
  subst hp
  obtain ⟨cl, A, -, S, N, -, -⟩ := A
  refine Run.of (X.1.arraylength X.hx (by rw [X.eT]; exact A.1) (State.isArrayOf_alike X.hZ.alike A.2.1) (g := mkF m pc Ls (.ref a :: st)) rfl rfl (hb X.hby hd)) ?_
  rw [len_of S N]; exact q
theorem k_initO (X : WP p l e R s m args below meth c Z own mname bytes maxL ret n0 Inv Sf T h locs cells slots) {idx W : Nat} {a : Addr} (hd : decode bytes pc = .ok (.invokespecial idx, 3)) (w1 : (Cond.methodLink own idx Lib.objectInit).before a0 Z = true) (w2 : (Cond.instanceMethod Lib.objectInit).before a0 Z = true) (w3 : (Cond.code Lib.objectInit ⟨#[0xb1]⟩ 1 none).before a0 Z = true)
    (hsz : Ls.size = maxL) (hf : 1 ≤ R.frames) (hW : (st.map fun v => v.category).sum ≤ W) (hl : W + 12 ≤ R.locals) (hp : pc + 3 = pc')
    (q : ∀ T', WP p l e R s m args below meth c Z own mname bytes maxL ret n0 Inv Sf T' h locs cells slots → Run p.tables e below P T' (mkF m pc' Ls st)) : Run p.tables e below P T (mkF m pc Ls (.ref a :: st)) := by
  subst hp
  obtain ⟨T', X', e', k⟩ := Jvm.RoadKit.initO X.1 X.hx X.hZ X.hown w1 w2 w3 X.eT (g := mkF m pc Ls (.ref a :: st)) rfl (by rw [X.hml]; exact hsz) rfl (hb X.hby hd) hf (W := W) (by show 2 * 0 + _ ≤ _; omega) hl
  exact Run.of k (q T' (X.same X' e'))
theorem k_castY (X : WP p l e R s m args below meth c Z own mname bytes maxL ret n0 Inv Sf T h locs cells slots) {K : String} {index : Nat} {a : Addr} (hd : decode bytes pc = .ok (.checkcast index, 3)) (w : (Cond.classLink own index K).before a0 Z = true) (F : Ins Z h a K true) (hp : pc + 3 = pc')
    (q : ∀ T', WP p l e R s m args below meth c Z own mname bytes maxL ret n0 Inv Sf T' h locs cells slots → Run p.tables e below P T' (mkF m pc' Ls (.ref a :: st))) : Run p.tables e below P T (mkF m pc Ls (.ref a :: st)) := by
  subst hp
  obtain ⟨T', X', e', k⟩ := Jvm.RoadKit.castY X.1 X.hx X.hZ X.hown w X.eT F (g := mkF m pc Ls (.ref a :: st)) rfl rfl (hb X.hby hd)
  exact Run.of k (q T' (X.same X' e'))
theorem k_instY (X : WP p l e R s m args below meth c Z own mname bytes maxL ret n0 Inv Sf T h locs cells slots) {K : String} {index : Nat} {a : Addr} (hd : decode bytes pc = .ok (.instanceof index, 3)) (w : (Cond.classLink own index K).before a0 Z = true) (F : Ins Z h a K true) (hp : pc + 3 = pc')
    (q : ∀ T', WP p l e R s m args below meth c Z own mname bytes maxL ret n0 Inv Sf T' h locs cells slots → Run p.tables e below P T' (mkF m pc' Ls (.int 1 :: st))) : Run p.tables e below P T (mkF m pc Ls (.ref a :: st)) := by
  subst hp
  obtain ⟨T', X', e', k⟩ := Jvm.RoadKit.instY X.1 X.hx X.hZ X.hown w X.eT F (g := mkF m pc Ls (.ref a :: st)) rfl rfl (hb X.hby hd)
  exact Run.of k (q T' (X.same X' e'))
theorem k_castore (X : WP p l e R s m args below meth c Z own mname bytes maxL ret n0 Inv Sf T h locs cells slots) {a : Addr} {k : ClassId} {z j x w : Int32} {vs : List Value} {d : Value} (i : Nat) (hd : decode bytes pc = .ok (.castore, 1)) (A : Arv Z h a k .char z vs d) (hj0 : ¬ j < 0) (hjz : j < z) (hj : j.toNatClampNeg = i) (hi : i < vs.length) (hw : nar .char x = w) {vs' : List Value} (hvs : vs.set i (.int w) = vs') (hsf : Sf h a) (hge : n0 ≤ a) (hp : pc + 1 = pc')
    (q : ∀ T' h' L', WP p l e R s m args below meth c Z own mname bytes maxL ret n0 Inv Sf T' h' L' cells slots → Keep h h' [a] → Arv Z h' a k .char z vs' d → Run p.tables e below P T' (mkF m pc' Ls st)) : Run p.tables e below P T (mkF m pc Ls (.int x :: .int j :: .ref a :: st)) := by
  subst hp hw hvs
  obtain ⟨cl, A, q1, S, N, H, G⟩ := A
  obtain ⟨T', h', X', e', W, kk⟩ := Jvm.RoadKit.stC X.1 X.hx X.hZ X.eT A (j := j) (inb_of S ⟨hj0, hjz⟩) (g := mkF m pc Ls (.int x :: .int j :: .ref a :: st)) rfl rfl (hb X.hby hd)
  have K := Keep.of_wr W
  exact Run.of kk (q T' h' _ (X.mv X' e' K (allS ⟨hsf, hge⟩ all0) (X.fr.app (fr1 hge))) K (Arv.set A q1 S N H G (fits_nar_char _) W i hj hi))
theorem k_bastore (X : WP p l e R s m args below meth c Z own mname bytes maxL ret n0 Inv Sf T h locs cells slots) {a : Addr} {k : ClassId} {z j x w : Int32} {vs : List Value} {d : Value} (i : Nat) (hd : decode bytes pc = .ok (.bastore, 1)) (A : Arv Z h a k .byte z vs d) (hj0 : ¬ j < 0) (hjz : j < z) (hj : j.toNatClampNeg = i) (hi : i < vs.length) (hw : nar .byte x = w) {vs' : List Value} (hvs : vs.set i (.int w) = vs') (hsf : Sf h a) (hge : n0 ≤ a) (hp : pc + 1 = pc')
    (q : ∀ T' h' L', WP p l e R s m args below meth c Z own mname bytes maxL ret n0 Inv Sf T' h' L' cells slots → Keep h h' [a] → Arv Z h' a k .byte z vs' d → Run p.tables e below P T' (mkF m pc' Ls st)) : Run p.tables e below P T (mkF m pc Ls (.int x :: .int j :: .ref a :: st)) := by
  subst hp hw hvs
  obtain ⟨cl, A, q1, S, N, H, G⟩ := A
  obtain ⟨T', h', X', e', W, kk⟩ := Jvm.RoadKit.stB X.1 X.hx X.hZ X.eT A (j := j) (inb_of S ⟨hj0, hjz⟩) (g := mkF m pc Ls (.int x :: .int j :: .ref a :: st)) rfl rfl (hb X.hby hd)
  have K := Keep.of_wr W
  exact Run.of kk (q T' h' _ (X.mv X' e' K (allS ⟨hsf, hge⟩ all0) (X.fr.app (fr1 hge))) K (Arv.set A q1 S N H G (fits_nar_byte _) W i hj hi))
theorem k_iastore (X : WP p l e R s m args below meth c Z own mname bytes maxL ret n0 Inv Sf T h locs cells slots) {a : Addr} {k : ClassId} {z j x w : Int32} {vs : List Value} {d : Value} (i : Nat) (hd : decode bytes pc = .ok (.iastore, 1)) (A : Arv Z h a k .int z vs d) (hj0 : ¬ j < 0) (hjz : j < z) (hj : j.toNatClampNeg = i) (hi : i < vs.length) (hw : x = w) {vs' : List Value} (hvs : vs.set i (.int w) = vs') (hsf : Sf h a) (hge : n0 ≤ a) (hp : pc + 1 = pc')
    (q : ∀ T' h' L', WP p l e R s m args below meth c Z own mname bytes maxL ret n0 Inv Sf T' h' L' cells slots → Keep h h' [a] → Arv Z h' a k .int z vs' d → Run p.tables e below P T' (mkF m pc' Ls st)) : Run p.tables e below P T (mkF m pc Ls (.int x :: .int j :: .ref a :: st)) := by
  subst hp hw hvs
  obtain ⟨cl, A, q1, S, N, H, G⟩ := A
  obtain ⟨T', h', X', e', W, kk⟩ := Jvm.RoadKit.stI X.1 X.hx X.hZ X.eT A (j := j) (inb_of S ⟨hj0, hjz⟩) (g := mkF m pc Ls (.int x :: .int j :: .ref a :: st)) rfl rfl (hb X.hby hd)
  have K := Keep.of_wr W
  exact Run.of kk (q T' h' _ (X.mv X' e' K (allS ⟨hsf, hge⟩ all0) (X.fr.app (fr1 hge))) K (Arv.set A q1 S N H G rfl W i hj hi))
theorem k_caload (X : WP p l e R s m args below meth c Z own mname bytes maxL ret n0 Inv Sf T h locs cells slots) {a : Addr} {k : ClassId} {z j : Int32} {vs : List Value} {d v : Value} (hd : decode bytes pc = .ok (.caload, 1)) (A : Arv Z h a k .char z vs d) (hj0 : ¬ j < 0) (hjz : j < z) (hv : vs.getD j.toNatClampNeg d = v) (hp : pc + 1 = pc') (q : Run p.tables e below P T (mkF m pc' Ls (v :: st))) : Run p.tables e below P T (mkF m pc Ls (.int j :: .ref a :: st)) := by
  subst hp
  obtain ⟨cl, A, q1, S, N, H, G⟩ := A
  exact Run.of (X.1.caload X.hx (j := j) (v := v) (by rw [X.eT]; exact A.1) (State.isArrayOf_alike X.hZ.alike A.2.1) A.2.2 (inb_of S ⟨hj0, hjz⟩) (H.at (inb_of S ⟨hj0, hjz⟩) hv) (g := mkF m pc Ls (.int j :: .ref a :: st)) rfl rfl (hb X.hby hd)) q
theorem k_baload (X : WP p l e R s m args below meth c Z own mname bytes maxL ret n0 Inv Sf T h locs cells slots) {a : Addr} {k : ClassId} {z j : Int32} {vs : List Value} {d v : Value} (hd : decode bytes pc = .ok (.baload, 1)) (A : Arv Z h a k .byte z vs d) (hj0 : ¬ j < 0) (hjz : j < z) (hv : vs.getD j.toNatClampNeg d = v) (hp : pc + 1 = pc') (q : Run p.tables e below P T (mkF m pc' Ls (v :: st))) : Run p.tables e below P T (mkF m pc Ls (.int j :: .ref a :: st)) := by
  subst hp
  obtain ⟨cl, A, q1, S, N, H, G⟩ := A
  exact Run.of (X.1.baloadBytes X.hx (j := j) (v := v) (by rw [X.eT]; exact A.1) (State.isArrayOf_alike X.hZ.alike A.2.1) A.2.2 (inb_of S ⟨hj0, hjz⟩) (H.at (inb_of S ⟨hj0, hjz⟩) hv) (g := mkF m pc Ls (.int j :: .ref a :: st)) rfl rfl (hb X.hby hd)) q
theorem k_iaload (X : WP p l e R s m args below meth c Z own mname bytes maxL ret n0 Inv Sf T h locs cells slots) {a : Addr} {k : ClassId} {z j : Int32} {vs : List Value} {d v : Value} (hd : decode bytes pc = .ok (.iaload, 1)) (A : Arv Z h a k .int z vs d) (hj0 : ¬ j < 0) (hjz : j < z) (hv : vs.getD j.toNatClampNeg d = v) (hp : pc + 1 = pc') (q : Run p.tables e below P T (mkF m pc' Ls (v :: st))) : Run p.tables e below P T (mkF m pc Ls (.int j :: .ref a :: st)) := by
  subst hp
  obtain ⟨cl, A, q1, S, N, H, G⟩ := A
  exact Run.of (X.1.iaload X.hx (j := j) (v := v) (by rw [X.eT]; exact A.1) (State.isArrayOf_alike X.hZ.alike A.2.1) A.2.2 (inb_of S ⟨hj0, hjz⟩) (H.at (inb_of S ⟨hj0, hjz⟩) hv) (g := mkF m pc Ls (.int j :: .ref a :: st)) rfl rfl (hb X.hby hd)) q
theorem k_aaload (X : WP p l e R s m args below meth c Z own mname bytes maxL ret n0 Inv Sf T h locs cells slots) {a : Addr} {k : ClassId} {z j : Int32} {vs : List Value} {d v : Value} {ty : FieldType} (hd : decode bytes pc = .ok (.aaload, 1)) (A : Arv Z h a k ty z vs d) (hr : ty.isReference = true) (hj0 : ¬ j < 0) (hjz : j < z) (hv : vs.getD j.toNatClampNeg d = v) (hp : pc + 1 = pc') (q : Run p.tables e below P T (mkF m pc' Ls (v :: st))) : Run p.tables e below P T (mkF m pc Ls (.int j :: .ref a :: st)) := by
  subst hp
  obtain ⟨cl, A, q1, S, N, H, G⟩ := A
  exact Run.of (X.1.aaload X.hx (j := j) (v := v) (by rw [X.eT]; exact A.1) (State.isArrayOf_alike X.hZ.alike A.2.1) hr A.2.2 (inb_of S ⟨hj0, hjz⟩) (H.at (inb_of S ⟨hj0, hjz⟩) hv) (g := mkF m pc Ls (.int j :: .ref a :: st)) rfl rfl (hb X.hby hd)) q
theorem k_castNull (X : WP p l e R s m args below meth c Z own mname bytes maxL ret n0 Inv Sf T h locs cells slots) {index : Nat} (hd : decode bytes pc = .ok (.checkcast index, 3)) (hp : pc + 3 = pc') (q : Run p.tables e below P T (mkF m pc' Ls (.null :: st))) : Run p.tables e below P T (mkF m pc Ls (.null :: st)) := by
  subst hp; exact Run.of (X.1.checkcastNull X.hx (g := mkF m pc Ls (.null :: st)) rfl rfl (hb X.hby hd)) q
theorem k_ldcI (X : WP p l e R s m args below meth c Z own mname bytes maxL ret n0 Inv Sf T h locs cells slots) {index : Nat} {v : Int32} (hd : decode bytes pc = .ok (.ldc index, 2)) (w : (Cond.constant own index v).before a0 Z = true) (hp : pc + 2 = pc') (q : Run p.tables e below P T (mkF m pc' Ls (.int v :: st))) : Run p.tables e below P T (mkF m pc Ls st) := by
  subst hp; exact Run.of (X.1.ldcInt X.hx X.hown (mvT X.hZ w) (g := mkF m pc Ls st) rfl (hb X.hby hd)) q
/-- the contract of a body that interns nothing -/
def MetF (l : Launch) (tw : List Jvm.Cond) (Z : State) (n0 : Nat) (y : MethodName) (bytes : ByteArray) (maxL : Nat) (ret : Option FieldType) (rm : Room) (as' : Array Value) (h : Heap) (ws : List Addr) (Q : Option Value → Heap → Prop) : Prop :=
  MetFree l y (head1 (Jvm.Cond.code y bytes maxL ret :: tw) rm) (fun a U => a = as' ∧ Z.Warmed39 U.vm ∧ U.heap = h) (fun _ _ _ _ _ => True) (fun _ U o U' => ∃ v L, o = .returned v ∧ ((Keep h U'.heap ws ∧ Q v U'.heap) ∧ Fr n0 L) ∧ FrameEnd U o U' L rm.cells rm.slots)
/-- its end -/
def PF (s : State) (below : List Frame) (n0 : Nat) (h0 : Heap) (ws : List Addr) (Q : Option Value → Heap → Prop) (k n : Nat) (t : State) : Prop := ∃ o, t.status = .running ∧ Ended t below o ∧ ∃ v L, o = .returned v ∧ ((Keep h0 t.heap ws ∧ Q v t.heap) ∧ Fr n0 L) ∧ FrameEnd s o t L k n
theorem clF (Z : State) : Cl Z (fun _ => True) (fun _ _ => True) := ⟨fun _ _ _ _ _ _ => ⟨trivial, fun _ _ => trivial⟩, fun _ _ _ => trivial, fun _ _ _ _ _ _ => trivial, fun _ _ _ _ _ _ => trivial⟩
theorem MetF.mono {l : Launch} {tw : List Jvm.Cond} {Z : State} {n0 : Nat} {y : MethodName} {bytes : ByteArray} {maxL : Nat} {ret : Option FieldType} {rm : Room} {as' : Array Value} {h : Heap} {ws : List Addr} {Q Q' : Option Value → Heap → Prop} (hM : MetF l tw Z n0 y bytes maxL ret rm as' h ws Q) (hq : ∀ r h', Q r h' → Q' r h') : MetF l tw Z n0 y bytes maxL ret rm as' h ws Q' := by
  intro p e ha hc hk s m args below hf happ hP hK
  obtain ⟨n, o, r1, r2, r3, v, L, e1, ⟨⟨K, q⟩, N⟩, r4⟩ := hM p e ha hc hk s m args below hf happ hP hK
  exact ⟨n, o, r1, r2, r3, v, L, e1, ⟨⟨K, hq _ _ q⟩, N⟩, r4⟩
theorem metF {y : MethodName} {bytes : ByteArray} {maxL : Nat} {ret : Option FieldType} {rm : Room} {as' : Array Value} {ws : List Addr} {Q : Option Value → Heap → Prop} {tw : List Jvm.Cond} (hpl : plainFor y = true) (Z0 : Old Z n0 h) {Ls : Array Slot} (hef : ∀ m, entryFrame m as' maxL = mkF m 0 Ls [])
    (body : ∀ p e s m below meth c T, WP p l e rm s m as' below meth c Z y.cls y.name bytes maxL ret n0 (fun _ => True) (fun _ _ => True) T h [] 0 0 → Run p.tables e below (PF s below n0 h ws Q rm.cells rm.slots) T (mkF m 0 Ls [])) : MetF l tw Z n0 y bytes maxL ret rm as' h ws Q := by
  refine MetFree.of_bodySF hpl hisR ?_
  intro p e s m args below meth c s₁ Bd hml0 hP hK
  obtain ⟨rfl, hZ, hh⟩ := hP
  have e0 : s₁.heap = h := by rw [← hh, Bd.state]; rfl
  obtain ⟨t, hs, o, hr, he, hq⟩ := body p e s m below meth c s₁ ⟨Stand.of_body Bd, e0, hZ, findClass_of_methodNamed Bd.named, Fr.nil n0, Z0, trivial, ⟨Bd.exec, Bd.bytes, hml0, Bd.returns, BodyLoose.notSynchronized Bd, (name_of_methodNamed Bd.named Bd.method).1⟩, clF Z⟩
  rw [← hef] at hs
  exact ⟨t, o, hs, hr, he, hq⟩

theorem k_retFI (X : WP p l e R s m args below meth c Z own mname bytes maxL ret n0 Inv Sf T h locs cells slots) {z : Int32} {ws : List Addr} {Q : Option Value → Heap → Prop} {k n : Nat} {h0 : Heap} (hd : decode bytes pc = .ok (.ireturn, 1)) (hr : ret = some .int) (K : Keep h0 h ws) (hQ : Q (some (.int z)) h) (hk : cells ≤ k) (hs : slots ≤ n) : Run p.tables e below (PF s below n0 h0 ws Q k n) T (mkF m pc Ls (.int z :: st)) := by
  have hlk := X.hlk
  obtain ⟨fs, hl, hrun, hended, hW, hsame⟩ := X.1.leave (v := some (.int z)) (fun q => by rw [X.hret, hr] at q; cases q)
  refine ⟨_, Jvm.RoadKit.retI X.1 X.hx (X.hret.trans hr) (hb X.hby hd) hl, _, hrun, hended, _, _, rfl, ⟨⟨?_, ?_⟩, X.fr⟩, ⟨_, rfl⟩, hW, hsame.mono hk hs⟩
  · show Keep h0 T.heap ws; rw [X.eT]; exact K
  · show Q _ T.heap; rw [X.eT]; exact hQ
theorem k_retFN (X : WP p l e R s m args below meth c Z own mname bytes maxL ret n0 Inv Sf T h locs cells slots) {z w : Int32} {ws : List Addr} {Q : Option Value → Heap → Prop} {k n : Nat} {h0 : Heap} (hd : decode bytes pc = .ok (.ireturn, 1)) {t : FieldType} (hr : ret = some t) (ht : t = .boolean ∨ t = .byte ∨ t = .char ∨ t = .short) (hnz : nar t z = w) (K : Keep h0 h ws) (hQ : Q (some (.int w)) h) (hk : cells ≤ k) (hs : slots ≤ n) : Run p.tables e below (PF s below n0 h0 ws Q k n) T (mkF m pc Ls (.int z :: st)) := by
  have hlk := X.hlk
  obtain ⟨fs, hl, hrun, hended, hW, hsame⟩ := X.1.leave (v := some (.int w)) (fun q => by rw [X.hret, hr] at q; cases q)
  refine ⟨_, Jvm.RoadKit.retN X.1 X.hx (X.hret.trans hr) ht (hb X.hby hd) (by rw [hnz]; exact hl), _, hrun, hended, _, _, rfl, ⟨⟨?_, ?_⟩, X.fr⟩, ⟨_, rfl⟩, hW, hsame.mono hk hs⟩
  · show Keep h0 T.heap ws; rw [X.eT]; exact K
  · show Q _ T.heap; rw [X.eT]; exact hQ
theorem k_retFA (X : WP p l e R s m args below meth c Z own mname bytes maxL ret n0 Inv Sf T h locs cells slots) {v : Value} {ws : List Addr} {Q : Option Value → Heap → Prop} {k n : Nat} {h0 : Heap} (hd : decode bytes pc = .ok (.areturn, 1)) {t : FieldType} (hr : ret = some t) (hn : narrow t v = v) (ht : t.isReference = true) (hv : v.isRef = true) (K : Keep h0 h ws) (hQ : Q (some (v)) h) (hk : cells ≤ k) (hs : slots ≤ n) : Run p.tables e below (PF s below n0 h0 ws Q k n) T (mkF m pc Ls (v :: st)) := by
  have hlk := X.hlk
  obtain ⟨fs, hl, hrun, hended, hW, hsame⟩ := X.1.leave (v := some (v)) (fun q => by rw [X.hret, hr] at q; cases q)
  refine ⟨_, Jvm.RoadKit.retOut X.1 X.hx (X.hret.trans hr) hn (Or.inr (Or.inr (Or.inr (Or.inr ⟨rfl, ht, hv⟩)))) (hb X.hby hd) hl, _, hrun, hended, _, _, rfl, ⟨⟨?_, ?_⟩, X.fr⟩, ⟨_, rfl⟩, hW, hsame.mono hk hs⟩
  · show Keep h0 T.heap ws; rw [X.eT]; exact K
  · show Q _ T.heap; rw [X.eT]; exact hQ
theorem k_retFV (X : WP p l e R s m args below meth c Z own mname bytes maxL ret n0 Inv Sf T h locs cells slots) {ws : List Addr} {Q : Option Value → Heap → Prop} {k n : Nat} {h0 : Heap} (hd : decode bytes pc = .ok (.return_, 1)) (hr : ret = none) (K : Keep h0 h ws) (hQ : Q none h) (hk : cells ≤ k) (hs : slots ≤ n) : Run p.tables e below (PF s below n0 h0 ws Q k n) T (mkF m pc Ls []) := by
  have hlk := X.hlk
  obtain ⟨fs, hl, hrun, hended, hW, hsame⟩ := X.1.leave (v := none) (fun _ => rfl)
  refine ⟨_, X.1.returnOut X.hx (X.hret.trans hr) (hb X.hby hd) hl, _, hrun, hended, _, _, rfl, ⟨⟨?_, ?_⟩, X.fr⟩, ⟨_, rfl⟩, hW, hsame.mono hk hs⟩
  · show Keep h0 T.heap ws; rw [X.eT]; exact K
  · show Q _ T.heap; rw [X.eT]; exact hQ
/-- what an interning walk keeps up: the literals of EL say their text -/
def InvH (Z : State) (a0 : Array Value) (EL : List (String × Nat)) (s0 : State) (v : Vm) (h : Heap) : Prop := EW Z a0 EL ∧ Z.Warmed39 v ∧ (∃ k0, s0.Since v k0 ∧ k0 ≤ h.size) ∧ CHr Z EL s0.vm s0.heap v h
theorem clH {EL : List (String × Nat)} {s0 : State} {v : Vm} (hal : Z.vm.Alike v) : Cl Z (InvH Z a0 EL s0 v) (Safe Z EL v) :=
  ⟨fun h h' ws K hs I => ⟨⟨I.1, I.2.1, by obtain ⟨k0, a, b⟩ := I.2.2.1; exact ⟨k0, a, Nat.le_trans b K.1⟩, I.2.2.2.trans (CHr.keep K hs I.2.2.2.1)⟩, fun x q => Safe.keep K hs I.2.2.2.1 q⟩, fun h x q => Safe.new q, fun h x C E h1 h2 => Safe.exa hal E h1 h2, fun h x c ty A ht => Safe.arr hal A ht⟩
/-- the contract of a body that may load literals -/
def MetH (l : Launch) (tw : List Jvm.Cond) (Z : State) (EL : List (String × Nat)) (n0 : Nat) (y : MethodName) (bytes : ByteArray) (maxL : Nat) (ret : Option FieldType) (rm : Room) (as' : Array Value) (h : Heap) (ws : List Addr) (Q : Option Value → Vm → Heap → Prop) : Prop :=
  MetFree l y (head1 (Jvm.Cond.code y bytes maxL ret :: tw) rm) (fun a U => a = as' ∧ Z.Warmed39 U.vm ∧ U.heap = h ∧ CHv Z EL U.vm h ∧ ∀ x ∈ ws, Safe Z EL U.vm h x) (fun _ _ _ _ _ => True)
    (fun _ U o U' => ∃ v L, o = .returned v ∧ ((Keep h U'.heap ws ∧ Q v U'.vm U'.heap) ∧ Fr n0 L) ∧ CHr Z EL U.vm U.heap U'.vm U'.heap ∧ ReturnedEndW U o U' L rm.cells rm.slots)
def PH (Z : State) (EL : List (String × Nat)) (s : State) (below : List Frame) (n0 : Nat) (h0 : Heap) (ws : List Addr) (Q : Option Value → Vm → Heap → Prop) (k n : Nat) (t : State) : Prop := ∃ o, t.status = .running ∧ Ended t below o ∧ ∃ v L, o = .returned v ∧ ((Keep h0 t.heap ws ∧ Q v t.vm t.heap) ∧ Fr n0 L) ∧ CHr Z EL s.vm s.heap t.vm t.heap ∧ ReturnedEndW s o t L k n
theorem metH {EL : List (String × Nat)} {y : MethodName} {bytes : ByteArray} {maxL : Nat} {ret : Option FieldType} {rm : Room} {as' : Array Value} {ws : List Addr} {Q : Option Value → Vm → Heap → Prop} {tw : List Jvm.Cond} (hEL : EW Z a0 EL) (hpl : plainFor y = true) (Z0 : Old Z n0 h) {Ls : Array Slot} (hef : ∀ m, entryFrame m as' maxL = mkF m 0 Ls [])
    (body : ∀ p e s m below meth c T v, WP p l e rm (s.setVm v) m as' below meth c Z y.cls y.name bytes maxL ret n0 (InvH Z a0 EL s v) (Safe Z EL v) T h [] 0 0 → (∀ x ∈ ws, Safe Z EL v h x) → Run p.tables e below (PH Z EL s below n0 h ws Q rm.cells rm.slots) T (mkF m 0 Ls [])) : MetH l tw Z EL n0 y bytes maxL ret rm as' h ws Q := by
  refine MetFree.of_bodySF hpl hisR ?_
  intro p e s m args below meth c s₁ Bd hml0 hP hK
  obtain ⟨rfl, hZ, hh, hC, hS⟩ := hP
  have e0 : s₁.heap = h := by rw [← hh, Bd.state]; rfl
  have I : InvH Z a0 EL s s.vm h := ⟨hEL, hZ, ⟨s.heap.size, (State.WarmedH.refl s).since _, by rw [hh]; exact Nat.le_refl _⟩, by rw [hh]; exact CHr.refl hC⟩
  obtain ⟨t, hs, o, hr, he, hq⟩ := body p e s m below meth c s₁ s.vm ⟨Stand.of_body Bd, e0, hZ, findClass_of_methodNamed Bd.named, Fr.nil n0, Z0, I, ⟨Bd.exec, Bd.bytes, hml0, Bd.returns, BodyLoose.notSynchronized Bd, (name_of_methodNamed Bd.named Bd.method).1⟩, clH hZ.alike⟩ hS
  rw [← hef] at hs
  exact ⟨t, o, hs, hr, he, hq⟩

theorem k_retHI {EL : List (String × Nat)} {v : Vm} (X : WP p l e R (s.setVm v) m args below meth c Z own mname bytes maxL ret n0 (InvH Z a0 EL s v) (Safe Z EL v) T h locs cells slots) {z : Int32} {ws : List Addr} {Q : Option Value → Vm → Heap → Prop} {k n : Nat} {h0 : Heap} (hd : decode bytes pc = .ok (.ireturn, 1)) (hr : ret = some .int) (K : Keep h0 h ws) (hQ : ∀ v', CHr Z EL v h v' h → Q (some (.int z)) v' h) (hk : cells ≤ k) (hs : slots ≤ n) : Run p.tables e below (PH Z EL s below n0 h0 ws Q k n) T (mkF m pc Ls (.int z :: st)) := by
  have hlk := X.hlk
  obtain ⟨hEL, hWv, ⟨k0, hS, hk0⟩, hC⟩ := X.inv
  obtain ⟨fs, hl, hrun, hended, hRW⟩ := X.1.leaveW hS (by rw [X.eT]; exact hk0) (v := some (.int z)) (fun q => by rw [X.hret, hr] at q; cases q)
  have hC' : CHr Z EL v h T.vm h := CHv.at X.1 hWv hEL hC.1
  refine ⟨_, Jvm.RoadKit.retI X.1 X.hx (X.hret.trans hr) (hb X.hby hd) hl, _, hrun, hended, _, _, rfl, ⟨⟨?_, ?_⟩, X.fr⟩, ?_, hRW.1, hRW.2.1, hRW.2.2.1, hRW.2.2.2.mono hk hs⟩
  · show Keep h0 T.heap ws; rw [X.eT]; exact K
  · show Q _ T.vm T.heap; rw [X.eT]; exact hQ _ hC'
  · show CHr Z EL s.vm s.heap T.vm T.heap; rw [X.eT]; exact hC.trans hC'
theorem k_retHN {EL : List (String × Nat)} {v : Vm} (X : WP p l e R (s.setVm v) m args below meth c Z own mname bytes maxL ret n0 (InvH Z a0 EL s v) (Safe Z EL v) T h locs cells slots) {z w : Int32} {ws : List Addr} {Q : Option Value → Vm → Heap → Prop} {k n : Nat} {h0 : Heap} (hd : decode bytes pc = .ok (.ireturn, 1)) {t : FieldType} (hr : ret = some t) (ht : t = .boolean ∨ t = .byte ∨ t = .char ∨ t = .short) (hnz : nar t z = w) (K : Keep h0 h ws) (hQ : ∀ v', CHr Z EL v h v' h → Q (some (.int w)) v' h) (hk : cells ≤ k) (hs : slots ≤ n) : Run p.tables e below (PH Z EL s below n0 h0 ws Q k n) T (mkF m pc Ls (.int z :: st)) := by
  have hlk := X.hlk
  obtain ⟨hEL, hWv, ⟨k0, hS, hk0⟩, hC⟩ := X.inv
  obtain ⟨fs, hl, hrun, hended, hRW⟩ := X.1.leaveW hS (by rw [X.eT]; exact hk0) (v := some (.int w)) (fun q => by rw [X.hret, hr] at q; cases q)
  have hC' : CHr Z EL v h T.vm h := CHv.at X.1 hWv hEL hC.1
  refine ⟨_, Jvm.RoadKit.retN X.1 X.hx (X.hret.trans hr) ht (hb X.hby hd) (by rw [hnz]; exact hl), _, hrun, hended, _, _, rfl, ⟨⟨?_, ?_⟩, X.fr⟩, ?_, hRW.1, hRW.2.1, hRW.2.2.1, hRW.2.2.2.mono hk hs⟩
  · show Keep h0 T.heap ws; rw [X.eT]; exact K
  · show Q _ T.vm T.heap; rw [X.eT]; exact hQ _ hC'
  · show CHr Z EL s.vm s.heap T.vm T.heap; rw [X.eT]; exact hC.trans hC'
theorem k_retHA {EL : List (String × Nat)} {v : Vm} (X : WP p l e R (s.setVm v) m args below meth c Z own mname bytes maxL ret n0 (InvH Z a0 EL s v) (Safe Z EL v) T h locs cells slots) {x : Value} {ws : List Addr} {Q : Option Value → Vm → Heap → Prop} {k n : Nat} {h0 : Heap} (hd : decode bytes pc = .ok (.areturn, 1)) {t : FieldType} (hr : ret = some t) (hn : narrow t x = x) (ht : t.isReference = true) (hv : x.isRef = true) (K : Keep h0 h ws) (hQ : ∀ v', CHr Z EL v h v' h → Q (some (x)) v' h) (hk : cells ≤ k) (hs : slots ≤ n) : Run p.tables e below (PH Z EL s below n0 h0 ws Q k n) T (mkF m pc Ls (x :: st)) := by
  have hlk := X.hlk
  obtain ⟨hEL, hWv, ⟨k0, hS, hk0⟩, hC⟩ := X.inv
  obtain ⟨fs, hl, hrun, hended, hRW⟩ := X.1.leaveW hS (by rw [X.eT]; exact hk0) (v := some (x)) (fun q => by rw [X.hret, hr] at q; cases q)
  have hC' : CHr Z EL v h T.vm h := CHv.at X.1 hWv hEL hC.1
  refine ⟨_, Jvm.RoadKit.retOut X.1 X.hx (X.hret.trans hr) hn (Or.inr (Or.inr (Or.inr (Or.inr ⟨rfl, ht, hv⟩)))) (hb X.hby hd) hl, _, hrun, hended, _, _, rfl, ⟨⟨?_, ?_⟩, X.fr⟩, ?_, hRW.1, hRW.2.1, hRW.2.2.1, hRW.2.2.2.mono hk hs⟩
  · show Keep h0 T.heap ws; rw [X.eT]; exact K
  · show Q _ T.vm T.heap; rw [X.eT]; exact hQ _ hC'
  · show CHr Z EL s.vm s.heap T.vm T.heap; rw [X.eT]; exact hC.trans hC'
theorem k_retHV {EL : List (String × Nat)} {v : Vm} (X : WP p l e R (s.setVm v) m args below meth c Z own mname bytes maxL ret n0 (InvH Z a0 EL s v) (Safe Z EL v) T h locs cells slots) {ws : List Addr} {Q : Option Value → Vm → Heap → Prop} {k n : Nat} {h0 : Heap} (hd : decode bytes pc = .ok (.return_, 1)) (hr : ret = none) (K : Keep h0 h ws) (hQ : ∀ v', CHr Z EL v h v' h → Q none v' h) (hk : cells ≤ k) (hs : slots ≤ n) : Run p.tables e below (PH Z EL s below n0 h0 ws Q k n) T (mkF m pc Ls []) := by
  have hlk := X.hlk
  obtain ⟨hEL, hWv, ⟨k0, hS, hk0⟩, hC⟩ := X.inv
  obtain ⟨fs, hl, hrun, hended, hRW⟩ := X.1.leaveW hS (by rw [X.eT]; exact hk0) (v := none) (fun _ => rfl)
  have hC' : CHr Z EL v h T.vm h := CHv.at X.1 hWv hEL hC.1
  refine ⟨_, X.1.returnOut X.hx (X.hret.trans hr) (hb X.hby hd) hl, _, hrun, hended, _, _, rfl, ⟨⟨?_, ?_⟩, X.fr⟩, ?_, hRW.1, hRW.2.1, hRW.2.2.1, hRW.2.2.2.mono hk hs⟩
  · show Keep h0 T.heap ws; rw [X.eT]; exact K
  · show Q _ T.vm T.heap; rw [X.eT]; exact hQ _ hC'
  · show CHr Z EL s.vm s.heap T.vm T.heap; rw [X.eT]; exact hC.trans hC'
theorem WP.reH {EL : List (String × Nat)} {v : Vm} (X : WP p l e R (s.setVm v) m args below meth c Z own mname bytes maxL ret n0 (InvH Z a0 EL s v) (Safe Z EL v) T h locs cells slots) {v' : Vm} {T' : State} {h' : Heap} {locs' : List Loc} {cells' slots' : Nat} (X' : Stand p l e R (s.setVm v') m args below meth c T' locs' cells' slots') (e' : T'.heap = h') {ws : List Addr} (K : Keep h h' ws) {k1 : Nat} (hS : s.Since v' k1) (hk : k1 ≤ h'.size) (hW : Z.Warmed39 v') (ho : v'.findClass own = some m.cls) (hC : CHr Z EL v h v' h') (hge : ∀ x ∈ ws, n0 ≤ x) (N : Fr n0 locs') : WP p l e R (s.setVm v') m args below meth c Z own mname bytes maxL ret n0 (InvH Z a0 EL s v') (Safe Z EL v') T' h' locs' cells' slots' :=
  ⟨X', e', hW, ho, N, X.old.keep K hge, ⟨X.inv.1, hW, ⟨k1, hS, hk⟩, X.inv.2.2.2.trans hC⟩, X.2.2.2.2.2.2.2.1, clH hW.alike⟩
theorem k_ldcO {EL : List (String × Nat)} {v : Vm} (X : WP p l e R (s.setVm v) m args below meth c Z own mname bytes maxL ret n0 (InvH Z a0 EL s v) (Safe Z EL v) T h locs cells slots) {text : String} {index n : Nat} (hd : decode bytes pc = .ok (.ldc index, 2)) (w : (Cond.stringLink own index text).before a0 Z = true) (wS : ∀ a ∈ Bundle.stringAtoms, a.before a0 Z = true) (hn : 4 * text.toList.length ≤ n) (hbig : n ≤ 536870912) (hc : cells + 2 ≤ R.cells) (hl : slots + (n + 4) ≤ R.slots) (hp : pc + 2 = pc')
    (q : ∀ a v' T' h', WP p l e R (s.setVm v') m args below meth c Z own mname bytes maxL ret n0 (InvH Z a0 EL s v') (Safe Z EL v') T' h' locs (cells + 2) (slots + (n + 4)) → Keep h h' [] → CHr Z EL v h v' h' → Run p.tables e below P T' (mkF m pc' Ls (.ref a :: st))) : Run p.tables e below P T (mkF m pc Ls st) := by
  subst hp
  obtain ⟨hEL, hWv, ⟨k0, hS, hk0⟩, hC⟩ := X.inv
  obtain ⟨a, T', h', k1, X', e', E, hS', hk1, hZ', ho', hC', -, k⟩ := ldcOH X.1 X.hx hWv X.hown w wS X.eT hS hk0 hEL hC.1 (g := mkF m pc Ls st) rfl (hb X.hby hd) hn hbig hc hl
  have K := ext_keep E
  exact Run.of k (q a T'.vm T' h' (X.reH X' e' K hS' hk1 hZ' ho' hC' (fun _ q => nomatch q) X.fr) K hC')
theorem k_ldcR {EL : List (String × Nat)} {v : Vm} (X : WP p l e R (s.setVm v) m args below meth c Z own mname bytes maxL ret n0 (InvH Z a0 EL s v) (Safe Z EL v) T h locs cells slots) {text : String} {index n : Nat} (hd : decode bytes pc = .ok (.ldc index, 2)) (w : (Cond.stringLink own index text).before a0 Z = true) (wS : ∀ a ∈ Bundle.stringAtoms, a.before a0 Z = true) (hmem : (own, index) ∈ EL) {vs : List Value} {z : Int32} (ht : (∀ c ∈ text.toList, c.toNat < 256) ∧ text.toList.map (fun c => Value.int (Jvm.Lit.byteI c.toNat.toUInt16)) = vs) (hz : ¬ z < 0) (hlv : z.toNatClampNeg = vs.length)
    (hn : 4 * text.toList.length ≤ n) (hbig : n ≤ 536870912) (hc : cells + 2 ≤ R.cells) (hl : slots + (n + 4) ≤ R.slots) (hp : pc + 2 = pc')
    (q : ∀ a b kb v' T' h', WP p l e R (s.setVm v') m args below meth c Z own mname bytes maxL ret n0 (InvH Z a0 EL s v') (Safe Z EL v') T' h' locs (cells + 2) (slots + (n + 4)) → Keep h h' [] → CHr Z EL v h v' h' → Exa Z h' a "java/lang/String" → Fld Z h' a "java/lang/String" "coder" "B" (.int 0) → Fld Z h' a "java/lang/String" "value" "[B" (.ref b) → Arv Z h' b kb .byte z vs (.int 0) → (∀ x, Safe Z EL v' h' x → x ≠ a ∧ x ≠ b) → Run p.tables e below P T' (mkF m pc' Ls (.ref a :: st))) : Run p.tables e below P T (mkF m pc Ls st) := by
  subst hp
  obtain ⟨hEL, hWv, ⟨k0, hS, hk0⟩, hC⟩ := X.inv
  obtain ⟨a, T', h', k1, b, kb, X', e', E, hS', hk1, hZ', ho', A, F1, F2, V, -, -, hC', -, hne, k⟩ := ldcCH X.1 X.hx hWv X.hown w wS X.eT hS hk0 hEL hmem hC.1 ht hz hlv (g := mkF m pc Ls st) rfl (hb X.hby hd) hn hbig hc hl
  have K := ext_keep E
  exact Run.of k (q a b kb T'.vm T' h' (X.reH X' e' K hS' hk1 hZ' ho' hC' (fun _ q => nomatch q) X.fr) K hC' A F1 F2 V hne)
theorem backH {EL : List (String × Nat)} {v : Vm} {y : MethodName} {bytes : ByteArray} {maxL : Nat} {ret : Option FieldType} {rm : Room} {len W : Nat} {as' : Array Value} {ws : List Addr} {Q : Option Value → Vm → Heap → Prop}
    (hM : MetH l [] Z EL n0 y bytes maxL ret rm as' h ws Q) (hZ : Z.Warmed39 v) (wc : (Cond.code y bytes maxL ret).before a0 Z = true) (wz : (Cond.initialized y.cls).before a0 Z = true) (hf : rm.frames + 1 ≤ R.frames) (hl : W + (maxL + 11) + rm.locals ≤ R.locals) (hEL : EW Z a0 EL) (H : CHv Z EL v h) (hs : ∀ x ∈ ws, x < h.size ∧ Safe Z EL v h x) :
    BackS l R p e below (s.setVm v) args y len W (fun A a => a = as' ∧ A.U.heap = h ∧ A.cells + rm.cells ≤ R.cells ∧ A.slots + rm.slots ≤ R.slots)
      (fun A _ r B => ∃ L, ((Keep h B.U.heap ws ∧ Q r B.U.vm B.U.heap) ∧ Fr n0 L) ∧ B.locs = A.locs ++ L ∧ B.cells = A.cells + rm.cells ∧ B.slots = A.slots + rm.slots ∧ CHr Z EL v h B.U.vm B.U.heap) :=
  BackS.of_freeW (bytes := bytes) (maxL := maxL) (ret := ret) (E := fun _ first o t L k n => k = rm.cells ∧ n = rm.slots ∧ (∃ r, o = .returned r ∧ ((Keep h t.heap ws ∧ Q r t.vm t.heap) ∧ Fr n0 L)) ∧ CHr Z EL first.vm first.heap t.vm t.heap) hM hf hl
    (fun m meth c A a Y hp => have hU : Z.Warmed39 A.U.vm := wtrans (s := s.setVm v) hZ Y.warmed
      ⟨by show (Cond.and _ .tt).before a A.U = true; rw [Cond.before_and, Jvm.RoadKit.mv hU wc]; rfl, Jvm.RoadKit.mv hU wc, Jvm.RoadKit.mv hU wz, hp.2.2.1, hp.2.2.2⟩)
    (fun m meth c A a g mk Y hp => ⟨hp.1, wtrans (s := s.setVm v) hZ Y.warmed, hp.2.1, (CHv.at Y hZ hEL H).1, fun x hx => (CHv.at Y hZ hEL H).safe (hs x hx).1 (hs x hx).2⟩) (fun _ _ _ _ _ _ _ _ _ => trivial)
    (fun _ _ _ _ ⟨r, L, h1, h2, h3, h4⟩ => ⟨L, _, _, h4, rfl, rfl, ⟨r, h1, h2⟩, h3⟩)
    (fun m meth c A a g mk r t L k n Y hp _ _ ⟨e1, e2, ⟨r', e3, e4⟩, e5⟩ => by
      cases e3; subst e1 e2
      refine ⟨L, e4, rfl, rfl, rfl, (CHv.at Y hZ hEL H).trans ?_⟩
      rw [← hp.2.1]; exact e5)
theorem k_callSVF (X : WP p l e R s m args below meth c Z own mname bytes maxL ret n0 Inv Sf T h locs cells slots) {y : MethodName} {index W : Nat} {bytes' : ByteArray} {maxL' : Nat} {ret' : Option FieldType} {rm : Room} {ws : List Addr} {Q : Value → Heap → Prop}  {argsL rest stk : List Value} {ps : List FieldType} {rt : Option FieldType} (hd : decode bytes pc = .ok (.invokestatic index, 3)) (w1 : (Cond.methodLink own index y).before a0 Z = true) (w2 : (Cond.static y).before a0 Z = true) (wz : (Cond.initialized y.cls).before a0 Z = true) (wc : (Cond.code y bytes' maxL' ret').before a0 Z = true) (hy : y.cls ≠ "java/lang/invoke/MethodHandle" ∧ y.cls ≠ "java/lang/invoke/VarHandle")  (hM : MetF l [] Z n0 y bytes' maxL' ret' rm argsL.toArray h ws (fun r h' => ∃ w, r = some w ∧ Q w h')) (hstk : stk = argsL.reverse ++ rest) (hpd : parseMethodDescriptor y.desc = some ⟨ps, rt⟩) (hlen : argsL.length = ps.length) (hsz : Ls.size = maxL) (hfr : rm.frames + 1 ≤ R.frames) (hW : (rest.map fun v => v.category).sum ≤ W) (hlo : W + (maxL' + 11) + rm.locals ≤ R.locals) (hc : cells + rm.cells ≤ R.cells) (hs : slots + rm.slots ≤ R.slots) (hsf : ∀ x ∈ ws, Sf h x ∧ n0 ≤ x) (hp : pc + 3 = pc')
    (q : ∀ w T' h' L', WP p l e R s m args below meth c Z own mname bytes maxL ret n0 Inv Sf T' h' L' (cells + rm.cells) (slots + rm.slots) → Keep h h' ws → Q w h' → Run p.tables e below P T' (mkF m pc' Ls (w :: rest))) : Run p.tables e below P T (mkF m pc Ls stk) := by
  subst hp
  have bk := backOf (R := R) (p := p) (e := e) (below := below) (args := args) (len := 3) (W := W) (Q := fun r h' L => (Keep h h' ws ∧ (fun r h' => ∃ w, r = some w ∧ Q w h') r h') ∧ Fr n0 L) hM X.hZ wc wz hfr hlo
  obtain ⟨r, _, ⟨T', L', k', n'⟩, -, X', ⟨Lc, hQ, l1, l2, l3⟩, kk⟩ := Jvm.LawKit.callS X.1 X.hx (y := y) X.hown (mvT X.hZ w1) (mvT X.hZ w2) (mvT X.hZ wz) (mvT X.hZ wc) hy bk (g := mkF m pc Ls stk) rfl (by rw [X.hml]; exact hsz) (argsL := argsL) (rest := rest) (lenOf hpd hlen) hstk (by show 2 * 0 + _ ≤ _; omega) (hb X.hby hd) (fun _ _ => ⟨rfl, X.eT, hc, hs⟩)
  dsimp only [Pt.U, Pt.locs, Pt.cells, Pt.slots] at X' l1 l2 l3 kk hQ
  subst l1 l2 l3
  obtain ⟨⟨K, w, rfl, hQ⟩, N⟩ := hQ
  exact Run.of kk (q _ _ _ _ (X.mv X' rfl K hsf (X.fr.app N)) K hQ)
theorem k_callSNF (X : WP p l e R s m args below meth c Z own mname bytes maxL ret n0 Inv Sf T h locs cells slots) {y : MethodName} {index W : Nat} {bytes' : ByteArray} {maxL' : Nat} {ret' : Option FieldType} {rm : Room} {ws : List Addr} {Q : Heap → Prop}  {argsL rest stk : List Value} {ps : List FieldType} {rt : Option FieldType} (hd : decode bytes pc = .ok (.invokestatic index, 3)) (w1 : (Cond.methodLink own index y).before a0 Z = true) (w2 : (Cond.static y).before a0 Z = true) (wz : (Cond.initialized y.cls).before a0 Z = true) (wc : (Cond.code y bytes' maxL' ret').before a0 Z = true) (hy : y.cls ≠ "java/lang/invoke/MethodHandle" ∧ y.cls ≠ "java/lang/invoke/VarHandle")  (hM : MetF l [] Z n0 y bytes' maxL' ret' rm argsL.toArray h ws (fun r h' => r = none ∧ Q h')) (hstk : stk = argsL.reverse ++ rest) (hpd : parseMethodDescriptor y.desc = some ⟨ps, rt⟩) (hlen : argsL.length = ps.length) (hsz : Ls.size = maxL) (hfr : rm.frames + 1 ≤ R.frames) (hW : (rest.map fun v => v.category).sum ≤ W) (hlo : W + (maxL' + 11) + rm.locals ≤ R.locals) (hc : cells + rm.cells ≤ R.cells) (hs : slots + rm.slots ≤ R.slots) (hsf : ∀ x ∈ ws, Sf h x ∧ n0 ≤ x) (hp : pc + 3 = pc')
    (q : ∀ T' h' L', WP p l e R s m args below meth c Z own mname bytes maxL ret n0 Inv Sf T' h' L' (cells + rm.cells) (slots + rm.slots) → Keep h h' ws → Q h' → Run p.tables e below P T' (mkF m pc' Ls (rest))) : Run p.tables e below P T (mkF m pc Ls stk) := by
  subst hp
  have bk := backOf (R := R) (p := p) (e := e) (below := below) (args := args) (len := 3) (W := W) (Q := fun r h' L => (Keep h h' ws ∧ (fun r h' => r = none ∧ Q h') r h') ∧ Fr n0 L) hM X.hZ wc wz hfr hlo
  obtain ⟨r, _, ⟨T', L', k', n'⟩, -, X', ⟨Lc, hQ, l1, l2, l3⟩, kk⟩ := Jvm.LawKit.callS X.1 X.hx (y := y) X.hown (mvT X.hZ w1) (mvT X.hZ w2) (mvT X.hZ wz) (mvT X.hZ wc) hy bk (g := mkF m pc Ls stk) rfl (by rw [X.hml]; exact hsz) (argsL := argsL) (rest := rest) (lenOf hpd hlen) hstk (by show 2 * 0 + _ ≤ _; omega) (hb X.hby hd) (fun _ _ => ⟨rfl, X.eT, hc, hs⟩)
  dsimp only [Pt.U, Pt.locs, Pt.cells, Pt.slots] at X' l1 l2 l3 kk hQ
  subst l1 l2 l3
  obtain ⟨⟨K, rfl, hQ⟩, N⟩ := hQ
  exact Run.of kk (q _ _ _ (X.mv X' rfl K hsf (X.fr.app N)) K hQ)
theorem k_callSVH {EL : List (String × Nat)} {v : Vm} (X : WP p l e R (s.setVm v) m args below meth c Z own mname bytes maxL ret n0 (InvH Z a0 EL s v) (Safe Z EL v) T h locs cells slots) {y : MethodName} {index W : Nat} {bytes' : ByteArray} {maxL' : Nat} {ret' : Option FieldType} {rm : Room} {ws : List Addr} {Q : Value → Vm → Heap → Prop}  {argsL rest stk : List Value} {ps : List FieldType} {rt : Option FieldType} (hd : decode bytes pc = .ok (.invokestatic index, 3)) (w1 : (Cond.methodLink own index y).before a0 Z = true) (w2 : (Cond.static y).before a0 Z = true) (wz : (Cond.initialized y.cls).before a0 Z = true) (wc : (Cond.code y bytes' maxL' ret').before a0 Z = true) (hy : y.cls ≠ "java/lang/invoke/MethodHandle" ∧ y.cls ≠ "java/lang/invoke/VarHandle")  (hM : MetH l [] Z EL n0 y bytes' maxL' ret' rm argsL.toArray h ws (fun r v' h' => ∃ w, r = some w ∧ Q w v' h')) (hstk : stk = argsL.reverse ++ rest) (hpd : parseMethodDescriptor y.desc = some ⟨ps, rt⟩) (hlen : argsL.length = ps.length) (hsz : Ls.size = maxL) (hfr : rm.frames + 1 ≤ R.frames) (hW : (rest.map fun v => v.category).sum ≤ W) (hlo : W + (maxL' + 11) + rm.locals ≤ R.locals) (hc : cells + rm.cells ≤ R.cells) (hs : slots + rm.slots ≤ R.slots) (hsf : ∀ x ∈ ws, (x < h.size ∧ Safe Z EL v h x) ∧ n0 ≤ x) (hp : pc + 3 = pc')
    (q : ∀ w v' T' h' L', WP p l e R (s.setVm v') m args below meth c Z own mname bytes maxL ret n0 (InvH Z a0 EL s v') (Safe Z EL v') T' h' L' (cells + rm.cells) (slots + rm.slots) → Keep h h' ws → CHr Z EL v h v' h' → Q w v' h' → Run p.tables e below P T' (mkF m pc' Ls (w :: rest))) : Run p.tables e below P T (mkF m pc Ls stk) := by
  subst hp
  obtain ⟨hEL, hWv, ⟨k0, hS, hk0⟩, hC⟩ := X.inv
  have bk := backH (R := R) (p := p) (e := e) (below := below) (s := s) (args := args) (len := 3) (W := W) hM hWv wc wz hfr hlo hEL hC.1 (fun x q => (hsf x q).1)
  obtain ⟨r, _, ⟨T', L', k', n'⟩, -, X', hS2, hgr, ⟨Lc, hQ, l1, l2, l3, hC'⟩, kk⟩ := callSS X.1 X.hx (y := y) X.hown (mvT X.hZ w1) (mvT X.hZ w2) (mvT X.hZ wz) (mvT X.hZ wc) hy bk (g := mkF m pc Ls stk) rfl (by rw [X.hml]; exact hsz) (argsL := argsL) (rest := rest) (lenOf hpd hlen) hstk (by show 2 * 0 + _ ≤ _; omega) (hb X.hby hd) (fun _ _ => ⟨rfl, X.eT, hc, hs⟩)
  dsimp only [Pt.U, Pt.locs, Pt.cells, Pt.slots] at X' l1 l2 l3 kk hQ hS2 hgr hC'
  subst l1 l2 l3
  obtain ⟨⟨K, w, rfl, hQ⟩, N⟩ := hQ
  obtain ⟨X2, hS3, hZ2, ho2⟩ := rebS hS (show k0 ≤ T.heap.size by rw [X.eT]; exact hk0) X' hS2 hgr X.hZ X.hown
  exact Run.tr kk (q _ _ _ _ _ (X.reH X2 rfl K hS3 (Nat.le_refl _) hZ2 ho2 hC' (fun x q => (hsf x q).2) (X.fr.app N)) K hC' hQ)
theorem k_callSNH {EL : List (String × Nat)} {v : Vm} (X : WP p l e R (s.setVm v) m args below meth c Z own mname bytes maxL ret n0 (InvH Z a0 EL s v) (Safe Z EL v) T h locs cells slots) {y : MethodName} {index W : Nat} {bytes' : ByteArray} {maxL' : Nat} {ret' : Option FieldType} {rm : Room} {ws : List Addr} {Q : Vm → Heap → Prop}  {argsL rest stk : List Value} {ps : List FieldType} {rt : Option FieldType} (hd : decode bytes pc = .ok (.invokestatic index, 3)) (w1 : (Cond.methodLink own index y).before a0 Z = true) (w2 : (Cond.static y).before a0 Z = true) (wz : (Cond.initialized y.cls).before a0 Z = true) (wc : (Cond.code y bytes' maxL' ret').before a0 Z = true) (hy : y.cls ≠ "java/lang/invoke/MethodHandle" ∧ y.cls ≠ "java/lang/invoke/VarHandle")  (hM : MetH l [] Z EL n0 y bytes' maxL' ret' rm argsL.toArray h ws (fun r v' h' => r = none ∧ Q v' h')) (hstk : stk = argsL.reverse ++ rest) (hpd : parseMethodDescriptor y.desc = some ⟨ps, rt⟩) (hlen : argsL.length = ps.length) (hsz : Ls.size = maxL) (hfr : rm.frames + 1 ≤ R.frames) (hW : (rest.map fun v => v.category).sum ≤ W) (hlo : W + (maxL' + 11) + rm.locals ≤ R.locals) (hc : cells + rm.cells ≤ R.cells) (hs : slots + rm.slots ≤ R.slots) (hsf : ∀ x ∈ ws, (x < h.size ∧ Safe Z EL v h x) ∧ n0 ≤ x) (hp : pc + 3 = pc')
    (q : ∀ v' T' h' L', WP p l e R (s.setVm v') m args below meth c Z own mname bytes maxL ret n0 (InvH Z a0 EL s v') (Safe Z EL v') T' h' L' (cells + rm.cells) (slots + rm.slots) → Keep h h' ws → CHr Z EL v h v' h' → Q v' h' → Run p.tables e below P T' (mkF m pc' Ls (rest))) : Run p.tables e below P T (mkF m pc Ls stk) := by
  subst hp
  obtain ⟨hEL, hWv, ⟨k0, hS, hk0⟩, hC⟩ := X.inv
  have bk := backH (R := R) (p := p) (e := e) (below := below) (s := s) (args := args) (len := 3) (W := W) hM hWv wc wz hfr hlo hEL hC.1 (fun x q => (hsf x q).1)
  obtain ⟨r, _, ⟨T', L', k', n'⟩, -, X', hS2, hgr, ⟨Lc, hQ, l1, l2, l3, hC'⟩, kk⟩ := callSS X.1 X.hx (y := y) X.hown (mvT X.hZ w1) (mvT X.hZ w2) (mvT X.hZ wz) (mvT X.hZ wc) hy bk (g := mkF m pc Ls stk) rfl (by rw [X.hml]; exact hsz) (argsL := argsL) (rest := rest) (lenOf hpd hlen) hstk (by show 2 * 0 + _ ≤ _; omega) (hb X.hby hd) (fun _ _ => ⟨rfl, X.eT, hc, hs⟩)
  dsimp only [Pt.U, Pt.locs, Pt.cells, Pt.slots] at X' l1 l2 l3 kk hQ hS2 hgr hC'
  subst l1 l2 l3
  obtain ⟨⟨K, rfl, hQ⟩, N⟩ := hQ
  obtain ⟨X2, hS3, hZ2, ho2⟩ := rebS hS (show k0 ≤ T.heap.size by rw [X.eT]; exact hk0) X' hS2 hgr X.hZ X.hown
  exact Run.tr kk (q _ _ _ _ (X.reH X2 rfl K hS3 (Nat.le_refl _) hZ2 ho2 hC' (fun x q => (hsf x q).2) (X.fr.app N)) K hC' hQ)
theorem k_callPNF (X : WP p l e R s m args below meth c Z own mname bytes maxL ret n0 Inv Sf T h locs cells slots) {y : MethodName} {index W : Nat} {bytes' : ByteArray} {maxL' : Nat} {ret' : Option FieldType} {rm : Room} {ws : List Addr} {Q : Heap → Prop} {a : Addr} {argsL rest stk : List Value} {ps : List FieldType} {rt : Option FieldType} (hd : decode bytes pc = .ok (.invokespecial index, 3)) (w1 : (Cond.methodLink own index y).before a0 Z = true) (w2 : (Cond.instanceMethod y).before a0 Z = true) (wz : (Cond.initialized y.cls).before a0 Z = true) (wc : (Cond.code y bytes' maxL' ret').before a0 Z = true) (hy : y.cls ≠ "java/lang/invoke/MethodHandle" ∧ y.cls ≠ "java/lang/invoke/VarHandle") (hin : y.name = "<init>") (hrn : ret' = none) (hM : MetF l [] Z n0 y bytes' maxL' ret' rm (.ref a :: argsL).toArray h ws (fun r h' => r = none ∧ Q h')) (hstk : stk = argsL.reverse ++ .ref a :: rest) (hpd : parseMethodDescriptor y.desc = some ⟨ps, rt⟩) (hlen : argsL.length = ps.length) (hsz : Ls.size = maxL) (hfr : rm.frames + 1 ≤ R.frames) (hW : (rest.map fun v => v.category).sum ≤ W) (hlo : W + (maxL' + 11) + rm.locals ≤ R.locals) (hc : cells + rm.cells ≤ R.cells) (hs : slots + rm.slots ≤ R.slots) (hsf : ∀ x ∈ ws, Sf h x ∧ n0 ≤ x) (hp : pc + 3 = pc')
    (q : ∀ T' h' L', WP p l e R s m args below meth c Z own mname bytes maxL ret n0 Inv Sf T' h' L' (cells + rm.cells) (slots + rm.slots) → Keep h h' ws → Q h' → Run p.tables e below P T' (mkF m pc' Ls (rest))) : Run p.tables e below P T (mkF m pc Ls stk) := by
  subst hp
  have bk := backOf (R := R) (p := p) (e := e) (below := below) (args := args) (len := 3) (W := W) (Q := fun r h' L => (Keep h h' ws ∧ (fun r h' => r = none ∧ Q h') r h') ∧ Fr n0 L) hM X.hZ wc wz hfr hlo
  obtain ⟨r, _, ⟨T', L', k', n'⟩, -, X', ⟨Lc, hQ, l1, l2, l3⟩, kk⟩ := X.1.specialBack X.hx (y := y) hin X.hown (mvT X.hZ w1) (mvT X.hZ w2) (bytes := bytes') (maxL := maxL') (mvT X.hZ (hrn ▸ wc)) hy bk (g := mkF m pc Ls stk) rfl (by rw [X.hml]; exact hsz) (Steps.refl _) (a := a) (argsL := argsL) (rest := rest) (lenOf hpd hlen) hstk (by show 2 * 0 + _ ≤ _; omega) (hb X.hby hd) (fun _ _ => ⟨rfl, X.eT, hc, hs⟩)
  dsimp only [Pt.U, Pt.locs, Pt.cells, Pt.slots] at X' l1 l2 l3 kk hQ
  subst l1 l2 l3
  obtain ⟨⟨K, rfl, hQ⟩, N⟩ := hQ
  exact Run.tr kk (q _ _ _ (X.mv X' rfl K hsf (X.fr.app N)) K hQ)
theorem k_callPNH {EL : List (String × Nat)} {v : Vm} (X : WP p l e R (s.setVm v) m args below meth c Z own mname bytes maxL ret n0 (InvH Z a0 EL s v) (Safe Z EL v) T h locs cells slots) {y : MethodName} {index W : Nat} {bytes' : ByteArray} {maxL' : Nat} {ret' : Option FieldType} {rm : Room} {ws : List Addr} {Q : Vm → Heap → Prop} {a : Addr} {argsL rest stk : List Value} {ps : List FieldType} {rt : Option FieldType} (hd : decode bytes pc = .ok (.invokespecial index, 3)) (w1 : (Cond.methodLink own index y).before a0 Z = true) (w2 : (Cond.instanceMethod y).before a0 Z = true) (wz : (Cond.initialized y.cls).before a0 Z = true) (wc : (Cond.code y bytes' maxL' ret').before a0 Z = true) (hy : y.cls ≠ "java/lang/invoke/MethodHandle" ∧ y.cls ≠ "java/lang/invoke/VarHandle") (hin : y.name = "<init>") (hrn : ret' = none) (hM : MetH l [] Z EL n0 y bytes' maxL' ret' rm (.ref a :: argsL).toArray h ws (fun r v' h' => r = none ∧ Q v' h')) (hstk : stk = argsL.reverse ++ .ref a :: rest) (hpd : parseMethodDescriptor y.desc = some ⟨ps, rt⟩) (hlen : argsL.length = ps.length) (hsz : Ls.size = maxL) (hfr : rm.frames + 1 ≤ R.frames) (hW : (rest.map fun v => v.category).sum ≤ W) (hlo : W + (maxL' + 11) + rm.locals ≤ R.locals) (hc : cells + rm.cells ≤ R.cells) (hs : slots + rm.slots ≤ R.slots) (hsf : ∀ x ∈ ws, (x < h.size ∧ Safe Z EL v h x) ∧ n0 ≤ x) (hp : pc + 3 = pc')
    (q : ∀ v' T' h' L', WP p l e R (s.setVm v') m args below meth c Z own mname bytes maxL ret n0 (InvH Z a0 EL s v') (Safe Z EL v') T' h' L' (cells + rm.cells) (slots + rm.slots) → Keep h h' ws → CHr Z EL v h v' h' → Q v' h' → Run p.tables e below P T' (mkF m pc' Ls (rest))) : Run p.tables e below P T (mkF m pc Ls stk) := by
  subst hp
  obtain ⟨hEL, hWv, ⟨k0, hS, hk0⟩, hC⟩ := X.inv
  have bk := backH (R := R) (p := p) (e := e) (below := below) (s := s) (args := args) (len := 3) (W := W) hM hWv wc wz hfr hlo hEL hC.1 (fun x q => (hsf x q).1)
  obtain ⟨r, _, ⟨T', L', k', n'⟩, -, X', hS2, hgr, ⟨Lc, hQ, l1, l2, l3, hC'⟩, kk⟩ := X.1.specialBackS X.hx (y := y) hin X.hown (mvT X.hZ w1) (mvT X.hZ w2) (bytes := bytes') (maxL := maxL') (mvT X.hZ (hrn ▸ wc)) hy bk (g := mkF m pc Ls stk) rfl (by rw [X.hml]; exact hsz) (Steps.refl _) (a := a) (argsL := argsL) (rest := rest) (lenOf hpd hlen) hstk (by show 2 * 0 + _ ≤ _; omega) (hb X.hby hd) (fun _ _ => ⟨rfl, X.eT, hc, hs⟩)
  dsimp only [Pt.U, Pt.locs, Pt.cells, Pt.slots] at X' l1 l2 l3 kk hQ hS2 hgr hC'
  subst l1 l2 l3
  obtain ⟨⟨K, rfl, hQ⟩, N⟩ := hQ
  obtain ⟨X2, hS3, hZ2, ho2⟩ := rebS hS (show k0 ≤ T.heap.size by rw [X.eT]; exact hk0) X' hS2 hgr X.hZ X.hown
  exact Run.tr kk (q _ _ _ _ (X.reH X2 rfl K hS3 (Nat.le_refl _) hZ2 ho2 hC' (fun x q => (hsf x q).2) (X.fr.app N)) K hC' hQ)
theorem k_callVVF (X : WP p l e R s m args below meth c Z own mname bytes maxL ret n0 Inv Sf T h locs cells slots) {y : MethodName} {index W : Nat} {bytes' : ByteArray} {maxL' : Nat} {ret' : Option FieldType} {rm : Room} {ws : List Addr} {Q : Value → Heap → Prop} {a : Addr} {y0 : MethodName} {C : String} {argsL rest stk : List Value} {ps : List FieldType} {rt : Option FieldType} (hd : decode bytes pc = .ok (.invokevirtual index, 3)) (w1 : (Cond.methodLink own index y0).before a0 Z = true) (w2 : (Cond.declares y0).before a0 Z = true) (w3 : (Cond.selects C y0 y).before a0 Z = true) (w4 : (Cond.instanceMethod y).before a0 Z = true) (wz : (Cond.initialized y.cls).before a0 Z = true) (wc : (Cond.code y bytes' maxL' ret').before a0 Z = true) (hy : y0.cls ≠ "java/lang/invoke/MethodHandle" ∧ y0.cls ≠ "java/lang/invoke/VarHandle") (hnf : NotFace s y0) (E : Exa Z h a C) (hM : MetF l [] Z n0 y bytes' maxL' ret' rm (.ref a :: argsL).toArray h ws (fun r h' => ∃ w, r = some w ∧ Q w h')) (hstk : stk = argsL.reverse ++ .ref a :: rest) (hpd : parseMethodDescriptor y0.desc = some ⟨ps, rt⟩) (hlen : argsL.length = ps.length) (hsz : Ls.size = maxL) (hfr : rm.frames + 1 ≤ R.frames) (hW : (rest.map fun v => v.category).sum ≤ W) (hlo : W + (maxL' + 11) + rm.locals ≤ R.locals) (hc : cells + rm.cells ≤ R.cells) (hs : slots + rm.slots ≤ R.slots) (hsf : ∀ x ∈ ws, Sf h x ∧ n0 ≤ x) (hp : pc + 3 = pc')
    (q : ∀ w T' h' L', WP p l e R s m args below meth c Z own mname bytes maxL ret n0 Inv Sf T' h' L' (cells + rm.cells) (slots + rm.slots) → Keep h h' ws → Q w h' → Run p.tables e below P T' (mkF m pc' Ls (w :: rest))) : Run p.tables e below P T (mkF m pc Ls stk) := by
  subst hp
  obtain ⟨cq, kq, qa, qb, qc⟩ := isOf (T := T) X.hZ X.eT E
  have bk := backOf (R := R) (p := p) (e := e) (below := below) (args := args) (len := 3) (W := W) (Q := fun r h' L => (Keep h h' ws ∧ (fun r h' => ∃ w, r = some w ∧ Q w h') r h') ∧ Fr n0 L) hM X.hZ wc wz hfr hlo
  obtain ⟨r, _, ⟨T', L', k', n'⟩, -, X', ⟨Lc, hQ, l1, l2, l3⟩, kk⟩ := X.1.virtualBack X.hx (y := y0) (z := y) X.hown (mvT X.hZ w1) (mvT X.hZ w2) hnf (mvT X.hZ w3) (mvT X.hZ w4) hy bk qa qc (g := mkF m pc Ls stk) rfl (by rw [X.hml]; exact hsz) (Steps.refl _) (argsL := argsL) (rest := rest) (lenOf hpd hlen) hstk (by show 2 * 0 + _ ≤ _; omega) (hb X.hby hd) (fun _ _ => ⟨rfl, X.eT, hc, hs⟩)
  dsimp only [Pt.U, Pt.locs, Pt.cells, Pt.slots] at X' l1 l2 l3 kk hQ
  subst l1 l2 l3
  obtain ⟨⟨K, w, rfl, hQ⟩, N⟩ := hQ
  exact Run.tr kk (q _ _ _ _ (X.mv X' rfl K hsf (X.fr.app N)) K hQ)
theorem k_callVNF (X : WP p l e R s m args below meth c Z own mname bytes maxL ret n0 Inv Sf T h locs cells slots) {y : MethodName} {index W : Nat} {bytes' : ByteArray} {maxL' : Nat} {ret' : Option FieldType} {rm : Room} {ws : List Addr} {Q : Heap → Prop} {a : Addr} {y0 : MethodName} {C : String} {argsL rest stk : List Value} {ps : List FieldType} {rt : Option FieldType} (hd : decode bytes pc = .ok (.invokevirtual index, 3)) (w1 : (Cond.methodLink own index y0).before a0 Z = true) (w2 : (Cond.declares y0).before a0 Z = true) (w3 : (Cond.selects C y0 y).before a0 Z = true) (w4 : (Cond.instanceMethod y).before a0 Z = true) (wz : (Cond.initialized y.cls).before a0 Z = true) (wc : (Cond.code y bytes' maxL' ret').before a0 Z = true) (hy : y0.cls ≠ "java/lang/invoke/MethodHandle" ∧ y0.cls ≠ "java/lang/invoke/VarHandle") (hnf : NotFace s y0) (E : Exa Z h a C) (hM : MetF l [] Z n0 y bytes' maxL' ret' rm (.ref a :: argsL).toArray h ws (fun r h' => r = none ∧ Q h')) (hstk : stk = argsL.reverse ++ .ref a :: rest) (hpd : parseMethodDescriptor y0.desc = some ⟨ps, rt⟩) (hlen : argsL.length = ps.length) (hsz : Ls.size = maxL) (hfr : rm.frames + 1 ≤ R.frames) (hW : (rest.map fun v => v.category).sum ≤ W) (hlo : W + (maxL' + 11) + rm.locals ≤ R.locals) (hc : cells + rm.cells ≤ R.cells) (hs : slots + rm.slots ≤ R.slots) (hsf : ∀ x ∈ ws, Sf h x ∧ n0 ≤ x) (hp : pc + 3 = pc')
    (q : ∀ T' h' L', WP p l e R s m args below meth c Z own mname bytes maxL ret n0 Inv Sf T' h' L' (cells + rm.cells) (slots + rm.slots) → Keep h h' ws → Q h' → Run p.tables e below P T' (mkF m pc' Ls (rest))) : Run p.tables e below P T (mkF m pc Ls stk) := by
  subst hp
  obtain ⟨cq, kq, qa, qb, qc⟩ := isOf (T := T) X.hZ X.eT E
  have bk := backOf (R := R) (p := p) (e := e) (below := below) (args := args) (len := 3) (W := W) (Q := fun r h' L => (Keep h h' ws ∧ (fun r h' => r = none ∧ Q h') r h') ∧ Fr n0 L) hM X.hZ wc wz hfr hlo
  obtain ⟨r, _, ⟨T', L', k', n'⟩, -, X', ⟨Lc, hQ, l1, l2, l3⟩, kk⟩ := X.1.virtualBack X.hx (y := y0) (z := y) X.hown (mvT X.hZ w1) (mvT X.hZ w2) hnf (mvT X.hZ w3) (mvT X.hZ w4) hy bk qa qc (g := mkF m pc Ls stk) rfl (by rw [X.hml]; exact hsz) (Steps.refl _) (argsL := argsL) (rest := rest) (lenOf hpd hlen) hstk (by show 2 * 0 + _ ≤ _; omega) (hb X.hby hd) (fun _ _ => ⟨rfl, X.eT, hc, hs⟩)
  dsimp only [Pt.U, Pt.locs, Pt.cells, Pt.slots] at X' l1 l2 l3 kk hQ
  subst l1 l2 l3
  obtain ⟨⟨K, rfl, hQ⟩, N⟩ := hQ
  exact Run.tr kk (q _ _ _ (X.mv X' rfl K hsf (X.fr.app N)) K hQ)
theorem k_callVVH {EL : List (String × Nat)} {v : Vm} (X : WP p l e R (s.setVm v) m args below meth c Z own mname bytes maxL ret n0 (InvH Z a0 EL s v) (Safe Z EL v) T h locs cells slots) {y : MethodName} {index W : Nat} {bytes' : ByteArray} {maxL' : Nat} {ret' : Option FieldType} {rm : Room} {ws : List Addr} {Q : Value → Vm → Heap → Prop} {a : Addr} {y0 : MethodName} {C : String} {argsL rest stk : List Value} {ps : List FieldType} {rt : Option FieldType} (hd : decode bytes pc = .ok (.invokevirtual index, 3)) (w1 : (Cond.methodLink own index y0).before a0 Z = true) (w2 : (Cond.declares y0).before a0 Z = true) (w3 : (Cond.selects C y0 y).before a0 Z = true) (w4 : (Cond.instanceMethod y).before a0 Z = true) (wz : (Cond.initialized y.cls).before a0 Z = true) (wc : (Cond.code y bytes' maxL' ret').before a0 Z = true) (hy : y0.cls ≠ "java/lang/invoke/MethodHandle" ∧ y0.cls ≠ "java/lang/invoke/VarHandle") (hnf : NotFace (s.setVm v) y0) (E : Exa Z h a C) (hM : MetH l [] Z EL n0 y bytes' maxL' ret' rm (.ref a :: argsL).toArray h ws (fun r v' h' => ∃ w, r = some w ∧ Q w v' h')) (hstk : stk = argsL.reverse ++ .ref a :: rest) (hpd : parseMethodDescriptor y0.desc = some ⟨ps, rt⟩) (hlen : argsL.length = ps.length) (hsz : Ls.size = maxL) (hfr : rm.frames + 1 ≤ R.frames) (hW : (rest.map fun v => v.category).sum ≤ W) (hlo : W + (maxL' + 11) + rm.locals ≤ R.locals) (hc : cells + rm.cells ≤ R.cells) (hs : slots + rm.slots ≤ R.slots) (hsf : ∀ x ∈ ws, (x < h.size ∧ Safe Z EL v h x) ∧ n0 ≤ x) (hp : pc + 3 = pc')
    (q : ∀ w v' T' h' L', WP p l e R (s.setVm v') m args below meth c Z own mname bytes maxL ret n0 (InvH Z a0 EL s v') (Safe Z EL v') T' h' L' (cells + rm.cells) (slots + rm.slots) → Keep h h' ws → CHr Z EL v h v' h' → Q w v' h' → Run p.tables e below P T' (mkF m pc' Ls (w :: rest))) : Run p.tables e below P T (mkF m pc Ls stk) := by
  subst hp
  obtain ⟨cq, kq, qa, qb, qc⟩ := isOf (T := T) X.hZ X.eT E
  obtain ⟨hEL, hWv, ⟨k0, hS, hk0⟩, hC⟩ := X.inv
  have bk := backH (R := R) (p := p) (e := e) (below := below) (s := s) (args := args) (len := 3) (W := W) hM hWv wc wz hfr hlo hEL hC.1 (fun x q => (hsf x q).1)
  obtain ⟨r, _, ⟨T', L', k', n'⟩, -, X', hS2, hgr, ⟨Lc, hQ, l1, l2, l3, hC'⟩, kk⟩ := X.1.virtualBackS X.hx (y := y0) (z := y) X.hown (mvT X.hZ w1) (mvT X.hZ w2) hnf (mvT X.hZ w3) (mvT X.hZ w4) hy bk qa qc (g := mkF m pc Ls stk) rfl (by rw [X.hml]; exact hsz) (Steps.refl _) (argsL := argsL) (rest := rest) (lenOf hpd hlen) hstk (by show 2 * 0 + _ ≤ _; omega) (hb X.hby hd) (fun _ _ => ⟨rfl, X.eT, hc, hs⟩)
  dsimp only [Pt.U, Pt.locs, Pt.cells, Pt.slots] at X' l1 l2 l3 kk hQ hS2 hgr hC'
  subst l1 l2 l3
  obtain ⟨⟨K, w, rfl, hQ⟩, N⟩ := hQ
  obtain ⟨X2, hS3, hZ2, ho2⟩ := rebS hS (show k0 ≤ T.heap.size by rw [X.eT]; exact hk0) X' hS2 hgr X.hZ X.hown
  exact Run.tr kk (q _ _ _ _ _ (X.reH X2 rfl K hS3 (Nat.le_refl _) hZ2 ho2 hC' (fun x q => (hsf x q).2) (X.fr.app N)) K hC' hQ)
theorem k_callVNH {EL : List (String × Nat)} {v : Vm} (X : WP p l e R (s.setVm v) m args below meth c Z own mname bytes maxL ret n0 (InvH Z a0 EL s v) (Safe Z EL v) T h locs cells slots) {y : MethodName} {index W : Nat} {bytes' : ByteArray} {maxL' : Nat} {ret' : Option FieldType} {rm : Room} {ws : List Addr} {Q : Vm → Heap → Prop} {a : Addr} {y0 : MethodName} {C : String} {argsL rest stk : List Value} {ps : List FieldType} {rt : Option FieldType} (hd : decode bytes pc = .ok (.invokevirtual index, 3)) (w1 : (Cond.methodLink own index y0).before a0 Z = true) (w2 : (Cond.declares y0).before a0 Z = true) (w3 : (Cond.selects C y0 y).before a0 Z = true) (w4 : (Cond.instanceMethod y).before a0 Z = true) (wz : (Cond.initialized y.cls).before a0 Z = true) (wc : (Cond.code y bytes' maxL' ret').before a0 Z = true) (hy : y0.cls ≠ "java/lang/invoke/MethodHandle" ∧ y0.cls ≠ "java/lang/invoke/VarHandle") (hnf : NotFace (s.setVm v) y0) (E : Exa Z h a C) (hM : MetH l [] Z EL n0 y bytes' maxL' ret' rm (.ref a :: argsL).toArray h ws (fun r v' h' => r = none ∧ Q v' h')) (hstk : stk = argsL.reverse ++ .ref a :: rest) (hpd : parseMethodDescriptor y0.desc = some ⟨ps, rt⟩) (hlen : argsL.length = ps.length) (hsz : Ls.size = maxL) (hfr : rm.frames + 1 ≤ R.frames) (hW : (rest.map fun v => v.category).sum ≤ W) (hlo : W + (maxL' + 11) + rm.locals ≤ R.locals) (hc : cells + rm.cells ≤ R.cells) (hs : slots + rm.slots ≤ R.slots) (hsf : ∀ x ∈ ws, (x < h.size ∧ Safe Z EL v h x) ∧ n0 ≤ x) (hp : pc + 3 = pc')
    (q : ∀ v' T' h' L', WP p l e R (s.setVm v') m args below meth c Z own mname bytes maxL ret n0 (InvH Z a0 EL s v') (Safe Z EL v') T' h' L' (cells + rm.cells) (slots + rm.slots) → Keep h h' ws → CHr Z EL v h v' h' → Q v' h' → Run p.tables e below P T' (mkF m pc' Ls (rest))) : Run p.tables e below P T (mkF m pc Ls stk) := by
  subst hp
  obtain ⟨cq, kq, qa, qb, qc⟩ := isOf (T := T) X.hZ X.eT E
  obtain ⟨hEL, hWv, ⟨k0, hS, hk0⟩, hC⟩ := X.inv
  have bk := backH (R := R) (p := p) (e := e) (below := below) (s := s) (args := args) (len := 3) (W := W) hM hWv wc wz hfr hlo hEL hC.1 (fun x q => (hsf x q).1)
  obtain ⟨r, _, ⟨T', L', k', n'⟩, -, X', hS2, hgr, ⟨Lc, hQ, l1, l2, l3, hC'⟩, kk⟩ := X.1.virtualBackS X.hx (y := y0) (z := y) X.hown (mvT X.hZ w1) (mvT X.hZ w2) hnf (mvT X.hZ w3) (mvT X.hZ w4) hy bk qa qc (g := mkF m pc Ls stk) rfl (by rw [X.hml]; exact hsz) (Steps.refl _) (argsL := argsL) (rest := rest) (lenOf hpd hlen) hstk (by show 2 * 0 + _ ≤ _; omega) (hb X.hby hd) (fun _ _ => ⟨rfl, X.eT, hc, hs⟩)
  dsimp only [Pt.U, Pt.locs, Pt.cells, Pt.slots] at X' l1 l2 l3 kk hQ hS2 hgr hC'
  subst l1 l2 l3
  obtain ⟨⟨K, rfl, hQ⟩, N⟩ := hQ
  obtain ⟨X2, hS3, hZ2, ho2⟩ := rebS hS (show k0 ≤ T.heap.size by rw [X.eT]; exact hk0) X' hS2 hgr X.hZ X.hown
  exact Run.tr kk (q _ _ _ _ (X.reH X2 rfl K hS3 (Nat.le_refl _) hZ2 ho2 hC' (fun x q => (hsf x q).2) (X.fr.app N)) K hC' hQ)
theorem k_callIVF (X : WP p l e R s m args below meth c Z own mname bytes maxL ret n0 Inv Sf T h locs cells slots) {y : MethodName} {index W : Nat} {bytes' : ByteArray} {maxL' : Nat} {ret' : Option FieldType} {rm : Room} {ws : List Addr} {Q : Value → Heap → Prop} {a : Addr} {y0 : MethodName} {C : String} {count : Nat} {argsL rest stk : List Value} {ps : List FieldType} {rt : Option FieldType} (hd : decode bytes pc = .ok (.invokeinterface index count, 5)) (w1 : (Cond.methodLink own index y0).before args s = true) (w2 : (Cond.declares y0).before args s = true) (w5 : (Cond.interfaceMethod y0.cls y0.cls y0.name y0.desc).before args s = true) (w3 : (Cond.selects C y0 y).before args s = true) (w4 : (Cond.instanceMethod y).before args s = true) (w6 : (Cond.publicMethod y).before args s = true) (w7 : (Cond.unhidden C y0.name y0.desc).before args s = true) (w8 : (Cond.castable C y0.cls).before args s = true) (wz : (Cond.initialized y.cls).before a0 Z = true) (wc : (Cond.code y bytes' maxL' ret').before a0 Z = true) (hy : y0.cls ≠ "java/lang/invoke/MethodHandle" ∧ y0.cls ≠ "java/lang/invoke/VarHandle") (E : Exa Z h a C) (hM : MetF l [] Z n0 y bytes' maxL' ret' rm (.ref a :: argsL).toArray h ws (fun r h' => ∃ w, r = some w ∧ Q w h')) (hstk : stk = argsL.reverse ++ .ref a :: rest) (hpd : parseMethodDescriptor y0.desc = some ⟨ps, rt⟩) (hlen : argsL.length = ps.length) (hsz : Ls.size = maxL) (hfr : rm.frames + 1 ≤ R.frames) (hW : (rest.map fun v => v.category).sum ≤ W) (hlo : W + (maxL' + 11) + rm.locals ≤ R.locals) (hc : cells + rm.cells ≤ R.cells) (hs : slots + rm.slots ≤ R.slots) (hsf : ∀ x ∈ ws, Sf h x ∧ n0 ≤ x) (hp : pc + 5 = pc')
    (q : ∀ w T' h' L', WP p l e R s m args below meth c Z own mname bytes maxL ret n0 Inv Sf T' h' L' (cells + rm.cells) (slots + rm.slots) → Keep h h' ws → Q w h' → Run p.tables e below P T' (mkF m pc' Ls (w :: rest))) : Run p.tables e below P T (mkF m pc Ls stk) := by
  subst hp
  obtain ⟨cq, kq, qa, qb, qc⟩ := isOf (T := T) X.hZ X.eT E
  have bk := backOf (R := R) (p := p) (e := e) (below := below) (args := args) (len := 5) (W := W) (Q := fun r h' L => (Keep h h' ws ∧ (fun r h' => ∃ w, r = some w ∧ Q w h') r h') ∧ Fr n0 L) hM X.hZ wc wz hfr hlo
  obtain ⟨r, _, ⟨T', L', k', n'⟩, -, X', ⟨Lc, hQ, l1, l2, l3⟩, kk⟩ := X.1.interfaceBack X.hx (xi := y0) (y := y) X.hown w1 w2 w5 w3 w4 w6 w7 w8 hy bk qa qb qc (g := mkF m pc Ls stk) rfl (by rw [X.hml]; exact hsz) (Steps.refl _) (argsL := argsL) (rest := rest) (lenOf hpd hlen) hstk (by show 2 * 0 + _ ≤ _; omega) (hb X.hby hd) (fun _ _ => ⟨rfl, X.eT, hc, hs⟩)
  dsimp only [Pt.U, Pt.locs, Pt.cells, Pt.slots] at X' l1 l2 l3 kk hQ
  subst l1 l2 l3
  obtain ⟨⟨K, w, rfl, hQ⟩, N⟩ := hQ
  exact Run.tr kk (q _ _ _ _ (X.mv X' rfl K hsf (X.fr.app N)) K hQ)
theorem k_callINF (X : WP p l e R s m args below meth c Z own mname bytes maxL ret n0 Inv Sf T h locs cells slots) {y : MethodName} {index W : Nat} {bytes' : ByteArray} {maxL' : Nat} {ret' : Option FieldType} {rm : Room} {ws : List Addr} {Q : Heap → Prop} {a : Addr} {y0 : MethodName} {C : String} {count : Nat} {argsL rest stk : List Value} {ps : List FieldType} {rt : Option FieldType} (hd : decode bytes pc = .ok (.invokeinterface index count, 5)) (w1 : (Cond.methodLink own index y0).before args s = true) (w2 : (Cond.declares y0).before args s = true) (w5 : (Cond.interfaceMethod y0.cls y0.cls y0.name y0.desc).before args s = true) (w3 : (Cond.selects C y0 y).before args s = true) (w4 : (Cond.instanceMethod y).before args s = true) (w6 : (Cond.publicMethod y).before args s = true) (w7 : (Cond.unhidden C y0.name y0.desc).before args s = true) (w8 : (Cond.castable C y0.cls).before args s = true) (wz : (Cond.initialized y.cls).before a0 Z = true) (wc : (Cond.code y bytes' maxL' ret').before a0 Z = true) (hy : y0.cls ≠ "java/lang/invoke/MethodHandle" ∧ y0.cls ≠ "java/lang/invoke/VarHandle") (E : Exa Z h a C) (hM : MetF l [] Z n0 y bytes' maxL' ret' rm (.ref a :: argsL).toArray h ws (fun r h' => r = none ∧ Q h')) (hstk : stk = argsL.reverse ++ .ref a :: rest) (hpd : parseMethodDescriptor y0.desc = some ⟨ps, rt⟩) (hlen : argsL.length = ps.length) (hsz : Ls.size = maxL) (hfr : rm.frames + 1 ≤ R.frames) (hW : (rest.map fun v => v.category).sum ≤ W) (hlo : W + (maxL' + 11) + rm.locals ≤ R.locals) (hc : cells + rm.cells ≤ R.cells) (hs : slots + rm.slots ≤ R.slots) (hsf : ∀ x ∈ ws, Sf h x ∧ n0 ≤ x) (hp : pc + 5 = pc')
    (q : ∀ T' h' L', WP p l e R s m args below meth c Z own mname bytes maxL ret n0 Inv Sf T' h' L' (cells + rm.cells) (slots + rm.slots) → Keep h h' ws → Q h' → Run p.tables e below P T' (mkF m pc' Ls (rest))) : Run p.tables e below P T (mkF m pc Ls stk) := by
  subst hp
  obtain ⟨cq, kq, qa, qb, qc⟩ := isOf (T := T) X.hZ X.eT E
  have bk := backOf (R := R) (p := p) (e := e) (below := below) (args := args) (len := 5) (W := W) (Q := fun r h' L => (Keep h h' ws ∧ (fun r h' => r = none ∧ Q h') r h') ∧ Fr n0 L) hM X.hZ wc wz hfr hlo
  obtain ⟨r, _, ⟨T', L', k', n'⟩, -, X', ⟨Lc, hQ, l1, l2, l3⟩, kk⟩ := X.1.interfaceBack X.hx (xi := y0) (y := y) X.hown w1 w2 w5 w3 w4 w6 w7 w8 hy bk qa qb qc (g := mkF m pc Ls stk) rfl (by rw [X.hml]; exact hsz) (Steps.refl _) (argsL := argsL) (rest := rest) (lenOf hpd hlen) hstk (by show 2 * 0 + _ ≤ _; omega) (hb X.hby hd) (fun _ _ => ⟨rfl, X.eT, hc, hs⟩)
  dsimp only [Pt.U, Pt.locs, Pt.cells, Pt.slots] at X' l1 l2 l3 kk hQ
  subst l1 l2 l3
  obtain ⟨⟨K, rfl, hQ⟩, N⟩ := hQ
  exact Run.tr kk (q _ _ _ (X.mv X' rfl K hsf (X.fr.app N)) K hQ)
end Kit
end Own
end Jvm.Pilot.@@N@@
namespace Jvm.Pilot.@@N@@
open Jvm Jvm.ClassFile Sem Op Lib Jvm.Free Jvm.Stand Jvm.LawKit Jvm.RoadKit Bundle Jvm.Pilot.@@N@@.Jvm.D
section OwnProof
open Own
theorem own_nat {i : Nat} (h : i < 2147483648) : (Int32.ofNat i).toInt = (i : Int) := by
  rw [Int32.toInt_ofNat', show Int32.size = 4294967296 from rfl]; exact Int.bmod_eq_of_le (by omega) (by omega)
theorem own_nz {n : Nat} (h0 : 0 < n) (h1 : n < 2147483648) : ¬ Int32.ofNat n = 0 := fun q => by
  have e := congrArg Int32.toInt q
  rw [own_nat h1, show (0 : Int32).toInt = 0 from by decide] at e
  omega
theorem own_clamp {i : Nat} (h : i < 2147483648) : (Int32.ofNat i).toNatClampNeg = i := by
  show (Int32.ofNat i).toInt.toNat = i
  rw [own_nat h]; rfl
theorem own_nn {i : Nat} (h : i < 2147483648) : ¬ (Int32.ofNat i < 0) := by
  rw [Int32.lt_iff_toInt_lt, own_nat h]; show ¬ ((i : Int) < 0); omega
theorem own_lt {i n : Nat} (h : i < n) (hn : n < 2147483648) : Int32.ofNat i < Int32.ofNat n := by
  rw [Int32.lt_iff_toInt_lt, own_nat (by omega), own_nat hn]; omega
theorem own_succ (i : Nat) : Int32.ofNat i + Int32.ofInt 1 = Int32.ofNat (i + 1) := by
  rw [Int32.ofNat_add]; rfl
theorem own_shl1 {i : Nat} (h : i < 1073741824) : Int32.ofNat i <<< ((1 : Int32) &&& 31) = Int32.ofNat (2 * i) := by
  apply Int32.toInt_inj.mp
  have q := c_ishl (Int32.ofNat i) 1 1 (by decide)
  rw [own_nat (by omega)] at q
  rw [own_nat (by omega)]
  have := rng32 (Int32.ofNat i <<< ((1 : Int32) &&& 31))
  omega
theorem own_i2b (x : Int32) : nar .byte (x.toInt8.toInt32) = x.toInt8.toInt32 := by
  show x.toInt8.toInt32.toInt8.toInt32 = x.toInt8.toInt32
  rw [Int8.toInt8_toInt32]
def own_lo (c : Int32) : Value := .int c.toInt8.toInt32
/-- the bytes of a compact String -/
def own_lat (cs : List Int32) : List Value := cs.map own_lo
theorem own_latlen (cs : List Int32) : (own_lat cs).length = cs.length := by simp [own_lat]
theorem own_getc (cs : List Int32) (i : Nat) : (cs.map Value.int).getD i (.int 0) = .int (cs.getD i 0) := by
  simp only [List.getD_eq_getElem?_getD, List.getElem?_map]
  cases cs[i]? <;> rfl
theorem own_getc' (cs : List Int32) {i : Nat} (h : i < 2147483648) : (cs.map Value.int).getD (Int32.ofNat i).toNatClampNeg (.int 0) = .int (cs.getD i 0) := by
  rw [own_clamp h]; exact own_getc cs i
theorem own_turn (cs : List Int32) (vs : List Value) (i : Nat) (hi : i < cs.length) (hv : vs.length = cs.length) : ((cs.take i).map own_lo ++ vs.drop i).set i (.int (cs.getD i 0).toInt8.toInt32) = (cs.take (i + 1)).map own_lo ++ vs.drop (i + 1) := by
  apply List.ext_getElem?
  intro j
  by_cases hj : j = i
  · subst hj
    have h1 : j < ((cs.take j).map own_lo ++ vs.drop j).length := by simp; omega
    rw [List.getElem?_set_self h1, List.getElem?_append_left (by simp; omega)]
    simp [hi, own_lo, List.getD_eq_getElem?_getD]
  · rw [List.getElem?_set_ne (by omega)]
    by_cases hlt : j < i
    · rw [List.getElem?_append_left (by simp; omega), List.getElem?_append_left (by simp; omega)]
      simp [hlt, show j < i + 1 by omega]
    · rw [List.getElem?_append_right (by simp; omega), List.getElem?_append_right (by simp; omega)]
      simp only [List.length_map, List.length_take, List.getElem?_drop]
      congr 1; omega
theorem own_store {x0 x1 x2 x3 x4 x5 s6 : Slot} {v : Int32} (h : One s6) (h5 : ∃ w : Int32, x5 = .val (.int w)) : storeLocals #[x0, x1, x2, x3, x4, x5, s6] 6 (.int v) = some #[x0, x1, x2, x3, x4, x5, .val (.int v)] := by
  obtain ⟨w5, rfl⟩ := h5
  rcases h with rfl | ⟨w, rfl, hw⟩
  · rfl
  · cases w <;> first | rfl | (simp [Value.category] at hw)
/-- the first place of a sign above 255, or the length -/
def own_fst : List Int32 → Nat
  | [] => 0
  | c :: cs => if 255 < c then 0 else own_fst cs + 1
theorem own_fst_le : ∀ cs : List Int32, own_fst cs ≤ cs.length
  | [] => Nat.le_refl _
  | c :: cs => by
    unfold own_fst; split
    · simp
    · have := own_fst_le cs; simp; omega
theorem own_fst_lo : ∀ (cs : List Int32) (i : Nat), i < own_fst cs → ¬ 255 < cs.getD i 0
  | [], i, h => by simp [own_fst] at h
  | c :: cs, i, h => by
    unfold own_fst at h; split at h
    · omega
    · rename_i hc
      cases i with
      | zero => simpa using hc
      | succ i => simpa using own_fst_lo cs i (by omega)
theorem own_fst_hi : ∀ (cs : List Int32), own_fst cs < cs.length → 255 < cs.getD (own_fst cs) 0
  | [], h => by simp at h
  | c :: cs, h => by
    unfold own_fst at h ⊢; split
    · rename_i hc; simpa using hc
    · rename_i hc
      rw [if_neg hc] at h
      simpa using own_fst_hi cs (by simpa using h)
theorem own_fst_all : ∀ (cs : List Int32), (∀ c ∈ cs, ¬ 255 < c) → own_fst cs = cs.length
  | [], _ => rfl
  | c :: cs, h => by
    unfold own_fst
    rw [if_neg (h c (by simp)), own_fst_all cs fun x hx => h x (by simp [hx])]; simp
theorem own_rng {Z : State} {h : Heap} {b : Addr} {kb : ClassId} {z : Int32} {cs : List Int32} (A : Arv Z h b kb .char z (cs.map Value.int) (.int 0)) (hz : z = Int32.ofNat cs.length) (hn : cs.length < 2147483648) : ∀ i, i < cs.length → ¬ cs.getD i 0 < 0 ∧ ¬ 65535 < cs.getD i 0 := by
  intro i hi
  obtain ⟨cl, -, -, S, -, -, Gq⟩ := A
  have q := Gq i (by rw [S, hz, own_clamp hn]; exact hi)
  rw [own_getc] at q
  exact rng_char q
theorem own_and255 (x : Int32) : ¬ 255 < x &&& 255 := by
  have q := (c_and x 255 (by decide)).2
  rw [Int32.lt_iff_toInt_lt]; show ¬ ((255 : Int) < _); exact Int.not_lt.mpr q
theorem own_al0 : ∀ c ∈ ([] : List Int32), ¬ 255 < c := fun _ q => nomatch q
theorem own_alS {c : Int32} {L : List Int32} (q : ¬ 255 < c) (r : ∀ x ∈ L, ¬ 255 < x) : ∀ x ∈ c :: L, ¬ 255 < x := fun x z => (List.mem_cons.mp z).elim (fun u => u ▸ q) (r x)
def own_hi (c : Int32) : Value := .int (c >>> ((8 : Int32) &&& 31)).toInt8.toInt32
/-- the bytes of a String that is not compact -/
def own_u16 : List Int32 → List Value
  | [] => []
  | c :: cs => own_lo c :: own_hi c :: own_u16 cs
theorem own_u16len : ∀ cs : List Int32, (own_u16 cs).length = 2 * cs.length
  | [] => rfl
  | c :: cs => by simp [own_u16, own_u16len cs]; omega
theorem own_u16lo : ∀ (cs : List Int32) (j : Nat) (d : Value), j < cs.length → (own_u16 cs).getD (2 * j) d = own_lo (cs.getD j 0)
  | [], j, d, h => by simp at h
  | c :: cs, 0, d, h => by simp [own_u16]
  | c :: cs, j + 1, d, h => by
    have e : 2 * (j + 1) = 2 * j + 1 + 1 := by omega
    rw [e]; simpa [own_u16] using own_u16lo cs j d (by simpa using h)
theorem own_u16hi : ∀ (cs : List Int32) (j : Nat) (d : Value), j < cs.length → (own_u16 cs).getD (2 * j + 1) d = own_hi (cs.getD j 0)
  | [], j, d, h => by simp at h
  | c :: cs, 0, d, h => by simp [own_u16]
  | c :: cs, j + 1, d, h => by
    have e : 2 * (j + 1) + 1 = 2 * j + 1 + 1 + 1 := by omega
    rw [e]; simpa [own_u16] using own_u16hi cs j d (by simpa using h)
theorem own_u16turn : ∀ (cs : List Int32) (i : Nat), i < cs.length → ((own_u16 (cs.take i) ++ List.replicate (2 * (cs.length - i)) (Value.int (0 : Int32))).set (2 * i) (own_lo (cs.getD i 0))).set (2 * i + 1) (own_hi (cs.getD i 0)) = own_u16 (cs.take (i + 1)) ++ List.replicate (2 * (cs.length - (i + 1))) (Value.int (0 : Int32))
  | [], i, h => by simp at h
  | c :: cs, 0, h => by
    have e : 2 * ((c :: cs).length - 0) = 2 * cs.length + 1 + 1 := by simp; omega
    rw [e]; simp [own_u16, List.replicate_succ]
  | c :: cs, i + 1, h => by
    have e : 2 * (i + 1) = 2 * i + 1 + 1 := by omega
    have e2 : (c :: cs).length - (i + 1) = cs.length - i := by simp
    have e3 : (c :: cs).length - (i + 1 + 1) = cs.length - (i + 1) := by simp
    have q := own_u16turn cs i (by simpa using h)
    rw [e, e2, e3]
    simpa [own_u16] using q
theorem own_u16l (cs : List Int32) (i : Nat) (h : i ≤ cs.length) : (own_u16 (cs.take i) ++ List.replicate (2 * (cs.length - i)) (Value.int (0 : Int32))).length = 2 * cs.length := by
  rw [List.length_append, own_u16len, List.length_take, List.length_replicate, Nat.min_eq_left h]; omega
theorem own_shr0 (x : Int32) : x >>> ((0 : Int32) &&& 31) = x := by
  apply Int32.toInt_inj.mp
  rw [c_ishr x 0 0 (by decide)]; simp
theorem own_shl0 (x : Int32) : x <<< ((0 : Int32) &&& 31) = x := by
  apply Int32.toInt_inj.mp
  have q := c_ishl x 0 0 (by decide)
  have h1 := rng32 x; have h2 := rng32 (x <<< ((0 : Int32) &&& 31))
  omega
theorem own_join {c : Int32} (h0 : ¬ c < 0) (h1 : ¬ 65535 < c) : (((c.toInt8.toInt32 &&& 255) ||| (((c >>> ((8 : Int32) &&& 31)).toInt8.toInt32 &&& 255) <<< ((8 : Int32) &&& 31))).toUInt32.toUInt16.toUInt32.toInt32) = c := by
  have k0 : 0 ≤ c.toInt := by rw [Int32.lt_iff_toInt_lt] at h0; exact Int.not_lt.mp h0
  have k1 : c.toInt ≤ 65535 := by rw [Int32.lt_iff_toInt_lt] at h1; exact Int.not_lt.mp h1
  have a1 := c_i2b c
  have a2 := c_mask c.toInt8.toInt32 255 8 (by decide) (by decide)
  have b0 := c_ishr c 8 8 (by decide)
  have b1 := c_i2b (c >>> ((8 : Int32) &&& 31))
  have b2 := c_mask (c >>> ((8 : Int32) &&& 31)).toInt8.toInt32 255 8 (by decide) (by decide)
  generalize (c >>> ((8 : Int32) &&& 31)).toInt8.toInt32 = y at b1 b2 ⊢
  generalize c.toInt8.toInt32 = x at a1 a2 ⊢
  have b3 := c_ishl (y &&& 255) 8 8 (by decide)
  have r3 := rng32 ((y &&& 255) <<< ((8 : Int32) &&& 31))
  have v3 : ((y &&& 255) <<< ((8 : Int32) &&& 31)).toInt = (y &&& 255).toInt * 256 := by omega
  have o := c_or' (x &&& 255) ((y &&& 255) <<< ((8 : Int32) &&& 31)) 8 (by decide) 256 (by decide) (by rw [v3]; omega) (by omega) (by omega)
  have r4 := rng32 ((x &&& 255) ||| ((y &&& 255) <<< ((8 : Int32) &&& 31)))
  have f := c_i2c ((x &&& 255) ||| ((y &&& 255) <<< ((8 : Int32) &&& 31)))
  apply Int32.toInt_inj.mp
  omega
theorem own_neg31 {n : Nat} (h0 : 0 < n) (h1 : n < 1073741824) : (((Int32.ofNat n - Int32.ofNat (2 * n)).toUInt32 >>> ((31 : Int32) &&& 31).toUInt32).toInt32) = 1 := by
  apply Int32.toInt_inj.mp
  rw [c_iushr _ 31 31 (by decide) (by decide)]
  have q := c_isub (Int32.ofNat n) (Int32.ofNat (2 * n))
  rw [own_nat (by omega), own_nat (by omega)] at q
  have r := rng32 (Int32.ofNat n - Int32.ofNat (2 * n))
  show _ = (1 : Int)
  omega
/-- what a String of these signs holds -/
def own_cod (cs : List Int32) (cd zz : Int32) (bs : List Value) : Prop := (own_fst cs = cs.length ∧ cd = 0 ∧ zz = Int32.ofNat cs.length ∧ bs = own_lat cs) ∨ (own_fst cs < cs.length ∧ cd = 1 ∧ zz = Int32.ofNat (2 * cs.length) ∧ bs = own_u16 cs)
theorem own_all_of_fst {cs : List Int32} (h : own_fst cs = cs.length) : ∀ c ∈ cs, ¬ 255 < c := fun c hc => by
  obtain ⟨i, hi, e⟩ := List.getElem_of_mem hc
  have q := own_fst_lo cs i (by omega)
  rw [List.getD_eq_getElem?_getD, List.getElem?_eq_getElem hi] at q
  rw [← e]; simpa using q
theorem own_i2c_id {c : Int32} (h0 : ¬ c < 0) (h1 : ¬ 65535 < c) : nar .char c = c := by
  have k0 : 0 ≤ c.toInt := by rw [Int32.lt_iff_toInt_lt] at h0; exact Int.not_lt.mp h0
  have k1 : c.toInt ≤ 65535 := by rw [Int32.lt_iff_toInt_lt] at h1; exact Int.not_lt.mp h1
  have f := c_i2c c
  apply Int32.toInt_inj.mp
  show (c.toUInt32.toUInt16.toUInt32.toInt32).toInt = _
  omega
theorem own_cod_len {cs : List Int32} {cd zz : Int32} {bs : List Value} (h : own_cod cs cd zz bs) (hn : cs.length < 1073741824) : zz >>> (cd &&& 31) = Int32.ofNat cs.length := by
  rcases h with ⟨-, rfl, rfl, rfl⟩ | ⟨-, rfl, rfl, rfl⟩
  · exact own_shr0 _
  · apply Int32.toInt_inj.mp
    rw [c_ishr _ 1 1 (by decide), own_nat (by omega), own_nat (by omega)]; omega
theorem own_shr1 {n : Nat} (hn : n < 1073741824) : Int32.ofNat (2 * n) >>> ((1 : Int32) &&& 31) = Int32.ofNat n := by
  apply Int32.toInt_inj.mp
  rw [c_ishr _ 1 1 (by decide), own_nat (by omega), own_nat (by omega)]; omega
theorem own_cod_cd {cs : List Int32} {cd zz : Int32} {bs : List Value} (h : own_cod cs cd zz bs) : cd = 0 ∨ cd = 1 := by
  rcases h with ⟨-, rfl, -⟩ | ⟨-, rfl, -⟩
  · exact Or.inl rfl
  · exact Or.inr rfl
theorem own_nar01 {cd : Int32} (h : cd = 0 ∨ cd = 1) : nar .byte cd = cd := by rcases h with rfl | rfl <;> decide
theorem own_latget (cs : List Int32) {i : Nat} (hi : i < cs.length) (h : i < 2147483648) : (own_lat cs).getD (Int32.ofNat i).toNatClampNeg (.int (0 : Int32)) = .int (cs.getD i 0).toInt8.toInt32 := by
  rw [own_clamp h, own_lat, List.getD_eq_getElem?_getD, List.getD_eq_getElem?_getD, List.getElem?_map, List.getElem?_eq_getElem hi]; rfl
theorem own_back8 {c : Int32} (h0 : ¬ c < 0) (h1 : ¬ 255 < c) : ((c.toInt8.toInt32 &&& 255).toUInt32.toUInt16.toUInt32.toInt32) = c := by
  rw [i2c_mask]
  have k0 : 0 ≤ c.toInt := by rw [Int32.lt_iff_toInt_lt] at h0; exact Int.not_lt.mp h0
  have k1 : c.toInt ≤ 255 := by rw [Int32.lt_iff_toInt_lt] at h1; exact Int.not_lt.mp h1
  have a1 := c_i2b c
  have a2 := c_mask c.toInt8.toInt32 255 8 (by decide) (by decide)
  apply Int32.toInt_inj.mp
  omega
theorem own_255 {c : Int32} (h : ¬ 255 < c) : ¬ 65535 < c := by
  intro q; apply h; rw [Int32.lt_iff_toInt_lt] at q ⊢
  have : (65535 : Int32).toInt = 65535 := by decide
  have : (255 : Int32).toInt = 255 := by decide
  omega
theorem own_lat_rng {cs : List Int32} (hf : own_fst cs = cs.length) {i : Nat} (hi : i < cs.length) : ¬ 255 < cs.getD i 0 := own_fst_lo cs i (by omega)
/-- 1 where they are one text, else 0 -/
def own_eqv (cs ds : List Int32) : Int32 := if cs = ds then 1 else 0
def own_li (cs : List Int32) : List Int32 := cs.map fun c => c.toInt8.toInt32
theorem own_li_eq (cs : List Int32) : own_lat cs = (own_li cs).map Value.int := by simp [own_lat, own_li, own_lo, Function.comp_def]
def own_ui : List Int32 → List Int32
  | [] => []
  | c :: cs => c.toInt8.toInt32 :: (c >>> ((8 : Int32) &&& 31)).toInt8.toInt32 :: own_ui cs
theorem own_ui_eq : ∀ cs : List Int32, own_u16 cs = (own_ui cs).map Value.int
  | [] => rfl
  | c :: cs => by simp [own_u16, own_ui, own_lo, own_hi, own_ui_eq cs]
theorem own_li_len (cs : List Int32) : (own_li cs).length = cs.length := by simp [own_li]
theorem own_ui_len : ∀ cs : List Int32, (own_ui cs).length = 2 * cs.length
  | [] => rfl
  | c :: cs => by simp [own_ui, own_ui_len cs]; omega
theorem own_li_inj : ∀ {cs ds : List Int32}, (∀ c ∈ cs, ¬ c < 0 ∧ ¬ 255 < c) → (∀ c ∈ ds, ¬ c < 0 ∧ ¬ 255 < c) → own_li cs = own_li ds → cs = ds
  | [], [], _, _, _ => rfl
  | [], d :: ds, _, _, h => by simp [own_li] at h
  | c :: cs, [], _, _, h => by simp [own_li] at h
  | c :: cs, d :: ds, hc, hd, h => by
    simp only [own_li, List.map_cons, List.cons.injEq] at h
    have q1 := own_back8 (hc c (by simp)).1 (hc c (by simp)).2
    have q2 := own_back8 (hd d (by simp)).1 (hd d (by simp)).2
    rw [h.1, q2] at q1
    rw [q1, own_li_inj (fun x hx => hc x (by simp [hx])) (fun x hx => hd x (by simp [hx])) h.2]
theorem own_ui_inj : ∀ {cs ds : List Int32}, (∀ c ∈ cs, ¬ c < 0 ∧ ¬ 65535 < c) → (∀ c ∈ ds, ¬ c < 0 ∧ ¬ 65535 < c) → own_ui cs = own_ui ds → cs = ds
  | [], [], _, _, _ => rfl
  | [], d :: ds, _, _, h => by simp [own_ui] at h
  | c :: cs, [], _, _, h => by simp [own_ui] at h
  | c :: cs, d :: ds, hc, hd, h => by
    simp only [own_ui, List.cons.injEq] at h
    have q1 := own_join (hc c (by simp)).1 (hc c (by simp)).2
    have q2 := own_join (hd d (by simp)).1 (hd d (by simp)).2
    rw [h.1, h.2.1, q2] at q1
    rw [q1, own_ui_inj (fun x hx => hc x (by simp [hx])) (fun x hx => hd x (by simp [hx])) h.2.2]
theorem own_ext (is js : List Int32) (hl : is.length = js.length) (h : ∀ i, i < is.length → is.getD i 0 = js.getD i 0) : is = js := by
  apply List.ext_getElem hl
  intro i h1 h2
  have q := h i h1
  simpa [List.getD_eq_getElem?_getD, h1, h2] using q
/-- all signs are chars -/
def own_chs (cs : List Int32) : Prop := ∀ c ∈ cs, ¬ c < 0 ∧ ¬ 65535 < c
theorem own_chs_at {cs : List Int32} (h : own_chs cs) {i : Nat} (hi : i < cs.length) : ¬ cs.getD i 0 < 0 ∧ ¬ 65535 < cs.getD i 0 := by
  rw [List.getD_eq_getElem?_getD, List.getElem?_eq_getElem hi]; exact h _ (List.getElem_mem hi)
theorem own_cod_eq {cs ds : List Int32} {cd zz ze : Int32} {bs be : List Value} {ib ie : List Int32} (h1 : own_cod cs cd zz bs) (h2 : own_cod ds cd ze be) (k1 : own_chs cs) (k2 : own_chs ds) (e1 : bs = ib.map Value.int) (e2 : be = ie.map Value.int) : own_eqv ib ie = own_eqv cs ds := by
  have inj : ∀ {x y : List Int32}, x.map Value.int = y.map Value.int → x = y := fun {x y} q => by
    have := congrArg (List.map fun v => match v with | Value.int z => z | _ => 0) q
    simpa [Function.comp_def] using this
  have key : ib = ie ↔ cs = ds := by
    rcases h1 with ⟨f1, rfl, -, rfl⟩ | ⟨f1, rfl, -, rfl⟩
    · rcases h2 with ⟨f2, -, -, rfl⟩ | ⟨f2, q, -⟩
      · rw [own_li_eq] at e1 e2
        have a1 := inj e1; have a2 := inj e2
        subst a1 a2
        exact ⟨own_li_inj (fun c hc => ⟨(k1 c hc).1, own_all_of_fst f1 c hc⟩) (fun c hc => ⟨(k2 c hc).1, own_all_of_fst f2 c hc⟩), fun q => by rw [q]⟩
      · exact absurd q (by decide)
    · rcases h2 with ⟨f2, q, -⟩ | ⟨f2, -, -, rfl⟩
      · exact absurd q (by decide)
      · rw [own_ui_eq] at e1 e2
        have a1 := inj e1; have a2 := inj e2
        subst a1 a2
        exact ⟨own_ui_inj k1 k2, fun q => by rw [q]⟩
  unfold own_eqv
  by_cases q : cs = ds
  · rw [if_pos q, if_pos (key.mpr q)]
  · rw [if_neg q, if_neg fun r => q (key.mp r)]
theorem own_cod_ne {cs ds : List Int32} {cd ce zz ze : Int32} {bs be : List Value} (h1 : own_cod cs cd zz bs) (h2 : own_cod ds ce ze be) (hne : ¬ cd = ce) : own_eqv cs ds = 0 := by
  unfold own_eqv
  rw [if_neg]
  intro q; subst q
  rcases h1 with ⟨f1, rfl, -⟩ | ⟨f1, rfl, -⟩ <;> rcases h2 with ⟨f2, rfl, -⟩ | ⟨f2, rfl, -⟩ <;> first | exact hne rfl | omega
theorem own_cod_ints {cs : List Int32} {cd zz : Int32} {bs : List Value} (h : own_cod cs cd zz bs) : ∃ ib : List Int32, bs = ib.map Value.int ∧ zz = Int32.ofNat ib.length ∧ ib.length ≤ 2 * cs.length := by
  rcases h with ⟨-, -, rfl, rfl⟩ | ⟨-, -, rfl, rfl⟩
  · exact ⟨own_li cs, own_li_eq cs, by rw [own_li_len], by rw [own_li_len]; omega⟩
  · exact ⟨own_ui cs, own_ui_eq cs, by rw [own_ui_len], by rw [own_ui_len]; omega⟩
theorem own_eqv01 (cs ds : List Int32) : own_eqv cs ds = 0 ∨ own_eqv cs ds = 1 := by unfold own_eqv; split <;> simp
theorem own_nz01 {x : Int32} (h : x = 0 ∨ x = 1) : nar .boolean x = x := by rcases h with rfl | rfl <;> decide
/-- the first place of the sign, or the length -/
def own_pos (ch : Int32) : List Int32 → Nat
  | [] => 0
  | c :: cs => if c = ch then 0 else own_pos ch cs + 1
theorem own_pos_le (ch : Int32) : ∀ cs : List Int32, own_pos ch cs ≤ cs.length
  | [] => Nat.le_refl _
  | c :: cs => by
    unfold own_pos; split
    · simp
    · have := own_pos_le ch cs; simp; omega
theorem own_pos_ne (ch : Int32) : ∀ (cs : List Int32) (i : Nat), i < own_pos ch cs → ¬ cs.getD i 0 = ch
  | [], i, h => by simp [own_pos] at h
  | c :: cs, i, h => by
    unfold own_pos at h; split at h
    · omega
    · rename_i hc
      cases i with
      | zero => simpa using hc
      | succ i => simpa using own_pos_ne ch cs i (by omega)
theorem own_pos_eq (ch : Int32) : ∀ (cs : List Int32), own_pos ch cs < cs.length → cs.getD (own_pos ch cs) 0 = ch
  | [], h => by simp at h
  | c :: cs, h => by
    unfold own_pos at h ⊢; split
    · rename_i hc; simpa using hc
    · rename_i hc
      rw [if_neg hc] at h
      simpa using own_pos_eq ch cs (by simpa using h)
/-- indexOf -/
def own_ix (ch : Int32) (cs : List Int32) : Int32 := if own_pos ch cs < cs.length then Int32.ofNat (own_pos ch cs) else -1
theorem own_b44 {c : Int32} (h0 : ¬ c < 0) (h1 : ¬ 255 < c) (ch : Int32) (k0 : ¬ ch < 0) (k1 : ¬ 255 < ch) : c.toInt8.toInt32 = ch.toInt8.toInt32 ↔ c = ch := by
  refine ⟨fun q => ?_, fun q => by rw [q]⟩
  have a := own_back8 h0 h1; have b := own_back8 k0 k1
  rw [q] at a; exact a.symm.trans b
def own_keeps (cs : List Int32) : Int32 := if own_pos (44 : Int32) cs < cs.length then 0 else 1
theorem own_ix_yes {cs : List Int32} (hn : cs.length < 1073741823) (h : own_pos (44 : Int32) cs < cs.length) : ¬ own_ix (44 : Int32) cs < 0 := by
  unfold own_ix; rw [if_pos h]; exact own_nn (by omega)
theorem own_ix_no {cs : List Int32} (h : ¬ own_pos (44 : Int32) cs < cs.length) : own_ix (44 : Int32) cs < 0 := by
  unfold own_ix; rw [if_neg h]; decide
theorem own_i2c_rng (x : Int32) : ¬ x.toUInt32.toUInt16.toUInt32.toInt32 < 0 ∧ ¬ 65535 < x.toUInt32.toUInt16.toUInt32.toInt32 := by
  have f := c_i2c x
  constructor
  · rw [Int32.lt_iff_toInt_lt, show (0 : Int32).toInt = 0 from by decide]; omega
  · rw [Int32.lt_iff_toInt_lt, show (65535 : Int32).toInt = 65535 from by decide]; omega
theorem own_c0 : own_chs [] := fun _ q => nomatch q
theorem own_cS {c : Int32} {L : List Int32} (q : ¬ c < 0 ∧ ¬ 65535 < c) (r : own_chs L) : own_chs (c :: L) := fun x z => (List.mem_cons.mp z).elim (fun u => u ▸ q) (r x)
theorem d_jdk_29_65_0 : decode jdk_29_method_65_code 0 = .ok (.iload_n 0, 1) := by decide +kernel
theorem d_jdk_29_65_1 : decode jdk_29_method_65_code 1 = .ok (.iload_n 1, 1) := by decide +kernel
theorem d_jdk_29_65_2 : decode jdk_29_method_65_code 2 = .ok (.if_icmp .lt 7, 3) := by decide +kernel
theorem d_jdk_29_65_5 : decode jdk_29_method_65_code 5 = .ok (.iload_n 0, 1) := by decide +kernel
theorem d_jdk_29_65_6 : decode jdk_29_method_65_code 6 = .ok (.goto 4, 3) := by decide +kernel
theorem d_jdk_29_65_10 : decode jdk_29_method_65_code 10 = .ok (.ireturn, 1) := by decide +kernel
theorem d_jdk_29_69_0 : decode jdk_29_method_69_code 0 = .ok (.iload_n 0, 1) := by decide +kernel
theorem d_jdk_29_69_1 : decode jdk_29_method_69_code 1 = .ok (.iload_n 1, 1) := by decide +kernel
theorem d_jdk_29_69_2 : decode jdk_29_method_69_code 2 = .ok (.if_icmp .gt 7, 3) := by decide +kernel
theorem d_jdk_29_69_5 : decode jdk_29_method_69_code 5 = .ok (.iload_n 0, 1) := by decide +kernel
theorem d_jdk_29_69_6 : decode jdk_29_method_69_code 6 = .ok (.goto 4, 3) := by decide +kernel
theorem d_jdk_29_69_10 : decode jdk_29_method_69_code 10 = .ok (.ireturn, 1) := by decide +kernel
theorem d_jdk_41_12_0 : decode jdk_41_method_12_code 0 = .ok (.iload_n 0, 1) := by decide +kernel
theorem d_jdk_41_12_1 : decode jdk_41_method_12_code 1 = .ok (.ifCond .lt 13, 3) := by decide +kernel
theorem d_jdk_41_12_4 : decode jdk_41_method_12_code 4 = .ok (.iload_n 0, 1) := by decide +kernel
theorem d_jdk_41_12_5 : decode jdk_41_method_12_code 5 = .ok (.iload_n 1, 1) := by decide +kernel
theorem d_jdk_41_12_6 : decode jdk_41_method_12_code 6 = .ok (.if_icmp .gt 8, 3) := by decide +kernel
theorem d_jdk_41_12_9 : decode jdk_41_method_12_code 9 = .ok (.iload_n 1, 1) := by decide +kernel
theorem d_jdk_41_12_10 : decode jdk_41_method_12_code 10 = .ok (.iload_n 2, 1) := by decide +kernel
theorem d_jdk_41_12_11 : decode jdk_41_method_12_code 11 = .ok (.if_icmp .le 11, 3) := by decide +kernel
theorem d_jdk_41_12_22 : decode jdk_41_method_12_code 22 = .ok (.iload_n 0, 1) := by decide +kernel
theorem d_jdk_41_12_23 : decode jdk_41_method_12_code 23 = .ok (.ireturn, 1) := by decide +kernel
theorem d_jdk_42_149_0 : decode jdk_42_method_149_code 0 = .ok (.aload_n 0, 1) := by decide +kernel
theorem d_jdk_42_149_1 : decode jdk_42_method_149_code 1 = .ok (.invokespecial 1, 3) := by decide +kernel
theorem d_jdk_42_149_4 : decode jdk_42_method_149_code 4 = .ok (.iload_n 3, 1) := by decide +kernel
theorem d_jdk_42_149_5 : decode jdk_42_method_149_code 5 = .ok (.ifCond .ne 22, 3) := by decide +kernel
theorem d_jdk_42_149_8 : decode jdk_42_method_149_code 8 = .ok (.aload_n 0, 1) := by decide +kernel
theorem d_jdk_42_149_9 : decode jdk_42_method_149_code 9 = .ok (.ldc 7, 2) := by decide +kernel
theorem d_jdk_42_149_11 : decode jdk_42_method_149_code 11 = .ok (.getfield 9, 3) := by decide +kernel
theorem d_jdk_42_149_14 : decode jdk_42_method_149_code 14 = .ok (.putfield 9, 3) := by decide +kernel
theorem d_jdk_42_149_17 : decode jdk_42_method_149_code 17 = .ok (.aload_n 0, 1) := by decide +kernel
theorem d_jdk_42_149_18 : decode jdk_42_method_149_code 18 = .ok (.ldc 7, 2) := by decide +kernel
theorem d_jdk_42_149_20 : decode jdk_42_method_149_code 20 = .ok (.getfield 15, 3) := by decide +kernel
theorem d_jdk_42_149_23 : decode jdk_42_method_149_code 23 = .ok (.putfield 15, 3) := by decide +kernel
theorem d_jdk_42_149_26 : decode jdk_42_method_149_code 26 = .ok (.return_, 1) := by decide +kernel
theorem d_jdk_42_149_27 : decode jdk_42_method_149_code 27 = .ok (.getstatic 38, 3) := by decide +kernel
theorem d_jdk_42_149_30 : decode jdk_42_method_149_code 30 = .ok (.ifCond .eq 28, 3) := by decide +kernel
theorem d_jdk_42_149_33 : decode jdk_42_method_149_code 33 = .ok (.aload_n 1, 1) := by decide +kernel
theorem d_jdk_42_149_34 : decode jdk_42_method_149_code 34 = .ok (.iload_n 2, 1) := by decide +kernel
theorem d_jdk_42_149_35 : decode jdk_42_method_149_code 35 = .ok (.iload_n 3, 1) := by decide +kernel
theorem d_jdk_42_149_36 : decode jdk_42_method_149_code 36 = .ok (.invokestatic 177, 3) := by decide +kernel
theorem d_jdk_42_149_39 : decode jdk_42_method_149_code 39 = .ok (.astore 5, 2) := by decide +kernel
theorem d_jdk_42_149_41 : decode jdk_42_method_149_code 41 = .ok (.aload_n 0, 1) := by decide +kernel
theorem d_jdk_42_149_42 : decode jdk_42_method_149_code 42 = .ok (.aload 5, 2) := by decide +kernel
theorem d_jdk_42_149_44 : decode jdk_42_method_149_code 44 = .ok (.iload_n 3, 1) := by decide +kernel
theorem d_jdk_42_149_45 : decode jdk_42_method_149_code 45 = .ok (.invokestatic 47, 3) := by decide +kernel
theorem d_jdk_42_149_48 : decode jdk_42_method_149_code 48 = .ok (.putfield 15, 3) := by decide +kernel
theorem d_jdk_42_149_51 : decode jdk_42_method_149_code 51 = .ok (.aload_n 0, 1) := by decide +kernel
theorem d_jdk_42_149_52 : decode jdk_42_method_149_code 52 = .ok (.aload 5, 2) := by decide +kernel
theorem d_jdk_42_149_54 : decode jdk_42_method_149_code 54 = .ok (.putfield 9, 3) := by decide +kernel
theorem d_jdk_42_149_57 : decode jdk_42_method_149_code 57 = .ok (.return_, 1) := by decide +kernel
theorem d_jdk_42_152_0 : decode jdk_42_method_152_code 0 = .ok (.getstatic 38, 3) := by decide +kernel
theorem d_jdk_42_152_3 : decode jdk_42_method_152_code 3 = .ok (.ifCond .eq 10, 3) := by decide +kernel
theorem d_jdk_42_152_6 : decode jdk_42_method_152_code 6 = .ok (.aload_n 0, 1) := by decide +kernel
theorem d_jdk_42_152_7 : decode jdk_42_method_152_code 7 = .ok (.getfield 15, 3) := by decide +kernel
theorem d_jdk_42_152_10 : decode jdk_42_method_152_code 10 = .ok (.goto 4, 3) := by decide +kernel
theorem d_jdk_42_152_14 : decode jdk_42_method_152_code 14 = .ok (.ireturn, 1) := by decide +kernel
theorem d_jdk_42_154_0 : decode jdk_42_method_154_code 0 = .ok (.getstatic 38, 3) := by decide +kernel
theorem d_jdk_42_154_3 : decode jdk_42_method_154_code 3 = .ok (.ifCond .eq 14, 3) := by decide +kernel
theorem d_jdk_42_154_6 : decode jdk_42_method_154_code 6 = .ok (.aload_n 0, 1) := by decide +kernel
theorem d_jdk_42_154_7 : decode jdk_42_method_154_code 7 = .ok (.getfield 15, 3) := by decide +kernel
theorem d_jdk_42_154_10 : decode jdk_42_method_154_code 10 = .ok (.ifCond .ne 7, 3) := by decide +kernel
theorem d_jdk_42_154_13 : decode jdk_42_method_154_code 13 = .ok (.iconst 1, 1) := by decide +kernel
theorem d_jdk_42_154_14 : decode jdk_42_method_154_code 14 = .ok (.goto 4, 3) := by decide +kernel
theorem d_jdk_42_154_17 : decode jdk_42_method_154_code 17 = .ok (.iconst 0, 1) := by decide +kernel
theorem d_jdk_42_154_18 : decode jdk_42_method_154_code 18 = .ok (.ireturn, 1) := by decide +kernel
theorem d_jdk_42_158_0 : decode jdk_42_method_158_code 0 = .ok (.iload_n 0, 1) := by decide +kernel
theorem d_jdk_42_158_1 : decode jdk_42_method_158_code 1 = .ok (.iload_n 1, 1) := by decide +kernel
theorem d_jdk_42_158_2 : decode jdk_42_method_158_code 2 = .ok (.iload_n 2, 1) := by decide +kernel
theorem d_jdk_42_158_3 : decode jdk_42_method_158_code 3 = .ok (.getstatic 1053, 3) := by decide +kernel
theorem d_jdk_42_158_6 : decode jdk_42_method_158_code 6 = .ok (.invokestatic 1062, 3) := by decide +kernel
theorem d_jdk_42_158_9 : decode jdk_42_method_158_code 9 = .ok (.pop, 1) := by decide +kernel
theorem d_jdk_42_158_10 : decode jdk_42_method_158_code 10 = .ok (.return_, 1) := by decide +kernel
theorem d_jdk_42_3_0 : decode jdk_42_method_3_code 0 = .ok (.aload_n 0, 1) := by decide +kernel
theorem d_jdk_42_3_1 : decode jdk_42_method_3_code 1 = .ok (.aload_n 1, 1) := by decide +kernel
theorem d_jdk_42_3_2 : decode jdk_42_method_3_code 2 = .ok (.iconst 0, 1) := by decide +kernel
theorem d_jdk_42_3_3 : decode jdk_42_method_3_code 3 = .ok (.aload_n 1, 1) := by decide +kernel
theorem d_jdk_42_3_4 : decode jdk_42_method_3_code 4 = .ok (.arraylength, 1) := by decide +kernel
theorem d_jdk_42_3_5 : decode jdk_42_method_3_code 5 = .ok (.aconst_null, 1) := by decide +kernel
theorem d_jdk_42_3_6 : decode jdk_42_method_3_code 6 = .ok (.invokespecial 27, 3) := by decide +kernel
theorem d_jdk_42_3_9 : decode jdk_42_method_3_code 9 = .ok (.return_, 1) := by decide +kernel
theorem d_jdk_42_54_0 : decode jdk_42_method_54_code 0 = .ok (.aload_n 0, 1) := by decide +kernel
theorem d_jdk_42_54_1 : decode jdk_42_method_54_code 1 = .ok (.getfield 9, 3) := by decide +kernel
theorem d_jdk_42_54_4 : decode jdk_42_method_54_code 4 = .ok (.arraylength, 1) := by decide +kernel
theorem d_jdk_42_54_5 : decode jdk_42_method_54_code 5 = .ok (.aload_n 0, 1) := by decide +kernel
theorem d_jdk_42_54_6 : decode jdk_42_method_54_code 6 = .ok (.invokevirtual 335, 3) := by decide +kernel
theorem d_jdk_42_54_9 : decode jdk_42_method_54_code 9 = .ok (.ishr, 1) := by decide +kernel
theorem d_jdk_42_54_10 : decode jdk_42_method_54_code 10 = .ok (.ireturn, 1) := by decide +kernel
theorem d_jdk_42_79_0 : decode jdk_42_method_79_code 0 = .ok (.aload_n 0, 1) := by decide +kernel
theorem d_jdk_42_79_1 : decode jdk_42_method_79_code 1 = .ok (.iload_n 1, 1) := by decide +kernel
theorem d_jdk_42_79_2 : decode jdk_42_method_79_code 2 = .ok (.iconst 0, 1) := by decide +kernel
theorem d_jdk_42_79_3 : decode jdk_42_method_79_code 3 = .ok (.invokevirtual 633, 3) := by decide +kernel
theorem d_jdk_42_79_6 : decode jdk_42_method_79_code 6 = .ok (.ireturn, 1) := by decide +kernel
theorem d_jdk_42_80_0 : decode jdk_42_method_80_code 0 = .ok (.aload_n 0, 1) := by decide +kernel
theorem d_jdk_42_80_1 : decode jdk_42_method_80_code 1 = .ok (.invokevirtual 492, 3) := by decide +kernel
theorem d_jdk_42_80_4 : decode jdk_42_method_80_code 4 = .ok (.ifCond .eq 19, 3) := by decide +kernel
theorem d_jdk_42_80_7 : decode jdk_42_method_80_code 7 = .ok (.aload_n 0, 1) := by decide +kernel
theorem d_jdk_42_80_8 : decode jdk_42_method_80_code 8 = .ok (.getfield 9, 3) := by decide +kernel
theorem d_jdk_42_80_11 : decode jdk_42_method_80_code 11 = .ok (.iload_n 1, 1) := by decide +kernel
theorem d_jdk_42_80_12 : decode jdk_42_method_80_code 12 = .ok (.iload_n 2, 1) := by decide +kernel
theorem d_jdk_42_80_13 : decode jdk_42_method_80_code 13 = .ok (.aload_n 0, 1) := by decide +kernel
theorem d_jdk_42_80_14 : decode jdk_42_method_80_code 14 = .ok (.invokevirtual 505, 3) := by decide +kernel
theorem d_jdk_42_80_17 : decode jdk_42_method_80_code 17 = .ok (.invokestatic 637, 3) := by decide +kernel
theorem d_jdk_42_80_20 : decode jdk_42_method_80_code 20 = .ok (.goto 16, 3) := by decide +kernel
theorem d_jdk_42_80_23 : decode jdk_42_method_80_code 23 = .ok (.aload_n 0, 1) := by decide +kernel
theorem d_jdk_42_80_24 : decode jdk_42_method_80_code 24 = .ok (.getfield 9, 3) := by decide +kernel
theorem d_jdk_42_80_27 : decode jdk_42_method_80_code 27 = .ok (.iload_n 1, 1) := by decide +kernel
theorem d_jdk_42_80_28 : decode jdk_42_method_80_code 28 = .ok (.iload_n 2, 1) := by decide +kernel
theorem d_jdk_42_80_29 : decode jdk_42_method_80_code 29 = .ok (.aload_n 0, 1) := by decide +kernel
theorem d_jdk_42_80_30 : decode jdk_42_method_80_code 30 = .ok (.invokevirtual 505, 3) := by decide +kernel
theorem d_jdk_42_80_33 : decode jdk_42_method_80_code 33 = .ok (.invokestatic 640, 3) := by decide +kernel
theorem d_jdk_42_80_36 : decode jdk_42_method_80_code 36 = .ok (.ireturn, 1) := by decide +kernel
theorem d_jdk_43_22_0 : decode jdk_43_method_22_code 0 = .ok (.iload_n 1, 1) := by decide +kernel
theorem d_jdk_43_22_1 : decode jdk_43_method_22_code 1 = .ok (.invokestatic 88, 3) := by decide +kernel
theorem d_jdk_43_22_4 : decode jdk_43_method_22_code 4 = .ok (.ifCond .ne 5, 3) := by decide +kernel
theorem d_jdk_43_22_9 : decode jdk_43_method_22_code 9 = .ok (.iload_n 2, 1) := by decide +kernel
theorem d_jdk_43_22_10 : decode jdk_43_method_22_code 10 = .ok (.iconst 0, 1) := by decide +kernel
theorem d_jdk_43_22_11 : decode jdk_43_method_22_code 11 = .ok (.invokestatic 92, 3) := by decide +kernel
theorem d_jdk_43_22_14 : decode jdk_43_method_22_code 14 = .ok (.istore_n 2, 1) := by decide +kernel
theorem d_jdk_43_22_15 : decode jdk_43_method_22_code 15 = .ok (.iload_n 3, 1) := by decide +kernel
theorem d_jdk_43_22_16 : decode jdk_43_method_22_code 16 = .ok (.aload_n 0, 1) := by decide +kernel
theorem d_jdk_43_22_17 : decode jdk_43_method_22_code 17 = .ok (.arraylength, 1) := by decide +kernel
theorem d_jdk_43_22_18 : decode jdk_43_method_22_code 18 = .ok (.invokestatic 38, 3) := by decide +kernel
theorem d_jdk_43_22_21 : decode jdk_43_method_22_code 21 = .ok (.istore_n 3, 1) := by decide +kernel
theorem d_jdk_43_22_22 : decode jdk_43_method_22_code 22 = .ok (.iload_n 2, 1) := by decide +kernel
theorem d_jdk_43_22_23 : decode jdk_43_method_22_code 23 = .ok (.iload_n 3, 1) := by decide +kernel
theorem d_jdk_43_22_24 : decode jdk_43_method_22_code 24 = .ok (.if_icmp .lt 5, 3) := by decide +kernel
theorem d_jdk_43_22_27 : decode jdk_43_method_22_code 27 = .ok (.iconst (-1), 1) := by decide +kernel
theorem d_jdk_43_22_28 : decode jdk_43_method_22_code 28 = .ok (.ireturn, 1) := by decide +kernel
theorem d_jdk_43_22_29 : decode jdk_43_method_22_code 29 = .ok (.aload_n 0, 1) := by decide +kernel
theorem d_jdk_43_22_30 : decode jdk_43_method_22_code 30 = .ok (.iload_n 1, 1) := by decide +kernel
theorem d_jdk_43_22_31 : decode jdk_43_method_22_code 31 = .ok (.iload_n 2, 1) := by decide +kernel
theorem d_jdk_43_22_32 : decode jdk_43_method_22_code 32 = .ok (.iload_n 3, 1) := by decide +kernel
theorem d_jdk_43_22_33 : decode jdk_43_method_22_code 33 = .ok (.invokestatic 95, 3) := by decide +kernel
theorem d_jdk_43_22_36 : decode jdk_43_method_22_code 36 = .ok (.ireturn, 1) := by decide +kernel
theorem d_jdk_43_23_0 : decode jdk_43_method_23_code 0 = .ok (.iload_n 1, 1) := by decide +kernel
theorem d_jdk_43_23_1 : decode jdk_43_method_23_code 1 = .ok (.i2b, 1) := by decide +kernel
theorem d_jdk_43_23_2 : decode jdk_43_method_23_code 2 = .ok (.istore 4, 2) := by decide +kernel
theorem d_jdk_43_23_4 : decode jdk_43_method_23_code 4 = .ok (.iload_n 2, 1) := by decide +kernel
theorem d_jdk_43_23_5 : decode jdk_43_method_23_code 5 = .ok (.istore 5, 2) := by decide +kernel
theorem d_jdk_43_23_7 : decode jdk_43_method_23_code 7 = .ok (.iload 5, 2) := by decide +kernel
theorem d_jdk_43_23_9 : decode jdk_43_method_23_code 9 = .ok (.iload_n 3, 1) := by decide +kernel
theorem d_jdk_43_23_10 : decode jdk_43_method_23_code 10 = .ok (.if_icmp .ge 21, 3) := by decide +kernel
theorem d_jdk_43_23_13 : decode jdk_43_method_23_code 13 = .ok (.aload_n 0, 1) := by decide +kernel
theorem d_jdk_43_23_14 : decode jdk_43_method_23_code 14 = .ok (.iload 5, 2) := by decide +kernel
theorem d_jdk_43_23_16 : decode jdk_43_method_23_code 16 = .ok (.baload, 1) := by decide +kernel
theorem d_jdk_43_23_17 : decode jdk_43_method_23_code 17 = .ok (.iload 4, 2) := by decide +kernel
theorem d_jdk_43_23_19 : decode jdk_43_method_23_code 19 = .ok (.if_icmp .ne 6, 3) := by decide +kernel
theorem d_jdk_43_23_22 : decode jdk_43_method_23_code 22 = .ok (.iload 5, 2) := by decide +kernel
theorem d_jdk_43_23_24 : decode jdk_43_method_23_code 24 = .ok (.ireturn, 1) := by decide +kernel
theorem d_jdk_43_23_25 : decode jdk_43_method_23_code 25 = .ok (.iinc 5 1, 3) := by decide +kernel
theorem d_jdk_43_23_28 : decode jdk_43_method_23_code 28 = .ok (.goto (-21), 3) := by decide +kernel
theorem d_jdk_43_23_31 : decode jdk_43_method_23_code 31 = .ok (.iconst (-1), 1) := by decide +kernel
theorem d_jdk_43_23_32 : decode jdk_43_method_23_code 32 = .ok (.ireturn, 1) := by decide +kernel
theorem d_jdk_43_4_0 : decode jdk_43_method_4_code 0 = .ok (.iload_n 0, 1) := by decide +kernel
theorem d_jdk_43_4_1 : decode jdk_43_method_4_code 1 = .ok (.ifCond .lt 14, 3) := by decide +kernel
theorem d_jdk_43_4_4 : decode jdk_43_method_4_code 4 = .ok (.iload_n 0, 1) := by decide +kernel
theorem d_jdk_43_4_5 : decode jdk_43_method_4_code 5 = .ok (.sipush 255, 3) := by decide +kernel
theorem d_jdk_43_4_8 : decode jdk_43_method_4_code 8 = .ok (.if_icmp .gt 7, 3) := by decide +kernel
theorem d_jdk_43_4_11 : decode jdk_43_method_4_code 11 = .ok (.iconst 1, 1) := by decide +kernel
theorem d_jdk_43_4_12 : decode jdk_43_method_4_code 12 = .ok (.goto 4, 3) := by decide +kernel
theorem d_jdk_43_4_16 : decode jdk_43_method_4_code 16 = .ok (.ireturn, 1) := by decide +kernel
theorem d_jdk_52_14_0 : decode jdk_52_method_14_code 0 = .ok (.iload_n 2, 1) := by decide +kernel
theorem d_jdk_52_14_1 : decode jdk_52_method_14_code 1 = .ok (.invokestatic 107, 3) := by decide +kernel
theorem d_jdk_52_14_4 : decode jdk_52_method_14_code 4 = .ok (.astore_n 3, 1) := by decide +kernel
theorem d_jdk_52_14_5 : decode jdk_52_method_14_code 5 = .ok (.iconst 0, 1) := by decide +kernel
theorem d_jdk_52_14_6 : decode jdk_52_method_14_code 6 = .ok (.istore 4, 2) := by decide +kernel
theorem d_jdk_52_14_8 : decode jdk_52_method_14_code 8 = .ok (.iload 4, 2) := by decide +kernel
theorem d_jdk_52_14_10 : decode jdk_52_method_14_code 10 = .ok (.iload_n 2, 1) := by decide +kernel
theorem d_jdk_52_14_11 : decode jdk_52_method_14_code 11 = .ok (.if_icmp .ge 21, 3) := by decide +kernel
theorem d_jdk_52_14_14 : decode jdk_52_method_14_code 14 = .ok (.aload_n 3, 1) := by decide +kernel
theorem d_jdk_52_14_15 : decode jdk_52_method_14_code 15 = .ok (.iload 4, 2) := by decide +kernel
theorem d_jdk_52_14_17 : decode jdk_52_method_14_code 17 = .ok (.aload_n 0, 1) := by decide +kernel
theorem d_jdk_52_14_18 : decode jdk_52_method_14_code 18 = .ok (.iload_n 1, 1) := by decide +kernel
theorem d_jdk_52_14_19 : decode jdk_52_method_14_code 19 = .ok (.caload, 1) := by decide +kernel
theorem d_jdk_52_14_20 : decode jdk_52_method_14_code 20 = .ok (.invokestatic 111, 3) := by decide +kernel
theorem d_jdk_52_14_23 : decode jdk_52_method_14_code 23 = .ok (.iinc 1 1, 3) := by decide +kernel
theorem d_jdk_52_14_26 : decode jdk_52_method_14_code 26 = .ok (.iinc 4 1, 3) := by decide +kernel
theorem d_jdk_52_14_29 : decode jdk_52_method_14_code 29 = .ok (.goto (-21), 3) := by decide +kernel
theorem d_jdk_52_14_32 : decode jdk_52_method_14_code 32 = .ok (.aload_n 3, 1) := by decide +kernel
theorem d_jdk_52_14_33 : decode jdk_52_method_14_code 33 = .ok (.areturn, 1) := by decide +kernel
theorem d_jdk_52_15_0 : decode jdk_52_method_15_code 0 = .ok (.iload_n 1, 1) := by decide +kernel
theorem d_jdk_52_15_1 : decode jdk_52_method_15_code 1 = .ok (.aload_n 0, 1) := by decide +kernel
theorem d_jdk_52_15_2 : decode jdk_52_method_15_code 2 = .ok (.arraylength, 1) := by decide +kernel
theorem d_jdk_52_15_3 : decode jdk_52_method_15_code 3 = .ok (.isub, 1) := by decide +kernel
theorem d_jdk_52_15_4 : decode jdk_52_method_15_code 4 = .ok (.bipush 31, 2) := by decide +kernel
theorem d_jdk_52_15_6 : decode jdk_52_method_15_code 6 = .ok (.iushr, 1) := by decide +kernel
theorem d_jdk_52_15_7 : decode jdk_52_method_15_code 7 = .ok (.i2b, 1) := by decide +kernel
theorem d_jdk_52_15_8 : decode jdk_52_method_15_code 8 = .ok (.ireturn, 1) := by decide +kernel
theorem d_jdk_52_16_0 : decode jdk_52_method_16_code 0 = .ok (.iload_n 2, 1) := by decide +kernel
theorem d_jdk_52_16_1 : decode jdk_52_method_16_code 1 = .ok (.newarray .byte, 2) := by decide +kernel
theorem d_jdk_52_16_3 : decode jdk_52_method_16_code 3 = .ok (.astore_n 3, 1) := by decide +kernel
theorem d_jdk_52_16_4 : decode jdk_52_method_16_code 4 = .ok (.aload_n 0, 1) := by decide +kernel
theorem d_jdk_52_16_5 : decode jdk_52_method_16_code 5 = .ok (.iload_n 1, 1) := by decide +kernel
theorem d_jdk_52_16_6 : decode jdk_52_method_16_code 6 = .ok (.aload_n 3, 1) := by decide +kernel
theorem d_jdk_52_16_7 : decode jdk_52_method_16_code 7 = .ok (.iconst 0, 1) := by decide +kernel
theorem d_jdk_52_16_8 : decode jdk_52_method_16_code 8 = .ok (.iload_n 2, 1) := by decide +kernel
theorem d_jdk_52_16_9 : decode jdk_52_method_16_code 9 = .ok (.invokestatic 115, 3) := by decide +kernel
theorem d_jdk_52_16_12 : decode jdk_52_method_16_code 12 = .ok (.istore 4, 2) := by decide +kernel
theorem d_jdk_52_16_14 : decode jdk_52_method_16_code 14 = .ok (.iload 4, 2) := by decide +kernel
theorem d_jdk_52_16_16 : decode jdk_52_method_16_code 16 = .ok (.iload_n 2, 1) := by decide +kernel
theorem d_jdk_52_16_17 : decode jdk_52_method_16_code 17 = .ok (.if_icmp .eq 40, 3) := by decide +kernel
theorem d_jdk_52_16_20 : decode jdk_52_method_16_code 20 = .ok (.aload_n 0, 1) := by decide +kernel
theorem d_jdk_52_16_21 : decode jdk_52_method_16_code 21 = .ok (.iload_n 1, 1) := by decide +kernel
theorem d_jdk_52_16_22 : decode jdk_52_method_16_code 22 = .ok (.iload_n 2, 1) := by decide +kernel
theorem d_jdk_52_16_23 : decode jdk_52_method_16_code 23 = .ok (.invokestatic 119, 3) := by decide +kernel
theorem d_jdk_52_16_26 : decode jdk_52_method_16_code 26 = .ok (.astore 5, 2) := by decide +kernel
theorem d_jdk_52_16_28 : decode jdk_52_method_16_code 28 = .ok (.aload 5, 2) := by decide +kernel
theorem d_jdk_52_16_30 : decode jdk_52_method_16_code 30 = .ok (.iload 4, 2) := by decide +kernel
theorem d_jdk_52_16_32 : decode jdk_52_method_16_code 32 = .ok (.invokestatic 71, 3) := by decide +kernel
theorem d_jdk_52_16_35 : decode jdk_52_method_16_code 35 = .ok (.sipush 255, 3) := by decide +kernel
theorem d_jdk_52_16_38 : decode jdk_52_method_16_code 38 = .ok (.if_icmp .gt 16, 3) := by decide +kernel
theorem d_jdk_52_16_54 : decode jdk_52_method_16_code 54 = .ok (.aload 5, 2) := by decide +kernel
theorem d_jdk_52_16_56 : decode jdk_52_method_16_code 56 = .ok (.areturn, 1) := by decide +kernel
theorem d_jdk_52_16_57 : decode jdk_52_method_16_code 57 = .ok (.aload_n 3, 1) := by decide +kernel
theorem d_jdk_52_16_58 : decode jdk_52_method_16_code 58 = .ok (.areturn, 1) := by decide +kernel
theorem d_jdk_52_21_0 : decode jdk_52_method_21_code 0 = .ok (.iconst 0, 1) := by decide +kernel
theorem d_jdk_52_21_1 : decode jdk_52_method_21_code 1 = .ok (.istore 5, 2) := by decide +kernel
theorem d_jdk_52_21_3 : decode jdk_52_method_21_code 3 = .ok (.iload 5, 2) := by decide +kernel
theorem d_jdk_52_21_5 : decode jdk_52_method_21_code 5 = .ok (.iload 4, 2) := by decide +kernel
theorem d_jdk_52_21_7 : decode jdk_52_method_21_code 7 = .ok (.if_icmp .ge 37, 3) := by decide +kernel
theorem d_jdk_52_21_10 : decode jdk_52_method_21_code 10 = .ok (.aload_n 0, 1) := by decide +kernel
theorem d_jdk_52_21_11 : decode jdk_52_method_21_code 11 = .ok (.iload_n 1, 1) := by decide +kernel
theorem d_jdk_52_21_12 : decode jdk_52_method_21_code 12 = .ok (.caload, 1) := by decide +kernel
theorem d_jdk_52_21_13 : decode jdk_52_method_21_code 13 = .ok (.istore 6, 2) := by decide +kernel
theorem d_jdk_52_21_15 : decode jdk_52_method_21_code 15 = .ok (.iload 6, 2) := by decide +kernel
theorem d_jdk_52_21_17 : decode jdk_52_method_21_code 17 = .ok (.sipush 255, 3) := by decide +kernel
theorem d_jdk_52_21_20 : decode jdk_52_method_21_code 20 = .ok (.if_icmp .le 6, 3) := by decide +kernel
theorem d_jdk_52_21_23 : decode jdk_52_method_21_code 23 = .ok (.iload 5, 2) := by decide +kernel
theorem d_jdk_52_21_25 : decode jdk_52_method_21_code 25 = .ok (.ireturn, 1) := by decide +kernel
theorem d_jdk_52_21_26 : decode jdk_52_method_21_code 26 = .ok (.aload_n 2, 1) := by decide +kernel
theorem d_jdk_52_21_27 : decode jdk_52_method_21_code 27 = .ok (.iload_n 3, 1) := by decide +kernel
theorem d_jdk_52_21_28 : decode jdk_52_method_21_code 28 = .ok (.iload 6, 2) := by decide +kernel
theorem d_jdk_52_21_30 : decode jdk_52_method_21_code 30 = .ok (.i2b, 1) := by decide +kernel
theorem d_jdk_52_21_31 : decode jdk_52_method_21_code 31 = .ok (.bastore, 1) := by decide +kernel
theorem d_jdk_52_21_32 : decode jdk_52_method_21_code 32 = .ok (.iinc 1 1, 3) := by decide +kernel
theorem d_jdk_52_21_35 : decode jdk_52_method_21_code 35 = .ok (.iinc 3 1, 3) := by decide +kernel
theorem d_jdk_52_21_38 : decode jdk_52_method_21_code 38 = .ok (.iinc 5 1, 3) := by decide +kernel
theorem d_jdk_52_21_41 : decode jdk_52_method_21_code 41 = .ok (.goto (-38), 3) := by decide +kernel
theorem d_jdk_52_21_44 : decode jdk_52_method_21_code 44 = .ok (.iload 4, 2) := by decide +kernel
theorem d_jdk_52_21_46 : decode jdk_52_method_21_code 46 = .ok (.ireturn, 1) := by decide +kernel
theorem d_jdk_52_2_0 : decode jdk_52_method_2_code 0 = .ok (.iload_n 0, 1) := by decide +kernel
theorem d_jdk_52_2_1 : decode jdk_52_method_2_code 1 = .ok (.invokestatic 11, 3) := by decide +kernel
theorem d_jdk_52_2_4 : decode jdk_52_method_2_code 4 = .ok (.newarray .byte, 2) := by decide +kernel
theorem d_jdk_52_2_6 : decode jdk_52_method_2_code 6 = .ok (.areturn, 1) := by decide +kernel
theorem d_jdk_52_3_0 : decode jdk_52_method_3_code 0 = .ok (.iload_n 0, 1) := by decide +kernel
theorem d_jdk_52_3_1 : decode jdk_52_method_3_code 1 = .ok (.ifCond .ge 11, 3) := by decide +kernel
theorem d_jdk_52_3_12 : decode jdk_52_method_3_code 12 = .ok (.iload_n 0, 1) := by decide +kernel
theorem d_jdk_52_3_13 : decode jdk_52_method_3_code 13 = .ok (.ldc 20, 2) := by decide +kernel
theorem d_jdk_52_3_15 : decode jdk_52_method_3_code 15 = .ok (.if_icmp .lt 40, 3) := by decide +kernel
theorem d_jdk_52_3_55 : decode jdk_52_method_3_code 55 = .ok (.iload_n 0, 1) := by decide +kernel
theorem d_jdk_52_3_56 : decode jdk_52_method_3_code 56 = .ok (.iconst 1, 1) := by decide +kernel
theorem d_jdk_52_3_57 : decode jdk_52_method_3_code 57 = .ok (.ishl, 1) := by decide +kernel
theorem d_jdk_52_3_58 : decode jdk_52_method_3_code 58 = .ok (.ireturn, 1) := by decide +kernel
theorem d_jdk_52_40_0 : decode jdk_52_method_40_code 0 = .ok (.iload_n 2, 1) := by decide +kernel
theorem d_jdk_52_40_1 : decode jdk_52_method_40_code 1 = .ok (.iconst 0, 1) := by decide +kernel
theorem d_jdk_52_40_2 : decode jdk_52_method_40_code 2 = .ok (.invokestatic 224, 3) := by decide +kernel
theorem d_jdk_52_40_5 : decode jdk_52_method_40_code 5 = .ok (.istore_n 2, 1) := by decide +kernel
theorem d_jdk_52_40_6 : decode jdk_52_method_40_code 6 = .ok (.iload_n 3, 1) := by decide +kernel
theorem d_jdk_52_40_7 : decode jdk_52_method_40_code 7 = .ok (.aload_n 0, 1) := by decide +kernel
theorem d_jdk_52_40_8 : decode jdk_52_method_40_code 8 = .ok (.arraylength, 1) := by decide +kernel
theorem d_jdk_52_40_9 : decode jdk_52_method_40_code 9 = .ok (.iconst 1, 1) := by decide +kernel
theorem d_jdk_52_40_10 : decode jdk_52_method_40_code 10 = .ok (.ishr, 1) := by decide +kernel
theorem d_jdk_52_40_11 : decode jdk_52_method_40_code 11 = .ok (.invokestatic 183, 3) := by decide +kernel
theorem d_jdk_52_40_14 : decode jdk_52_method_40_code 14 = .ok (.istore_n 3, 1) := by decide +kernel
theorem d_jdk_52_40_15 : decode jdk_52_method_40_code 15 = .ok (.iload_n 2, 1) := by decide +kernel
theorem d_jdk_52_40_16 : decode jdk_52_method_40_code 16 = .ok (.iload_n 3, 1) := by decide +kernel
theorem d_jdk_52_40_17 : decode jdk_52_method_40_code 17 = .ok (.if_icmp .lt 5, 3) := by decide +kernel
theorem d_jdk_52_40_22 : decode jdk_52_method_40_code 22 = .ok (.iload_n 1, 1) := by decide +kernel
theorem d_jdk_52_40_23 : decode jdk_52_method_40_code 23 = .ok (.ldc 227, 2) := by decide +kernel
theorem d_jdk_52_40_25 : decode jdk_52_method_40_code 25 = .ok (.if_icmp .ge 11, 3) := by decide +kernel
theorem d_jdk_52_40_28 : decode jdk_52_method_40_code 28 = .ok (.aload_n 0, 1) := by decide +kernel
theorem d_jdk_52_40_29 : decode jdk_52_method_40_code 29 = .ok (.iload_n 1, 1) := by decide +kernel
theorem d_jdk_52_40_30 : decode jdk_52_method_40_code 30 = .ok (.iload_n 2, 1) := by decide +kernel
theorem d_jdk_52_40_31 : decode jdk_52_method_40_code 31 = .ok (.iload_n 3, 1) := by decide +kernel
theorem d_jdk_52_40_32 : decode jdk_52_method_40_code 32 = .ok (.invokestatic 228, 3) := by decide +kernel
theorem d_jdk_52_40_35 : decode jdk_52_method_40_code 35 = .ok (.ireturn, 1) := by decide +kernel
theorem d_jdk_52_47_0 : decode jdk_52_method_47_code 0 = .ok (.iload_n 2, 1) := by decide +kernel
theorem d_jdk_52_47_1 : decode jdk_52_method_47_code 1 = .ok (.iload_n 3, 1) := by decide +kernel
theorem d_jdk_52_47_2 : decode jdk_52_method_47_code 2 = .ok (.aload_n 0, 1) := by decide +kernel
theorem d_jdk_52_47_3 : decode jdk_52_method_47_code 3 = .ok (.invokestatic 96, 3) := by decide +kernel
theorem d_jdk_52_47_6 : decode jdk_52_method_47_code 6 = .ok (.aload_n 0, 1) := by decide +kernel
theorem d_jdk_52_47_7 : decode jdk_52_method_47_code 7 = .ok (.iload_n 1, 1) := by decide +kernel
theorem d_jdk_52_47_8 : decode jdk_52_method_47_code 8 = .ok (.iload_n 2, 1) := by decide +kernel
theorem d_jdk_52_47_9 : decode jdk_52_method_47_code 9 = .ok (.iload_n 3, 1) := by decide +kernel
theorem d_jdk_52_47_10 : decode jdk_52_method_47_code 10 = .ok (.invokestatic 244, 3) := by decide +kernel
theorem d_jdk_52_47_13 : decode jdk_52_method_47_code 13 = .ok (.ireturn, 1) := by decide +kernel
theorem d_jdk_52_48_0 : decode jdk_52_method_48_code 0 = .ok (.iload_n 2, 1) := by decide +kernel
theorem d_jdk_52_48_1 : decode jdk_52_method_48_code 1 = .ok (.istore 4, 2) := by decide +kernel
theorem d_jdk_52_48_3 : decode jdk_52_method_48_code 3 = .ok (.iload 4, 2) := by decide +kernel
theorem d_jdk_52_48_5 : decode jdk_52_method_48_code 5 = .ok (.iload_n 3, 1) := by decide +kernel
theorem d_jdk_52_48_6 : decode jdk_52_method_48_code 6 = .ok (.if_icmp .ge 22, 3) := by decide +kernel
theorem d_jdk_52_48_9 : decode jdk_52_method_48_code 9 = .ok (.aload_n 0, 1) := by decide +kernel
theorem d_jdk_52_48_10 : decode jdk_52_method_48_code 10 = .ok (.iload 4, 2) := by decide +kernel
theorem d_jdk_52_48_12 : decode jdk_52_method_48_code 12 = .ok (.invokestatic 71, 3) := by decide +kernel
theorem d_jdk_52_48_15 : decode jdk_52_method_48_code 15 = .ok (.iload_n 1, 1) := by decide +kernel
theorem d_jdk_52_48_16 : decode jdk_52_method_48_code 16 = .ok (.if_icmp .ne 6, 3) := by decide +kernel
theorem d_jdk_52_48_19 : decode jdk_52_method_48_code 19 = .ok (.iload 4, 2) := by decide +kernel
theorem d_jdk_52_48_21 : decode jdk_52_method_48_code 21 = .ok (.ireturn, 1) := by decide +kernel
theorem d_jdk_52_48_22 : decode jdk_52_method_48_code 22 = .ok (.iinc 4 1, 3) := by decide +kernel
theorem d_jdk_52_48_25 : decode jdk_52_method_48_code 25 = .ok (.goto (-22), 3) := by decide +kernel
theorem d_jdk_52_48_28 : decode jdk_52_method_48_code 28 = .ok (.iconst (-1), 1) := by decide +kernel
theorem d_jdk_52_48_29 : decode jdk_52_method_48_code 29 = .ok (.ireturn, 1) := by decide +kernel
theorem d_jdk_52_4_0 : decode jdk_52_method_4_code 0 = .ok (.getstatic 44, 3) := by decide +kernel
theorem d_jdk_52_4_3 : decode jdk_52_method_4_code 3 = .ok (.ifCond .ne 25, 3) := by decide +kernel
theorem d_jdk_52_4_28 : decode jdk_52_method_4_code 28 = .ok (.iload_n 1, 1) := by decide +kernel
theorem d_jdk_52_4_29 : decode jdk_52_method_4_code 29 = .ok (.iconst 1, 1) := by decide +kernel
theorem d_jdk_52_4_30 : decode jdk_52_method_4_code 30 = .ok (.ishl, 1) := by decide +kernel
theorem d_jdk_52_4_31 : decode jdk_52_method_4_code 31 = .ok (.istore_n 1, 1) := by decide +kernel
theorem d_jdk_52_4_32 : decode jdk_52_method_4_code 32 = .ok (.aload_n 0, 1) := by decide +kernel
theorem d_jdk_52_4_33 : decode jdk_52_method_4_code 33 = .ok (.iload_n 1, 1) := by decide +kernel
theorem d_jdk_52_4_34 : decode jdk_52_method_4_code 34 = .ok (.iinc 1 1, 3) := by decide +kernel
theorem d_jdk_52_4_37 : decode jdk_52_method_4_code 37 = .ok (.iload_n 2, 1) := by decide +kernel
theorem d_jdk_52_4_38 : decode jdk_52_method_4_code 38 = .ok (.getstatic 59, 3) := by decide +kernel
theorem d_jdk_52_4_41 : decode jdk_52_method_4_code 41 = .ok (.ishr, 1) := by decide +kernel
theorem d_jdk_52_4_42 : decode jdk_52_method_4_code 42 = .ok (.i2b, 1) := by decide +kernel
theorem d_jdk_52_4_43 : decode jdk_52_method_4_code 43 = .ok (.bastore, 1) := by decide +kernel
theorem d_jdk_52_4_44 : decode jdk_52_method_4_code 44 = .ok (.aload_n 0, 1) := by decide +kernel
theorem d_jdk_52_4_45 : decode jdk_52_method_4_code 45 = .ok (.iload_n 1, 1) := by decide +kernel
theorem d_jdk_52_4_46 : decode jdk_52_method_4_code 46 = .ok (.iload_n 2, 1) := by decide +kernel
theorem d_jdk_52_4_47 : decode jdk_52_method_4_code 47 = .ok (.getstatic 63, 3) := by decide +kernel
theorem d_jdk_52_4_50 : decode jdk_52_method_4_code 50 = .ok (.ishr, 1) := by decide +kernel
theorem d_jdk_52_4_51 : decode jdk_52_method_4_code 51 = .ok (.i2b, 1) := by decide +kernel
theorem d_jdk_52_4_52 : decode jdk_52_method_4_code 52 = .ok (.bastore, 1) := by decide +kernel
theorem d_jdk_52_4_53 : decode jdk_52_method_4_code 53 = .ok (.return_, 1) := by decide +kernel
theorem d_jdk_52_5_0 : decode jdk_52_method_5_code 0 = .ok (.getstatic 44, 3) := by decide +kernel
theorem d_jdk_52_5_3 : decode jdk_52_method_5_code 3 = .ok (.ifCond .ne 25, 3) := by decide +kernel
theorem d_jdk_52_5_28 : decode jdk_52_method_5_code 28 = .ok (.iload_n 1, 1) := by decide +kernel
theorem d_jdk_52_5_29 : decode jdk_52_method_5_code 29 = .ok (.iconst 1, 1) := by decide +kernel
theorem d_jdk_52_5_30 : decode jdk_52_method_5_code 30 = .ok (.ishl, 1) := by decide +kernel
theorem d_jdk_52_5_31 : decode jdk_52_method_5_code 31 = .ok (.istore_n 1, 1) := by decide +kernel
theorem d_jdk_52_5_32 : decode jdk_52_method_5_code 32 = .ok (.aload_n 0, 1) := by decide +kernel
theorem d_jdk_52_5_33 : decode jdk_52_method_5_code 33 = .ok (.iload_n 1, 1) := by decide +kernel
theorem d_jdk_52_5_34 : decode jdk_52_method_5_code 34 = .ok (.iinc 1 1, 3) := by decide +kernel
theorem d_jdk_52_5_37 : decode jdk_52_method_5_code 37 = .ok (.baload, 1) := by decide +kernel
theorem d_jdk_52_5_38 : decode jdk_52_method_5_code 38 = .ok (.sipush 255, 3) := by decide +kernel
theorem d_jdk_52_5_41 : decode jdk_52_method_5_code 41 = .ok (.iand, 1) := by decide +kernel
theorem d_jdk_52_5_42 : decode jdk_52_method_5_code 42 = .ok (.getstatic 59, 3) := by decide +kernel
theorem d_jdk_52_5_45 : decode jdk_52_method_5_code 45 = .ok (.ishl, 1) := by decide +kernel
theorem d_jdk_52_5_46 : decode jdk_52_method_5_code 46 = .ok (.aload_n 0, 1) := by decide +kernel
theorem d_jdk_52_5_47 : decode jdk_52_method_5_code 47 = .ok (.iload_n 1, 1) := by decide +kernel
theorem d_jdk_52_5_48 : decode jdk_52_method_5_code 48 = .ok (.baload, 1) := by decide +kernel
theorem d_jdk_52_5_49 : decode jdk_52_method_5_code 49 = .ok (.sipush 255, 3) := by decide +kernel
theorem d_jdk_52_5_52 : decode jdk_52_method_5_code 52 = .ok (.iand, 1) := by decide +kernel
theorem d_jdk_52_5_53 : decode jdk_52_method_5_code 53 = .ok (.getstatic 63, 3) := by decide +kernel
theorem d_jdk_52_5_56 : decode jdk_52_method_5_code 56 = .ok (.ishl, 1) := by decide +kernel
theorem d_jdk_52_5_57 : decode jdk_52_method_5_code 57 = .ok (.ior, 1) := by decide +kernel
theorem d_jdk_52_5_58 : decode jdk_52_method_5_code 58 = .ok (.i2c, 1) := by decide +kernel
theorem d_jdk_52_5_59 : decode jdk_52_method_5_code 59 = .ok (.ireturn, 1) := by decide +kernel
theorem d_jdk_52_6_0 : decode jdk_52_method_6_code 0 = .ok (.aload_n 0, 1) := by decide +kernel
theorem d_jdk_52_6_1 : decode jdk_52_method_6_code 1 = .ok (.arraylength, 1) := by decide +kernel
theorem d_jdk_52_6_2 : decode jdk_52_method_6_code 2 = .ok (.iconst 1, 1) := by decide +kernel
theorem d_jdk_52_6_3 : decode jdk_52_method_6_code 3 = .ok (.ishr, 1) := by decide +kernel
theorem d_jdk_52_6_4 : decode jdk_52_method_6_code 4 = .ok (.ireturn, 1) := by decide +kernel
theorem d_jdk_52_93_0 : decode jdk_52_method_93_code 0 = .ok (.iload_n 0, 1) := by decide +kernel
theorem d_jdk_52_93_1 : decode jdk_52_method_93_code 1 = .ok (.iload_n 1, 1) := by decide +kernel
theorem d_jdk_52_93_2 : decode jdk_52_method_93_code 2 = .ok (.aload_n 2, 1) := by decide +kernel
theorem d_jdk_52_93_3 : decode jdk_52_method_93_code 3 = .ok (.invokestatic 48, 3) := by decide +kernel
theorem d_jdk_52_93_6 : decode jdk_52_method_93_code 6 = .ok (.invokestatic 241, 3) := by decide +kernel
theorem d_jdk_52_93_9 : decode jdk_52_method_93_code 9 = .ok (.return_, 1) := by decide +kernel
theorem d_2_0 : decode method_2_code 0 = .ok (.iload_n 0, 1) := by decide +kernel
theorem d_2_1 : decode method_2_code 1 = .ok (.ldc 7, 2) := by decide +kernel
theorem d_2_3 : decode method_2_code 3 = .ok (.iand, 1) := by decide +kernel
theorem d_2_4 : decode method_2_code 4 = .ok (.ifCond .eq 8, 3) := by decide +kernel
theorem d_2_7 : decode method_2_code 7 = .ok (.bipush 44, 2) := by decide +kernel
theorem d_2_9 : decode method_2_code 9 = .ok (.goto 8, 3) := by decide +kernel
theorem d_2_12 : decode method_2_code 12 = .ok (.iload_n 0, 1) := by decide +kernel
theorem d_2_13 : decode method_2_code 13 = .ok (.ldc 8, 2) := by decide +kernel
theorem d_2_15 : decode method_2_code 15 = .ok (.iand, 1) := by decide +kernel
theorem d_2_16 : decode method_2_code 16 = .ok (.i2c, 1) := by decide +kernel
theorem d_2_17 : decode method_2_code 17 = .ok (.ireturn, 1) := by decide +kernel
theorem d_prog_71_4_0 : decode prog_71_method_4_code 0 = .ok (.aload_n 0, 1) := by decide +kernel
theorem d_prog_71_4_1 : decode prog_71_method_4_code 1 = .ok (.bipush 44, 2) := by decide +kernel
theorem d_prog_71_4_3 : decode prog_71_method_4_code 3 = .ok (.invokevirtual 94, 3) := by decide +kernel
theorem d_prog_71_4_6 : decode prog_71_method_4_code 6 = .ok (.ifCond .ge 7, 3) := by decide +kernel
theorem d_prog_71_4_9 : decode prog_71_method_4_code 9 = .ok (.iconst 1, 1) := by decide +kernel
theorem d_prog_71_4_10 : decode prog_71_method_4_code 10 = .ok (.goto 4, 3) := by decide +kernel
theorem d_prog_71_4_13 : decode prog_71_method_4_code 13 = .ok (.iconst 0, 1) := by decide +kernel
theorem d_prog_71_4_14 : decode prog_71_method_4_code 14 = .ok (.ireturn, 1) := by decide +kernel
theorem pd_0 : parseMethodDescriptor "([CI[BII)I" = some ⟨[(.array .char), .int, (.array .byte), .int, .int], some .int⟩ := by decide +kernel
theorem pd_1 : parseMethodDescriptor "([CII)[B" = some ⟨[(.array .char), .int, .int], some (.array .byte)⟩ := by decide +kernel
theorem pd_2 : parseMethodDescriptor "([BI)B" = some ⟨[(.array .byte), .int], some .byte⟩ := by decide +kernel
theorem pd_3 : parseMethodDescriptor "(I)I" = some ⟨[.int], some .int⟩ := by decide +kernel
theorem pd_4 : parseMethodDescriptor "(I)[B" = some ⟨[.int], some (.array .byte)⟩ := by decide +kernel
theorem pd_5 : parseMethodDescriptor "([BII)V" = some ⟨[(.array .byte), .int, .int], none⟩ := by decide +kernel
theorem pd_6 : parseMethodDescriptor "([BI)C" = some ⟨[(.array .byte), .int], some .char⟩ := by decide +kernel
theorem pd_7 : parseMethodDescriptor "([CIILjava/lang/Void;)V" = some ⟨[(.array .char), .int, .int, (.object "java/lang/Void")], none⟩ := by decide +kernel
theorem pd_8 : parseMethodDescriptor "()B" = some ⟨[], some .byte⟩ := by decide +kernel
theorem pd_9 : parseMethodDescriptor "(I)Z" = some ⟨[.int], some .boolean⟩ := by decide +kernel
theorem pd_10 : parseMethodDescriptor "(II)I" = some ⟨[.int, .int], some .int⟩ := by decide +kernel
theorem pd_11 : parseMethodDescriptor "([BIII)I" = some ⟨[(.array .byte), .int, .int, .int], some .int⟩ := by decide +kernel
theorem pd_12 : parseMethodDescriptor "(IIILjava/util/function/BiFunction;)I" = some ⟨[.int, .int, .int, (.object "java/util/function/BiFunction")], some .int⟩ := by decide +kernel
theorem pd_13 : parseMethodDescriptor "([B)I" = some ⟨[(.array .byte)], some .int⟩ := by decide +kernel
theorem pd_14 : parseMethodDescriptor "(III)V" = some ⟨[.int, .int, .int], none⟩ := by decide +kernel
theorem pd_15 : parseMethodDescriptor "(II[B)V" = some ⟨[.int, .int, (.array .byte)], none⟩ := by decide +kernel
theorem pd_16 : parseMethodDescriptor "()Z" = some ⟨[], some .boolean⟩ := by decide +kernel
theorem pd_17 : parseMethodDescriptor "()I" = some ⟨[], some .int⟩ := by decide +kernel
theorem pd_18 : parseMethodDescriptor "(I)C" = some ⟨[.int], some .char⟩ := by decide +kernel
theorem pd_19 : parseMethodDescriptor "([C)V" = some ⟨[(.array .char)], none⟩ := by decide +kernel
theorem pd_20 : parseMethodDescriptor "(Ljava/lang/String;)Z" = some ⟨[(.object "java/lang/String")], some .boolean⟩ := by decide +kernel
theorem pn_0 : plainName "java/lang/StringUTF16" = true := by first | (simp [plainName, overriddenIn]; done) | decide +kernel
theorem pn_1 : plainName "java/lang/String" = true := by first | (simp [plainName, overriddenIn]; done) | decide +kernel
theorem pn_2 : plainFor (⟨"java/lang/Math", "max", "(II)I"⟩ : MethodName) = true := by decide +kernel
theorem pn_3 : plainFor (⟨"java/lang/Math", "min", "(II)I"⟩ : MethodName) = true := by decide +kernel
theorem pn_4 : plainName "java/lang/StringLatin1" = true := by first | (simp [plainName, overriddenIn]; done) | decide +kernel
theorem pn_5 : plainName "jdk/internal/util/Preconditions" = true := by first | (simp [plainName, overriddenIn]; done) | decide +kernel
theorem pn_6 : plainName "com/example/settlegram/settlegram/Positions" = true := by first | (simp [plainName, overriddenIn]; done) | decide +kernel
theorem pn_7 : plainName "com/example/settlegram/settlegram/PositionsKeepsPinLaw" = true := by first | (simp [plainName, overriddenIn]; done) | decide +kernel
theorem w_0 {a0 : Array Value} {Z : State} (hw : ∀ d ∈ tables_1, d.before a0 Z = true) : (Jvm.Cond.constant "com/example/settlegram/settlegram/PositionsKeepsPinLaw" (9 : Nat) (2147483647 : Int32)).before a0 Z = true := hw _ (List.mem_of_getElem? (i := 0) rfl)
theorem w_1 {a0 : Array Value} {Z : State} (hw : ∀ d ∈ tables_1, d.before a0 Z = true) : (Jvm.Cond.methodLink "com/example/settlegram/settlegram/PositionsKeepsPinLaw" (10 : Nat) ({ cls := "com/example/settlegram/settlegram/PositionsKeepsPinLaw", name := "ch", desc := "(I)C" } : Jvm.MethodName)).before a0 Z = true := hw _ (List.mem_of_getElem? (i := 1) rfl)
theorem w_2 {a0 : Array Value} {Z : State} (hw : ∀ d ∈ tables_1, d.before a0 Z = true) : (Jvm.Cond.static ({ cls := "com/example/settlegram/settlegram/PositionsKeepsPinLaw", name := "ch", desc := "(I)C" } : Jvm.MethodName)).before a0 Z = true := hw _ (List.mem_of_getElem? (i := 2) rfl)
theorem w_3 {a0 : Array Value} {Z : State} (hw : ∀ d ∈ tables_1, d.before a0 Z = true) : (Jvm.Cond.initialized "com/example/settlegram/settlegram/PositionsKeepsPinLaw").before a0 Z = true := hw _ (List.mem_of_getElem? (i := 3) rfl)
theorem w_4 {a0 : Array Value} {Z : State} (hw : ∀ d ∈ tables_1, d.before a0 Z = true) : (Jvm.Cond.code ({ cls := "com/example/settlegram/settlegram/PositionsKeepsPinLaw", name := "ch", desc := "(I)C" } : Jvm.MethodName) method_2_code (1 : Nat) (Option.some Jvm.ClassFile.FieldType.char)).before a0 Z = true := hw _ (List.mem_of_getElem? (i := 4) rfl)
theorem w_5 {a0 : Array Value} {Z : State} (hw : ∀ d ∈ tables_1, d.before a0 Z = true) : (Jvm.Cond.constant "com/example/settlegram/settlegram/PositionsKeepsPinLaw" (7 : Nat) (65536 : Int32)).before a0 Z = true := hw _ (List.mem_of_getElem? (i := 5) rfl)
theorem w_6 {a0 : Array Value} {Z : State} (hw : ∀ d ∈ tables_1, d.before a0 Z = true) : (Jvm.Cond.constant "com/example/settlegram/settlegram/PositionsKeepsPinLaw" (8 : Nat) (65535 : Int32)).before a0 Z = true := hw _ (List.mem_of_getElem? (i := 6) rfl)
theorem w_7 {a0 : Array Value} {Z : State} (hw : ∀ d ∈ tables_1, d.before a0 Z = true) : (Jvm.Cond.classLink "com/example/settlegram/settlegram/PositionsKeepsPinLaw" (16 : Nat) "java/lang/String").before a0 Z = true := hw _ (List.mem_of_getElem? (i := 7) rfl)
theorem w_8 {a0 : Array Value} {Z : State} (hw : ∀ d ∈ tables_1, d.before a0 Z = true) : (Jvm.Cond.instantiable "java/lang/String" (4 : Nat)).before a0 Z = true := hw _ (List.mem_of_getElem? (i := 8) rfl)
theorem w_9 {a0 : Array Value} {Z : State} (hw : ∀ d ∈ tables_1, d.before a0 Z = true) : (Jvm.Cond.initialized "java/lang/String").before a0 Z = true := hw _ (List.mem_of_getElem? (i := 9) rfl)
theorem w_10 {a0 : Array Value} {Z : State} (hw : ∀ d ∈ tables_1, d.before a0 Z = true) : (Jvm.Cond.arrayClass Jvm.ClassFile.FieldType.char).before a0 Z = true := hw _ (List.mem_of_getElem? (i := 10) rfl)
theorem w_11 {a0 : Array Value} {Z : State} (hw : ∀ d ∈ tables_1, d.before a0 Z = true) : (Jvm.Cond.methodLink "com/example/settlegram/settlegram/PositionsKeepsPinLaw" (18 : Nat) ({ cls := "java/lang/String", name := "<init>", desc := "([C)V" } : Jvm.MethodName)).before a0 Z = true := hw _ (List.mem_of_getElem? (i := 11) rfl)
theorem w_12 {a0 : Array Value} {Z : State} (hw : ∀ d ∈ tables_1, d.before a0 Z = true) : (Jvm.Cond.instanceMethod ({ cls := "java/lang/String", name := "<init>", desc := "([C)V" } : Jvm.MethodName)).before a0 Z = true := hw _ (List.mem_of_getElem? (i := 12) rfl)
theorem w_13 {a0 : Array Value} {Z : State} (hw : ∀ d ∈ tables_1, d.before a0 Z = true) : (Jvm.Cond.code ({ cls := "java/lang/String", name := "<init>", desc := "([C)V" } : Jvm.MethodName) jdk_42_method_3_code (2 : Nat) (Option.none : Option Jvm.ClassFile.FieldType)).before a0 Z = true := hw _ (List.mem_of_getElem? (i := 13) rfl)
theorem w_14 {a0 : Array Value} {Z : State} (hw : ∀ d ∈ tables_1, d.before a0 Z = true) : (Jvm.Cond.methodLink "java/lang/String" (27 : Nat) ({ cls := "java/lang/String", name := "<init>", desc := "([CIILjava/lang/Void;)V" } : Jvm.MethodName)).before a0 Z = true := hw _ (List.mem_of_getElem? (i := 14) rfl)
theorem w_15 {a0 : Array Value} {Z : State} (hw : ∀ d ∈ tables_1, d.before a0 Z = true) : (Jvm.Cond.instanceMethod ({ cls := "java/lang/String", name := "<init>", desc := "([CIILjava/lang/Void;)V" } : Jvm.MethodName)).before a0 Z = true := hw _ (List.mem_of_getElem? (i := 15) rfl)
theorem w_17 {a0 : Array Value} {Z : State} (hw : ∀ d ∈ tables_1, d.before a0 Z = true) : (Jvm.Cond.code ({ cls := "java/lang/String", name := "<init>", desc := "([CIILjava/lang/Void;)V" } : Jvm.MethodName) jdk_42_method_149_code (6 : Nat) (Option.none : Option Jvm.ClassFile.FieldType)).before a0 Z = true := hw _ (List.mem_of_getElem? (i := 17) rfl)
theorem w_18 {a0 : Array Value} {Z : State} (hw : ∀ d ∈ tables_1, d.before a0 Z = true) : (Jvm.Cond.methodLink "java/lang/String" (1 : Nat) ({ cls := "java/lang/Object", name := "<init>", desc := "()V" } : Jvm.MethodName)).before a0 Z = true := hw _ (List.mem_of_getElem? (i := 18) rfl)
theorem w_19 {a0 : Array Value} {Z : State} (hw : ∀ d ∈ tables_1, d.before a0 Z = true) : (Jvm.Cond.instanceMethod ({ cls := "java/lang/Object", name := "<init>", desc := "()V" } : Jvm.MethodName)).before a0 Z = true := hw _ (List.mem_of_getElem? (i := 19) rfl)
theorem w_20 {a0 : Array Value} {Z : State} (hw : ∀ d ∈ tables_1, d.before a0 Z = true) : (Jvm.Cond.code ({ cls := "java/lang/Object", name := "<init>", desc := "()V" } : Jvm.MethodName) object_method_1_code (1 : Nat) (Option.none : Option Jvm.ClassFile.FieldType)).before a0 Z = true := hw _ (List.mem_of_getElem? (i := 20) rfl)
theorem w_21 {a0 : Array Value} {Z : State} (hw : ∀ d ∈ tables_1, d.before a0 Z = true) : (Jvm.Cond.stringLink "java/lang/String" (7 : Nat) "").before a0 Z = true := hw _ (List.mem_of_getElem? (i := 21) rfl)
theorem w_22 {a0 : Array Value} {Z : State} (hw : ∀ d ∈ tables_1, d.before a0 Z = true) : (Jvm.Cond.arrayClass Jvm.ClassFile.FieldType.byte).before a0 Z = true := hw _ (List.mem_of_getElem? (i := 22) rfl)
theorem w_23 {a0 : Array Value} {Z : State} (hw : ∀ d ∈ tables_1, d.before a0 Z = true) : (Jvm.Cond.laysFinal "java/lang/String" "java/lang/String" "value" "[B").before a0 Z = true := hw _ (List.mem_of_getElem? (i := 23) rfl)
theorem w_24 {a0 : Array Value} {Z : State} (hw : ∀ d ∈ tables_1, d.before a0 Z = true) : (Jvm.Cond.laysFinal "java/lang/String" "java/lang/String" "coder" "B").before a0 Z = true := hw _ (List.mem_of_getElem? (i := 24) rfl)
theorem w_27 {a0 : Array Value} {Z : State} (hw : ∀ d ∈ tables_1, d.before a0 Z = true) : (Jvm.Cond.fieldLink "java/lang/String" (9 : Nat) "java/lang/String" "value" "[B").before a0 Z = true := hw _ (List.mem_of_getElem? (i := 27) rfl)
theorem w_28 {a0 : Array Value} {Z : State} (hw : ∀ d ∈ tables_1, d.before a0 Z = true) : (Jvm.Cond.fieldLink "java/lang/String" (15 : Nat) "java/lang/String" "coder" "B").before a0 Z = true := hw _ (List.mem_of_getElem? (i := 28) rfl)
theorem w_29 {a0 : Array Value} {Z : State} (hw : ∀ d ∈ tables_1, d.before a0 Z = true) : (Jvm.Cond.methodLink "com/example/settlegram/settlegram/PositionsKeepsPinLaw" (21 : Nat) ({ cls := "com/example/settlegram/settlegram/Positions", name := "keeps", desc := "(Ljava/lang/String;)Z" } : Jvm.MethodName)).before a0 Z = true := hw _ (List.mem_of_getElem? (i := 29) rfl)
theorem w_30 {a0 : Array Value} {Z : State} (hw : ∀ d ∈ tables_1, d.before a0 Z = true) : (Jvm.Cond.static ({ cls := "com/example/settlegram/settlegram/Positions", name := "keeps", desc := "(Ljava/lang/String;)Z" } : Jvm.MethodName)).before a0 Z = true := hw _ (List.mem_of_getElem? (i := 30) rfl)
theorem w_31 {a0 : Array Value} {Z : State} (hw : ∀ d ∈ tables_1, d.before a0 Z = true) : (Jvm.Cond.initialized "com/example/settlegram/settlegram/Positions").before a0 Z = true := hw _ (List.mem_of_getElem? (i := 31) rfl)
theorem w_32 {a0 : Array Value} {Z : State} (hw : ∀ d ∈ tables_1, d.before a0 Z = true) : (Jvm.Cond.code ({ cls := "com/example/settlegram/settlegram/Positions", name := "keeps", desc := "(Ljava/lang/String;)Z" } : Jvm.MethodName) prog_71_method_4_code (1 : Nat) (Option.some Jvm.ClassFile.FieldType.boolean)).before a0 Z = true := hw _ (List.mem_of_getElem? (i := 32) rfl)
theorem w_33 {a0 : Array Value} {Z : State} (hw : ∀ d ∈ tables_1, d.before a0 Z = true) : (Jvm.Cond.methodLink "com/example/settlegram/settlegram/Positions" (94 : Nat) ({ cls := "java/lang/String", name := "indexOf", desc := "(I)I" } : Jvm.MethodName)).before a0 Z = true := hw _ (List.mem_of_getElem? (i := 33) rfl)
theorem w_34 {a0 : Array Value} {Z : State} (hw : ∀ d ∈ tables_1, d.before a0 Z = true) : (Jvm.Cond.declares ({ cls := "java/lang/String", name := "indexOf", desc := "(I)I" } : Jvm.MethodName)).before a0 Z = true := hw _ (List.mem_of_getElem? (i := 34) rfl)
theorem w_35 {a0 : Array Value} {Z : State} (hw : ∀ d ∈ tables_1, d.before a0 Z = true) : (Jvm.Cond.instanceMethod ({ cls := "java/lang/String", name := "indexOf", desc := "(I)I" } : Jvm.MethodName)).before a0 Z = true := hw _ (List.mem_of_getElem? (i := 35) rfl)
theorem w_36 {a0 : Array Value} {Z : State} (hw : ∀ d ∈ tables_1, d.before a0 Z = true) : (Jvm.Cond.selects "java/lang/String" ({ cls := "java/lang/String", name := "indexOf", desc := "(I)I" } : Jvm.MethodName) ({ cls := "java/lang/String", name := "indexOf", desc := "(I)I" } : Jvm.MethodName)).before a0 Z = true := hw _ (List.mem_of_getElem? (i := 36) rfl)
theorem w_37 {a0 : Array Value} {Z : State} (hw : ∀ d ∈ tables_1, d.before a0 Z = true) : (Jvm.Cond.code ({ cls := "java/lang/String", name := "indexOf", desc := "(I)I" } : Jvm.MethodName) jdk_42_method_79_code (2 : Nat) (Option.some Jvm.ClassFile.FieldType.int)).before a0 Z = true := hw _ (List.mem_of_getElem? (i := 37) rfl)
theorem w_38 {a0 : Array Value} {Z : State} (hw : ∀ d ∈ tables_1, d.before a0 Z = true) : (Jvm.Cond.methodLink "java/lang/String" (633 : Nat) ({ cls := "java/lang/String", name := "indexOf", desc := "(II)I" } : Jvm.MethodName)).before a0 Z = true := hw _ (List.mem_of_getElem? (i := 38) rfl)
theorem w_39 {a0 : Array Value} {Z : State} (hw : ∀ d ∈ tables_1, d.before a0 Z = true) : (Jvm.Cond.declares ({ cls := "java/lang/String", name := "indexOf", desc := "(II)I" } : Jvm.MethodName)).before a0 Z = true := hw _ (List.mem_of_getElem? (i := 39) rfl)
theorem w_40 {a0 : Array Value} {Z : State} (hw : ∀ d ∈ tables_1, d.before a0 Z = true) : (Jvm.Cond.instanceMethod ({ cls := "java/lang/String", name := "indexOf", desc := "(II)I" } : Jvm.MethodName)).before a0 Z = true := hw _ (List.mem_of_getElem? (i := 40) rfl)
theorem w_41 {a0 : Array Value} {Z : State} (hw : ∀ d ∈ tables_1, d.before a0 Z = true) : (Jvm.Cond.selects "java/lang/String" ({ cls := "java/lang/String", name := "indexOf", desc := "(II)I" } : Jvm.MethodName) ({ cls := "java/lang/String", name := "indexOf", desc := "(II)I" } : Jvm.MethodName)).before a0 Z = true := hw _ (List.mem_of_getElem? (i := 41) rfl)
theorem w_42 {a0 : Array Value} {Z : State} (hw : ∀ d ∈ tables_1, d.before a0 Z = true) : (Jvm.Cond.code ({ cls := "java/lang/String", name := "indexOf", desc := "(II)I" } : Jvm.MethodName) jdk_42_method_80_code (3 : Nat) (Option.some Jvm.ClassFile.FieldType.int)).before a0 Z = true := hw _ (List.mem_of_getElem? (i := 42) rfl)
theorem w_43 {a0 : Array Value} {Z : State} (hw : ∀ d ∈ tables_1, d.before a0 Z = true) : (Jvm.Cond.methodLink "java/lang/String" (492 : Nat) ({ cls := "java/lang/String", name := "isLatin1", desc := "()Z" } : Jvm.MethodName)).before a0 Z = true := hw _ (List.mem_of_getElem? (i := 43) rfl)
theorem w_44 {a0 : Array Value} {Z : State} (hw : ∀ d ∈ tables_1, d.before a0 Z = true) : (Jvm.Cond.declares ({ cls := "java/lang/String", name := "isLatin1", desc := "()Z" } : Jvm.MethodName)).before a0 Z = true := hw _ (List.mem_of_getElem? (i := 44) rfl)
theorem w_45 {a0 : Array Value} {Z : State} (hw : ∀ d ∈ tables_1, d.before a0 Z = true) : (Jvm.Cond.instanceMethod ({ cls := "java/lang/String", name := "isLatin1", desc := "()Z" } : Jvm.MethodName)).before a0 Z = true := hw _ (List.mem_of_getElem? (i := 45) rfl)
theorem w_46 {a0 : Array Value} {Z : State} (hw : ∀ d ∈ tables_1, d.before a0 Z = true) : (Jvm.Cond.selects "java/lang/String" ({ cls := "java/lang/String", name := "isLatin1", desc := "()Z" } : Jvm.MethodName) ({ cls := "java/lang/String", name := "isLatin1", desc := "()Z" } : Jvm.MethodName)).before a0 Z = true := hw _ (List.mem_of_getElem? (i := 46) rfl)
theorem w_47 {a0 : Array Value} {Z : State} (hw : ∀ d ∈ tables_1, d.before a0 Z = true) : (Jvm.Cond.code ({ cls := "java/lang/String", name := "isLatin1", desc := "()Z" } : Jvm.MethodName) jdk_42_method_154_code (1 : Nat) (Option.some Jvm.ClassFile.FieldType.boolean)).before a0 Z = true := hw _ (List.mem_of_getElem? (i := 47) rfl)
theorem w_48 {a0 : Array Value} {Z : State} (hw : ∀ d ∈ tables_1, d.before a0 Z = true) : (Jvm.Cond.fieldLink "java/lang/String" (38 : Nat) "java/lang/String" "COMPACT_STRINGS" "Z").before a0 Z = true := hw _ (List.mem_of_getElem? (i := 48) rfl)
theorem w_49 {a0 : Array Value} {Z : State} (hw : ∀ d ∈ tables_1, d.before a0 Z = true) : (Jvm.Cond.methodLink "java/lang/String" (505 : Nat) ({ cls := "java/lang/String", name := "length", desc := "()I" } : Jvm.MethodName)).before a0 Z = true := hw _ (List.mem_of_getElem? (i := 49) rfl)
theorem w_50 {a0 : Array Value} {Z : State} (hw : ∀ d ∈ tables_1, d.before a0 Z = true) : (Jvm.Cond.declares ({ cls := "java/lang/String", name := "length", desc := "()I" } : Jvm.MethodName)).before a0 Z = true := hw _ (List.mem_of_getElem? (i := 50) rfl)
theorem w_51 {a0 : Array Value} {Z : State} (hw : ∀ d ∈ tables_1, d.before a0 Z = true) : (Jvm.Cond.instanceMethod ({ cls := "java/lang/String", name := "length", desc := "()I" } : Jvm.MethodName)).before a0 Z = true := hw _ (List.mem_of_getElem? (i := 51) rfl)
theorem w_52 {a0 : Array Value} {Z : State} (hw : ∀ d ∈ tables_1, d.before a0 Z = true) : (Jvm.Cond.selects "java/lang/String" ({ cls := "java/lang/String", name := "length", desc := "()I" } : Jvm.MethodName) ({ cls := "java/lang/String", name := "length", desc := "()I" } : Jvm.MethodName)).before a0 Z = true := hw _ (List.mem_of_getElem? (i := 52) rfl)
theorem w_53 {a0 : Array Value} {Z : State} (hw : ∀ d ∈ tables_1, d.before a0 Z = true) : (Jvm.Cond.code ({ cls := "java/lang/String", name := "length", desc := "()I" } : Jvm.MethodName) jdk_42_method_54_code (1 : Nat) (Option.some Jvm.ClassFile.FieldType.int)).before a0 Z = true := hw _ (List.mem_of_getElem? (i := 53) rfl)
theorem w_54 {a0 : Array Value} {Z : State} (hw : ∀ d ∈ tables_1, d.before a0 Z = true) : (Jvm.Cond.methodLink "java/lang/String" (335 : Nat) ({ cls := "java/lang/String", name := "coder", desc := "()B" } : Jvm.MethodName)).before a0 Z = true := hw _ (List.mem_of_getElem? (i := 54) rfl)
theorem w_55 {a0 : Array Value} {Z : State} (hw : ∀ d ∈ tables_1, d.before a0 Z = true) : (Jvm.Cond.declares ({ cls := "java/lang/String", name := "coder", desc := "()B" } : Jvm.MethodName)).before a0 Z = true := hw _ (List.mem_of_getElem? (i := 55) rfl)
theorem w_56 {a0 : Array Value} {Z : State} (hw : ∀ d ∈ tables_1, d.before a0 Z = true) : (Jvm.Cond.instanceMethod ({ cls := "java/lang/String", name := "coder", desc := "()B" } : Jvm.MethodName)).before a0 Z = true := hw _ (List.mem_of_getElem? (i := 56) rfl)
theorem w_57 {a0 : Array Value} {Z : State} (hw : ∀ d ∈ tables_1, d.before a0 Z = true) : (Jvm.Cond.selects "java/lang/String" ({ cls := "java/lang/String", name := "coder", desc := "()B" } : Jvm.MethodName) ({ cls := "java/lang/String", name := "coder", desc := "()B" } : Jvm.MethodName)).before a0 Z = true := hw _ (List.mem_of_getElem? (i := 57) rfl)
theorem w_58 {a0 : Array Value} {Z : State} (hw : ∀ d ∈ tables_1, d.before a0 Z = true) : (Jvm.Cond.code ({ cls := "java/lang/String", name := "coder", desc := "()B" } : Jvm.MethodName) jdk_42_method_152_code (1 : Nat) (Option.some Jvm.ClassFile.FieldType.byte)).before a0 Z = true := hw _ (List.mem_of_getElem? (i := 58) rfl)
theorem w_59 {a0 : Array Value} {Z : State} (hw : ∀ d ∈ tables_1, d.before a0 Z = true) : (Jvm.Cond.methodLink "java/lang/String" (637 : Nat) ({ cls := "java/lang/StringLatin1", name := "indexOf", desc := "([BIII)I" } : Jvm.MethodName)).before a0 Z = true := hw _ (List.mem_of_getElem? (i := 59) rfl)
theorem w_60 {a0 : Array Value} {Z : State} (hw : ∀ d ∈ tables_1, d.before a0 Z = true) : (Jvm.Cond.static ({ cls := "java/lang/StringLatin1", name := "indexOf", desc := "([BIII)I" } : Jvm.MethodName)).before a0 Z = true := hw _ (List.mem_of_getElem? (i := 60) rfl)
theorem w_61 {a0 : Array Value} {Z : State} (hw : ∀ d ∈ tables_1, d.before a0 Z = true) : (Jvm.Cond.initialized "java/lang/StringLatin1").before a0 Z = true := hw _ (List.mem_of_getElem? (i := 61) rfl)
theorem w_62 {a0 : Array Value} {Z : State} (hw : ∀ d ∈ tables_1, d.before a0 Z = true) : (Jvm.Cond.code ({ cls := "java/lang/StringLatin1", name := "indexOf", desc := "([BIII)I" } : Jvm.MethodName) jdk_43_method_22_code (4 : Nat) (Option.some Jvm.ClassFile.FieldType.int)).before a0 Z = true := hw _ (List.mem_of_getElem? (i := 62) rfl)
theorem w_63 {a0 : Array Value} {Z : State} (hw : ∀ d ∈ tables_1, d.before a0 Z = true) : (Jvm.Cond.methodLink "java/lang/StringLatin1" (88 : Nat) ({ cls := "java/lang/StringLatin1", name := "canEncode", desc := "(I)Z" } : Jvm.MethodName)).before a0 Z = true := hw _ (List.mem_of_getElem? (i := 63) rfl)
theorem w_64 {a0 : Array Value} {Z : State} (hw : ∀ d ∈ tables_1, d.before a0 Z = true) : (Jvm.Cond.static ({ cls := "java/lang/StringLatin1", name := "canEncode", desc := "(I)Z" } : Jvm.MethodName)).before a0 Z = true := hw _ (List.mem_of_getElem? (i := 64) rfl)
theorem w_65 {a0 : Array Value} {Z : State} (hw : ∀ d ∈ tables_1, d.before a0 Z = true) : (Jvm.Cond.code ({ cls := "java/lang/StringLatin1", name := "canEncode", desc := "(I)Z" } : Jvm.MethodName) jdk_43_method_4_code (1 : Nat) (Option.some Jvm.ClassFile.FieldType.boolean)).before a0 Z = true := hw _ (List.mem_of_getElem? (i := 65) rfl)
theorem w_66 {a0 : Array Value} {Z : State} (hw : ∀ d ∈ tables_1, d.before a0 Z = true) : (Jvm.Cond.methodLink "java/lang/StringLatin1" (92 : Nat) ({ cls := "java/lang/Math", name := "max", desc := "(II)I" } : Jvm.MethodName)).before a0 Z = true := hw _ (List.mem_of_getElem? (i := 66) rfl)
theorem w_67 {a0 : Array Value} {Z : State} (hw : ∀ d ∈ tables_1, d.before a0 Z = true) : (Jvm.Cond.static ({ cls := "java/lang/Math", name := "max", desc := "(II)I" } : Jvm.MethodName)).before a0 Z = true := hw _ (List.mem_of_getElem? (i := 67) rfl)
theorem w_68 {a0 : Array Value} {Z : State} (hw : ∀ d ∈ tables_1, d.before a0 Z = true) : (Jvm.Cond.initialized "java/lang/Math").before a0 Z = true := hw _ (List.mem_of_getElem? (i := 68) rfl)
theorem w_69 {a0 : Array Value} {Z : State} (hw : ∀ d ∈ tables_1, d.before a0 Z = true) : (Jvm.Cond.code ({ cls := "java/lang/Math", name := "max", desc := "(II)I" } : Jvm.MethodName) jdk_29_method_65_code (2 : Nat) (Option.some Jvm.ClassFile.FieldType.int)).before a0 Z = true := hw _ (List.mem_of_getElem? (i := 69) rfl)
theorem w_70 {a0 : Array Value} {Z : State} (hw : ∀ d ∈ tables_1, d.before a0 Z = true) : (Jvm.Cond.methodLink "java/lang/StringLatin1" (38 : Nat) ({ cls := "java/lang/Math", name := "min", desc := "(II)I" } : Jvm.MethodName)).before a0 Z = true := hw _ (List.mem_of_getElem? (i := 70) rfl)
theorem w_71 {a0 : Array Value} {Z : State} (hw : ∀ d ∈ tables_1, d.before a0 Z = true) : (Jvm.Cond.static ({ cls := "java/lang/Math", name := "min", desc := "(II)I" } : Jvm.MethodName)).before a0 Z = true := hw _ (List.mem_of_getElem? (i := 71) rfl)
theorem w_72 {a0 : Array Value} {Z : State} (hw : ∀ d ∈ tables_1, d.before a0 Z = true) : (Jvm.Cond.code ({ cls := "java/lang/Math", name := "min", desc := "(II)I" } : Jvm.MethodName) jdk_29_method_69_code (2 : Nat) (Option.some Jvm.ClassFile.FieldType.int)).before a0 Z = true := hw _ (List.mem_of_getElem? (i := 72) rfl)
theorem w_73 {a0 : Array Value} {Z : State} (hw : ∀ d ∈ tables_1, d.before a0 Z = true) : (Jvm.Cond.methodLink "java/lang/String" (177 : Nat) ({ cls := "java/lang/StringUTF16", name := "compress", desc := "([CII)[B" } : Jvm.MethodName)).before a0 Z = true := hw _ (List.mem_of_getElem? (i := 73) rfl)
theorem w_74 {a0 : Array Value} {Z : State} (hw : ∀ d ∈ tables_1, d.before a0 Z = true) : (Jvm.Cond.static ({ cls := "java/lang/StringUTF16", name := "compress", desc := "([CII)[B" } : Jvm.MethodName)).before a0 Z = true := hw _ (List.mem_of_getElem? (i := 74) rfl)
theorem w_75 {a0 : Array Value} {Z : State} (hw : ∀ d ∈ tables_1, d.before a0 Z = true) : (Jvm.Cond.initialized "java/lang/StringUTF16").before a0 Z = true := hw _ (List.mem_of_getElem? (i := 75) rfl)
theorem w_76 {a0 : Array Value} {Z : State} (hw : ∀ d ∈ tables_1, d.before a0 Z = true) : (Jvm.Cond.code ({ cls := "java/lang/StringUTF16", name := "compress", desc := "([CII)[B" } : Jvm.MethodName) jdk_52_method_16_code (6 : Nat) (Option.some (Jvm.ClassFile.FieldType.array Jvm.ClassFile.FieldType.byte))).before a0 Z = true := hw _ (List.mem_of_getElem? (i := 76) rfl)
theorem w_77 {a0 : Array Value} {Z : State} (hw : ∀ d ∈ tables_1, d.before a0 Z = true) : (Jvm.Cond.methodLink "java/lang/StringUTF16" (115 : Nat) ({ cls := "java/lang/StringUTF16", name := "compress", desc := "([CI[BII)I" } : Jvm.MethodName)).before a0 Z = true := hw _ (List.mem_of_getElem? (i := 77) rfl)
theorem w_78 {a0 : Array Value} {Z : State} (hw : ∀ d ∈ tables_1, d.before a0 Z = true) : (Jvm.Cond.static ({ cls := "java/lang/StringUTF16", name := "compress", desc := "([CI[BII)I" } : Jvm.MethodName)).before a0 Z = true := hw _ (List.mem_of_getElem? (i := 78) rfl)
theorem w_79 {a0 : Array Value} {Z : State} (hw : ∀ d ∈ tables_1, d.before a0 Z = true) : (Jvm.Cond.code ({ cls := "java/lang/StringUTF16", name := "compress", desc := "([CI[BII)I" } : Jvm.MethodName) jdk_52_method_21_code (7 : Nat) (Option.some Jvm.ClassFile.FieldType.int)).before a0 Z = true := hw _ (List.mem_of_getElem? (i := 79) rfl)
theorem w_80 {a0 : Array Value} {Z : State} (hw : ∀ d ∈ tables_1, d.before a0 Z = true) : (Jvm.Cond.methodLink "java/lang/String" (47 : Nat) ({ cls := "java/lang/StringUTF16", name := "coderFromArrayLen", desc := "([BI)B" } : Jvm.MethodName)).before a0 Z = true := hw _ (List.mem_of_getElem? (i := 80) rfl)
theorem w_81 {a0 : Array Value} {Z : State} (hw : ∀ d ∈ tables_1, d.before a0 Z = true) : (Jvm.Cond.static ({ cls := "java/lang/StringUTF16", name := "coderFromArrayLen", desc := "([BI)B" } : Jvm.MethodName)).before a0 Z = true := hw _ (List.mem_of_getElem? (i := 81) rfl)
theorem w_82 {a0 : Array Value} {Z : State} (hw : ∀ d ∈ tables_1, d.before a0 Z = true) : (Jvm.Cond.code ({ cls := "java/lang/StringUTF16", name := "coderFromArrayLen", desc := "([BI)B" } : Jvm.MethodName) jdk_52_method_15_code (2 : Nat) (Option.some Jvm.ClassFile.FieldType.byte)).before a0 Z = true := hw _ (List.mem_of_getElem? (i := 82) rfl)
theorem w_83 {a0 : Array Value} {Z : State} (hw : ∀ d ∈ tables_1, d.before a0 Z = true) : (Jvm.Cond.methodLink "java/lang/StringLatin1" (95 : Nat) ({ cls := "java/lang/StringLatin1", name := "indexOfChar", desc := "([BIII)I" } : Jvm.MethodName)).before a0 Z = true := hw _ (List.mem_of_getElem? (i := 83) rfl)
theorem w_84 {a0 : Array Value} {Z : State} (hw : ∀ d ∈ tables_1, d.before a0 Z = true) : (Jvm.Cond.static ({ cls := "java/lang/StringLatin1", name := "indexOfChar", desc := "([BIII)I" } : Jvm.MethodName)).before a0 Z = true := hw _ (List.mem_of_getElem? (i := 84) rfl)
theorem w_85 {a0 : Array Value} {Z : State} (hw : ∀ d ∈ tables_1, d.before a0 Z = true) : (Jvm.Cond.code ({ cls := "java/lang/StringLatin1", name := "indexOfChar", desc := "([BIII)I" } : Jvm.MethodName) jdk_43_method_23_code (6 : Nat) (Option.some Jvm.ClassFile.FieldType.int)).before a0 Z = true := hw _ (List.mem_of_getElem? (i := 85) rfl)
theorem w_86 {a0 : Array Value} {Z : State} (hw : ∀ d ∈ tables_1, d.before a0 Z = true) : (Jvm.Cond.methodLink "java/lang/StringUTF16" (119 : Nat) ({ cls := "java/lang/StringUTF16", name := "toBytes", desc := "([CII)[B" } : Jvm.MethodName)).before a0 Z = true := hw _ (List.mem_of_getElem? (i := 86) rfl)
theorem w_87 {a0 : Array Value} {Z : State} (hw : ∀ d ∈ tables_1, d.before a0 Z = true) : (Jvm.Cond.static ({ cls := "java/lang/StringUTF16", name := "toBytes", desc := "([CII)[B" } : Jvm.MethodName)).before a0 Z = true := hw _ (List.mem_of_getElem? (i := 87) rfl)
theorem w_88 {a0 : Array Value} {Z : State} (hw : ∀ d ∈ tables_1, d.before a0 Z = true) : (Jvm.Cond.code ({ cls := "java/lang/StringUTF16", name := "toBytes", desc := "([CII)[B" } : Jvm.MethodName) jdk_52_method_14_code (5 : Nat) (Option.some (Jvm.ClassFile.FieldType.array Jvm.ClassFile.FieldType.byte))).before a0 Z = true := hw _ (List.mem_of_getElem? (i := 88) rfl)
theorem w_89 {a0 : Array Value} {Z : State} (hw : ∀ d ∈ tables_1, d.before a0 Z = true) : (Jvm.Cond.methodLink "java/lang/StringUTF16" (107 : Nat) ({ cls := "java/lang/StringUTF16", name := "newBytesFor", desc := "(I)[B" } : Jvm.MethodName)).before a0 Z = true := hw _ (List.mem_of_getElem? (i := 89) rfl)
theorem w_90 {a0 : Array Value} {Z : State} (hw : ∀ d ∈ tables_1, d.before a0 Z = true) : (Jvm.Cond.static ({ cls := "java/lang/StringUTF16", name := "newBytesFor", desc := "(I)[B" } : Jvm.MethodName)).before a0 Z = true := hw _ (List.mem_of_getElem? (i := 90) rfl)
theorem w_91 {a0 : Array Value} {Z : State} (hw : ∀ d ∈ tables_1, d.before a0 Z = true) : (Jvm.Cond.code ({ cls := "java/lang/StringUTF16", name := "newBytesFor", desc := "(I)[B" } : Jvm.MethodName) jdk_52_method_2_code (1 : Nat) (Option.some (Jvm.ClassFile.FieldType.array Jvm.ClassFile.FieldType.byte))).before a0 Z = true := hw _ (List.mem_of_getElem? (i := 91) rfl)
theorem w_92 {a0 : Array Value} {Z : State} (hw : ∀ d ∈ tables_1, d.before a0 Z = true) : (Jvm.Cond.methodLink "java/lang/StringUTF16" (11 : Nat) ({ cls := "java/lang/StringUTF16", name := "newBytesLength", desc := "(I)I" } : Jvm.MethodName)).before a0 Z = true := hw _ (List.mem_of_getElem? (i := 92) rfl)
theorem w_93 {a0 : Array Value} {Z : State} (hw : ∀ d ∈ tables_1, d.before a0 Z = true) : (Jvm.Cond.static ({ cls := "java/lang/StringUTF16", name := "newBytesLength", desc := "(I)I" } : Jvm.MethodName)).before a0 Z = true := hw _ (List.mem_of_getElem? (i := 93) rfl)
theorem w_94 {a0 : Array Value} {Z : State} (hw : ∀ d ∈ tables_1, d.before a0 Z = true) : (Jvm.Cond.code ({ cls := "java/lang/StringUTF16", name := "newBytesLength", desc := "(I)I" } : Jvm.MethodName) jdk_52_method_3_code (1 : Nat) (Option.some Jvm.ClassFile.FieldType.int)).before a0 Z = true := hw _ (List.mem_of_getElem? (i := 94) rfl)
theorem w_95 {a0 : Array Value} {Z : State} (hw : ∀ d ∈ tables_1, d.before a0 Z = true) : (Jvm.Cond.constant "java/lang/StringUTF16" (20 : Nat) (1073741823 : Int32)).before a0 Z = true := hw _ (List.mem_of_getElem? (i := 95) rfl)
theorem w_96 {a0 : Array Value} {Z : State} (hw : ∀ d ∈ tables_1, d.before a0 Z = true) : (Jvm.Cond.methodLink "java/lang/StringUTF16" (111 : Nat) ({ cls := "java/lang/StringUTF16", name := "putChar", desc := "([BII)V" } : Jvm.MethodName)).before a0 Z = true := hw _ (List.mem_of_getElem? (i := 96) rfl)
theorem w_97 {a0 : Array Value} {Z : State} (hw : ∀ d ∈ tables_1, d.before a0 Z = true) : (Jvm.Cond.static ({ cls := "java/lang/StringUTF16", name := "putChar", desc := "([BII)V" } : Jvm.MethodName)).before a0 Z = true := hw _ (List.mem_of_getElem? (i := 97) rfl)
theorem w_98 {a0 : Array Value} {Z : State} (hw : ∀ d ∈ tables_1, d.before a0 Z = true) : (Jvm.Cond.code ({ cls := "java/lang/StringUTF16", name := "putChar", desc := "([BII)V" } : Jvm.MethodName) jdk_52_method_4_code (3 : Nat) (Option.none : Option Jvm.ClassFile.FieldType)).before a0 Z = true := hw _ (List.mem_of_getElem? (i := 98) rfl)
theorem w_99 {a0 : Array Value} {Z : State} (hw : ∀ d ∈ tables_1, d.before a0 Z = true) : (Jvm.Cond.fieldLink "java/lang/StringUTF16" (44 : Nat) "java/lang/StringUTF16" "$assertionsDisabled" "Z").before a0 Z = true := hw _ (List.mem_of_getElem? (i := 99) rfl)
theorem w_100 {a0 : Array Value} {Z : State} (hw : ∀ d ∈ tables_1, d.before a0 Z = true) : (Jvm.Cond.fieldLink "java/lang/StringUTF16" (59 : Nat) "java/lang/StringUTF16" "HI_BYTE_SHIFT" "I").before a0 Z = true := hw _ (List.mem_of_getElem? (i := 100) rfl)
theorem w_101 {a0 : Array Value} {Z : State} (hw : ∀ d ∈ tables_1, d.before a0 Z = true) : (Jvm.Cond.fieldLink "java/lang/StringUTF16" (63 : Nat) "java/lang/StringUTF16" "LO_BYTE_SHIFT" "I").before a0 Z = true := hw _ (List.mem_of_getElem? (i := 101) rfl)
theorem w_102 {a0 : Array Value} {Z : State} (hw : ∀ d ∈ tables_1, d.before a0 Z = true) : (Jvm.Cond.methodLink "java/lang/StringUTF16" (71 : Nat) ({ cls := "java/lang/StringUTF16", name := "getChar", desc := "([BI)C" } : Jvm.MethodName)).before a0 Z = true := hw _ (List.mem_of_getElem? (i := 102) rfl)
theorem w_103 {a0 : Array Value} {Z : State} (hw : ∀ d ∈ tables_1, d.before a0 Z = true) : (Jvm.Cond.static ({ cls := "java/lang/StringUTF16", name := "getChar", desc := "([BI)C" } : Jvm.MethodName)).before a0 Z = true := hw _ (List.mem_of_getElem? (i := 103) rfl)
theorem w_104 {a0 : Array Value} {Z : State} (hw : ∀ d ∈ tables_1, d.before a0 Z = true) : (Jvm.Cond.code ({ cls := "java/lang/StringUTF16", name := "getChar", desc := "([BI)C" } : Jvm.MethodName) jdk_52_method_5_code (2 : Nat) (Option.some Jvm.ClassFile.FieldType.char)).before a0 Z = true := hw _ (List.mem_of_getElem? (i := 104) rfl)
theorem w_105 {a0 : Array Value} {Z : State} (hw : ∀ d ∈ tables_1, d.before a0 Z = true) : (Jvm.Cond.methodLink "java/lang/String" (640 : Nat) ({ cls := "java/lang/StringUTF16", name := "indexOf", desc := "([BIII)I" } : Jvm.MethodName)).before a0 Z = true := hw _ (List.mem_of_getElem? (i := 105) rfl)
theorem w_106 {a0 : Array Value} {Z : State} (hw : ∀ d ∈ tables_1, d.before a0 Z = true) : (Jvm.Cond.static ({ cls := "java/lang/StringUTF16", name := "indexOf", desc := "([BIII)I" } : Jvm.MethodName)).before a0 Z = true := hw _ (List.mem_of_getElem? (i := 106) rfl)
theorem w_107 {a0 : Array Value} {Z : State} (hw : ∀ d ∈ tables_1, d.before a0 Z = true) : (Jvm.Cond.code ({ cls := "java/lang/StringUTF16", name := "indexOf", desc := "([BIII)I" } : Jvm.MethodName) jdk_52_method_40_code (4 : Nat) (Option.some Jvm.ClassFile.FieldType.int)).before a0 Z = true := hw _ (List.mem_of_getElem? (i := 107) rfl)
theorem w_108 {a0 : Array Value} {Z : State} (hw : ∀ d ∈ tables_1, d.before a0 Z = true) : (Jvm.Cond.methodLink "java/lang/StringUTF16" (224 : Nat) ({ cls := "java/lang/Math", name := "max", desc := "(II)I" } : Jvm.MethodName)).before a0 Z = true := hw _ (List.mem_of_getElem? (i := 108) rfl)
theorem w_109 {a0 : Array Value} {Z : State} (hw : ∀ d ∈ tables_1, d.before a0 Z = true) : (Jvm.Cond.methodLink "java/lang/StringUTF16" (183 : Nat) ({ cls := "java/lang/Math", name := "min", desc := "(II)I" } : Jvm.MethodName)).before a0 Z = true := hw _ (List.mem_of_getElem? (i := 109) rfl)
theorem w_110 {a0 : Array Value} {Z : State} (hw : ∀ d ∈ tables_1, d.before a0 Z = true) : (Jvm.Cond.constant "java/lang/StringUTF16" (227 : Nat) (65536 : Int32)).before a0 Z = true := hw _ (List.mem_of_getElem? (i := 110) rfl)
theorem w_111 {a0 : Array Value} {Z : State} (hw : ∀ d ∈ tables_1, d.before a0 Z = true) : (Jvm.Cond.methodLink "java/lang/StringUTF16" (228 : Nat) ({ cls := "java/lang/StringUTF16", name := "indexOfChar", desc := "([BIII)I" } : Jvm.MethodName)).before a0 Z = true := hw _ (List.mem_of_getElem? (i := 111) rfl)
theorem w_112 {a0 : Array Value} {Z : State} (hw : ∀ d ∈ tables_1, d.before a0 Z = true) : (Jvm.Cond.static ({ cls := "java/lang/StringUTF16", name := "indexOfChar", desc := "([BIII)I" } : Jvm.MethodName)).before a0 Z = true := hw _ (List.mem_of_getElem? (i := 112) rfl)
theorem w_113 {a0 : Array Value} {Z : State} (hw : ∀ d ∈ tables_1, d.before a0 Z = true) : (Jvm.Cond.code ({ cls := "java/lang/StringUTF16", name := "indexOfChar", desc := "([BIII)I" } : Jvm.MethodName) jdk_52_method_47_code (4 : Nat) (Option.some Jvm.ClassFile.FieldType.int)).before a0 Z = true := hw _ (List.mem_of_getElem? (i := 113) rfl)
theorem w_114 {a0 : Array Value} {Z : State} (hw : ∀ d ∈ tables_1, d.before a0 Z = true) : (Jvm.Cond.methodLink "java/lang/StringUTF16" (96 : Nat) ({ cls := "java/lang/StringUTF16", name := "checkBoundsBeginEnd", desc := "(II[B)V" } : Jvm.MethodName)).before a0 Z = true := hw _ (List.mem_of_getElem? (i := 114) rfl)
theorem w_115 {a0 : Array Value} {Z : State} (hw : ∀ d ∈ tables_1, d.before a0 Z = true) : (Jvm.Cond.static ({ cls := "java/lang/StringUTF16", name := "checkBoundsBeginEnd", desc := "(II[B)V" } : Jvm.MethodName)).before a0 Z = true := hw _ (List.mem_of_getElem? (i := 115) rfl)
theorem w_116 {a0 : Array Value} {Z : State} (hw : ∀ d ∈ tables_1, d.before a0 Z = true) : (Jvm.Cond.code ({ cls := "java/lang/StringUTF16", name := "checkBoundsBeginEnd", desc := "(II[B)V" } : Jvm.MethodName) jdk_52_method_93_code (3 : Nat) (Option.none : Option Jvm.ClassFile.FieldType)).before a0 Z = true := hw _ (List.mem_of_getElem? (i := 116) rfl)
theorem w_117 {a0 : Array Value} {Z : State} (hw : ∀ d ∈ tables_1, d.before a0 Z = true) : (Jvm.Cond.methodLink "java/lang/StringUTF16" (48 : Nat) ({ cls := "java/lang/StringUTF16", name := "length", desc := "([B)I" } : Jvm.MethodName)).before a0 Z = true := hw _ (List.mem_of_getElem? (i := 117) rfl)
theorem w_118 {a0 : Array Value} {Z : State} (hw : ∀ d ∈ tables_1, d.before a0 Z = true) : (Jvm.Cond.static ({ cls := "java/lang/StringUTF16", name := "length", desc := "([B)I" } : Jvm.MethodName)).before a0 Z = true := hw _ (List.mem_of_getElem? (i := 118) rfl)
theorem w_119 {a0 : Array Value} {Z : State} (hw : ∀ d ∈ tables_1, d.before a0 Z = true) : (Jvm.Cond.code ({ cls := "java/lang/StringUTF16", name := "length", desc := "([B)I" } : Jvm.MethodName) jdk_52_method_6_code (1 : Nat) (Option.some Jvm.ClassFile.FieldType.int)).before a0 Z = true := hw _ (List.mem_of_getElem? (i := 119) rfl)
theorem w_120 {a0 : Array Value} {Z : State} (hw : ∀ d ∈ tables_1, d.before a0 Z = true) : (Jvm.Cond.methodLink "java/lang/StringUTF16" (241 : Nat) ({ cls := "java/lang/String", name := "checkBoundsBeginEnd", desc := "(III)V" } : Jvm.MethodName)).before a0 Z = true := hw _ (List.mem_of_getElem? (i := 120) rfl)
theorem w_121 {a0 : Array Value} {Z : State} (hw : ∀ d ∈ tables_1, d.before a0 Z = true) : (Jvm.Cond.static ({ cls := "java/lang/String", name := "checkBoundsBeginEnd", desc := "(III)V" } : Jvm.MethodName)).before a0 Z = true := hw _ (List.mem_of_getElem? (i := 121) rfl)
theorem w_122 {a0 : Array Value} {Z : State} (hw : ∀ d ∈ tables_1, d.before a0 Z = true) : (Jvm.Cond.code ({ cls := "java/lang/String", name := "checkBoundsBeginEnd", desc := "(III)V" } : Jvm.MethodName) jdk_42_method_158_code (3 : Nat) (Option.none : Option Jvm.ClassFile.FieldType)).before a0 Z = true := hw _ (List.mem_of_getElem? (i := 122) rfl)
theorem w_123 {a0 : Array Value} {Z : State} (hw : ∀ d ∈ tables_1, d.before a0 Z = true) : (Jvm.Cond.fieldLink "java/lang/String" (1053 : Nat) "jdk/internal/util/Preconditions" "SIOOBE_FORMATTER" "Ljava/util/function/BiFunction;").before a0 Z = true := hw _ (List.mem_of_getElem? (i := 123) rfl)
theorem w_124 {a0 : Array Value} {Z : State} (hw : ∀ d ∈ tables_1, d.before a0 Z = true) : (Jvm.Cond.initialized "jdk/internal/util/Preconditions").before a0 Z = true := hw _ (List.mem_of_getElem? (i := 124) rfl)
theorem w_125 {a0 : Array Value} {Z : State} (hw : ∀ d ∈ tables_1, d.before a0 Z = true) : (Jvm.Cond.methodLink "java/lang/String" (1062 : Nat) ({ cls := "jdk/internal/util/Preconditions", name := "checkFromToIndex", desc := "(IIILjava/util/function/BiFunction;)I" } : Jvm.MethodName)).before a0 Z = true := hw _ (List.mem_of_getElem? (i := 125) rfl)
theorem w_126 {a0 : Array Value} {Z : State} (hw : ∀ d ∈ tables_1, d.before a0 Z = true) : (Jvm.Cond.static ({ cls := "jdk/internal/util/Preconditions", name := "checkFromToIndex", desc := "(IIILjava/util/function/BiFunction;)I" } : Jvm.MethodName)).before a0 Z = true := hw _ (List.mem_of_getElem? (i := 126) rfl)
theorem w_127 {a0 : Array Value} {Z : State} (hw : ∀ d ∈ tables_1, d.before a0 Z = true) : (Jvm.Cond.code ({ cls := "jdk/internal/util/Preconditions", name := "checkFromToIndex", desc := "(IIILjava/util/function/BiFunction;)I" } : Jvm.MethodName) jdk_41_method_12_code (4 : Nat) (Option.some Jvm.ClassFile.FieldType.int)).before a0 Z = true := hw _ (List.mem_of_getElem? (i := 127) rfl)
theorem w_128 {a0 : Array Value} {Z : State} (hw : ∀ d ∈ tables_1, d.before a0 Z = true) : (Jvm.Cond.methodLink "java/lang/StringUTF16" (244 : Nat) ({ cls := "java/lang/StringUTF16", name := "indexOfCharUnsafe", desc := "([BIII)I" } : Jvm.MethodName)).before a0 Z = true := hw _ (List.mem_of_getElem? (i := 128) rfl)
theorem w_129 {a0 : Array Value} {Z : State} (hw : ∀ d ∈ tables_1, d.before a0 Z = true) : (Jvm.Cond.static ({ cls := "java/lang/StringUTF16", name := "indexOfCharUnsafe", desc := "([BIII)I" } : Jvm.MethodName)).before a0 Z = true := hw _ (List.mem_of_getElem? (i := 129) rfl)
theorem w_130 {a0 : Array Value} {Z : State} (hw : ∀ d ∈ tables_1, d.before a0 Z = true) : (Jvm.Cond.code ({ cls := "java/lang/StringUTF16", name := "indexOfCharUnsafe", desc := "([BIII)I" } : Jvm.MethodName) jdk_52_method_48_code (5 : Nat) (Option.some Jvm.ClassFile.FieldType.int)).before a0 Z = true := hw _ (List.mem_of_getElem? (i := 130) rfl)
theorem own_wS {a0 : Array Value} {Z : State} (hw : ∀ d ∈ tables_1, d.before a0 Z = true) : ∀ a ∈ Bundle.stringAtoms, a.before a0 Z = true := fun a ha => hw a ((by decide +kernel : ∀ a ∈ Bundle.stringAtoms, a ∈ tables_1) a ha)
theorem own_eq_int {args : Array Value} {s : State} {t : Term} {k : Int32} (h : (Jvm.Cond.eq t (Jvm.Term.int k)).value args s none s [] = some true) : t.eval args s none [] s = some (.int k) := by
  simp only [Cond.value, Term.int_eval] at h
  cases ht : t.eval args s none [] s with
  | none => simp [ht] at h
  | some v =>
    cases v <;> simp [ht] at h
    subst h; rfl
theorem own_fits_ref {C : String} {v : Value} (h : v.isRef = true) : fits (.object C) v = true := by cases v <;> simp [Value.isRef] at h <;> rfl
theorem own_cat_ref {v : Value} (h : v.isRef = true) : v.category = 1 := by cases v <;> simp [Value.isRef] at h <;> rfl
theorem own_ins_keep {Z : State} {h h' : Heap} {a : Addr} {C : String} {ws : List Addr} (F : Ins Z h a C true) (K : Keep h h' ws) : Ins Z h' a C true := by
  obtain ⟨cell, cT, h1, h2, h3⟩ := F
  obtain ⟨c', q1, q2, q3, -⟩ := K.2.2 a cell h1
  exact ⟨c', cT, q1, h2, by rw [q2, q3]; exact h3⟩
def EL : List (String × Nat) := [("java/lang/String", 7)]
theorem hEL {a0 : Array Value} {Z : State} (hw : ∀ d ∈ tables_1, d.before a0 Z = true) : EW Z a0 EL := (EW.cons (w_21 hw) (by decide) EW.nil)
theorem own_ELsub : ∀ q ∈ EL, q ∈ consts_1 := by decide
def Gl (Z : State) : Prop := ∃ (zc : Int32), ∃ (fm : Value), (Sta Z Z.heap "java/lang/String" "COMPACT_STRINGS" "Z" (.int zc)) ∧ (¬ zc = 0) ∧ (Sta Z Z.heap "jdk/internal/util/Preconditions" "SIOOBE_FORMATTER" "Ljava/util/function/BiFunction;" fm) ∧ (fm.isRef = true) ∧ (Sta Z Z.heap "java/lang/StringUTF16" "$assertionsDisabled" "Z" (.int (1 : Int32))) ∧ (Sta Z Z.heap "java/lang/StringUTF16" "HI_BYTE_SHIFT" "I" (.int (0 : Int32))) ∧ (Sta Z Z.heap "java/lang/StringUTF16" "LO_BYTE_SHIFT" "I" (.int (8 : Int32)))
set_option maxRecDepth 65536 in
set_option maxHeartbeats 40000000 in
theorem own_cmp5 (l : Launch) (Z : State) (a0 : Array Value) (hw : ∀ d ∈ tables_1, d.before a0 Z = true) (G : Gl Z) (n0 : Nat) (h0 : Heap) (O0 : Old Z n0 h0) (b : Nat) (d : Nat) (kb : ClassId) (kd : ClassId) (z : Int32) (cs : List Int32) (vs : List Value) (hne : b ≠ d) (hz : z = Int32.ofNat cs.length) (hn : cs.length < 2147483648) (hv : vs.length = cs.length) (gw0 : n0 ≤ d) (q0 : Arv Z h0 b kb .char z (cs.map Value.int) (.int 0)) (q1 : Arv Z h0 d kd .byte z vs (.int (0 : Int32))) :
    MetF l [] Z n0 (⟨"java/lang/StringUTF16", "compress", "([CI[BII)I"⟩ : MethodName) jdk_52_method_21_code 7 (Option.some FieldType.int) ({ frames := 0, cells := 0, slots := 0, locals := 0 } : Room) #[(.ref b), (.int (0 : Int32)), (.ref d), (.int (0 : Int32)), (.int z)] h0 [d] (fun r h' => ∃ w, r = some w ∧ w = (.int (Int32.ofNat (own_fst cs))) ∧ (Arv Z h' d kd .byte z ((cs.take (own_fst cs)).map own_lo ++ vs.drop (own_fst cs)) (.int (0 : Int32)))) := by
  refine metF (plainFor_of_name pn_0) O0 (Ls := #[.val (.ref b), .val (.int (0 : Int32)), .val (.ref d), .val (.int (0 : Int32)), .val (.int z), .unset, .unset]) (fun m => by first | rfl | (simp [entryFrame, mkF, argsToLocals, Value.category]; done)) ?_
  intro p e s m below meth c T0 X0
  have K0_h0 := Keep.refl h0 [d]
  have n0le := X0.n0le
  have ltq0 := own_n q0.lt
  have ltq1 := own_n q1.lt
  obtain ⟨zc, fm, G_cs, G_zc, G_fm, isref_fm, G_assertionsDisabled, G_HI_BYTE_SHIFT, G_LO_BYTE_SHIFT⟩ := id G
  have hfl := own_fst_le cs
  have hlt0 := hn
  have loop : ∀ (n i : Nat) (T : State) (h : Heap) (L : List Loc) (s6 : Slot), n = own_fst cs - i → i ≤ own_fst cs → One s6 → WP p l e ({ frames := 0, cells := 0, slots := 0, locals := 0 } : Room) s m #[(.ref b), (.int (0 : Int32)), (.ref d), (.int (0 : Int32)), (.int z)] below meth c Z "java/lang/StringUTF16" "compress" jdk_52_method_21_code 7 (Option.some FieldType.int) n0 (fun _ => True) (fun _ _ => True) T h L 0 0 → Keep h0 h [d] → Arv Z h b kb .char z (cs.map Value.int) (.int 0) → Arv Z h d kd .byte z ((cs.take i).map own_lo ++ vs.drop i) (.int (0 : Int32)) → Run p.tables e below (PF s below n0 h0 [d] (fun r h' => ∃ w, r = some w ∧ w = (.int (Int32.ofNat (own_fst cs))) ∧ (Arv Z h' d kd .byte z ((cs.take (own_fst cs)).map own_lo ++ vs.drop (own_fst cs)) (.int (0 : Int32)))) ({ frames := 0, cells := 0, slots := 0, locals := 0 } : Room).cells ({ frames := 0, cells := 0, slots := 0, locals := 0 } : Room).slots) T (mkF m 3 #[.val (.ref b), .val (.int (Int32.ofNat i)), .val (.ref d), .val (.int (Int32.ofNat i)), .val (.int z), .val (.int (Int32.ofNat i)), s6] []) := by
    intro n
    induction n with
    | zero =>
      intro i T h L s6 hni hij h6 X K Vb Vd
      have hi : i = own_fst cs := by omega
      subst hi
      have lb := own_n Vb.lt
      have ld := own_n Vd.lt
      have lh0 := K.1
      have lb0 := own_n q0.lt
      have ld0 := own_n q1.lt
      have nle := X.n0le
      by_cases hc1 : own_fst cs < cs.length
      · have hlt := own_lt hc1 hn
        rw [← hz] at hlt
        refine k_iload X d_jdk_52_21_3 rfl (pc' := 5) rfl ?_
        refine k_iload X d_jdk_52_21_5 rfl (pc' := 7) rfl ?_
        refine k_icmpNo X d_jdk_52_21_7 (tlt hlt).2.1 (pc' := 10) rfl ?_
        refine k_aloadN X d_jdk_52_21_10 rfl rfl (pc' := 11) rfl ?_
        refine k_iloadN X d_jdk_52_21_11 rfl (pc' := 12) rfl ?_
        refine k_caload X d_jdk_52_21_12 Vb (own_nn (by omega)) hlt (v := (.int (cs.getD (own_fst cs) 0))) (own_getc' cs (by omega)) (pc' := 13) rfl ?_
        refine k_istore X d_jdk_52_21_13 (Ls' := #[.val (.ref b), .val (.int (Int32.ofNat (own_fst cs))), .val (.ref d), .val (.int (Int32.ofNat (own_fst cs))), .val (.int z), .val (.int (Int32.ofNat (own_fst cs))), .val (.int (cs.getD (own_fst cs) 0))]) (own_store h6 ⟨_, rfl⟩) (pc' := 15) rfl ?_
        refine k_iload X d_jdk_52_21_15 rfl (pc' := 17) rfl ?_
        refine k_sipush X d_jdk_52_21_17 (w := (255 : Int32)) rfl (pc' := 20) rfl ?_
        refine k_icmpNo X d_jdk_52_21_20 (tlt (own_fst_hi cs hc1)).2.2.2 (pc' := 23) rfl ?_
        refine k_iload X d_jdk_52_21_23 rfl (pc' := 25) rfl ?_
        exact k_retFI X d_jdk_52_21_25 rfl K ⟨_, rfl, rfl, Vd⟩ (by decide) (by decide)
      · have he : own_fst cs = cs.length := by omega
        have hnl : ¬ (Int32.ofNat (own_fst cs) < z) := by rw [he, ← hz]; exact Int32.lt_irrefl
        refine k_iload X d_jdk_52_21_3 rfl (pc' := 5) rfl ?_
        refine k_iload X d_jdk_52_21_5 rfl (pc' := 7) rfl ?_
        refine k_icmpYes X d_jdk_52_21_7 (flt hnl).2.1 (pc' := 44) (by decide) (by decide) ?_
        refine k_iload X d_jdk_52_21_44 rfl (pc' := 46) rfl ?_
        exact k_retFI X d_jdk_52_21_46 rfl K ⟨_, rfl, by rw [he, ← hz], Vd⟩ (by decide) (by decide)
    | succ n ih =>
      intro i T h L s6 hni hij h6 X K Vb Vd
      have hi : i < own_fst cs := by omega
      have hlt := own_lt (show i < cs.length by omega) hn
      rw [← hz] at hlt
      have hle := own_fst_lo cs i hi
      have lb := own_n Vb.lt
      have ld := own_n Vd.lt
      have lh0 := K.1
      have lb0 := own_n q0.lt
      have ld0 := own_n q1.lt
      have nle := X.n0le
      refine k_iload X d_jdk_52_21_3 rfl (pc' := 5) rfl ?_
      refine k_iload X d_jdk_52_21_5 rfl (pc' := 7) rfl ?_
      refine k_icmpNo X d_jdk_52_21_7 (tlt hlt).2.1 (pc' := 10) rfl ?_
      refine k_aloadN X d_jdk_52_21_10 rfl rfl (pc' := 11) rfl ?_
      refine k_iloadN X d_jdk_52_21_11 rfl (pc' := 12) rfl ?_
      refine k_caload X d_jdk_52_21_12 Vb (own_nn (by omega)) hlt (v := (.int (cs.getD i 0))) (own_getc' cs (by omega)) (pc' := 13) rfl ?_
      refine k_istore X d_jdk_52_21_13 (Ls' := #[.val (.ref b), .val (.int (Int32.ofNat i)), .val (.ref d), .val (.int (Int32.ofNat i)), .val (.int z), .val (.int (Int32.ofNat i)), .val (.int (cs.getD i 0))]) (own_store h6 ⟨_, rfl⟩) (pc' := 15) rfl ?_
      refine k_iload X d_jdk_52_21_15 rfl (pc' := 17) rfl ?_
      refine k_sipush X d_jdk_52_21_17 (w := (255 : Int32)) rfl (pc' := 20) rfl ?_
      refine k_icmpYes X d_jdk_52_21_20 (flt hle).2.2.2 (pc' := 26) (by decide) (by decide) ?_
      refine k_aloadN X d_jdk_52_21_26 rfl rfl (pc' := 27) rfl ?_
      refine k_iloadN X d_jdk_52_21_27 rfl (pc' := 28) rfl ?_
      refine k_iload X d_jdk_52_21_28 rfl (pc' := 30) rfl ?_
      refine k_i2b X d_jdk_52_21_30 (w := ((cs.getD i 0).toInt8.toInt32)) rfl (pc' := 31) rfl ?_
      have ge3 : n0 ≤ d := by omega
      refine k_bastore X (w := ((cs.getD i 0).toInt8.toInt32)) (i) d_jdk_52_21_31 Vd (own_nn (by omega)) hlt (own_clamp (by omega)) (by simp; omega) (own_i2b _) (vs' := ((cs.take (i + 1)).map own_lo ++ vs.drop (i + 1))) (own_turn cs vs i (by omega) hv) trivial ge3 (pc' := 32) rfl fun T2 h2 L2 X2 K2 V2 => ?_
      have sz_h2 := K2.1
      have K0_h2 : Keep h0 h2 [d] := K.trans K2 (allS (Or.inl (List.mem_of_getElem? (i := 0) rfl)) all0)
      refine k_iinc X2 d_jdk_52_21_32 rfl (w := (Int32.ofNat (i + 1))) (own_succ i) (Ls' := #[.val (.ref b), .val (.int (Int32.ofNat (i + 1))), .val (.ref d), .val (.int (Int32.ofNat i)), .val (.int z), .val (.int (Int32.ofNat i)), .val (.int (cs.getD i 0))]) rfl (pc' := 35) rfl ?_
      refine k_iinc X2 d_jdk_52_21_35 rfl (w := (Int32.ofNat (i + 1))) (own_succ i) (Ls' := #[.val (.ref b), .val (.int (Int32.ofNat (i + 1))), .val (.ref d), .val (.int (Int32.ofNat (i + 1))), .val (.int z), .val (.int (Int32.ofNat i)), .val (.int (cs.getD i 0))]) rfl (pc' := 38) rfl ?_
      refine k_iinc X2 d_jdk_52_21_38 rfl (w := (Int32.ofNat (i + 1))) (own_succ i) (Ls' := #[.val (.ref b), .val (.int (Int32.ofNat (i + 1))), .val (.ref d), .val (.int (Int32.ofNat (i + 1))), .val (.int z), .val (.int (Int32.ofNat (i + 1))), .val (.int (cs.getD i 0))]) rfl (pc' := 41) rfl ?_
      refine k_goto X2 d_jdk_52_21_41 (pc' := 3) (by decide) (by decide) ?_
      have c4 := (Vb.keep K2 (ninS (own_ne (by omega) : b ≠ d) nin0))
      exact ih (i + 1) _ _ _ _ (by omega) (by omega) (One.val rfl) X2 K0_h2 c4 V2
  refine k_iconst X0 d_jdk_52_21_0 (w := (0 : Int32)) rfl (pc' := 1) rfl ?_
  refine k_istore X0 d_jdk_52_21_1 (Ls' := #[.val (.ref b), .val (.int (0 : Int32)), .val (.ref d), .val (.int (0 : Int32)), .val (.int z), .val (.int (0 : Int32)), .unset]) rfl (pc' := 3) rfl ?_
  exact loop _ 0 _ _ _ _ rfl (by omega) One.u X0 K0_h0 q0 (by simpa using q1)
set_option maxRecDepth 65536 in
set_option maxHeartbeats 40000000 in
theorem own_cmp3L (l : Launch) (Z : State) (a0 : Array Value) (hw : ∀ d ∈ tables_1, d.before a0 Z = true) (G : Gl Z) (n0 : Nat) (h0 : Heap) (O0 : Old Z n0 h0) (b : Nat) (kb : ClassId) (z : Int32) (cs : List Int32) (hz : z = Int32.ofNat cs.length) (hn : cs.length ≤ 4) (hall : ∀ c ∈ cs, ¬ 255 < c)  (q0 : Arv Z h0 b kb .char z (cs.map Value.int) (.int 0)) :
    MetF l [] Z n0 (⟨"java/lang/StringUTF16", "compress", "([CII)[B"⟩ : MethodName) jdk_52_method_16_code 6 (Option.some (FieldType.array FieldType.byte)) ({ frames := 1, cells := 1, slots := 4, locals := 18 } : Room) #[(.ref b), (.int (0 : Int32)), (.int z)] h0 [] (fun r h' => ∃ w, r = some w ∧ ∃ (t : Nat), ∃ (kt : ClassId), w = (.ref t) ∧ (Arv Z h' t kt .byte z (own_lat cs) (.int (0 : Int32))) ∧ (h0.size ≤ t)) := by
  refine metF (plainFor_of_name pn_0) O0 (Ls := #[.val (.ref b), .val (.int (0 : Int32)), .val (.int z), .unset, .unset, .unset]) (fun m => by first | rfl | (simp [entryFrame, mkF, argsToLocals, Value.category]; done)) ?_
  intro p e s m below meth c T0 X0
  have K0_h0 := Keep.refl h0 []
  have n0le := X0.n0le
  have ltq0 := own_n q0.lt
  obtain ⟨zc, fm, G_cs, G_zc, G_fm, isref_fm, G_assertionsDisabled, G_HI_BYTE_SHIFT, G_LO_BYTE_SHIFT⟩ := id G
  have hf := own_fst_all cs hall
  have hnz : ¬ z < 0 := by rw [hz]; exact own_nn (by omega)
  have hcl : z.toNatClampNeg = cs.length := by rw [hz]; exact own_clamp (by omega)
  refine k_iloadN X0 d_jdk_52_16_0 rfl (pc' := 1) rfl ?_
  refine k_newP X0 d_jdk_52_16_1 (w_22 hw) hnz (cap := 4) (by omega) (by decide) (by decide) (by decide) (pc' := 3) rfl fun T5 h5 b5 k5 g5 X5 K5 V5 S5 lt5 ge5 => ?_
  have sz_h5 := K5.1
  have K0_h5 : Keep h0 h5 [] := K0_h0.trans K5 all0
  have Vp : Arv Z h5 b5 k5 .byte z (List.replicate cs.length (.int (0 : Int32))) (.int (0 : Int32)) := Arv.pad V5 (fun i => by simpa using pad_rep [] (.int (0 : Int32)) cs.length i)
  refine k_astoreN X5 d_jdk_52_16_3 rfl (Ls' := #[.val (.ref b), .val (.int (0 : Int32)), .val (.int z), .val (.ref b5), .unset, .unset]) rfl (pc' := 4) rfl ?_
  refine k_aloadN X5 d_jdk_52_16_4 rfl rfl (pc' := 5) rfl ?_
  refine k_iloadN X5 d_jdk_52_16_5 rfl (pc' := 6) rfl ?_
  refine k_aloadN X5 d_jdk_52_16_6 rfl rfl (pc' := 7) rfl ?_
  refine k_iconst X5 d_jdk_52_16_7 (w := (0 : Int32)) rfl (pc' := 8) rfl ?_
  refine k_iloadN X5 d_jdk_52_16_8 rfl (pc' := 9) rfl ?_
  have c6 := (q0.keep K5 nin0)
  have ge7 : n0 ≤ b5 := by omega
  refine k_callSVF X5 (y := (⟨"java/lang/StringUTF16", "compress", "([CI[BII)I"⟩ : MethodName)) d_jdk_52_16_9 (w_77 hw) (w_78 hw) (w_75 hw) (w_79 hw) (by decide) (argsL := [(.ref b), (.int (0 : Int32)), (.ref b5), (.int (0 : Int32)), (.int z)]) (rest := []) (own_cmp5 l Z a0 hw G n0 h5 X5.old b b5 kb k5 z cs (List.replicate cs.length (.int (0 : Int32))) (by omega) hz (by omega) (by simp) (by omega) c6 Vp) rfl pd_0 rfl rfl (by decide) (W := 0) (Nat.le_of_eq rfl) (by decide) (by decide) (by decide) (allS ⟨trivial, ge7⟩ all0) (pc' := 12) rfl ?_
  rintro _ T8 h8 L8 X8 K8 ⟨rfl, q8_0⟩
  have sz_h8 := K8.1
  have K0_h8 : Keep h0 h8 [] := K0_h5.trans K8 (allS (Or.inr (by omega)) all0)
  have lt8_0 := own_n q8_0.lt
  refine k_istore X8 d_jdk_52_16_12 (Ls' := #[.val (.ref b), .val (.int (0 : Int32)), .val (.int z), .val (.ref b5), .val (.int (Int32.ofNat (own_fst cs))), .unset]) rfl (pc' := 14) rfl ?_
  refine k_iload X8 d_jdk_52_16_14 rfl (pc' := 16) rfl ?_
  refine k_iloadN X8 d_jdk_52_16_16 rfl (pc' := 17) rfl ?_
  have hz2 : Int32.ofNat (own_fst cs) = z := by rw [hf, ← hz]
  refine k_icmpYes X8 d_jdk_52_16_17 (teq hz2).1 (pc' := 57) (by decide) (by decide) ?_
  refine k_aloadN X8 d_jdk_52_16_57 rfl rfl (pc' := 58) rfl ?_
  have Vl : Arv Z h8 b5 k5 .byte z (own_lat cs) (.int (0 : Int32)) := by simpa [hf, own_lat] using q8_0
  exact k_retFA X8 d_jdk_52_16_58 rfl rfl rfl rfl K0_h8 ⟨_, rfl, _, _, rfl, Vl, by omega⟩ (by decide) (by decide)
set_option maxRecDepth 65536 in
set_option maxHeartbeats 40000000 in
theorem own_codL (l : Launch) (Z : State) (a0 : Array Value) (hw : ∀ d ∈ tables_1, d.before a0 Z = true) (G : Gl Z) (n0 : Nat) (h0 : Heap) (O0 : Old Z n0 h0) (d : Nat) (k : ClassId) (z : Int32) (bs : List Value) (dv : Value)  (q0 : Arv Z h0 d k .byte z bs dv) :
    MetF l [] Z n0 (⟨"java/lang/StringUTF16", "coderFromArrayLen", "([BI)B"⟩ : MethodName) jdk_52_method_15_code 2 (Option.some FieldType.byte) ({ frames := 0, cells := 0, slots := 0, locals := 0 } : Room) #[(.ref d), (.int z)] h0 [] (fun r h' => ∃ w, r = some w ∧ w = (.int (0 : Int32)) ∧ True) := by
  refine metF (plainFor_of_name pn_0) O0 (Ls := #[.val (.ref d), .val (.int z)]) (fun m => by first | rfl | (simp [entryFrame, mkF, argsToLocals, Value.category]; done)) ?_
  intro p e s m below meth c T0 X0
  have K0_h0 := Keep.refl h0 []
  have n0le := X0.n0le
  have ltq0 := own_n q0.lt
  obtain ⟨zc, fm, G_cs, G_zc, G_fm, isref_fm, G_assertionsDisabled, G_HI_BYTE_SHIFT, G_LO_BYTE_SHIFT⟩ := id G
  refine k_iloadN X0 d_jdk_52_15_0 rfl (pc' := 1) rfl ?_
  refine k_aloadN X0 d_jdk_52_15_1 rfl rfl (pc' := 2) rfl ?_
  refine k_arlen X0 d_jdk_52_15_2 q0 (pc' := 3) rfl ?_
  refine k_isub X0 d_jdk_52_15_3 (w := (0 : Int32)) (Int32.sub_self z) (pc' := 4) rfl ?_
  refine k_bipush X0 d_jdk_52_15_4 (w := (31 : Int32)) rfl (pc' := 6) rfl ?_
  refine k_iushr X0 d_jdk_52_15_6 (w := (0 : Int32)) (by decide) (pc' := 7) rfl ?_
  refine k_i2b X0 d_jdk_52_15_7 (w := (0 : Int32)) (by decide) (pc' := 8) rfl ?_
  exact k_retFN X0 (w := (0 : Int32)) d_jdk_52_15_8 (t := .byte) rfl (by simp) rfl K0_h0 ⟨_, rfl, rfl, trivial⟩ (by decide) (by decide)
set_option maxRecDepth 65536 in
set_option maxHeartbeats 40000000 in
theorem own_init4L (l : Launch) (Z : State) (a0 : Array Value) (hw : ∀ d ∈ tables_1, d.before a0 Z = true) (G : Gl Z) (n0 : Nat) (h0 : Heap) (O0 : Old Z n0 h0) (a : Nat) (b : Nat) (kb : ClassId) (z : Int32) (cs : List Int32) (hz : z = Int32.ofNat cs.length) (h1 : 0 < cs.length) (hn : cs.length ≤ 4) (hall : ∀ c ∈ cs, ¬ 255 < c) (gw0 : n0 ≤ a) (q0 : Exa Z h0 a "java/lang/String") (q1 : Fld Z h0 a "java/lang/String" "value" "[B" .null) (q2 : Fld Z h0 a "java/lang/String" "coder" "B" (.int (0 : Int32))) (q3 : Arv Z h0 b kb .char z (cs.map Value.int) (.int 0)) :
    MetF l [] Z n0 (⟨"java/lang/String", "<init>", "([CIILjava/lang/Void;)V"⟩ : MethodName) jdk_42_method_149_code 6 (Option.none : Option FieldType) ({ frames := 2, cells := 1, slots := 4, locals := 35 } : Room) #[(.ref a), (.ref b), (.int (0 : Int32)), (.int z), .null] h0 [a] (fun r h' => r = none ∧ ∃ (t : Nat), ∃ (kt : ClassId), (Exa Z h' a "java/lang/String") ∧ (Fld Z h' a "java/lang/String" "coder" "B" (.int (0 : Int32))) ∧ (Fld Z h' a "java/lang/String" "value" "[B" (.ref t)) ∧ (Arv Z h' t kt .byte z (own_lat cs) (.int (0 : Int32))) ∧ (h0.size ≤ t)) := by
  refine metF (plainFor_of_name pn_1) O0 (Ls := #[.val (.ref a), .val (.ref b), .val (.int (0 : Int32)), .val (.int z), .val .null, .unset]) (fun m => by first | rfl | (simp [entryFrame, mkF, argsToLocals, Value.category]; done)) ?_
  intro p e s m below meth c T0 X0
  have K0_h0 := Keep.refl h0 [a]
  have n0le := X0.n0le
  have ltq0 := own_n q0.lt
  have ltq1 := own_n q1.lt
  have ltq2 := own_n q2.lt
  have ltq3 := own_n q3.lt
  obtain ⟨zc, fm, G_cs, G_zc, G_fm, isref_fm, G_assertionsDisabled, G_HI_BYTE_SHIFT, G_LO_BYTE_SHIFT⟩ := id G
  have hnz0 : ¬ z = 0 := by rw [hz]; exact own_nz h1 (by omega)
  refine k_aloadN X0 d_jdk_42_149_0 rfl rfl (pc' := 1) rfl ?_
  refine k_initO X0 d_jdk_42_149_1 (w_18 hw) (w_19 hw) (w_20 hw) rfl (by decide) (W := 0) (Nat.le_of_eq rfl) (by decide) (pc' := 4) rfl fun T10 X11 => ?_
  refine k_iloadN X11 d_jdk_42_149_4 rfl (pc' := 5) rfl ?_
  refine k_ifYes X11 d_jdk_42_149_5 ((if0 _ _).trans (feq hnz0).2) (pc' := 27) (by decide) (by decide) ?_
  refine k_getS X11 d_jdk_42_149_27 (host := "") (Or.inl (w_48 hw)) Via.refl (G_cs.ext X11.old.2) (pc' := 30) rfl fun T12 X13 => ?_
  refine k_ifNo X13 d_jdk_42_149_30 ((if0 _ _).trans (feq G_zc).1) (pc' := 33) rfl ?_
  refine k_aloadN X13 d_jdk_42_149_33 rfl rfl (pc' := 34) rfl ?_
  refine k_iloadN X13 d_jdk_42_149_34 rfl (pc' := 35) rfl ?_
  refine k_iloadN X13 d_jdk_42_149_35 rfl (pc' := 36) rfl ?_
  refine k_callSVF X13 (y := (⟨"java/lang/StringUTF16", "compress", "([CII)[B"⟩ : MethodName)) d_jdk_42_149_36 (w_73 hw) (w_74 hw) (w_75 hw) (w_76 hw) (by decide) (argsL := [(.ref b), (.int (0 : Int32)), (.int z)]) (rest := []) (own_cmp3L l Z a0 hw G n0 h0 X13.old b kb z cs hz (by omega) hall q3) rfl pd_1 rfl rfl (by decide) (W := 0) (Nat.le_of_eq rfl) (by decide) (by decide) (by decide) all0 (pc' := 39) rfl ?_
  rintro _ T16 h16 L16 X16 K16 ⟨t_14, kt_15, rfl, q16_0, q16_1⟩
  have sz_h16 := K16.1
  have K0_h16 : Keep h0 h16 [a] := K0_h0.trans K16 all0
  have lt16_0 := own_n q16_0.lt
  refine k_astore X16 d_jdk_42_149_39 rfl (Ls' := #[.val (.ref a), .val (.ref b), .val (.int (0 : Int32)), .val (.int z), .val .null, .val (.ref t_14)]) rfl (pc' := 41) rfl ?_
  refine k_aloadN X16 d_jdk_42_149_41 rfl rfl (pc' := 42) rfl ?_
  refine k_aload X16 d_jdk_42_149_42 rfl rfl (pc' := 44) rfl ?_
  refine k_iloadN X16 d_jdk_42_149_44 rfl (pc' := 45) rfl ?_
  refine k_callSVF X16 (y := (⟨"java/lang/StringUTF16", "coderFromArrayLen", "([BI)B"⟩ : MethodName)) d_jdk_42_149_45 (w_80 hw) (w_81 hw) (w_75 hw) (w_82 hw) (by decide) (argsL := [(.ref t_14), (.int z)]) (rest := [(.ref a)]) (own_codL l Z a0 hw G n0 h16 X16.old t_14 kt_15 z (own_lat cs) (.int (0 : Int32)) q16_0) rfl pd_2 rfl rfl (by decide) (W := 1) (Nat.le_of_eq rfl) (by decide) (by decide) (by decide) all0 (pc' := 48) rfl ?_
  rintro _ T18 h18 L18 X18 K18 ⟨rfl, -⟩
  have sz_h18 := K18.1
  have K0_h18 : Keep h0 h18 [a] := K0_h16.trans K18 all0
  have c20 := ((q2.keep K16 nin0).keep K18 nin0)
  have c21 := ((q0.keep K16).keep K18)
  have ge23 : n0 ≤ a := by omega
  refine k_putF X18 d_jdk_42_149_48 (host := "") (Or.inl (w_28 hw)) Via.refl c20 c21 (Or.inr ⟨(w_24 hw), rfl, X18.hnm⟩) (w_8 hw) (ty := .byte) (by decide) rfl rfl trivial ge23 (pc' := 51) rfl fun T22 h22 L22 X22 W22 K22 => ?_
  have sz_h22 := K22.1
  have K0_h22 : Keep h0 h22 [a] := K0_h18.trans K22 (allS (Or.inl (List.mem_of_getElem? (i := 0) rfl)) all0)
  have F22 := c20.same W22
  refine k_aloadN X22 d_jdk_42_149_51 rfl rfl (pc' := 52) rfl ?_
  refine k_aload X22 d_jdk_42_149_52 rfl rfl (pc' := 54) rfl ?_
  have c24 := (((q1.keep K16 nin0).keep K18 nin0).other W22 (Or.inr (slot_ne (Or.inr (w_23 hw)) (Or.inr (w_24 hw)) (by decide) (t := (.array .byte)) (t' := .byte) (by decide) (by decide))))
  have c25 := (c21.keep K22)
  have ge27 : n0 ≤ a := by omega
  refine k_putF X22 d_jdk_42_149_54 (host := "") (Or.inl (w_27 hw)) Via.refl c24 c25 (Or.inr ⟨(w_23 hw), rfl, X22.hnm⟩) (w_8 hw) (ty := (.array .byte)) (by decide) rfl rfl trivial ge27 (pc' := 57) rfl fun T26 h26 L26 X26 W26 K26 => ?_
  have sz_h26 := K26.1
  have K0_h26 : Keep h0 h26 [a] := K0_h22.trans K26 (allS (Or.inl (List.mem_of_getElem? (i := 0) rfl)) all0)
  have F26 := c24.same W26
  have c28 := (c25.keep K26)
  have c29 := (F22.other W26 (Or.inr (slot_ne (Or.inr (w_24 hw)) (Or.inr (w_23 hw)) (by decide) (t := .byte) (t' := (.array .byte)) (by decide) (by decide))))
  have c30 := (((q16_0.keep K18 nin0).keep K22 (ninS (own_ne (by omega) : t_14 ≠ a) nin0)).keep K26 (ninS (own_ne (by omega) : t_14 ≠ a) nin0))
  exact k_retFV X26 d_jdk_42_149_57 rfl K0_h26 ⟨rfl, _, _, c28, c29, F26, c30, by omega⟩ (by decide) (by decide)
set_option maxRecDepth 65536 in
set_option maxHeartbeats 40000000 in
theorem own_putC (l : Launch) (Z : State) (a0 : Array Value) (hw : ∀ d ∈ tables_1, d.before a0 Z = true) (G : Gl Z) (n0 : Nat) (h0 : Heap) (O0 : Old Z n0 h0) (d : Nat) (kd : ClassId) (zz : Int32) (vs : List Value) (i : Nat) (c0 : Int32) (hi : 2 * i + 1 < vs.length) (hzz : zz = Int32.ofNat vs.length) (hb0 : vs.length < 2147483648) (gw0 : n0 ≤ d) (q0 : Arv Z h0 d kd .byte zz vs (.int (0 : Int32))) :
    MetF l [] Z n0 (⟨"java/lang/StringUTF16", "putChar", "([BII)V"⟩ : MethodName) jdk_52_method_4_code 3 (Option.none : Option FieldType) ({ frames := 0, cells := 0, slots := 0, locals := 0 } : Room) #[(.ref d), (.int (Int32.ofNat i)), (.int c0)] h0 [d] (fun r h' => r = none ∧ (Arv Z h' d kd .byte zz ((vs.set (2 * i) (own_lo c0)).set (2 * i + 1) (own_hi c0)) (.int (0 : Int32)))) := by
  refine metF (plainFor_of_name pn_0) O0 (Ls := #[.val (.ref d), .val (.int (Int32.ofNat i)), .val (.int c0)]) (fun m => by first | rfl | (simp [entryFrame, mkF, argsToLocals, Value.category]; done)) ?_
  intro p e s m below meth c T0 X0
  have K0_h0 := Keep.refl h0 [d]
  have n0le := X0.n0le
  have ltq0 := own_n q0.lt
  obtain ⟨zc, fm, G_cs, G_zc, G_fm, isref_fm, G_assertionsDisabled, G_HI_BYTE_SHIFT, G_LO_BYTE_SHIFT⟩ := id G
  have l1 := own_lt (show 2 * i < vs.length by omega) hb0
  have l2 := own_lt hi hb0
  rw [← hzz] at l1 l2
  refine k_getS X0 d_jdk_52_4_0 (host := "") (Or.inl (w_99 hw)) Via.refl (G_assertionsDisabled.ext X0.old.2) (pc' := 3) rfl fun T31 X32 => ?_
  refine k_ifYes X32 d_jdk_52_4_3 (by decide) (pc' := 28) (by decide) (by decide) ?_
  refine k_iloadN X32 d_jdk_52_4_28 rfl (pc' := 29) rfl ?_
  refine k_iconst X32 d_jdk_52_4_29 (w := (1 : Int32)) rfl (pc' := 30) rfl ?_
  refine k_ishl X32 d_jdk_52_4_30 (w := (Int32.ofNat (2 * i))) (own_shl1 (by omega)) (pc' := 31) rfl ?_
  refine k_istoreN X32 d_jdk_52_4_31 (Ls' := #[.val (.ref d), .val (.int (Int32.ofNat (2 * i))), .val (.int c0)]) rfl (pc' := 32) rfl ?_
  refine k_aloadN X32 d_jdk_52_4_32 rfl rfl (pc' := 33) rfl ?_
  refine k_iloadN X32 d_jdk_52_4_33 rfl (pc' := 34) rfl ?_
  refine k_iinc X32 d_jdk_52_4_34 rfl (w := (Int32.ofNat (2 * i + 1))) (own_succ (2 * i)) (Ls' := #[.val (.ref d), .val (.int (Int32.ofNat (2 * i + 1))), .val (.int c0)]) rfl (pc' := 37) rfl ?_
  refine k_iloadN X32 d_jdk_52_4_37 rfl (pc' := 38) rfl ?_
  refine k_getS X32 d_jdk_52_4_38 (host := "") (Or.inl (w_100 hw)) Via.refl (G_HI_BYTE_SHIFT.ext X32.old.2) (pc' := 41) rfl fun T33 X34 => ?_
  refine k_ishr X34 d_jdk_52_4_41 (w := c0) (own_shr0 c0) (pc' := 42) rfl ?_
  refine k_i2b X34 d_jdk_52_4_42 (w := (c0.toInt8.toInt32)) rfl (pc' := 43) rfl ?_
  have ge36 : n0 ≤ d := by omega
  refine k_bastore X34 (w := (c0.toInt8.toInt32)) (2 * i) d_jdk_52_4_43 q0 (own_nn (by omega)) l1 (own_clamp (by omega)) (by omega) (own_i2b _) (vs' := (vs.set (2 * i) (own_lo c0))) rfl trivial ge36 (pc' := 44) rfl fun T35 h35 L35 X35 K35 V35 => ?_
  have sz_h35 := K35.1
  have K0_h35 : Keep h0 h35 [d] := K0_h0.trans K35 (allS (Or.inl (List.mem_of_getElem? (i := 0) rfl)) all0)
  refine k_aloadN X35 d_jdk_52_4_44 rfl rfl (pc' := 45) rfl ?_
  refine k_iloadN X35 d_jdk_52_4_45 rfl (pc' := 46) rfl ?_
  refine k_iloadN X35 d_jdk_52_4_46 rfl (pc' := 47) rfl ?_
  refine k_getS X35 d_jdk_52_4_47 (host := "") (Or.inl (w_101 hw)) Via.refl (G_LO_BYTE_SHIFT.ext X35.old.2) (pc' := 50) rfl fun T37 X38 => ?_
  refine k_ishr X38 d_jdk_52_4_50 (w := (c0 >>> ((8 : Int32) &&& 31))) rfl (pc' := 51) rfl ?_
  refine k_i2b X38 d_jdk_52_4_51 (w := ((c0 >>> ((8 : Int32) &&& 31)).toInt8.toInt32)) rfl (pc' := 52) rfl ?_
  have ge40 : n0 ≤ d := by omega
  refine k_bastore X38 (w := ((c0 >>> ((8 : Int32) &&& 31)).toInt8.toInt32)) (2 * i + 1) d_jdk_52_4_52 V35 (own_nn (by omega)) l2 (own_clamp (by omega)) (by simp; omega) (own_i2b _) (vs' := ((vs.set (2 * i) (own_lo c0)).set (2 * i + 1) (own_hi c0))) rfl trivial ge40 (pc' := 53) rfl fun T39 h39 L39 X39 K39 V39 => ?_
  have sz_h39 := K39.1
  have K0_h39 : Keep h0 h39 [d] := K0_h35.trans K39 (allS (Or.inl (List.mem_of_getElem? (i := 0) rfl)) all0)
  exact k_retFV X39 d_jdk_52_4_53 rfl K0_h39 ⟨rfl, V39⟩ (by decide) (by decide)
set_option maxRecDepth 65536 in
set_option maxHeartbeats 40000000 in
theorem own_getC (l : Launch) (Z : State) (a0 : Array Value) (hw : ∀ d ∈ tables_1, d.before a0 Z = true) (G : Gl Z) (n0 : Nat) (h0 : Heap) (O0 : Old Z n0 h0) (d : Nat) (kd : ClassId) (zz : Int32) (cs : List Int32) (j : Nat) (jv : Int32) (hjv : jv = Int32.ofNat j) (hj : j < cs.length) (hzz : zz = Int32.ofNat (2 * cs.length)) (hb0 : 2 * cs.length < 2147483648) (hr : ¬ cs.getD j 0 < 0 ∧ ¬ 65535 < cs.getD j 0)  (q0 : Arv Z h0 d kd .byte zz (own_u16 cs) (.int (0 : Int32))) :
    MetF l [] Z n0 (⟨"java/lang/StringUTF16", "getChar", "([BI)C"⟩ : MethodName) jdk_52_method_5_code 2 (Option.some FieldType.char) ({ frames := 0, cells := 0, slots := 0, locals := 0 } : Room) #[(.ref d), (.int jv)] h0 [] (fun r h' => ∃ w, r = some w ∧ w = (.int (cs.getD j 0)) ∧ True) := by
  subst hjv
  refine metF (plainFor_of_name pn_0) O0 (Ls := #[.val (.ref d), .val (.int (Int32.ofNat j))]) (fun m => by first | rfl | (simp [entryFrame, mkF, argsToLocals, Value.category]; done)) ?_
  intro p e s m below meth c T0 X0
  have K0_h0 := Keep.refl h0 []
  have n0le := X0.n0le
  have ltq0 := own_n q0.lt
  obtain ⟨zc, fm, G_cs, G_zc, G_fm, isref_fm, G_assertionsDisabled, G_HI_BYTE_SHIFT, G_LO_BYTE_SHIFT⟩ := id G
  have l1 := own_lt (show 2 * j < 2 * cs.length by omega) hb0
  have l2 := own_lt (show 2 * j + 1 < 2 * cs.length by omega) hb0
  rw [← hzz] at l1 l2
  refine k_getS X0 d_jdk_52_5_0 (host := "") (Or.inl (w_99 hw)) Via.refl (G_assertionsDisabled.ext X0.old.2) (pc' := 3) rfl fun T41 X42 => ?_
  refine k_ifYes X42 d_jdk_52_5_3 (by decide) (pc' := 28) (by decide) (by decide) ?_
  refine k_iloadN X42 d_jdk_52_5_28 rfl (pc' := 29) rfl ?_
  refine k_iconst X42 d_jdk_52_5_29 (w := (1 : Int32)) rfl (pc' := 30) rfl ?_
  refine k_ishl X42 d_jdk_52_5_30 (w := (Int32.ofNat (2 * j))) (own_shl1 (by omega)) (pc' := 31) rfl ?_
  refine k_istoreN X42 d_jdk_52_5_31 (Ls' := #[.val (.ref d), .val (.int (Int32.ofNat (2 * j)))]) rfl (pc' := 32) rfl ?_
  refine k_aloadN X42 d_jdk_52_5_32 rfl rfl (pc' := 33) rfl ?_
  refine k_iloadN X42 d_jdk_52_5_33 rfl (pc' := 34) rfl ?_
  refine k_iinc X42 d_jdk_52_5_34 rfl (w := (Int32.ofNat (2 * j + 1))) (own_succ (2 * j)) (Ls' := #[.val (.ref d), .val (.int (Int32.ofNat (2 * j + 1)))]) rfl (pc' := 37) rfl ?_
  refine k_baload X42 d_jdk_52_5_37 q0 (own_nn (by omega)) l1 (v := (.int ((cs.getD j 0).toInt8.toInt32))) (by rw [own_clamp (by omega)]; exact own_u16lo cs j _ hj) (pc' := 38) rfl ?_
  refine k_sipush X42 d_jdk_52_5_38 (w := (255 : Int32)) rfl (pc' := 41) rfl ?_
  refine k_iand X42 d_jdk_52_5_41 (w := (((cs.getD j 0).toInt8.toInt32) &&& (255 : Int32))) rfl (pc' := 42) rfl ?_
  refine k_getS X42 d_jdk_52_5_42 (host := "") (Or.inl (w_100 hw)) Via.refl (G_HI_BYTE_SHIFT.ext X42.old.2) (pc' := 45) rfl fun T43 X44 => ?_
  refine k_ishl X44 d_jdk_52_5_45 (w := ((cs.getD j 0).toInt8.toInt32 &&& (255 : Int32))) (own_shl0 _) (pc' := 46) rfl ?_
  refine k_aloadN X44 d_jdk_52_5_46 rfl rfl (pc' := 47) rfl ?_
  refine k_iloadN X44 d_jdk_52_5_47 rfl (pc' := 48) rfl ?_
  refine k_baload X44 d_jdk_52_5_48 q0 (own_nn (by omega)) l2 (v := (.int ((cs.getD j 0 >>> ((8 : Int32) &&& 31)).toInt8.toInt32))) (by rw [own_clamp (by omega)]; exact own_u16hi cs j _ hj) (pc' := 49) rfl ?_
  refine k_sipush X44 d_jdk_52_5_49 (w := (255 : Int32)) rfl (pc' := 52) rfl ?_
  refine k_iand X44 d_jdk_52_5_52 (w := (((cs.getD j 0 >>> ((8 : Int32) &&& 31)).toInt8.toInt32) &&& (255 : Int32))) rfl (pc' := 53) rfl ?_
  refine k_getS X44 d_jdk_52_5_53 (host := "") (Or.inl (w_101 hw)) Via.refl (G_LO_BYTE_SHIFT.ext X44.old.2) (pc' := 56) rfl fun T45 X46 => ?_
  refine k_ishl X46 d_jdk_52_5_56 (w := ((((cs.getD j 0 >>> ((8 : Int32) &&& 31)).toInt8.toInt32) &&& (255 : Int32)) <<< ((8 : Int32) &&& 31))) rfl (pc' := 57) rfl ?_
  refine k_ior X46 d_jdk_52_5_57 (w := (((cs.getD j 0).toInt8.toInt32 &&& (255 : Int32)) ||| ((((cs.getD j 0 >>> ((8 : Int32) &&& 31)).toInt8.toInt32) &&& (255 : Int32)) <<< ((8 : Int32) &&& 31)))) rfl (pc' := 58) rfl ?_
  refine k_i2c X46 d_jdk_52_5_58 (w := (cs.getD j 0)) (own_join hr.1 hr.2) (pc' := 59) rfl ?_
  exact k_retFN X46 (w := (cs.getD j 0)) d_jdk_52_5_59 (t := .char) rfl (by simp) (own_i2c_id hr.1 hr.2) K0_h0 ⟨_, rfl, rfl, trivial⟩ (by decide) (by decide)
set_option maxRecDepth 65536 in
set_option maxHeartbeats 40000000 in
theorem own_nbl (l : Launch) (Z : State) (a0 : Array Value) (hw : ∀ d ∈ tables_1, d.before a0 Z = true) (G : Gl Z) (n0 : Nat) (h0 : Heap) (O0 : Old Z n0 h0) (n : Nat) (zv : Int32) (hzv : zv = Int32.ofNat n) (hn : n < 1073741823)   :
    MetF l [] Z n0 (⟨"java/lang/StringUTF16", "newBytesLength", "(I)I"⟩ : MethodName) jdk_52_method_3_code 1 (Option.some FieldType.int) ({ frames := 0, cells := 0, slots := 0, locals := 0 } : Room) #[(.int zv)] h0 [] (fun r h' => ∃ w, r = some w ∧ w = (.int (Int32.ofNat (2 * n))) ∧ True) := by
  subst hzv
  refine metF (plainFor_of_name pn_0) O0 (Ls := #[.val (.int (Int32.ofNat n))]) (fun m => by first | rfl | (simp [entryFrame, mkF, argsToLocals, Value.category]; done)) ?_
  intro p e s m below meth c T0 X0
  have K0_h0 := Keep.refl h0 []
  have n0le := X0.n0le
  obtain ⟨zc, fm, G_cs, G_zc, G_fm, isref_fm, G_assertionsDisabled, G_HI_BYTE_SHIFT, G_LO_BYTE_SHIFT⟩ := id G
  have h1 : Int32.ofNat n < (1073741823 : Int32) := own_lt hn (by decide)
  refine k_iloadN X0 d_jdk_52_3_0 rfl (pc' := 1) rfl ?_
  refine k_ifYes X0 d_jdk_52_3_1 ((if0 _ _).trans (flt (own_nn (by omega))).2.1) (pc' := 12) (by decide) (by decide) ?_
  refine k_iloadN X0 d_jdk_52_3_12 rfl (pc' := 13) rfl ?_
  refine k_ldcI X0 d_jdk_52_3_13 (w_95 hw) (pc' := 15) rfl ?_
  refine k_icmpYes X0 d_jdk_52_3_15 (tlt h1).1 (pc' := 55) (by decide) (by decide) ?_
  refine k_iloadN X0 d_jdk_52_3_55 rfl (pc' := 56) rfl ?_
  refine k_iconst X0 d_jdk_52_3_56 (w := (1 : Int32)) rfl (pc' := 57) rfl ?_
  refine k_ishl X0 d_jdk_52_3_57 (w := (Int32.ofNat (2 * n))) (own_shl1 (by omega)) (pc' := 58) rfl ?_
  exact k_retFI X0 d_jdk_52_3_58 rfl K0_h0 ⟨_, rfl, rfl, trivial⟩ (by decide) (by decide)
set_option maxRecDepth 65536 in
set_option maxHeartbeats 40000000 in
theorem own_nbf (l : Launch) (Z : State) (a0 : Array Value) (hw : ∀ d ∈ tables_1, d.before a0 Z = true) (G : Gl Z) (n0 : Nat) (h0 : Heap) (O0 : Old Z n0 h0) (n : Nat) (zv : Int32) (hzv : zv = Int32.ofNat n) (hn : n ≤ 4)   :
    MetF l [] Z n0 (⟨"java/lang/StringUTF16", "newBytesFor", "(I)[B"⟩ : MethodName) jdk_52_method_2_code 1 (Option.some (FieldType.array FieldType.byte)) ({ frames := 1, cells := 1, slots := 8, locals := 12 } : Room) #[(.int zv)] h0 [] (fun r h' => ∃ w, r = some w ∧ ∃ (t : Nat), ∃ (kt : ClassId), w = (.ref t) ∧ (Arv Z h' t kt .byte (Int32.ofNat (2 * n)) (List.replicate (2 * n) (.int (0 : Int32))) (.int (0 : Int32))) ∧ (h0.size ≤ t)) := by
  refine metF (plainFor_of_name pn_0) O0 (Ls := #[.val (.int zv)]) (fun m => by first | rfl | (simp [entryFrame, mkF, argsToLocals, Value.category]; done)) ?_
  intro p e s m below meth c T0 X0
  have K0_h0 := Keep.refl h0 []
  have n0le := X0.n0le
  obtain ⟨zc, fm, G_cs, G_zc, G_fm, isref_fm, G_assertionsDisabled, G_HI_BYTE_SHIFT, G_LO_BYTE_SHIFT⟩ := id G
  refine k_iloadN X0 d_jdk_52_2_0 rfl (pc' := 1) rfl ?_
  refine k_callSVF X0 (y := (⟨"java/lang/StringUTF16", "newBytesLength", "(I)I"⟩ : MethodName)) d_jdk_52_2_1 (w_92 hw) (w_93 hw) (w_75 hw) (w_94 hw) (by decide) (argsL := [(.int zv)]) (rest := []) (own_nbl l Z a0 hw G n0 h0 X0.old n zv hzv (by omega) ) rfl pd_3 rfl rfl (by decide) (W := 0) (Nat.le_of_eq rfl) (by decide) (by decide) (by decide) all0 (pc' := 4) rfl ?_
  rintro _ T47 h47 L47 X47 K47 ⟨rfl, -⟩
  have sz_h47 := K47.1
  have K0_h47 : Keep h0 h47 [] := K0_h0.trans K47 all0
  refine k_newP X47 d_jdk_52_2_4 (w_22 hw) (own_nn (by omega)) (cap := 8) (by rw [own_clamp (by omega)]; omega) (by decide) (by decide) (by decide) (pc' := 6) rfl fun T49 h49 b49 k49 g49 X49 K49 V49 S49 lt49 ge49 => ?_
  have sz_h49 := K49.1
  have K0_h49 : Keep h0 h49 [] := K0_h47.trans K49 all0
  have Vp : Arv Z h49 b49 k49 .byte (Int32.ofNat (2 * n)) (List.replicate (2 * n) (.int (0 : Int32))) (.int (0 : Int32)) := Arv.pad V49 (fun i => by simpa using pad_rep [] (.int (0 : Int32)) (2 * n) i)
  exact k_retFA X49 d_jdk_52_2_6 rfl rfl rfl rfl K0_h49 ⟨_, rfl, _, _, rfl, Vp, by omega⟩ (by decide) (by decide)
set_option maxRecDepth 65536 in
set_option maxHeartbeats 40000000 in
theorem own_toB (l : Launch) (Z : State) (a0 : Array Value) (hw : ∀ d ∈ tables_1, d.before a0 Z = true) (G : Gl Z) (n0 : Nat) (h0 : Heap) (O0 : Old Z n0 h0) (b : Nat) (kb : ClassId) (z : Int32) (cs : List Int32) (hz : z = Int32.ofNat cs.length) (hn : cs.length ≤ 4)  (q0 : Arv Z h0 b kb .char z (cs.map Value.int) (.int 0)) :
    MetF l [] Z n0 (⟨"java/lang/StringUTF16", "toBytes", "([CII)[B"⟩ : MethodName) jdk_52_method_14_code 5 (Option.some (FieldType.array FieldType.byte)) ({ frames := 2, cells := 1, slots := 8, locals := 24 } : Room) #[(.ref b), (.int (0 : Int32)), (.int z)] h0 [] (fun r h' => ∃ w, r = some w ∧ ∃ (t : Nat), ∃ (kt : ClassId), w = (.ref t) ∧ (Arv Z h' t kt .byte (Int32.ofNat (2 * cs.length)) (own_u16 cs) (.int (0 : Int32))) ∧ (h0.size ≤ t)) := by
  refine metF (plainFor_of_name pn_0) O0 (Ls := #[.val (.ref b), .val (.int (0 : Int32)), .val (.int z), .unset, .unset]) (fun m => by first | rfl | (simp [entryFrame, mkF, argsToLocals, Value.category]; done)) ?_
  intro p e s m below meth c T0 X0
  have K0_h0 := Keep.refl h0 []
  have n0le := X0.n0le
  have ltq0 := own_n q0.lt
  obtain ⟨zc, fm, G_cs, G_zc, G_fm, isref_fm, G_assertionsDisabled, G_HI_BYTE_SHIFT, G_LO_BYTE_SHIFT⟩ := id G
  refine k_iloadN X0 d_jdk_52_14_0 rfl (pc' := 1) rfl ?_
  refine k_callSVF X0 (y := (⟨"java/lang/StringUTF16", "newBytesFor", "(I)[B"⟩ : MethodName)) d_jdk_52_14_1 (w_89 hw) (w_90 hw) (w_75 hw) (w_91 hw) (by decide) (argsL := [(.int z)]) (rest := []) (own_nbf l Z a0 hw G n0 h0 X0.old (cs.length) z hz hn ) rfl pd_4 rfl rfl (by decide) (W := 0) (Nat.le_of_eq rfl) (by decide) (by decide) (by decide) all0 (pc' := 4) rfl ?_
  rintro _ T52 h52 L52 X52 K52 ⟨t_50, kt_51, rfl, q52_0, q52_1⟩
  have sz_h52 := K52.1
  have K0_h52 : Keep h0 h52 [] := K0_h0.trans K52 all0
  have lt52_0 := own_n q52_0.lt
  refine k_astoreN X52 d_jdk_52_14_4 rfl (Ls' := #[.val (.ref b), .val (.int (0 : Int32)), .val (.int z), .val (.ref t_50), .unset]) rfl (pc' := 5) rfl ?_
  refine k_iconst X52 d_jdk_52_14_5 (w := (0 : Int32)) rfl (pc' := 6) rfl ?_
  refine k_istore X52 d_jdk_52_14_6 (Ls' := #[.val (.ref b), .val (.int (0 : Int32)), .val (.int z), .val (.ref t_50), .val (.int (0 : Int32))]) rfl (pc' := 8) rfl ?_
  have loop : ∀ (n i : Nat) (T : State) (h : Heap) (L : List Loc) (cl sl : Nat), n = cs.length - i → i ≤ cs.length → cl = 1 → sl = 8 → WP p l e ({ frames := 2, cells := 1, slots := 8, locals := 24 } : Room) s m #[(.ref b), (.int (0 : Int32)), (.int z)] below meth c Z "java/lang/StringUTF16" "toBytes" jdk_52_method_14_code 5 (Option.some (FieldType.array FieldType.byte)) n0 (fun _ => True) (fun _ _ => True) T h L cl sl → Keep h0 h [] → Arv Z h b kb .char z (cs.map Value.int) (.int 0) → Arv Z h t_50 kt_51 .byte (Int32.ofNat (2 * cs.length)) (own_u16 (cs.take i) ++ List.replicate (2 * (cs.length - i)) (.int (0 : Int32))) (.int (0 : Int32)) → Run p.tables e below (PF s below n0 h0 [] (fun r h' => ∃ w, r = some w ∧ ∃ (t : Nat), ∃ (kt : ClassId), w = (.ref t) ∧ (Arv Z h' t kt .byte (Int32.ofNat (2 * cs.length)) (own_u16 cs) (.int (0 : Int32))) ∧ (h0.size ≤ t)) ({ frames := 2, cells := 1, slots := 8, locals := 24 } : Room).cells ({ frames := 2, cells := 1, slots := 8, locals := 24 } : Room).slots) T (mkF m 8 #[.val (.ref b), .val (.int (Int32.ofNat i)), .val (.int z), .val (.ref t_50), .val (.int (Int32.ofNat i))] []) := by
    intro n
    induction n with
    | zero =>
      intro i T h L cl sl hni hij hcl hsl X K Vb Vd
      subst hcl hsl
      have hi : i = cs.length := by omega
      subst hi
      have hnl : ¬ (Int32.ofNat cs.length < z) := by rw [← hz]; exact Int32.lt_irrefl
      have lb := own_n Vb.lt
      have ld := own_n Vd.lt
      have lh0 := K.1
      have lb0 := own_n q0.lt
      have nle := X.n0le
      refine k_iload X d_jdk_52_14_8 rfl (pc' := 10) rfl ?_
      refine k_iloadN X d_jdk_52_14_10 rfl (pc' := 11) rfl ?_
      refine k_icmpYes X d_jdk_52_14_11 (flt hnl).2.1 (pc' := 32) (by decide) (by decide) ?_
      refine k_aloadN X d_jdk_52_14_32 rfl rfl (pc' := 33) rfl ?_
      have Ve : Arv Z h t_50 kt_51 .byte (Int32.ofNat (2 * cs.length)) (own_u16 cs) (.int (0 : Int32)) := by simpa using Vd
      exact k_retFA X d_jdk_52_14_33 rfl rfl rfl rfl K ⟨_, rfl, _, _, rfl, Ve, by omega⟩ (by decide) (by decide)
    | succ n ih =>
      intro i T h L cl sl hni hij hcl hsl X K Vb Vd
      subst hcl hsl
      have hi : i < cs.length := by omega
      have hlt := own_lt hi (by omega)
      rw [← hz] at hlt
      have lb := own_n Vb.lt
      have ld := own_n Vd.lt
      have lh0 := K.1
      have lb0 := own_n q0.lt
      have nle := X.n0le
      refine k_iload X d_jdk_52_14_8 rfl (pc' := 10) rfl ?_
      refine k_iloadN X d_jdk_52_14_10 rfl (pc' := 11) rfl ?_
      refine k_icmpNo X d_jdk_52_14_11 (tlt hlt).2.1 (pc' := 14) rfl ?_
      refine k_aloadN X d_jdk_52_14_14 rfl rfl (pc' := 15) rfl ?_
      refine k_iload X d_jdk_52_14_15 rfl (pc' := 17) rfl ?_
      refine k_aloadN X d_jdk_52_14_17 rfl rfl (pc' := 18) rfl ?_
      refine k_iloadN X d_jdk_52_14_18 rfl (pc' := 19) rfl ?_
      refine k_caload X d_jdk_52_14_19 Vb (own_nn (by omega)) hlt (v := (.int (cs.getD i 0))) (own_getc' cs (by omega)) (pc' := 20) rfl ?_
      have ge54 : n0 ≤ t_50 := by omega
      refine k_callSNF X (y := (⟨"java/lang/StringUTF16", "putChar", "([BII)V"⟩ : MethodName)) d_jdk_52_14_20 (w_96 hw) (w_97 hw) (w_75 hw) (w_98 hw) (by decide) (argsL := [(.ref t_50), (.int (Int32.ofNat i)), (.int (cs.getD i 0))]) (rest := []) (own_putC l Z a0 hw G n0 h X.old t_50 kt_51 (Int32.ofNat (2 * cs.length)) (own_u16 (cs.take i) ++ List.replicate (2 * (cs.length - i)) (.int (0 : Int32))) i (cs.getD i 0) (by rw [own_u16l cs i hij]; omega) (by rw [own_u16l cs i hij]) (by rw [own_u16l cs i hij]; omega) (by omega) Vd) rfl pd_5 rfl rfl (by decide) (W := 0) (Nat.le_of_eq rfl) (by decide) (by decide) (by decide) (allS ⟨trivial, ge54⟩ all0) (pc' := 23) rfl ?_
      rintro T55 h55 L55 X55 K55 q55_0
      have sz_h55 := K55.1
      have K0_h55 : Keep h0 h55 [] := K.trans K55 (allS (Or.inr (by omega)) all0)
      have lt55_0 := own_n q55_0.lt
      refine k_iinc X55 d_jdk_52_14_23 rfl (w := (Int32.ofNat (i + 1))) (own_succ i) (Ls' := #[.val (.ref b), .val (.int (Int32.ofNat (i + 1))), .val (.int z), .val (.ref t_50), .val (.int (Int32.ofNat i))]) rfl (pc' := 26) rfl ?_
      refine k_iinc X55 d_jdk_52_14_26 rfl (w := (Int32.ofNat (i + 1))) (own_succ i) (Ls' := #[.val (.ref b), .val (.int (Int32.ofNat (i + 1))), .val (.int z), .val (.ref t_50), .val (.int (Int32.ofNat (i + 1)))]) rfl (pc' := 29) rfl ?_
      refine k_goto X55 d_jdk_52_14_29 (pc' := 8) (by decide) (by decide) ?_
      have c56 := (Vb.keep K55 (ninS (own_ne (by omega) : b ≠ t_50) nin0))
      rw [own_u16turn cs i hi] at q55_0
      exact ih (i + 1) _ _ _ _ _ (by omega) (by omega) rfl rfl X55 K0_h55 c56 q55_0
  have c57 := (q0.keep K52 nin0)
  exact loop _ 0 _ _ _ _ _ rfl (by omega) rfl rfl X52 K0_h52 c57 (by simpa [own_u16] using q52_0)
set_option maxRecDepth 65536 in
set_option maxHeartbeats 40000000 in
theorem own_cmp3U (l : Launch) (Z : State) (a0 : Array Value) (hw : ∀ d ∈ tables_1, d.before a0 Z = true) (G : Gl Z) (n0 : Nat) (h0 : Heap) (O0 : Old Z n0 h0) (b : Nat) (kb : ClassId) (z : Int32) (cs : List Int32) (hz : z = Int32.ofNat cs.length) (hn : cs.length ≤ 4) (hj : own_fst cs < cs.length)  (q0 : Arv Z h0 b kb .char z (cs.map Value.int) (.int 0)) :
    MetF l [] Z n0 (⟨"java/lang/StringUTF16", "compress", "([CII)[B"⟩ : MethodName) jdk_52_method_16_code 6 (Option.some (FieldType.array FieldType.byte)) ({ frames := 3, cells := 2, slots := 12, locals := 40 } : Room) #[(.ref b), (.int (0 : Int32)), (.int z)] h0 [] (fun r h' => ∃ w, r = some w ∧ ∃ (t : Nat), ∃ (kt : ClassId), w = (.ref t) ∧ (Arv Z h' t kt .byte (Int32.ofNat (2 * cs.length)) (own_u16 cs) (.int (0 : Int32))) ∧ (h0.size ≤ t)) := by
  refine metF (plainFor_of_name pn_0) O0 (Ls := #[.val (.ref b), .val (.int (0 : Int32)), .val (.int z), .unset, .unset, .unset]) (fun m => by first | rfl | (simp [entryFrame, mkF, argsToLocals, Value.category]; done)) ?_
  intro p e s m below meth c T0 X0
  have K0_h0 := Keep.refl h0 []
  have n0le := X0.n0le
  have ltq0 := own_n q0.lt
  obtain ⟨zc, fm, G_cs, G_zc, G_fm, isref_fm, G_assertionsDisabled, G_HI_BYTE_SHIFT, G_LO_BYTE_SHIFT⟩ := id G
  have hnz : ¬ z < 0 := by rw [hz]; exact own_nn (by omega)
  have hcl : z.toNatClampNeg = cs.length := by rw [hz]; exact own_clamp (by omega)
  have hrg := own_rng q0 hz (by omega) (own_fst cs) hj
  refine k_iloadN X0 d_jdk_52_16_0 rfl (pc' := 1) rfl ?_
  refine k_newP X0 d_jdk_52_16_1 (w_22 hw) hnz (cap := 4) (by omega) (by decide) (by decide) (by decide) (pc' := 3) rfl fun T58 h58 b58 k58 g58 X58 K58 V58 S58 lt58 ge58 => ?_
  have sz_h58 := K58.1
  have K0_h58 : Keep h0 h58 [] := K0_h0.trans K58 all0
  have Vp : Arv Z h58 b58 k58 .byte z (List.replicate cs.length (.int (0 : Int32))) (.int (0 : Int32)) := Arv.pad V58 (fun i => by simpa using pad_rep [] (.int (0 : Int32)) cs.length i)
  refine k_astoreN X58 d_jdk_52_16_3 rfl (Ls' := #[.val (.ref b), .val (.int (0 : Int32)), .val (.int z), .val (.ref b58), .unset, .unset]) rfl (pc' := 4) rfl ?_
  refine k_aloadN X58 d_jdk_52_16_4 rfl rfl (pc' := 5) rfl ?_
  refine k_iloadN X58 d_jdk_52_16_5 rfl (pc' := 6) rfl ?_
  refine k_aloadN X58 d_jdk_52_16_6 rfl rfl (pc' := 7) rfl ?_
  refine k_iconst X58 d_jdk_52_16_7 (w := (0 : Int32)) rfl (pc' := 8) rfl ?_
  refine k_iloadN X58 d_jdk_52_16_8 rfl (pc' := 9) rfl ?_
  have c59 := (q0.keep K58 nin0)
  have ge60 : n0 ≤ b58 := by omega
  refine k_callSVF X58 (y := (⟨"java/lang/StringUTF16", "compress", "([CI[BII)I"⟩ : MethodName)) d_jdk_52_16_9 (w_77 hw) (w_78 hw) (w_75 hw) (w_79 hw) (by decide) (argsL := [(.ref b), (.int (0 : Int32)), (.ref b58), (.int (0 : Int32)), (.int z)]) (rest := []) (own_cmp5 l Z a0 hw G n0 h58 X58.old b b58 kb k58 z cs (List.replicate cs.length (.int (0 : Int32))) (by omega) hz (by omega) (by simp) (by omega) c59 Vp) rfl pd_0 rfl rfl (by decide) (W := 0) (Nat.le_of_eq rfl) (by decide) (by decide) (by decide) (allS ⟨trivial, ge60⟩ all0) (pc' := 12) rfl ?_
  rintro _ T61 h61 L61 X61 K61 ⟨rfl, q61_0⟩
  have sz_h61 := K61.1
  have K0_h61 : Keep h0 h61 [] := K0_h58.trans K61 (allS (Or.inr (by omega)) all0)
  have lt61_0 := own_n q61_0.lt
  refine k_istore X61 d_jdk_52_16_12 (Ls' := #[.val (.ref b), .val (.int (0 : Int32)), .val (.int z), .val (.ref b58), .val (.int (Int32.ofNat (own_fst cs))), .unset]) rfl (pc' := 14) rfl ?_
  refine k_iload X61 d_jdk_52_16_14 rfl (pc' := 16) rfl ?_
  refine k_iloadN X61 d_jdk_52_16_16 rfl (pc' := 17) rfl ?_
  have hz2 : ¬ (Int32.ofNat (own_fst cs) = z) := by rw [hz]; intro q; have := own_lt hj (by omega); rw [q] at this; exact Int32.lt_irrefl this
  refine k_icmpNo X61 d_jdk_52_16_17 (feq hz2).1 (pc' := 20) rfl ?_
  refine k_aloadN X61 d_jdk_52_16_20 rfl rfl (pc' := 21) rfl ?_
  refine k_iloadN X61 d_jdk_52_16_21 rfl (pc' := 22) rfl ?_
  refine k_iloadN X61 d_jdk_52_16_22 rfl (pc' := 23) rfl ?_
  have c63 := (c59.keep K61 (ninS (own_ne (by omega) : b ≠ b58) nin0))
  refine k_callSVF X61 (y := (⟨"java/lang/StringUTF16", "toBytes", "([CII)[B"⟩ : MethodName)) d_jdk_52_16_23 (w_86 hw) (w_87 hw) (w_75 hw) (w_88 hw) (by decide) (argsL := [(.ref b), (.int (0 : Int32)), (.int z)]) (rest := []) (own_toB l Z a0 hw G n0 h61 X61.old b kb z cs hz hn c63) rfl pd_1 rfl rfl (by decide) (W := 0) (Nat.le_of_eq rfl) (by decide) (by decide) (by decide) all0 (pc' := 26) rfl ?_
  rintro _ T66 h66 L66 X66 K66 ⟨t_64, kt_65, rfl, q66_0, q66_1⟩
  have sz_h66 := K66.1
  have K0_h66 : Keep h0 h66 [] := K0_h61.trans K66 all0
  have lt66_0 := own_n q66_0.lt
  refine k_astore X66 d_jdk_52_16_26 rfl (Ls' := #[.val (.ref b), .val (.int (0 : Int32)), .val (.int z), .val (.ref b58), .val (.int (Int32.ofNat (own_fst cs))), .val (.ref t_64)]) rfl (pc' := 28) rfl ?_
  refine k_aload X66 d_jdk_52_16_28 rfl rfl (pc' := 30) rfl ?_
  refine k_iload X66 d_jdk_52_16_30 rfl (pc' := 32) rfl ?_
  refine k_callSVF X66 (y := (⟨"java/lang/StringUTF16", "getChar", "([BI)C"⟩ : MethodName)) d_jdk_52_16_32 (w_102 hw) (w_103 hw) (w_75 hw) (w_104 hw) (by decide) (argsL := [(.ref t_64), (.int (Int32.ofNat (own_fst cs)))]) (rest := []) (own_getC l Z a0 hw G n0 h66 X66.old t_64 kt_65 (Int32.ofNat (2 * cs.length)) cs (own_fst cs) (Int32.ofNat (own_fst cs)) rfl hj rfl (by omega) hrg q66_0) rfl pd_6 rfl rfl (by decide) (W := 0) (Nat.le_of_eq rfl) (by decide) (by decide) (by decide) all0 (pc' := 35) rfl ?_
  rintro _ T68 h68 L68 X68 K68 ⟨rfl, -⟩
  have sz_h68 := K68.1
  have K0_h68 : Keep h0 h68 [] := K0_h66.trans K68 all0
  refine k_sipush X68 d_jdk_52_16_35 (w := (255 : Int32)) rfl (pc' := 38) rfl ?_
  refine k_icmpYes X68 d_jdk_52_16_38 (tlt (own_fst_hi cs hj)).2.2.1 (pc' := 54) (by decide) (by decide) ?_
  refine k_aload X68 d_jdk_52_16_54 rfl rfl (pc' := 56) rfl ?_
  have c70 := (q66_0.keep K68 nin0)
  exact k_retFA X68 d_jdk_52_16_56 rfl rfl rfl rfl K0_h68 ⟨_, rfl, _, _, rfl, c70, by omega⟩ (by decide) (by decide)
set_option maxRecDepth 65536 in
set_option maxHeartbeats 40000000 in
theorem own_codU (l : Launch) (Z : State) (a0 : Array Value) (hw : ∀ d ∈ tables_1, d.before a0 Z = true) (G : Gl Z) (n0 : Nat) (h0 : Heap) (O0 : Old Z n0 h0) (d : Nat) (k : ClassId) (z : Int32) (cs : List Int32) (bs : List Value) (dv : Value) (hz : z = Int32.ofNat cs.length) (h1 : 0 < cs.length) (hn : cs.length < 1073741824)  (q0 : Arv Z h0 d k .byte (Int32.ofNat (2 * cs.length)) bs dv) :
    MetF l [] Z n0 (⟨"java/lang/StringUTF16", "coderFromArrayLen", "([BI)B"⟩ : MethodName) jdk_52_method_15_code 2 (Option.some FieldType.byte) ({ frames := 0, cells := 0, slots := 0, locals := 0 } : Room) #[(.ref d), (.int z)] h0 [] (fun r h' => ∃ w, r = some w ∧ w = (.int (1 : Int32)) ∧ True) := by
  subst hz
  refine metF (plainFor_of_name pn_0) O0 (Ls := #[.val (.ref d), .val (.int (Int32.ofNat cs.length))]) (fun m => by first | rfl | (simp [entryFrame, mkF, argsToLocals, Value.category]; done)) ?_
  intro p e s m below meth c T0 X0
  have K0_h0 := Keep.refl h0 []
  have n0le := X0.n0le
  have ltq0 := own_n q0.lt
  obtain ⟨zc, fm, G_cs, G_zc, G_fm, isref_fm, G_assertionsDisabled, G_HI_BYTE_SHIFT, G_LO_BYTE_SHIFT⟩ := id G
  refine k_iloadN X0 d_jdk_52_15_0 rfl (pc' := 1) rfl ?_
  refine k_aloadN X0 d_jdk_52_15_1 rfl rfl (pc' := 2) rfl ?_
  refine k_arlen X0 d_jdk_52_15_2 q0 (pc' := 3) rfl ?_
  refine k_isub X0 d_jdk_52_15_3 (w := ((Int32.ofNat cs.length) - (Int32.ofNat (2 * cs.length)))) rfl (pc' := 4) rfl ?_
  refine k_bipush X0 d_jdk_52_15_4 (w := (31 : Int32)) rfl (pc' := 6) rfl ?_
  refine k_iushr X0 d_jdk_52_15_6 (w := (1 : Int32)) (own_neg31 h1 hn) (pc' := 7) rfl ?_
  refine k_i2b X0 d_jdk_52_15_7 (w := (1 : Int32)) (by decide) (pc' := 8) rfl ?_
  exact k_retFN X0 (w := (1 : Int32)) d_jdk_52_15_8 (t := .byte) rfl (by simp) rfl K0_h0 ⟨_, rfl, rfl, trivial⟩ (by decide) (by decide)
set_option maxRecDepth 65536 in
set_option maxHeartbeats 40000000 in
theorem own_init4U (l : Launch) (Z : State) (a0 : Array Value) (hw : ∀ d ∈ tables_1, d.before a0 Z = true) (G : Gl Z) (n0 : Nat) (h0 : Heap) (O0 : Old Z n0 h0) (a : Nat) (b : Nat) (kb : ClassId) (z : Int32) (cs : List Int32) (hz : z = Int32.ofNat cs.length) (h1 : 0 < cs.length) (hn : cs.length ≤ 4) (hj : own_fst cs < cs.length) (gw0 : n0 ≤ a) (q0 : Exa Z h0 a "java/lang/String") (q1 : Fld Z h0 a "java/lang/String" "value" "[B" .null) (q2 : Fld Z h0 a "java/lang/String" "coder" "B" (.int (0 : Int32))) (q3 : Arv Z h0 b kb .char z (cs.map Value.int) (.int 0)) :
    MetF l [] Z n0 (⟨"java/lang/String", "<init>", "([CIILjava/lang/Void;)V"⟩ : MethodName) jdk_42_method_149_code 6 (Option.none : Option FieldType) ({ frames := 4, cells := 2, slots := 12, locals := 57 } : Room) #[(.ref a), (.ref b), (.int (0 : Int32)), (.int z), .null] h0 [a] (fun r h' => r = none ∧ ∃ (t : Nat), ∃ (kt : ClassId), (Exa Z h' a "java/lang/String") ∧ (Fld Z h' a "java/lang/String" "coder" "B" (.int (1 : Int32))) ∧ (Fld Z h' a "java/lang/String" "value" "[B" (.ref t)) ∧ (Arv Z h' t kt .byte (Int32.ofNat (2 * cs.length)) (own_u16 cs) (.int (0 : Int32))) ∧ (h0.size ≤ t)) := by
  refine metF (plainFor_of_name pn_1) O0 (Ls := #[.val (.ref a), .val (.ref b), .val (.int (0 : Int32)), .val (.int z), .val .null, .unset]) (fun m => by first | rfl | (simp [entryFrame, mkF, argsToLocals, Value.category]; done)) ?_
  intro p e s m below meth c T0 X0
  have K0_h0 := Keep.refl h0 [a]
  have n0le := X0.n0le
  have ltq0 := own_n q0.lt
  have ltq1 := own_n q1.lt
  have ltq2 := own_n q2.lt
  have ltq3 := own_n q3.lt
  obtain ⟨zc, fm, G_cs, G_zc, G_fm, isref_fm, G_assertionsDisabled, G_HI_BYTE_SHIFT, G_LO_BYTE_SHIFT⟩ := id G
  have hnz0 : ¬ z = 0 := by rw [hz]; exact own_nz h1 (by omega)
  refine k_aloadN X0 d_jdk_42_149_0 rfl rfl (pc' := 1) rfl ?_
  refine k_initO X0 d_jdk_42_149_1 (w_18 hw) (w_19 hw) (w_20 hw) rfl (by decide) (W := 0) (Nat.le_of_eq rfl) (by decide) (pc' := 4) rfl fun T71 X72 => ?_
  refine k_iloadN X72 d_jdk_42_149_4 rfl (pc' := 5) rfl ?_
  refine k_ifYes X72 d_jdk_42_149_5 ((if0 _ _).trans (feq hnz0).2) (pc' := 27) (by decide) (by decide) ?_
  refine k_getS X72 d_jdk_42_149_27 (host := "") (Or.inl (w_48 hw)) Via.refl (G_cs.ext X72.old.2) (pc' := 30) rfl fun T73 X74 => ?_
  refine k_ifNo X74 d_jdk_42_149_30 ((if0 _ _).trans (feq G_zc).1) (pc' := 33) rfl ?_
  refine k_aloadN X74 d_jdk_42_149_33 rfl rfl (pc' := 34) rfl ?_
  refine k_iloadN X74 d_jdk_42_149_34 rfl (pc' := 35) rfl ?_
  refine k_iloadN X74 d_jdk_42_149_35 rfl (pc' := 36) rfl ?_
  refine k_callSVF X74 (y := (⟨"java/lang/StringUTF16", "compress", "([CII)[B"⟩ : MethodName)) d_jdk_42_149_36 (w_73 hw) (w_74 hw) (w_75 hw) (w_76 hw) (by decide) (argsL := [(.ref b), (.int (0 : Int32)), (.int z)]) (rest := []) (own_cmp3U l Z a0 hw G n0 h0 X74.old b kb z cs hz (by omega) hj q3) rfl pd_1 rfl rfl (by decide) (W := 0) (Nat.le_of_eq rfl) (by decide) (by decide) (by decide) all0 (pc' := 39) rfl ?_
  rintro _ T77 h77 L77 X77 K77 ⟨t_75, kt_76, rfl, q77_0, q77_1⟩
  have sz_h77 := K77.1
  have K0_h77 : Keep h0 h77 [a] := K0_h0.trans K77 all0
  have lt77_0 := own_n q77_0.lt
  refine k_astore X77 d_jdk_42_149_39 rfl (Ls' := #[.val (.ref a), .val (.ref b), .val (.int (0 : Int32)), .val (.int z), .val .null, .val (.ref t_75)]) rfl (pc' := 41) rfl ?_
  refine k_aloadN X77 d_jdk_42_149_41 rfl rfl (pc' := 42) rfl ?_
  refine k_aload X77 d_jdk_42_149_42 rfl rfl (pc' := 44) rfl ?_
  refine k_iloadN X77 d_jdk_42_149_44 rfl (pc' := 45) rfl ?_
  refine k_callSVF X77 (y := (⟨"java/lang/StringUTF16", "coderFromArrayLen", "([BI)B"⟩ : MethodName)) d_jdk_42_149_45 (w_80 hw) (w_81 hw) (w_75 hw) (w_82 hw) (by decide) (argsL := [(.ref t_75), (.int z)]) (rest := [(.ref a)]) (own_codU l Z a0 hw G n0 h77 X77.old t_75 kt_76 z cs (own_u16 cs) (.int (0 : Int32)) hz h1 (by omega) q77_0) rfl pd_2 rfl rfl (by decide) (W := 1) (Nat.le_of_eq rfl) (by decide) (by decide) (by decide) all0 (pc' := 48) rfl ?_
  rintro _ T79 h79 L79 X79 K79 ⟨rfl, -⟩
  have sz_h79 := K79.1
  have K0_h79 : Keep h0 h79 [a] := K0_h77.trans K79 all0
  have c81 := ((q2.keep K77 nin0).keep K79 nin0)
  have c82 := ((q0.keep K77).keep K79)
  have ge84 : n0 ≤ a := by omega
  refine k_putF X79 d_jdk_42_149_48 (host := "") (Or.inl (w_28 hw)) Via.refl c81 c82 (Or.inr ⟨(w_24 hw), rfl, X79.hnm⟩) (w_8 hw) (ty := .byte) (by decide) rfl rfl trivial ge84 (pc' := 51) rfl fun T83 h83 L83 X83 W83 K83 => ?_
  have sz_h83 := K83.1
  have K0_h83 : Keep h0 h83 [a] := K0_h79.trans K83 (allS (Or.inl (List.mem_of_getElem? (i := 0) rfl)) all0)
  have F83 := c81.same W83
  refine k_aloadN X83 d_jdk_42_149_51 rfl rfl (pc' := 52) rfl ?_
  refine k_aload X83 d_jdk_42_149_52 rfl rfl (pc' := 54) rfl ?_
  have c85 := (((q1.keep K77 nin0).keep K79 nin0).other W83 (Or.inr (slot_ne (Or.inr (w_23 hw)) (Or.inr (w_24 hw)) (by decide) (t := (.array .byte)) (t' := .byte) (by decide) (by decide))))
  have c86 := (c82.keep K83)
  have ge88 : n0 ≤ a := by omega
  refine k_putF X83 d_jdk_42_149_54 (host := "") (Or.inl (w_27 hw)) Via.refl c85 c86 (Or.inr ⟨(w_23 hw), rfl, X83.hnm⟩) (w_8 hw) (ty := (.array .byte)) (by decide) rfl rfl trivial ge88 (pc' := 57) rfl fun T87 h87 L87 X87 W87 K87 => ?_
  have sz_h87 := K87.1
  have K0_h87 : Keep h0 h87 [a] := K0_h83.trans K87 (allS (Or.inl (List.mem_of_getElem? (i := 0) rfl)) all0)
  have F87 := c85.same W87
  have c89 := (c86.keep K87)
  have c90 := (F83.other W87 (Or.inr (slot_ne (Or.inr (w_24 hw)) (Or.inr (w_23 hw)) (by decide) (t := .byte) (t' := (.array .byte)) (by decide) (by decide))))
  have c91 := (((q77_0.keep K79 nin0).keep K83 (ninS (own_ne (by omega) : t_75 ≠ a) nin0)).keep K87 (ninS (own_ne (by omega) : t_75 ≠ a) nin0))
  exact k_retFV X87 d_jdk_42_149_57 rfl K0_h87 ⟨rfl, _, _, c89, c90, F87, c91, by omega⟩ (by decide) (by decide)
set_option maxRecDepth 65536 in
set_option maxHeartbeats 40000000 in
theorem own_initU (l : Launch) (Z : State) (a0 : Array Value) (hw : ∀ d ∈ tables_1, d.before a0 Z = true) (G : Gl Z) (n0 : Nat) (h0 : Heap) (O0 : Old Z n0 h0) (a : Nat) (b : Nat) (kb : ClassId) (z : Int32) (vs : List Value) (cs : List Int32) (hvs : vs = cs.map Value.int) (hz : z = Int32.ofNat cs.length) (h1 : 0 < cs.length) (hn : cs.length ≤ 4) (hj : own_fst cs < cs.length) (gw0 : n0 ≤ a) (q0 : Exa Z h0 a "java/lang/String") (q1 : Fld Z h0 a "java/lang/String" "value" "[B" .null) (q2 : Fld Z h0 a "java/lang/String" "coder" "B" (.int (0 : Int32))) (q3 : Arv Z h0 b kb .char z vs (.int (0 : Int32))) :
    MetF l [] Z n0 (⟨"java/lang/String", "<init>", "([C)V"⟩ : MethodName) jdk_42_method_3_code 2 (Option.none : Option FieldType) ({ frames := 5, cells := 2, slots := 12, locals := 74 } : Room) #[(.ref a), (.ref b)] h0 [a] (fun r h' => r = none ∧ ∃ (t : Nat), ∃ (kt : ClassId), (Exa Z h' a "java/lang/String") ∧ (Fld Z h' a "java/lang/String" "coder" "B" (.int (1 : Int32))) ∧ (Fld Z h' a "java/lang/String" "value" "[B" (.ref t)) ∧ (Arv Z h' t kt .byte (Int32.ofNat (2 * cs.length)) (own_u16 cs) (.int (0 : Int32))) ∧ (h0.size ≤ t)) := by
  subst hvs
  refine metF (plainFor_of_name pn_1) O0 (Ls := #[.val (.ref a), .val (.ref b)]) (fun m => by first | rfl | (simp [entryFrame, mkF, argsToLocals, Value.category]; done)) ?_
  intro p e s m below meth c T0 X0
  have K0_h0 := Keep.refl h0 [a]
  have n0le := X0.n0le
  have ltq0 := own_n q0.lt
  have ltq1 := own_n q1.lt
  have ltq2 := own_n q2.lt
  have ltq3 := own_n q3.lt
  obtain ⟨zc, fm, G_cs, G_zc, G_fm, isref_fm, G_assertionsDisabled, G_HI_BYTE_SHIFT, G_LO_BYTE_SHIFT⟩ := id G
  refine k_aloadN X0 d_jdk_42_3_0 rfl rfl (pc' := 1) rfl ?_
  refine k_aloadN X0 d_jdk_42_3_1 rfl rfl (pc' := 2) rfl ?_
  refine k_iconst X0 d_jdk_42_3_2 (w := (0 : Int32)) rfl (pc' := 3) rfl ?_
  refine k_aloadN X0 d_jdk_42_3_3 rfl rfl (pc' := 4) rfl ?_
  refine k_arlen X0 d_jdk_42_3_4 q3 (pc' := 5) rfl ?_
  refine k_aconstNull X0 d_jdk_42_3_5 (pc' := 6) rfl ?_
  have ge94 : n0 ≤ a := by omega
  refine k_callPNF X0 (y := (⟨"java/lang/String", "<init>", "([CIILjava/lang/Void;)V"⟩ : MethodName)) d_jdk_42_3_6 (w_14 hw) (w_15 hw) (w_9 hw) (w_17 hw) (by decide) rfl rfl (argsL := [(.ref b), (.int (0 : Int32)), (.int z), .null]) (rest := []) (own_init4U l Z a0 hw G n0 h0 X0.old a b kb z cs hz h1 hn hj (by omega) q0 q1 q2 q3) rfl pd_7 rfl rfl (by decide) (W := 0) (Nat.le_of_eq rfl) (by decide) (by decide) (by decide) (allS ⟨trivial, ge94⟩ all0) (pc' := 9) rfl ?_
  rintro T95 h95 L95 X95 K95 ⟨t_92, kt_93, q95_0, q95_1, q95_2, q95_3, q95_4⟩
  have sz_h95 := K95.1
  have K0_h95 : Keep h0 h95 [a] := K0_h0.trans K95 (allS (Or.inl (List.mem_of_getElem? (i := 0) rfl)) all0)
  have lt95_0 := own_n q95_0.lt
  have lt95_1 := own_n q95_1.lt
  have lt95_2 := own_n q95_2.lt
  have lt95_3 := own_n q95_3.lt
  exact k_retFV X95 d_jdk_42_3_9 rfl K0_h95 ⟨rfl, _, _, q95_0, q95_1, q95_2, q95_3, by omega⟩ (by decide) (by decide)
set_option maxRecDepth 65536 in
set_option maxHeartbeats 40000000 in
theorem own_initL (l : Launch) (Z : State) (a0 : Array Value) (hw : ∀ d ∈ tables_1, d.before a0 Z = true) (G : Gl Z) (n0 : Nat) (h0 : Heap) (O0 : Old Z n0 h0) (a : Nat) (b : Nat) (kb : ClassId) (z : Int32) (vs : List Value) (cs : List Int32) (hvs : vs = cs.map Value.int) (hz : z = Int32.ofNat cs.length) (h1 : 0 < cs.length) (hn : cs.length ≤ 4) (hall : ∀ c ∈ cs, ¬ 255 < c) (gw0 : n0 ≤ a) (q0 : Exa Z h0 a "java/lang/String") (q1 : Fld Z h0 a "java/lang/String" "value" "[B" .null) (q2 : Fld Z h0 a "java/lang/String" "coder" "B" (.int (0 : Int32))) (q3 : Arv Z h0 b kb .char z vs (.int (0 : Int32))) :
    MetF l [] Z n0 (⟨"java/lang/String", "<init>", "([C)V"⟩ : MethodName) jdk_42_method_3_code 2 (Option.none : Option FieldType) ({ frames := 5, cells := 2, slots := 12, locals := 74 } : Room) #[(.ref a), (.ref b)] h0 [a] (fun r h' => r = none ∧ ∃ (t : Nat), ∃ (kt : ClassId), (Exa Z h' a "java/lang/String") ∧ (Fld Z h' a "java/lang/String" "coder" "B" (.int (0 : Int32))) ∧ (Fld Z h' a "java/lang/String" "value" "[B" (.ref t)) ∧ (Arv Z h' t kt .byte z (own_lat cs) (.int (0 : Int32))) ∧ (h0.size ≤ t)) := by
  subst hvs
  refine metF (plainFor_of_name pn_1) O0 (Ls := #[.val (.ref a), .val (.ref b)]) (fun m => by first | rfl | (simp [entryFrame, mkF, argsToLocals, Value.category]; done)) ?_
  intro p e s m below meth c T0 X0
  have K0_h0 := Keep.refl h0 [a]
  have n0le := X0.n0le
  have ltq0 := own_n q0.lt
  have ltq1 := own_n q1.lt
  have ltq2 := own_n q2.lt
  have ltq3 := own_n q3.lt
  obtain ⟨zc, fm, G_cs, G_zc, G_fm, isref_fm, G_assertionsDisabled, G_HI_BYTE_SHIFT, G_LO_BYTE_SHIFT⟩ := id G
  refine k_aloadN X0 d_jdk_42_3_0 rfl rfl (pc' := 1) rfl ?_
  refine k_aloadN X0 d_jdk_42_3_1 rfl rfl (pc' := 2) rfl ?_
  refine k_iconst X0 d_jdk_42_3_2 (w := (0 : Int32)) rfl (pc' := 3) rfl ?_
  refine k_aloadN X0 d_jdk_42_3_3 rfl rfl (pc' := 4) rfl ?_
  refine k_arlen X0 d_jdk_42_3_4 q3 (pc' := 5) rfl ?_
  refine k_aconstNull X0 d_jdk_42_3_5 (pc' := 6) rfl ?_
  have ge98 : n0 ≤ a := by omega
  refine k_callPNF X0 (y := (⟨"java/lang/String", "<init>", "([CIILjava/lang/Void;)V"⟩ : MethodName)) d_jdk_42_3_6 (w_14 hw) (w_15 hw) (w_9 hw) (w_17 hw) (by decide) rfl rfl (argsL := [(.ref b), (.int (0 : Int32)), (.int z), .null]) (rest := []) (own_init4L l Z a0 hw G n0 h0 X0.old a b kb z cs hz h1 hn hall (by omega) q0 q1 q2 q3) rfl pd_7 rfl rfl (by decide) (W := 0) (Nat.le_of_eq rfl) (by decide) (by decide) (by decide) (allS ⟨trivial, ge98⟩ all0) (pc' := 9) rfl ?_
  rintro T99 h99 L99 X99 K99 ⟨t_96, kt_97, q99_0, q99_1, q99_2, q99_3, q99_4⟩
  have sz_h99 := K99.1
  have K0_h99 : Keep h0 h99 [a] := K0_h0.trans K99 (allS (Or.inl (List.mem_of_getElem? (i := 0) rfl)) all0)
  have lt99_0 := own_n q99_0.lt
  have lt99_1 := own_n q99_1.lt
  have lt99_2 := own_n q99_2.lt
  have lt99_3 := own_n q99_3.lt
  exact k_retFV X99 d_jdk_42_3_9 rfl K0_h99 ⟨rfl, _, _, q99_0, q99_1, q99_2, q99_3, by omega⟩ (by decide) (by decide)
set_option maxRecDepth 65536 in
set_option maxHeartbeats 40000000 in
theorem own_initS (l : Launch) (Z : State) (a0 : Array Value) (hw : ∀ d ∈ tables_1, d.before a0 Z = true) (G : Gl Z) (n0 : Nat) (h0 : Heap) (O0 : Old Z n0 h0) (a : Nat) (b : Nat) (kb : ClassId) (z : Int32) (vs : List Value) (cs : List Int32) (hvs : vs = cs.map Value.int) (hz : z = Int32.ofNat cs.length) (h1 : 0 < cs.length) (hn : cs.length ≤ 4) (gw0 : n0 ≤ a) (q0 : Exa Z h0 a "java/lang/String") (q1 : Fld Z h0 a "java/lang/String" "value" "[B" .null) (q2 : Fld Z h0 a "java/lang/String" "coder" "B" (.int (0 : Int32))) (q3 : Arv Z h0 b kb .char z vs (.int (0 : Int32))) :
    MetF l [] Z n0 (⟨"java/lang/String", "<init>", "([C)V"⟩ : MethodName) jdk_42_method_3_code 2 (Option.none : Option FieldType) ({ frames := 5, cells := 2, slots := 12, locals := 74 } : Room) #[(.ref a), (.ref b)] h0 [a] (fun r h' => r = none ∧ ∃ (t : Nat), ∃ (kt : ClassId), ∃ (cd : Int32), ∃ (zz : Int32), ∃ (bs : List Value), (Exa Z h' a "java/lang/String") ∧ (Fld Z h' a "java/lang/String" "coder" "B" (.int cd)) ∧ (Fld Z h' a "java/lang/String" "value" "[B" (.ref t)) ∧ (Arv Z h' t kt .byte zz bs (.int (0 : Int32))) ∧ (h0.size ≤ t) ∧ (own_cod cs cd zz bs)) := by
  by_cases hf : own_fst cs = cs.length
  · refine (own_initL l Z a0 hw G n0 h0 O0 a b kb z vs cs hvs hz h1 hn (own_all_of_fst hf) gw0 q0 q1 q2 q3).mono ?_
    rintro r h' ⟨rfl, t, kt, r1, r2, r3, r4, r5⟩
    exact ⟨rfl, t, kt, _, _, _, r1, r2, r3, r4, r5, Or.inl ⟨hf, rfl, hz, rfl⟩⟩
  · have hj : own_fst cs < cs.length := by have := own_fst_le cs; omega
    refine (own_initU l Z a0 hw G n0 h0 O0 a b kb z vs cs hvs hz h1 hn hj gw0 q0 q1 q2 q3).mono ?_
    rintro r h' ⟨rfl, t, kt, r1, r2, r3, r4, r5⟩
    exact ⟨rfl, t, kt, _, _, _, r1, r2, r3, r4, r5, Or.inr ⟨hj, rfl, rfl, rfl⟩⟩
set_option maxRecDepth 65536 in
set_option maxHeartbeats 40000000 in
theorem own_init4E (l : Launch) (Z : State) (a0 : Array Value) (hw : ∀ d ∈ tables_1, d.before a0 Z = true) (G : Gl Z) (n0 : Nat) (h0 : Heap) (O0 : Old Z n0 h0) (a : Nat) (b : Nat) (gw0 : n0 ≤ a) (q0 : Exa Z h0 a "java/lang/String") (q1 : Fld Z h0 a "java/lang/String" "value" "[B" .null) (q2 : Fld Z h0 a "java/lang/String" "coder" "B" (.int (0 : Int32))) :
    MetH l [] Z EL n0 (⟨"java/lang/String", "<init>", "([CIILjava/lang/Void;)V"⟩ : MethodName) jdk_42_method_149_code 6 (Option.none : Option FieldType) ({ frames := 1, cells := 4, slots := 8, locals := 12 } : Room) #[(.ref a), (.ref b), (.int (0 : Int32)), (.int (0 : Int32)), .null] h0 [a] (fun r v' h' => r = none ∧ ∃ (t : Nat), ∃ (kt : ClassId), (Exa Z h' a "java/lang/String") ∧ (Fld Z h' a "java/lang/String" "coder" "B" (.int (0 : Int32))) ∧ (Fld Z h' a "java/lang/String" "value" "[B" (.ref t)) ∧ (Arv Z h' t kt .byte (0 : Int32) [] (.int (0 : Int32)))) := by
  refine metH (hEL hw) (plainFor_of_name pn_1) O0 (Ls := #[.val (.ref a), .val (.ref b), .val (.int (0 : Int32)), .val (.int (0 : Int32)), .val .null, .unset]) (fun m => by first | rfl | (simp [entryFrame, mkF, argsToLocals, Value.category]; done)) ?_
  intro p e s m below meth c T0 v0 X0 hSf
  have K0_h0 := Keep.refl h0 [a]
  have n0le := X0.n0le
  have ltq0 := own_n q0.lt
  have ltq1 := own_n q1.lt
  have ltq2 := own_n q2.lt
  have sf_0 := hSf a (List.mem_of_getElem? (i := 0) rfl)
  obtain ⟨zc, fm, G_cs, G_zc, G_fm, isref_fm, G_assertionsDisabled, G_HI_BYTE_SHIFT, G_LO_BYTE_SHIFT⟩ := id G
  refine k_aloadN X0 d_jdk_42_149_0 rfl rfl (pc' := 1) rfl ?_
  refine k_initO X0 d_jdk_42_149_1 (w_18 hw) (w_19 hw) (w_20 hw) rfl (by decide) (W := 0) (Nat.le_of_eq rfl) (by decide) (pc' := 4) rfl fun T100 X101 => ?_
  refine k_iloadN X101 d_jdk_42_149_4 rfl (pc' := 5) rfl ?_
  refine k_ifNo X101 d_jdk_42_149_5 (by decide) (pc' := 8) rfl ?_
  refine k_aloadN X101 d_jdk_42_149_8 rfl rfl (pc' := 9) rfl ?_
  refine k_ldcR X101 d_jdk_42_149_9 (w_21 hw) (own_wS hw) (List.mem_of_getElem? (i := 0) rfl) (vs := []) (z := (0 : Int32)) (by decide) (by decide) rfl (n := 0) (by decide) (by decide) (by decide) (by decide) (pc' := 11) rfl fun s102 bb102 kb102 v102 T102 h102 X102 K102 C102 E102 Fc102 Fv102 V102 nq102 => ?_
  have sz_h102 := K102.1
  have K0_h102 : Keep h0 h102 [a] := K0_h0.trans K102 all0
  have lt102 := own_n E102.lt
  have ltb102 := own_n V102.lt
  have c103 := (C102.safe (own_n (by omega)) sf_0)
  have na := nq102 a c103
  have na1 := own_ni na.1
  have na2 := own_ni na.2
  refine k_getF X102 d_jdk_42_149_11 (host := "") (Or.inl (w_27 hw)) Via.refl Fv102 (pc' := 14) rfl fun T104 X105 => ?_
  have c106 := (q1.keep K102 nin0)
  have c107 := (q0.keep K102)
  have ge109 : n0 ≤ a := by omega
  refine k_putF X105 d_jdk_42_149_14 (host := "") (Or.inl (w_27 hw)) Via.refl c106 c107 (Or.inr ⟨(w_23 hw), rfl, X105.hnm⟩) (w_8 hw) (ty := (.array .byte)) (by decide) rfl rfl c103 ge109 (pc' := 17) rfl fun T108 h108 L108 X108 W108 K108 => ?_
  have sz_h108 := K108.1
  have K0_h108 : Keep h0 h108 [a] := K0_h102.trans K108 (allS (Or.inl (List.mem_of_getElem? (i := 0) rfl)) all0)
  have F108 := c106.same W108
  refine k_aloadN X108 d_jdk_42_149_17 rfl rfl (pc' := 18) rfl ?_
  refine k_ldcR X108 d_jdk_42_149_18 (w_21 hw) (own_wS hw) (List.mem_of_getElem? (i := 0) rfl) (vs := []) (z := (0 : Int32)) (by decide) (by decide) rfl (n := 0) (by decide) (by decide) (by decide) (by decide) (pc' := 20) rfl fun s110 bb110 kb110 v110 T110 h110 X110 K110 C110 E110 Fc110 Fv110 V110 nq110 => ?_
  have sz_h110 := K110.1
  have K0_h110 : Keep h0 h110 [a] := K0_h108.trans K110 all0
  have lt110 := own_n E110.lt
  have ltb110 := own_n V110.lt
  have c111 := (C110.safe (own_n (by omega)) (X105.sf K108 (allS ⟨c103, ge109⟩ all0) c103))
  have nb := nq110 a c111
  have nb1 := own_ni nb.1
  have nb2 := own_ni nb.2
  refine k_getF X110 d_jdk_42_149_20 (host := "") (Or.inl (w_28 hw)) Via.refl Fc110 (pc' := 23) rfl fun T112 X113 => ?_
  have c114 := (((q2.keep K102 nin0).other W108 (Or.inr (slot_ne (Or.inr (w_24 hw)) (Or.inr (w_23 hw)) (by decide) (t := .byte) (t' := (.array .byte)) (by decide) (by decide)))).keep K110 nin0)
  have c115 := ((c107.keep K108).keep K110)
  have ge117 : n0 ≤ a := by omega
  refine k_putF X113 d_jdk_42_149_23 (host := "") (Or.inl (w_28 hw)) Via.refl c114 c115 (Or.inr ⟨(w_24 hw), rfl, X113.hnm⟩) (w_8 hw) (ty := .byte) (by decide) rfl rfl c111 ge117 (pc' := 26) rfl fun T116 h116 L116 X116 W116 K116 => ?_
  have sz_h116 := K116.1
  have K0_h116 : Keep h0 h116 [a] := K0_h110.trans K116 (allS (Or.inl (List.mem_of_getElem? (i := 0) rfl)) all0)
  have F116 := c114.same W116
  have c118 := (c115.keep K116)
  have c119 := ((F108.keep K110 nin0).other W116 (Or.inr (slot_ne (Or.inr (w_23 hw)) (Or.inr (w_24 hw)) (by decide) (t := (.array .byte)) (t' := .byte) (by decide) (by decide))))
  have c120 := (((V102.keep K108 (ninS (own_ne (by omega) : bb102 ≠ a) nin0)).keep K110 nin0).keep K116 (ninS (own_ne (by omega) : bb102 ≠ a) nin0))
  exact k_retHV X116 d_jdk_42_149_26 rfl K0_h116 (fun v' C' => ⟨rfl, _, _, c118, F116, c119, c120⟩) (by decide) (by decide)
set_option maxRecDepth 65536 in
set_option maxHeartbeats 40000000 in
theorem own_initE (l : Launch) (Z : State) (a0 : Array Value) (hw : ∀ d ∈ tables_1, d.before a0 Z = true) (G : Gl Z) (n0 : Nat) (h0 : Heap) (O0 : Old Z n0 h0) (a : Nat) (b : Nat) (kb : ClassId) (vs : List Value) (dv : Value) (gw0 : n0 ≤ a) (q0 : Exa Z h0 a "java/lang/String") (q1 : Fld Z h0 a "java/lang/String" "value" "[B" .null) (q2 : Fld Z h0 a "java/lang/String" "coder" "B" (.int (0 : Int32))) (q3 : Arv Z h0 b kb .char (0 : Int32) vs dv) :
    MetH l [] Z EL n0 (⟨"java/lang/String", "<init>", "([C)V"⟩ : MethodName) jdk_42_method_3_code 2 (Option.none : Option FieldType) ({ frames := 2, cells := 4, slots := 8, locals := 29 } : Room) #[(.ref a), (.ref b)] h0 [a] (fun r v' h' => r = none ∧ ∃ (t : Nat), ∃ (kt : ClassId), (Exa Z h' a "java/lang/String") ∧ (Fld Z h' a "java/lang/String" "coder" "B" (.int (0 : Int32))) ∧ (Fld Z h' a "java/lang/String" "value" "[B" (.ref t)) ∧ (Arv Z h' t kt .byte (0 : Int32) [] (.int (0 : Int32)))) := by
  refine metH (hEL hw) (plainFor_of_name pn_1) O0 (Ls := #[.val (.ref a), .val (.ref b)]) (fun m => by first | rfl | (simp [entryFrame, mkF, argsToLocals, Value.category]; done)) ?_
  intro p e s m below meth c T0 v0 X0 hSf
  have K0_h0 := Keep.refl h0 [a]
  have n0le := X0.n0le
  have ltq0 := own_n q0.lt
  have ltq1 := own_n q1.lt
  have ltq2 := own_n q2.lt
  have ltq3 := own_n q3.lt
  have sf_0 := hSf a (List.mem_of_getElem? (i := 0) rfl)
  obtain ⟨zc, fm, G_cs, G_zc, G_fm, isref_fm, G_assertionsDisabled, G_HI_BYTE_SHIFT, G_LO_BYTE_SHIFT⟩ := id G
  refine k_aloadN X0 d_jdk_42_3_0 rfl rfl (pc' := 1) rfl ?_
  refine k_aloadN X0 d_jdk_42_3_1 rfl rfl (pc' := 2) rfl ?_
  refine k_iconst X0 d_jdk_42_3_2 (w := (0 : Int32)) rfl (pc' := 3) rfl ?_
  refine k_aloadN X0 d_jdk_42_3_3 rfl rfl (pc' := 4) rfl ?_
  refine k_arlen X0 d_jdk_42_3_4 q3 (pc' := 5) rfl ?_
  refine k_aconstNull X0 d_jdk_42_3_5 (pc' := 6) rfl ?_
  have ge123 : n0 ≤ a := by omega
  refine k_callPNH X0 (y := (⟨"java/lang/String", "<init>", "([CIILjava/lang/Void;)V"⟩ : MethodName)) d_jdk_42_3_6 (w_14 hw) (w_15 hw) (w_9 hw) (w_17 hw) (by decide) rfl rfl (argsL := [(.ref b), (.int (0 : Int32)), (.int (0 : Int32)), .null]) (rest := []) (own_init4E l Z a0 hw G n0 h0 X0.old a b (by omega) q0 q1 q2) rfl pd_7 rfl rfl (by decide) (W := 0) (Nat.le_of_eq rfl) (by decide) (by decide) (by decide) (allS ⟨⟨own_n (by omega), sf_0⟩, ge123⟩ all0) (pc' := 9) rfl ?_
  rintro v124 T124 h124 L124 X124 K124 C124 ⟨t_121, kt_122, q124_0, q124_1, q124_2, q124_3⟩
  have sz_h124 := K124.1
  have K0_h124 : Keep h0 h124 [a] := K0_h0.trans K124 (allS (Or.inl (List.mem_of_getElem? (i := 0) rfl)) all0)
  have lt124_0 := own_n q124_0.lt
  have lt124_1 := own_n q124_1.lt
  have lt124_2 := own_n q124_2.lt
  have lt124_3 := own_n q124_3.lt
  exact k_retHV X124 d_jdk_42_3_9 rfl K0_h124 (fun v' C' => ⟨rfl, _, _, q124_0, q124_1, q124_2, q124_3⟩) (by decide) (by decide)
set_option maxRecDepth 65536 in
set_option maxHeartbeats 40000000 in
theorem own_coder (l : Launch) (Z : State) (a0 : Array Value) (hw : ∀ d ∈ tables_1, d.before a0 Z = true) (G : Gl Z) (n0 : Nat) (h0 : Heap) (O0 : Old Z n0 h0) (a : Nat) (cd : Int32) (hcd : cd = 0 ∨ cd = 1)  (q0 : Fld Z h0 a "java/lang/String" "coder" "B" (.int cd)) :
    MetF l [] Z n0 (⟨"java/lang/String", "coder", "()B"⟩ : MethodName) jdk_42_method_152_code 1 (Option.some FieldType.byte) ({ frames := 0, cells := 0, slots := 0, locals := 0 } : Room) #[(.ref a)] h0 [] (fun r h' => ∃ w, r = some w ∧ w = (.int cd) ∧ True) := by
  refine metF (plainFor_of_name pn_1) O0 (Ls := #[.val (.ref a)]) (fun m => by first | rfl | (simp [entryFrame, mkF, argsToLocals, Value.category]; done)) ?_
  intro p e s m below meth c T0 X0
  have K0_h0 := Keep.refl h0 []
  have n0le := X0.n0le
  have ltq0 := own_n q0.lt
  obtain ⟨zc, fm, G_cs, G_zc, G_fm, isref_fm, G_assertionsDisabled, G_HI_BYTE_SHIFT, G_LO_BYTE_SHIFT⟩ := id G
  refine k_getS X0 d_jdk_42_152_0 (host := "") (Or.inl (w_48 hw)) Via.refl (G_cs.ext X0.old.2) (pc' := 3) rfl fun T125 X126 => ?_
  refine k_ifNo X126 d_jdk_42_152_3 ((if0 _ _).trans (feq G_zc).1) (pc' := 6) rfl ?_
  refine k_aloadN X126 d_jdk_42_152_6 rfl rfl (pc' := 7) rfl ?_
  refine k_getF X126 d_jdk_42_152_7 (host := "") (Or.inl (w_28 hw)) Via.refl q0 (pc' := 10) rfl fun T127 X128 => ?_
  refine k_goto X128 d_jdk_42_152_10 (pc' := 14) (by decide) (by decide) ?_
  exact k_retFN X128 (w := cd) d_jdk_42_152_14 (t := .byte) rfl (by simp) (own_nar01 hcd) K0_h0 ⟨_, rfl, rfl, trivial⟩ (by decide) (by decide)
set_option maxRecDepth 65536 in
set_option maxHeartbeats 40000000 in
theorem own_isLat0 (l : Launch) (Z : State) (a0 : Array Value) (hw : ∀ d ∈ tables_1, d.before a0 Z = true) (G : Gl Z) (n0 : Nat) (h0 : Heap) (O0 : Old Z n0 h0) (a : Nat)  (q0 : Fld Z h0 a "java/lang/String" "coder" "B" (.int (0 : Int32))) :
    MetF l [] Z n0 (⟨"java/lang/String", "isLatin1", "()Z"⟩ : MethodName) jdk_42_method_154_code 1 (Option.some FieldType.boolean) ({ frames := 0, cells := 0, slots := 0, locals := 0 } : Room) #[(.ref a)] h0 [] (fun r h' => ∃ w, r = some w ∧ w = (.int (1 : Int32)) ∧ True) := by
  refine metF (plainFor_of_name pn_1) O0 (Ls := #[.val (.ref a)]) (fun m => by first | rfl | (simp [entryFrame, mkF, argsToLocals, Value.category]; done)) ?_
  intro p e s m below meth c T0 X0
  have K0_h0 := Keep.refl h0 []
  have n0le := X0.n0le
  have ltq0 := own_n q0.lt
  obtain ⟨zc, fm, G_cs, G_zc, G_fm, isref_fm, G_assertionsDisabled, G_HI_BYTE_SHIFT, G_LO_BYTE_SHIFT⟩ := id G
  refine k_getS X0 d_jdk_42_154_0 (host := "") (Or.inl (w_48 hw)) Via.refl (G_cs.ext X0.old.2) (pc' := 3) rfl fun T129 X130 => ?_
  refine k_ifNo X130 d_jdk_42_154_3 ((if0 _ _).trans (feq G_zc).1) (pc' := 6) rfl ?_
  refine k_aloadN X130 d_jdk_42_154_6 rfl rfl (pc' := 7) rfl ?_
  refine k_getF X130 d_jdk_42_154_7 (host := "") (Or.inl (w_28 hw)) Via.refl q0 (pc' := 10) rfl fun T131 X132 => ?_
  refine k_ifNo X132 d_jdk_42_154_10 (by decide) (pc' := 13) rfl ?_
  refine k_iconst X132 d_jdk_42_154_13 (w := (1 : Int32)) rfl (pc' := 14) rfl ?_
  refine k_goto X132 d_jdk_42_154_14 (pc' := 18) (by decide) (by decide) ?_
  exact k_retFN X132 (w := (1 : Int32)) d_jdk_42_154_18 (t := .boolean) rfl (by simp) rfl K0_h0 ⟨_, rfl, rfl, trivial⟩ (by decide) (by decide)
set_option maxRecDepth 65536 in
set_option maxHeartbeats 40000000 in
theorem own_isLat1 (l : Launch) (Z : State) (a0 : Array Value) (hw : ∀ d ∈ tables_1, d.before a0 Z = true) (G : Gl Z) (n0 : Nat) (h0 : Heap) (O0 : Old Z n0 h0) (a : Nat)  (q0 : Fld Z h0 a "java/lang/String" "coder" "B" (.int (1 : Int32))) :
    MetF l [] Z n0 (⟨"java/lang/String", "isLatin1", "()Z"⟩ : MethodName) jdk_42_method_154_code 1 (Option.some FieldType.boolean) ({ frames := 0, cells := 0, slots := 0, locals := 0 } : Room) #[(.ref a)] h0 [] (fun r h' => ∃ w, r = some w ∧ w = (.int (0 : Int32)) ∧ True) := by
  refine metF (plainFor_of_name pn_1) O0 (Ls := #[.val (.ref a)]) (fun m => by first | rfl | (simp [entryFrame, mkF, argsToLocals, Value.category]; done)) ?_
  intro p e s m below meth c T0 X0
  have K0_h0 := Keep.refl h0 []
  have n0le := X0.n0le
  have ltq0 := own_n q0.lt
  obtain ⟨zc, fm, G_cs, G_zc, G_fm, isref_fm, G_assertionsDisabled, G_HI_BYTE_SHIFT, G_LO_BYTE_SHIFT⟩ := id G
  refine k_getS X0 d_jdk_42_154_0 (host := "") (Or.inl (w_48 hw)) Via.refl (G_cs.ext X0.old.2) (pc' := 3) rfl fun T133 X134 => ?_
  refine k_ifNo X134 d_jdk_42_154_3 ((if0 _ _).trans (feq G_zc).1) (pc' := 6) rfl ?_
  refine k_aloadN X134 d_jdk_42_154_6 rfl rfl (pc' := 7) rfl ?_
  refine k_getF X134 d_jdk_42_154_7 (host := "") (Or.inl (w_28 hw)) Via.refl q0 (pc' := 10) rfl fun T135 X136 => ?_
  refine k_ifYes X136 d_jdk_42_154_10 (by decide) (pc' := 17) (by decide) (by decide) ?_
  refine k_iconst X136 d_jdk_42_154_17 (w := (0 : Int32)) rfl (pc' := 18) rfl ?_
  exact k_retFN X136 (w := (0 : Int32)) d_jdk_42_154_18 (t := .boolean) rfl (by simp) rfl K0_h0 ⟨_, rfl, rfl, trivial⟩ (by decide) (by decide)
set_option maxRecDepth 65536 in
set_option maxHeartbeats 40000000 in
theorem own_len (l : Launch) (Z : State) (a0 : Array Value) (hw : ∀ d ∈ tables_1, d.before a0 Z = true) (G : Gl Z) (n0 : Nat) (h0 : Heap) (O0 : Old Z n0 h0) (a : Nat) (t : Nat) (kt : ClassId) (cd : Int32) (zz : Int32) (bs : List Value) (cs : List Int32) (hn : cs.length < 1073741824)  (q0 : Exa Z h0 a "java/lang/String") (q1 : Fld Z h0 a "java/lang/String" "value" "[B" (.ref t)) (q2 : Fld Z h0 a "java/lang/String" "coder" "B" (.int cd)) (q3 : Arv Z h0 t kt .byte zz bs (.int (0 : Int32))) (q4 : own_cod cs cd zz bs) :
    MetF l [] Z n0 (⟨"java/lang/String", "length", "()I"⟩ : MethodName) jdk_42_method_54_code 1 (Option.some FieldType.int) ({ frames := 1, cells := 0, slots := 0, locals := 13 } : Room) #[(.ref a)] h0 [] (fun r h' => ∃ w, r = some w ∧ w = (.int (Int32.ofNat cs.length)) ∧ True) := by
  refine metF (plainFor_of_name pn_1) O0 (Ls := #[.val (.ref a)]) (fun m => by first | rfl | (simp [entryFrame, mkF, argsToLocals, Value.category]; done)) ?_
  intro p e s m below meth c T0 X0
  have K0_h0 := Keep.refl h0 []
  have n0le := X0.n0le
  have ltq0 := own_n q0.lt
  have ltq1 := own_n q1.lt
  have ltq2 := own_n q2.lt
  have ltq3 := own_n q3.lt
  obtain ⟨zc, fm, G_cs, G_zc, G_fm, isref_fm, G_assertionsDisabled, G_HI_BYTE_SHIFT, G_LO_BYTE_SHIFT⟩ := id G
  refine k_aloadN X0 d_jdk_42_54_0 rfl rfl (pc' := 1) rfl ?_
  refine k_getF X0 d_jdk_42_54_1 (host := "") (Or.inl (w_27 hw)) Via.refl q1 (pc' := 4) rfl fun T137 X138 => ?_
  refine k_arlen X138 d_jdk_42_54_4 q3 (pc' := 5) rfl ?_
  refine k_aloadN X138 d_jdk_42_54_5 rfl rfl (pc' := 6) rfl ?_
  refine k_callVVF X138 (y := (⟨"java/lang/String", "coder", "()B"⟩ : MethodName)) d_jdk_42_54_6 (w_54 hw) (w_55 hw) (w_57 hw) (w_56 hw) (w_9 hw) (w_58 hw) (by decide) (notFace_of_selects (args := #[]) (mvT X138.hZ (w_57 hw))) q0 (argsL := []) (rest := [(.int zz)]) (own_coder l Z a0 hw G n0 h0 X138.old a cd (own_cod_cd q4) q2) rfl pd_8 rfl rfl (by decide) (W := 1) (Nat.le_of_eq rfl) (by decide) (by decide) (by decide) all0 (pc' := 9) rfl ?_
  rintro _ T139 h139 L139 X139 K139 ⟨rfl, -⟩
  have sz_h139 := K139.1
  have K0_h139 : Keep h0 h139 [] := K0_h0.trans K139 all0
  refine k_ishr X139 d_jdk_42_54_9 (w := (Int32.ofNat cs.length)) (own_cod_len q4 hn) (pc' := 10) rfl ?_
  exact k_retFI X139 d_jdk_42_54_10 rfl K0_h139 ⟨_, rfl, rfl, trivial⟩ (by decide) (by decide)
set_option maxRecDepth 65536 in
set_option maxHeartbeats 40000000 in
theorem own_max (l : Launch) (Z : State) (a0 : Array Value) (hw : ∀ d ∈ tables_1, d.before a0 Z = true) (G : Gl Z) (n0 : Nat) (h0 : Heap) (O0 : Old Z n0 h0) (i : Int32) (n : Int32) (hx : ¬ i < n)   :
    MetF l [] Z n0 (⟨"java/lang/Math", "max", "(II)I"⟩ : MethodName) jdk_29_method_65_code 2 (Option.some FieldType.int) ({ frames := 0, cells := 0, slots := 0, locals := 0 } : Room) #[(.int i), (.int n)] h0 [] (fun r h' => ∃ w, r = some w ∧ w = (.int i) ∧ True) := by
  refine metF pn_2 O0 (Ls := #[.val (.int i), .val (.int n)]) (fun m => by first | rfl | (simp [entryFrame, mkF, argsToLocals, Value.category]; done)) ?_
  intro p e s m below meth c T0 X0
  have K0_h0 := Keep.refl h0 []
  have n0le := X0.n0le
  obtain ⟨zc, fm, G_cs, G_zc, G_fm, isref_fm, G_assertionsDisabled, G_HI_BYTE_SHIFT, G_LO_BYTE_SHIFT⟩ := id G
  refine k_iloadN X0 d_jdk_29_65_0 rfl (pc' := 1) rfl ?_
  refine k_iloadN X0 d_jdk_29_65_1 rfl (pc' := 2) rfl ?_
  refine k_icmpNo X0 d_jdk_29_65_2 (flt hx).1 (pc' := 5) rfl ?_
  refine k_iloadN X0 d_jdk_29_65_5 rfl (pc' := 6) rfl ?_
  refine k_goto X0 d_jdk_29_65_6 (pc' := 10) (by decide) (by decide) ?_
  exact k_retFI X0 d_jdk_29_65_10 rfl K0_h0 ⟨_, rfl, rfl, trivial⟩ (by decide) (by decide)
set_option maxRecDepth 65536 in
set_option maxHeartbeats 40000000 in
theorem own_min (l : Launch) (Z : State) (a0 : Array Value) (hw : ∀ d ∈ tables_1, d.before a0 Z = true) (G : Gl Z) (n0 : Nat) (h0 : Heap) (O0 : Old Z n0 h0) (i : Int32) (n : Int32) (hx : ¬ n < i)   :
    MetF l [] Z n0 (⟨"java/lang/Math", "min", "(II)I"⟩ : MethodName) jdk_29_method_69_code 2 (Option.some FieldType.int) ({ frames := 0, cells := 0, slots := 0, locals := 0 } : Room) #[(.int i), (.int n)] h0 [] (fun r h' => ∃ w, r = some w ∧ w = (.int i) ∧ True) := by
  refine metF pn_3 O0 (Ls := #[.val (.int i), .val (.int n)]) (fun m => by first | rfl | (simp [entryFrame, mkF, argsToLocals, Value.category]; done)) ?_
  intro p e s m below meth c T0 X0
  have K0_h0 := Keep.refl h0 []
  have n0le := X0.n0le
  obtain ⟨zc, fm, G_cs, G_zc, G_fm, isref_fm, G_assertionsDisabled, G_HI_BYTE_SHIFT, G_LO_BYTE_SHIFT⟩ := id G
  refine k_iloadN X0 d_jdk_29_69_0 rfl (pc' := 1) rfl ?_
  refine k_iloadN X0 d_jdk_29_69_1 rfl (pc' := 2) rfl ?_
  refine k_icmpNo X0 d_jdk_29_69_2 (flt hx).2.2.1 (pc' := 5) rfl ?_
  refine k_iloadN X0 d_jdk_29_69_5 rfl (pc' := 6) rfl ?_
  refine k_goto X0 d_jdk_29_69_6 (pc' := 10) (by decide) (by decide) ?_
  exact k_retFI X0 d_jdk_29_69_10 rfl K0_h0 ⟨_, rfl, rfl, trivial⟩ (by decide) (by decide)
set_option maxRecDepth 65536 in
set_option maxHeartbeats 40000000 in
theorem own_canI (l : Launch) (Z : State) (a0 : Array Value) (hw : ∀ d ∈ tables_1, d.before a0 Z = true) (G : Gl Z) (n0 : Nat) (h0 : Heap) (O0 : Old Z n0 h0)    :
    MetF l [] Z n0 (⟨"java/lang/StringLatin1", "canEncode", "(I)Z"⟩ : MethodName) jdk_43_method_4_code 1 (Option.some FieldType.boolean) ({ frames := 0, cells := 0, slots := 0, locals := 0 } : Room) #[(.int (44 : Int32))] h0 [] (fun r h' => ∃ w, r = some w ∧ w = (.int (1 : Int32)) ∧ True) := by
  refine metF (plainFor_of_name pn_4) O0 (Ls := #[.val (.int (44 : Int32))]) (fun m => by first | rfl | (simp [entryFrame, mkF, argsToLocals, Value.category]; done)) ?_
  intro p e s m below meth c T0 X0
  have K0_h0 := Keep.refl h0 []
  have n0le := X0.n0le
  obtain ⟨zc, fm, G_cs, G_zc, G_fm, isref_fm, G_assertionsDisabled, G_HI_BYTE_SHIFT, G_LO_BYTE_SHIFT⟩ := id G
  refine k_iloadN X0 d_jdk_43_4_0 rfl (pc' := 1) rfl ?_
  refine k_ifNo X0 d_jdk_43_4_1 (by decide) (pc' := 4) rfl ?_
  refine k_iloadN X0 d_jdk_43_4_4 rfl (pc' := 5) rfl ?_
  refine k_sipush X0 d_jdk_43_4_5 (w := (255 : Int32)) rfl (pc' := 8) rfl ?_
  refine k_icmpNo X0 d_jdk_43_4_8 (by decide) (pc' := 11) rfl ?_
  refine k_iconst X0 d_jdk_43_4_11 (w := (1 : Int32)) rfl (pc' := 12) rfl ?_
  refine k_goto X0 d_jdk_43_4_12 (pc' := 16) (by decide) (by decide) ?_
  exact k_retFN X0 (w := (1 : Int32)) d_jdk_43_4_16 (t := .boolean) rfl (by simp) rfl K0_h0 ⟨_, rfl, rfl, trivial⟩ (by decide) (by decide)
set_option maxRecDepth 65536 in
set_option maxHeartbeats 40000000 in
theorem own_iocL (l : Launch) (Z : State) (a0 : Array Value) (hw : ∀ d ∈ tables_1, d.before a0 Z = true) (G : Gl Z) (n0 : Nat) (h0 : Heap) (O0 : Old Z n0 h0) (d : Nat) (kd : ClassId) (zz : Int32) (cs : List Int32) (hzz : zz = Int32.ofNat cs.length) (hb0 : cs.length < 2147483648) (hr : ∀ i, i < cs.length → ¬ cs.getD i 0 < 0 ∧ ¬ 255 < cs.getD i 0)  (q0 : Arv Z h0 d kd .byte zz (own_lat cs) (.int (0 : Int32))) :
    MetF l [] Z n0 (⟨"java/lang/StringLatin1", "indexOfChar", "([BIII)I"⟩ : MethodName) jdk_43_method_23_code 6 (Option.some FieldType.int) ({ frames := 0, cells := 0, slots := 0, locals := 0 } : Room) #[(.ref d), (.int (44 : Int32)), (.int (0 : Int32)), (.int zz)] h0 [] (fun r h' => ∃ w, r = some w ∧ w = (.int (own_ix (44 : Int32) cs)) ∧ True) := by
  refine metF (plainFor_of_name pn_4) O0 (Ls := #[.val (.ref d), .val (.int (44 : Int32)), .val (.int (0 : Int32)), .val (.int zz), .unset, .unset]) (fun m => by first | rfl | (simp [entryFrame, mkF, argsToLocals, Value.category]; done)) ?_
  intro p e s m below meth c T0 X0
  have K0_h0 := Keep.refl h0 []
  have n0le := X0.n0le
  have ltq0 := own_n q0.lt
  obtain ⟨zc, fm, G_cs, G_zc, G_fm, isref_fm, G_assertionsDisabled, G_HI_BYTE_SHIFT, G_LO_BYTE_SHIFT⟩ := id G
  have hpl := own_pos_le (44 : Int32) cs
  have loop : ∀ (n i : Nat) (T : State) (L : List Loc), n = own_pos (44 : Int32) cs - i → i ≤ own_pos (44 : Int32) cs → WP p l e ({ frames := 0, cells := 0, slots := 0, locals := 0 } : Room) s m #[(.ref d), (.int (44 : Int32)), (.int (0 : Int32)), (.int zz)] below meth c Z "java/lang/StringLatin1" "indexOfChar" jdk_43_method_23_code 6 (Option.some FieldType.int) n0 (fun _ => True) (fun _ _ => True) T h0 L 0 0 → Run p.tables e below (PF s below n0 h0 [] (fun r h' => ∃ w, r = some w ∧ w = (.int (own_ix (44 : Int32) cs)) ∧ True) ({ frames := 0, cells := 0, slots := 0, locals := 0 } : Room).cells ({ frames := 0, cells := 0, slots := 0, locals := 0 } : Room).slots) T (mkF m 7 #[.val (.ref d), .val (.int (44 : Int32)), .val (.int (0 : Int32)), .val (.int zz), .val (.int (44 : Int32)), .val (.int (Int32.ofNat i))] []) := by
    intro n
    induction n with
    | zero =>
      intro i T L hni hij X
      have hi : i = (own_pos (44 : Int32) cs) := by omega
      subst hi
      by_cases hc141 : (own_pos (44 : Int32) cs) < cs.length
      · have hlt := own_lt hc141 hb0
        rw [← hzz] at hlt
        have he : own_ix (44 : Int32) cs = Int32.ofNat (own_pos (44 : Int32) cs) := if_pos hc141
        have hr0 := hr _ hc141
        have hq : (cs.getD (own_pos (44 : Int32) cs) 0).toInt8.toInt32 = (44 : Int32) := (own_b44 hr0.1 hr0.2 (44 : Int32) (by decide) (by decide)).mpr (own_pos_eq (44 : Int32) cs hc141)
        refine k_iload X d_jdk_43_23_7 rfl (pc' := 9) rfl ?_
        refine k_iloadN X d_jdk_43_23_9 rfl (pc' := 10) rfl ?_
        refine k_icmpNo X d_jdk_43_23_10 (tlt hlt).2.1 (pc' := 13) rfl ?_
        refine k_aloadN X d_jdk_43_23_13 rfl rfl (pc' := 14) rfl ?_
        refine k_iload X d_jdk_43_23_14 rfl (pc' := 16) rfl ?_
        refine k_baload X d_jdk_43_23_16 q0 (own_nn (by omega)) hlt (v := (.int ((cs.getD (own_pos (44 : Int32) cs) 0).toInt8.toInt32))) (own_latget cs hc141 (by omega)) (pc' := 17) rfl ?_
        refine k_iload X d_jdk_43_23_17 rfl (pc' := 19) rfl ?_
        refine k_icmpNo X d_jdk_43_23_19 (teq hq).2 (pc' := 22) rfl ?_
        refine k_iload X d_jdk_43_23_22 rfl (pc' := 24) rfl ?_
        exact k_retFI X d_jdk_43_23_24 rfl K0_h0 ⟨_, rfl, by rw [he], trivial⟩ (by decide) (by decide)
      · have hnl : ¬ (Int32.ofNat (own_pos (44 : Int32) cs) < zz) := by rw [hzz, show (own_pos (44 : Int32) cs) = cs.length by omega]; exact Int32.lt_irrefl
        have he : own_ix (44 : Int32) cs = -1 := if_neg hc141
        refine k_iload X d_jdk_43_23_7 rfl (pc' := 9) rfl ?_
        refine k_iloadN X d_jdk_43_23_9 rfl (pc' := 10) rfl ?_
        refine k_icmpYes X d_jdk_43_23_10 (flt hnl).2.1 (pc' := 31) (by decide) (by decide) ?_
        refine k_iconst X d_jdk_43_23_31 (w := (-1 : Int32)) rfl (pc' := 32) rfl ?_
        exact k_retFI X d_jdk_43_23_32 rfl K0_h0 ⟨_, rfl, by rw [he], trivial⟩ (by decide) (by decide)
    | succ n ih =>
      intro i T L hni hij X
      have hi : i < (own_pos (44 : Int32) cs) := by omega
      have hlt := own_lt (show i < cs.length by omega) hb0
      rw [← hzz] at hlt
      have hr0 := hr i (by omega)
      have hq : ¬ (cs.getD i 0).toInt8.toInt32 = (44 : Int32) := fun q => own_pos_ne (44 : Int32) cs i hi ((own_b44 hr0.1 hr0.2 (44 : Int32) (by decide) (by decide)).mp q)
      refine k_iload X d_jdk_43_23_7 rfl (pc' := 9) rfl ?_
      refine k_iloadN X d_jdk_43_23_9 rfl (pc' := 10) rfl ?_
      refine k_icmpNo X d_jdk_43_23_10 (tlt hlt).2.1 (pc' := 13) rfl ?_
      refine k_aloadN X d_jdk_43_23_13 rfl rfl (pc' := 14) rfl ?_
      refine k_iload X d_jdk_43_23_14 rfl (pc' := 16) rfl ?_
      refine k_baload X d_jdk_43_23_16 q0 (own_nn (by omega)) hlt (v := (.int ((cs.getD i 0).toInt8.toInt32))) (own_latget cs (by omega) (by omega)) (pc' := 17) rfl ?_
      refine k_iload X d_jdk_43_23_17 rfl (pc' := 19) rfl ?_
      refine k_icmpYes X d_jdk_43_23_19 (feq hq).2 (pc' := 25) (by decide) (by decide) ?_
      refine k_iinc X d_jdk_43_23_25 rfl (w := (Int32.ofNat (i + 1))) (own_succ i) (Ls' := #[.val (.ref d), .val (.int (44 : Int32)), .val (.int (0 : Int32)), .val (.int zz), .val (.int (44 : Int32)), .val (.int (Int32.ofNat (i + 1)))]) rfl (pc' := 28) rfl ?_
      refine k_goto X d_jdk_43_23_28 (pc' := 7) (by decide) (by decide) ?_
      exact ih (i + 1) _ _ (by omega) (by omega) X
  refine k_iloadN X0 d_jdk_43_23_0 rfl (pc' := 1) rfl ?_
  refine k_i2b X0 d_jdk_43_23_1 (w := (44 : Int32)) (by decide) (pc' := 2) rfl ?_
  refine k_istore X0 d_jdk_43_23_2 (Ls' := #[.val (.ref d), .val (.int (44 : Int32)), .val (.int (0 : Int32)), .val (.int zz), .val (.int (44 : Int32)), .unset]) rfl (pc' := 4) rfl ?_
  refine k_iloadN X0 d_jdk_43_23_4 rfl (pc' := 5) rfl ?_
  refine k_istore X0 d_jdk_43_23_5 (Ls' := #[.val (.ref d), .val (.int (44 : Int32)), .val (.int (0 : Int32)), .val (.int zz), .val (.int (44 : Int32)), .val (.int (0 : Int32))]) rfl (pc' := 7) rfl ?_
  exact loop _ 0 _ _ rfl (by omega) X0
set_option maxRecDepth 65536 in
set_option maxHeartbeats 40000000 in
theorem own_iocU (l : Launch) (Z : State) (a0 : Array Value) (hw : ∀ d ∈ tables_1, d.before a0 Z = true) (G : Gl Z) (n0 : Nat) (h0 : Heap) (O0 : Old Z n0 h0) (d : Nat) (kd : ClassId) (nv : Int32) (cs : List Int32) (hnv : nv = Int32.ofNat cs.length) (hb0 : 2 * cs.length < 2147483648) (hr : own_chs cs)  (q0 : Arv Z h0 d kd .byte (Int32.ofNat (2 * cs.length)) (own_u16 cs) (.int (0 : Int32))) :
    MetF l [] Z n0 (⟨"java/lang/StringUTF16", "indexOfCharUnsafe", "([BIII)I"⟩ : MethodName) jdk_52_method_48_code 5 (Option.some FieldType.int) ({ frames := 1, cells := 0, slots := 0, locals := 13 } : Room) #[(.ref d), (.int (44 : Int32)), (.int (0 : Int32)), (.int nv)] h0 [] (fun r h' => ∃ w, r = some w ∧ w = (.int (own_ix (44 : Int32) cs)) ∧ True) := by
  refine metF (plainFor_of_name pn_0) O0 (Ls := #[.val (.ref d), .val (.int (44 : Int32)), .val (.int (0 : Int32)), .val (.int nv), .unset]) (fun m => by first | rfl | (simp [entryFrame, mkF, argsToLocals, Value.category]; done)) ?_
  intro p e s m below meth c T0 X0
  have K0_h0 := Keep.refl h0 []
  have n0le := X0.n0le
  have ltq0 := own_n q0.lt
  obtain ⟨zc, fm, G_cs, G_zc, G_fm, isref_fm, G_assertionsDisabled, G_HI_BYTE_SHIFT, G_LO_BYTE_SHIFT⟩ := id G
  have hpl := own_pos_le (44 : Int32) cs
  have loop : ∀ (n i : Nat) (T : State) (h : Heap) (L : List Loc) (cl sl : Nat), n = own_pos (44 : Int32) cs - i → i ≤ own_pos (44 : Int32) cs → cl = 0 → sl = 0 → WP p l e ({ frames := 1, cells := 0, slots := 0, locals := 13 } : Room) s m #[(.ref d), (.int (44 : Int32)), (.int (0 : Int32)), (.int nv)] below meth c Z "java/lang/StringUTF16" "indexOfCharUnsafe" jdk_52_method_48_code 5 (Option.some FieldType.int) n0 (fun _ => True) (fun _ _ => True) T h L cl sl → Keep h0 h [] → Arv Z h d kd .byte (Int32.ofNat (2 * cs.length)) (own_u16 cs) (.int (0 : Int32)) → Run p.tables e below (PF s below n0 h0 [] (fun r h' => ∃ w, r = some w ∧ w = (.int (own_ix (44 : Int32) cs)) ∧ True) ({ frames := 1, cells := 0, slots := 0, locals := 13 } : Room).cells ({ frames := 1, cells := 0, slots := 0, locals := 13 } : Room).slots) T (mkF m 3 #[.val (.ref d), .val (.int (44 : Int32)), .val (.int (0 : Int32)), .val (.int nv), .val (.int (Int32.ofNat i))] []) := by
    intro n
    induction n with
    | zero =>
      intro i T h L cl sl hni hij hcl hsl X K Vd
      subst hcl hsl
      have hi : i = (own_pos (44 : Int32) cs) := by omega
      subst hi
      have lh0 := K.1
      have ld := own_n Vd.lt
      have nle := X.n0le
      by_cases hc142 : (own_pos (44 : Int32) cs) < cs.length
      · have hlt := own_lt hc142 (show cs.length < 2147483648 by omega)
        rw [← hnv] at hlt
        have he : own_ix (44 : Int32) cs = Int32.ofNat (own_pos (44 : Int32) cs) := if_pos hc142
        refine k_iload X d_jdk_52_48_3 rfl (pc' := 5) rfl ?_
        refine k_iloadN X d_jdk_52_48_5 rfl (pc' := 6) rfl ?_
        refine k_icmpNo X d_jdk_52_48_6 (tlt hlt).2.1 (pc' := 9) rfl ?_
        refine k_aloadN X d_jdk_52_48_9 rfl rfl (pc' := 10) rfl ?_
        refine k_iload X d_jdk_52_48_10 rfl (pc' := 12) rfl ?_
        refine k_callSVF X (y := (⟨"java/lang/StringUTF16", "getChar", "([BI)C"⟩ : MethodName)) d_jdk_52_48_12 (w_102 hw) (w_103 hw) (w_75 hw) (w_104 hw) (by decide) (argsL := [(.ref d), (.int (Int32.ofNat (own_pos (44 : Int32) cs)))]) (rest := []) (own_getC l Z a0 hw G n0 h X.old d kd (Int32.ofNat (2 * cs.length)) cs (own_pos (44 : Int32) cs) (Int32.ofNat (own_pos (44 : Int32) cs)) rfl hc142 rfl hb0 (own_chs_at hr hc142) Vd) rfl pd_6 rfl rfl (by decide) (W := 0) (Nat.le_of_eq rfl) (by decide) (by decide) (by decide) all0 (pc' := 15) rfl ?_
        rintro _ T143 h143 L143 X143 K143 ⟨rfl, -⟩
        have sz_h143 := K143.1
        have K0_h143 : Keep h0 h143 [] := K.trans K143 all0
        refine k_iloadN X143 d_jdk_52_48_15 rfl (pc' := 16) rfl ?_
        refine k_icmpNo X143 d_jdk_52_48_16 (teq (own_pos_eq (44 : Int32) cs hc142)).2 (pc' := 19) rfl ?_
        refine k_iload X143 d_jdk_52_48_19 rfl (pc' := 21) rfl ?_
        exact k_retFI X143 d_jdk_52_48_21 rfl K0_h143 ⟨_, rfl, by rw [he], trivial⟩ (by decide) (by decide)
      · have hnl : ¬ (Int32.ofNat (own_pos (44 : Int32) cs) < nv) := by rw [hnv, show (own_pos (44 : Int32) cs) = cs.length by omega]; exact Int32.lt_irrefl
        have he : own_ix (44 : Int32) cs = -1 := if_neg hc142
        refine k_iload X d_jdk_52_48_3 rfl (pc' := 5) rfl ?_
        refine k_iloadN X d_jdk_52_48_5 rfl (pc' := 6) rfl ?_
        refine k_icmpYes X d_jdk_52_48_6 (flt hnl).2.1 (pc' := 28) (by decide) (by decide) ?_
        refine k_iconst X d_jdk_52_48_28 (w := (-1 : Int32)) rfl (pc' := 29) rfl ?_
        exact k_retFI X d_jdk_52_48_29 rfl K ⟨_, rfl, by rw [he], trivial⟩ (by decide) (by decide)
    | succ n ih =>
      intro i T h L cl sl hni hij hcl hsl X K Vd
      subst hcl hsl
      have hi : i < (own_pos (44 : Int32) cs) := by omega
      have hil : i < cs.length := by omega
      have hlt := own_lt hil (show cs.length < 2147483648 by omega)
      rw [← hnv] at hlt
      have lh0 := K.1
      have ld := own_n Vd.lt
      have nle := X.n0le
      refine k_iload X d_jdk_52_48_3 rfl (pc' := 5) rfl ?_
      refine k_iloadN X d_jdk_52_48_5 rfl (pc' := 6) rfl ?_
      refine k_icmpNo X d_jdk_52_48_6 (tlt hlt).2.1 (pc' := 9) rfl ?_
      refine k_aloadN X d_jdk_52_48_9 rfl rfl (pc' := 10) rfl ?_
      refine k_iload X d_jdk_52_48_10 rfl (pc' := 12) rfl ?_
      refine k_callSVF X (y := (⟨"java/lang/StringUTF16", "getChar", "([BI)C"⟩ : MethodName)) d_jdk_52_48_12 (w_102 hw) (w_103 hw) (w_75 hw) (w_104 hw) (by decide) (argsL := [(.ref d), (.int (Int32.ofNat i))]) (rest := []) (own_getC l Z a0 hw G n0 h X.old d kd (Int32.ofNat (2 * cs.length)) cs i (Int32.ofNat i) rfl hil rfl hb0 (own_chs_at hr hil) Vd) rfl pd_6 rfl rfl (by decide) (W := 0) (Nat.le_of_eq rfl) (by decide) (by decide) (by decide) all0 (pc' := 15) rfl ?_
      rintro _ T145 h145 L145 X145 K145 ⟨rfl, -⟩
      have sz_h145 := K145.1
      have K0_h145 : Keep h0 h145 [] := K.trans K145 all0
      refine k_iloadN X145 d_jdk_52_48_15 rfl (pc' := 16) rfl ?_
      refine k_icmpYes X145 d_jdk_52_48_16 (feq (own_pos_ne (44 : Int32) cs i hi)).2 (pc' := 22) (by decide) (by decide) ?_
      refine k_iinc X145 d_jdk_52_48_22 rfl (w := (Int32.ofNat (i + 1))) (own_succ i) (Ls' := #[.val (.ref d), .val (.int (44 : Int32)), .val (.int (0 : Int32)), .val (.int nv), .val (.int (Int32.ofNat (i + 1)))]) rfl (pc' := 25) rfl ?_
      refine k_goto X145 d_jdk_52_48_25 (pc' := 3) (by decide) (by decide) ?_
      have c147 := (Vd.keep K145 nin0)
      exact ih (i + 1) _ _ _ _ _ (by omega) (by omega) rfl rfl X145 K0_h145 c147
  refine k_iloadN X0 d_jdk_52_48_0 rfl (pc' := 1) rfl ?_
  refine k_istore X0 d_jdk_52_48_1 (Ls' := #[.val (.ref d), .val (.int (44 : Int32)), .val (.int (0 : Int32)), .val (.int nv), .val (.int (0 : Int32))]) rfl (pc' := 3) rfl ?_
  exact loop _ 0 _ _ _ _ _ rfl (by omega) rfl rfl X0 K0_h0 q0
set_option maxRecDepth 65536 in
set_option maxHeartbeats 40000000 in
theorem own_ixL (l : Launch) (Z : State) (a0 : Array Value) (hw : ∀ d ∈ tables_1, d.before a0 Z = true) (G : Gl Z) (n0 : Nat) (h0 : Heap) (O0 : Old Z n0 h0) (d : Nat) (kd : ClassId) (zz : Int32) (cs : List Int32) (hzz : zz = Int32.ofNat cs.length) (hb0 : cs.length < 2147483648) (hr : ∀ i, i < cs.length → ¬ cs.getD i 0 < 0 ∧ ¬ 255 < cs.getD i 0)  (q0 : Arv Z h0 d kd .byte zz (own_lat cs) (.int (0 : Int32))) :
    MetF l [] Z n0 (⟨"java/lang/StringLatin1", "indexOf", "([BIII)I"⟩ : MethodName) jdk_43_method_22_code 4 (Option.some FieldType.int) ({ frames := 1, cells := 0, slots := 0, locals := 17 } : Room) #[(.ref d), (.int (44 : Int32)), (.int (0 : Int32)), (.int zz)] h0 [] (fun r h' => ∃ w, r = some w ∧ w = (.int (own_ix (44 : Int32) cs)) ∧ True) := by
  refine metF (plainFor_of_name pn_4) O0 (Ls := #[.val (.ref d), .val (.int (44 : Int32)), .val (.int (0 : Int32)), .val (.int zz)]) (fun m => by first | rfl | (simp [entryFrame, mkF, argsToLocals, Value.category]; done)) ?_
  intro p e s m below meth c T0 X0
  have K0_h0 := Keep.refl h0 []
  have n0le := X0.n0le
  have ltq0 := own_n q0.lt
  obtain ⟨zc, fm, G_cs, G_zc, G_fm, isref_fm, G_assertionsDisabled, G_HI_BYTE_SHIFT, G_LO_BYTE_SHIFT⟩ := id G
  refine k_iloadN X0 d_jdk_43_22_0 rfl (pc' := 1) rfl ?_
  refine k_callSVF X0 (y := (⟨"java/lang/StringLatin1", "canEncode", "(I)Z"⟩ : MethodName)) d_jdk_43_22_1 (w_63 hw) (w_64 hw) (w_61 hw) (w_65 hw) (by decide) (argsL := [(.int (44 : Int32))]) (rest := []) (own_canI l Z a0 hw G n0 h0 X0.old  ) rfl pd_9 rfl rfl (by decide) (W := 0) (Nat.le_of_eq rfl) (by decide) (by decide) (by decide) all0 (pc' := 4) rfl ?_
  rintro _ T148 h148 L148 X148 K148 ⟨rfl, -⟩
  have sz_h148 := K148.1
  have K0_h148 : Keep h0 h148 [] := K0_h0.trans K148 all0
  refine k_ifYes X148 d_jdk_43_22_4 (by decide) (pc' := 9) (by decide) (by decide) ?_
  refine k_iloadN X148 d_jdk_43_22_9 rfl (pc' := 10) rfl ?_
  refine k_iconst X148 d_jdk_43_22_10 (w := (0 : Int32)) rfl (pc' := 11) rfl ?_
  refine k_callSVF X148 (y := (⟨"java/lang/Math", "max", "(II)I"⟩ : MethodName)) d_jdk_43_22_11 (w_66 hw) (w_67 hw) (w_68 hw) (w_69 hw) (by decide) (argsL := [(.int (0 : Int32)), (.int (0 : Int32))]) (rest := []) (own_max l Z a0 hw G n0 h148 X148.old (0 : Int32) (0 : Int32) (Int32.lt_irrefl) ) rfl pd_10 rfl rfl (by decide) (W := 0) (Nat.le_of_eq rfl) (by decide) (by decide) (by decide) all0 (pc' := 14) rfl ?_
  rintro _ T150 h150 L150 X150 K150 ⟨rfl, -⟩
  have sz_h150 := K150.1
  have K0_h150 : Keep h0 h150 [] := K0_h148.trans K150 all0
  refine k_istoreN X150 d_jdk_43_22_14 (Ls' := #[.val (.ref d), .val (.int (44 : Int32)), .val (.int (0 : Int32)), .val (.int zz)]) rfl (pc' := 15) rfl ?_
  refine k_iloadN X150 d_jdk_43_22_15 rfl (pc' := 16) rfl ?_
  refine k_aloadN X150 d_jdk_43_22_16 rfl rfl (pc' := 17) rfl ?_
  have c152 := ((q0.keep K148 nin0).keep K150 nin0)
  refine k_arlen X150 d_jdk_43_22_17 c152 (pc' := 18) rfl ?_
  refine k_callSVF X150 (y := (⟨"java/lang/Math", "min", "(II)I"⟩ : MethodName)) d_jdk_43_22_18 (w_70 hw) (w_71 hw) (w_68 hw) (w_72 hw) (by decide) (argsL := [(.int zz), (.int zz)]) (rest := []) (own_min l Z a0 hw G n0 h150 X150.old zz zz (Int32.lt_irrefl) ) rfl pd_10 rfl rfl (by decide) (W := 0) (Nat.le_of_eq rfl) (by decide) (by decide) (by decide) all0 (pc' := 21) rfl ?_
  rintro _ T153 h153 L153 X153 K153 ⟨rfl, -⟩
  have sz_h153 := K153.1
  have K0_h153 : Keep h0 h153 [] := K0_h150.trans K153 all0
  refine k_istoreN X153 d_jdk_43_22_21 (Ls' := #[.val (.ref d), .val (.int (44 : Int32)), .val (.int (0 : Int32)), .val (.int zz)]) rfl (pc' := 22) rfl ?_
  refine k_iloadN X153 d_jdk_43_22_22 rfl (pc' := 23) rfl ?_
  refine k_iloadN X153 d_jdk_43_22_23 rfl (pc' := 24) rfl ?_
  by_cases hc155 : (0 : Int32) < zz
  · refine k_icmpYes X153 d_jdk_43_22_24 (tlt hc155).1 (pc' := 29) (by decide) (by decide) ?_
    refine k_aloadN X153 d_jdk_43_22_29 rfl rfl (pc' := 30) rfl ?_
    refine k_iloadN X153 d_jdk_43_22_30 rfl (pc' := 31) rfl ?_
    refine k_iloadN X153 d_jdk_43_22_31 rfl (pc' := 32) rfl ?_
    refine k_iloadN X153 d_jdk_43_22_32 rfl (pc' := 33) rfl ?_
    have c156 := (c152.keep K153 nin0)
    refine k_callSVF X153 (y := (⟨"java/lang/StringLatin1", "indexOfChar", "([BIII)I"⟩ : MethodName)) d_jdk_43_22_33 (w_83 hw) (w_84 hw) (w_61 hw) (w_85 hw) (by decide) (argsL := [(.ref d), (.int (44 : Int32)), (.int (0 : Int32)), (.int zz)]) (rest := []) (own_iocL l Z a0 hw G n0 h153 X153.old d kd zz cs hzz hb0 hr c156) rfl pd_11 rfl rfl (by decide) (W := 0) (Nat.le_of_eq rfl) (by decide) (by decide) (by decide) all0 (pc' := 36) rfl ?_
    rintro _ T157 h157 L157 X157 K157 ⟨rfl, -⟩
    have sz_h157 := K157.1
    have K0_h157 : Keep h0 h157 [] := K0_h153.trans K157 all0
    exact k_retFI X157 d_jdk_43_22_36 rfl K0_h157 ⟨_, rfl, rfl, trivial⟩ (by decide) (by decide)
  · have hl0 : cs.length = 0 := by rcases Nat.eq_zero_or_pos cs.length with q | q; exact q; exact absurd (hzz ▸ own_lt q hb0) hc155
    have he : own_ix (44 : Int32) cs = -1 := if_neg (by omega)
    refine k_icmpNo X153 d_jdk_43_22_24 (flt hc155).1 (pc' := 27) rfl ?_
    refine k_iconst X153 d_jdk_43_22_27 (w := (-1 : Int32)) rfl (pc' := 28) rfl ?_
    exact k_retFI X153 d_jdk_43_22_28 rfl K0_h153 ⟨_, rfl, by rw [he], trivial⟩ (by decide) (by decide)
set_option maxRecDepth 65536 in
set_option maxHeartbeats 40000000 in
theorem own_ulen (l : Launch) (Z : State) (a0 : Array Value) (hw : ∀ d ∈ tables_1, d.before a0 Z = true) (G : Gl Z) (n0 : Nat) (h0 : Heap) (O0 : Old Z n0 h0) (d : Nat) (kd : ClassId) (n : Nat) (bs : List Value) (dv : Value) (hn : n < 1073741824)  (q0 : Arv Z h0 d kd .byte (Int32.ofNat (2 * n)) bs dv) :
    MetF l [] Z n0 (⟨"java/lang/StringUTF16", "length", "([B)I"⟩ : MethodName) jdk_52_method_6_code 1 (Option.some FieldType.int) ({ frames := 0, cells := 0, slots := 0, locals := 0 } : Room) #[(.ref d)] h0 [] (fun r h' => ∃ w, r = some w ∧ w = (.int (Int32.ofNat n)) ∧ True) := by
  refine metF (plainFor_of_name pn_0) O0 (Ls := #[.val (.ref d)]) (fun m => by first | rfl | (simp [entryFrame, mkF, argsToLocals, Value.category]; done)) ?_
  intro p e s m below meth c T0 X0
  have K0_h0 := Keep.refl h0 []
  have n0le := X0.n0le
  have ltq0 := own_n q0.lt
  obtain ⟨zc, fm, G_cs, G_zc, G_fm, isref_fm, G_assertionsDisabled, G_HI_BYTE_SHIFT, G_LO_BYTE_SHIFT⟩ := id G
  refine k_aloadN X0 d_jdk_52_6_0 rfl rfl (pc' := 1) rfl ?_
  refine k_arlen X0 d_jdk_52_6_1 q0 (pc' := 2) rfl ?_
  refine k_iconst X0 d_jdk_52_6_2 (w := (1 : Int32)) rfl (pc' := 3) rfl ?_
  refine k_ishr X0 d_jdk_52_6_3 (w := (Int32.ofNat n)) (own_shr1 hn) (pc' := 4) rfl ?_
  exact k_retFI X0 d_jdk_52_6_4 rfl K0_h0 ⟨_, rfl, rfl, trivial⟩ (by decide) (by decide)
set_option maxRecDepth 65536 in
set_option maxHeartbeats 40000000 in
theorem own_cft (l : Launch) (Z : State) (a0 : Array Value) (hw : ∀ d ∈ tables_1, d.before a0 Z = true) (G : Gl Z) (n0 : Nat) (h0 : Heap) (O0 : Old Z n0 h0) (i : Int32) (j : Int32) (n : Int32) (f : Value) (hf : f.isRef = true) (hi0 : ¬ i < 0) (hi1 : ¬ j < i) (hi2 : ¬ n < j)   :
    MetF l [] Z n0 (⟨"jdk/internal/util/Preconditions", "checkFromToIndex", "(IIILjava/util/function/BiFunction;)I"⟩ : MethodName) jdk_41_method_12_code 4 (Option.some FieldType.int) ({ frames := 0, cells := 0, slots := 0, locals := 0 } : Room) #[(.int i), (.int j), (.int n), f] h0 [] (fun r h' => ∃ w, r = some w ∧ w = (.int i) ∧ True) := by
  rcases ref_cases hf with rfl | ⟨z, rfl⟩
  · refine metF (plainFor_of_name pn_5) O0 (Ls := #[.val (.int i), .val (.int j), .val (.int n), .val .null]) (fun m => by first | rfl | (simp [entryFrame, mkF, argsToLocals, Value.category]; done)) ?_
    intro p e s m below meth c T0 X0
    have K0_h0 := Keep.refl h0 []
    have n0le := X0.n0le
    obtain ⟨zc, fm, G_cs, G_zc, G_fm, isref_fm, G_assertionsDisabled, G_HI_BYTE_SHIFT, G_LO_BYTE_SHIFT⟩ := id G
    refine k_iloadN X0 d_jdk_41_12_0 rfl (pc' := 1) rfl ?_
    refine k_ifNo X0 d_jdk_41_12_1 ((if0 _ _).trans (flt hi0).1) (pc' := 4) rfl ?_
    refine k_iloadN X0 d_jdk_41_12_4 rfl (pc' := 5) rfl ?_
    refine k_iloadN X0 d_jdk_41_12_5 rfl (pc' := 6) rfl ?_
    refine k_icmpNo X0 d_jdk_41_12_6 (flt hi1).2.2.1 (pc' := 9) rfl ?_
    refine k_iloadN X0 d_jdk_41_12_9 rfl (pc' := 10) rfl ?_
    refine k_iloadN X0 d_jdk_41_12_10 rfl (pc' := 11) rfl ?_
    refine k_icmpYes X0 d_jdk_41_12_11 (flt hi2).2.2.2 (pc' := 22) (by decide) (by decide) ?_
    refine k_iloadN X0 d_jdk_41_12_22 rfl (pc' := 23) rfl ?_
    exact k_retFI X0 d_jdk_41_12_23 rfl K0_h0 ⟨_, rfl, rfl, trivial⟩ (by decide) (by decide)
  · refine metF (plainFor_of_name pn_5) O0 (Ls := #[.val (.int i), .val (.int j), .val (.int n), .val (.ref z)]) (fun m => by first | rfl | (simp [entryFrame, mkF, argsToLocals, Value.category]; done)) ?_
    intro p e s m below meth c T0 X0
    have K0_h0 := Keep.refl h0 []
    have n0le := X0.n0le
    obtain ⟨zc, fm, G_cs, G_zc, G_fm, isref_fm, G_assertionsDisabled, G_HI_BYTE_SHIFT, G_LO_BYTE_SHIFT⟩ := id G
    refine k_iloadN X0 d_jdk_41_12_0 rfl (pc' := 1) rfl ?_
    refine k_ifNo X0 d_jdk_41_12_1 ((if0 _ _).trans (flt hi0).1) (pc' := 4) rfl ?_
    refine k_iloadN X0 d_jdk_41_12_4 rfl (pc' := 5) rfl ?_
    refine k_iloadN X0 d_jdk_41_12_5 rfl (pc' := 6) rfl ?_
    refine k_icmpNo X0 d_jdk_41_12_6 (flt hi1).2.2.1 (pc' := 9) rfl ?_
    refine k_iloadN X0 d_jdk_41_12_9 rfl (pc' := 10) rfl ?_
    refine k_iloadN X0 d_jdk_41_12_10 rfl (pc' := 11) rfl ?_
    refine k_icmpYes X0 d_jdk_41_12_11 (flt hi2).2.2.2 (pc' := 22) (by decide) (by decide) ?_
    refine k_iloadN X0 d_jdk_41_12_22 rfl (pc' := 23) rfl ?_
    exact k_retFI X0 d_jdk_41_12_23 rfl K0_h0 ⟨_, rfl, rfl, trivial⟩ (by decide) (by decide)
set_option maxRecDepth 65536 in
set_option maxHeartbeats 40000000 in
theorem own_cbe (l : Launch) (Z : State) (a0 : Array Value) (hw : ∀ d ∈ tables_1, d.before a0 Z = true) (G : Gl Z) (n0 : Nat) (h0 : Heap) (O0 : Old Z n0 h0) (i : Int32) (j : Int32) (n : Int32) (hi0 : ¬ i < 0) (hi1 : ¬ j < i) (hi2 : ¬ n < j)   :
    MetF l [] Z n0 (⟨"java/lang/String", "checkBoundsBeginEnd", "(III)V"⟩ : MethodName) jdk_42_method_158_code 3 (Option.none : Option FieldType) ({ frames := 1, cells := 0, slots := 0, locals := 15 } : Room) #[(.int i), (.int j), (.int n)] h0 [] (fun r h' => r = none ∧ True) := by
  refine metF (plainFor_of_name pn_1) O0 (Ls := #[.val (.int i), .val (.int j), .val (.int n)]) (fun m => by first | rfl | (simp [entryFrame, mkF, argsToLocals, Value.category]; done)) ?_
  intro p e s m below meth c T0 X0
  have K0_h0 := Keep.refl h0 []
  have n0le := X0.n0le
  obtain ⟨zc, fm, G_cs, G_zc, G_fm, isref_fm, G_assertionsDisabled, G_HI_BYTE_SHIFT, G_LO_BYTE_SHIFT⟩ := id G
  refine k_iloadN X0 d_jdk_42_158_0 rfl (pc' := 1) rfl ?_
  refine k_iloadN X0 d_jdk_42_158_1 rfl (pc' := 2) rfl ?_
  refine k_iloadN X0 d_jdk_42_158_2 rfl (pc' := 3) rfl ?_
  refine k_getS X0 d_jdk_42_158_3 (host := "") (Or.inl (w_123 hw)) Via.refl (G_fm.ext X0.old.2) (pc' := 6) rfl fun T159 X160 => ?_
  refine k_callSVF X160 (y := (⟨"jdk/internal/util/Preconditions", "checkFromToIndex", "(IIILjava/util/function/BiFunction;)I"⟩ : MethodName)) d_jdk_42_158_6 (w_125 hw) (w_126 hw) (w_124 hw) (w_127 hw) (by decide) (argsL := [(.int i), (.int j), (.int n), fm]) (rest := []) (own_cft l Z a0 hw G n0 h0 X160.old i j n fm isref_fm hi0 hi1 hi2 ) rfl pd_12 rfl rfl (by decide) (W := 0) (Nat.le_of_eq rfl) (by decide) (by decide) (by decide) all0 (pc' := 9) rfl ?_
  rintro _ T161 h161 L161 X161 K161 ⟨rfl, -⟩
  have sz_h161 := K161.1
  have K0_h161 : Keep h0 h161 [] := K0_h0.trans K161 all0
  refine k_pop X161 d_jdk_42_158_9 rfl (pc' := 10) rfl ?_
  exact k_retFV X161 d_jdk_42_158_10 rfl K0_h161 ⟨rfl, trivial⟩ (by decide) (by decide)
set_option maxRecDepth 65536 in
set_option maxHeartbeats 40000000 in
theorem own_ucbe (l : Launch) (Z : State) (a0 : Array Value) (hw : ∀ d ∈ tables_1, d.before a0 Z = true) (G : Gl Z) (n0 : Nat) (h0 : Heap) (O0 : Old Z n0 h0) (i : Int32) (j : Int32) (d : Nat) (kd : ClassId) (n : Nat) (bs : List Value) (dv : Value) (hn : n < 1073741824) (hi0 : ¬ i < 0) (hi1 : ¬ j < i) (hi2 : ¬ Int32.ofNat n < j)  (q0 : Arv Z h0 d kd .byte (Int32.ofNat (2 * n)) bs dv) :
    MetF l [] Z n0 (⟨"java/lang/StringUTF16", "checkBoundsBeginEnd", "(II[B)V"⟩ : MethodName) jdk_52_method_93_code 3 (Option.none : Option FieldType) ({ frames := 2, cells := 0, slots := 0, locals := 29 } : Room) #[(.int i), (.int j), (.ref d)] h0 [] (fun r h' => r = none ∧ True) := by
  refine metF (plainFor_of_name pn_0) O0 (Ls := #[.val (.int i), .val (.int j), .val (.ref d)]) (fun m => by first | rfl | (simp [entryFrame, mkF, argsToLocals, Value.category]; done)) ?_
  intro p e s m below meth c T0 X0
  have K0_h0 := Keep.refl h0 []
  have n0le := X0.n0le
  have ltq0 := own_n q0.lt
  obtain ⟨zc, fm, G_cs, G_zc, G_fm, isref_fm, G_assertionsDisabled, G_HI_BYTE_SHIFT, G_LO_BYTE_SHIFT⟩ := id G
  refine k_iloadN X0 d_jdk_52_93_0 rfl (pc' := 1) rfl ?_
  refine k_iloadN X0 d_jdk_52_93_1 rfl (pc' := 2) rfl ?_
  refine k_aloadN X0 d_jdk_52_93_2 rfl rfl (pc' := 3) rfl ?_
  refine k_callSVF X0 (y := (⟨"java/lang/StringUTF16", "length", "([B)I"⟩ : MethodName)) d_jdk_52_93_3 (w_117 hw) (w_118 hw) (w_75 hw) (w_119 hw) (by decide) (argsL := [(.ref d)]) (rest := [(.int j), (.int i)]) (own_ulen l Z a0 hw G n0 h0 X0.old d kd n bs dv hn q0) rfl pd_13 rfl rfl (by decide) (W := 2) (Nat.le_of_eq rfl) (by decide) (by decide) (by decide) all0 (pc' := 6) rfl ?_
  rintro _ T163 h163 L163 X163 K163 ⟨rfl, -⟩
  have sz_h163 := K163.1
  have K0_h163 : Keep h0 h163 [] := K0_h0.trans K163 all0
  refine k_callSNF X163 (y := (⟨"java/lang/String", "checkBoundsBeginEnd", "(III)V"⟩ : MethodName)) d_jdk_52_93_6 (w_120 hw) (w_121 hw) (w_9 hw) (w_122 hw) (by decide) (argsL := [(.int i), (.int j), (.int (Int32.ofNat n))]) (rest := []) (own_cbe l Z a0 hw G n0 h163 X163.old i j (Int32.ofNat n) hi0 hi1 hi2 ) rfl pd_14 rfl rfl (by decide) (W := 0) (Nat.le_of_eq rfl) (by decide) (by decide) (by decide) all0 (pc' := 9) rfl ?_
  rintro T165 h165 L165 X165 K165 -
  have sz_h165 := K165.1
  have K0_h165 : Keep h0 h165 [] := K0_h163.trans K165 all0
  exact k_retFV X165 d_jdk_52_93_9 rfl K0_h165 ⟨rfl, trivial⟩ (by decide) (by decide)
set_option maxRecDepth 65536 in
set_option maxHeartbeats 40000000 in
theorem own_iocU2 (l : Launch) (Z : State) (a0 : Array Value) (hw : ∀ d ∈ tables_1, d.before a0 Z = true) (G : Gl Z) (n0 : Nat) (h0 : Heap) (O0 : Old Z n0 h0) (d : Nat) (kd : ClassId) (nv : Int32) (cs : List Int32) (hnv : nv = Int32.ofNat cs.length) (hb0 : 2 * cs.length < 2147483648) (hr : own_chs cs)  (q0 : Arv Z h0 d kd .byte (Int32.ofNat (2 * cs.length)) (own_u16 cs) (.int (0 : Int32))) :
    MetF l [] Z n0 (⟨"java/lang/StringUTF16", "indexOfChar", "([BIII)I"⟩ : MethodName) jdk_52_method_47_code 4 (Option.some FieldType.int) ({ frames := 3, cells := 0, slots := 0, locals := 43 } : Room) #[(.ref d), (.int (44 : Int32)), (.int (0 : Int32)), (.int nv)] h0 [] (fun r h' => ∃ w, r = some w ∧ w = (.int (own_ix (44 : Int32) cs)) ∧ True) := by
  refine metF (plainFor_of_name pn_0) O0 (Ls := #[.val (.ref d), .val (.int (44 : Int32)), .val (.int (0 : Int32)), .val (.int nv)]) (fun m => by first | rfl | (simp [entryFrame, mkF, argsToLocals, Value.category]; done)) ?_
  intro p e s m below meth c T0 X0
  have K0_h0 := Keep.refl h0 []
  have n0le := X0.n0le
  have ltq0 := own_n q0.lt
  obtain ⟨zc, fm, G_cs, G_zc, G_fm, isref_fm, G_assertionsDisabled, G_HI_BYTE_SHIFT, G_LO_BYTE_SHIFT⟩ := id G
  have hnn : ¬ nv < 0 := by rw [hnv]; exact own_nn (by omega)
  refine k_iloadN X0 d_jdk_52_47_0 rfl (pc' := 1) rfl ?_
  refine k_iloadN X0 d_jdk_52_47_1 rfl (pc' := 2) rfl ?_
  refine k_aloadN X0 d_jdk_52_47_2 rfl rfl (pc' := 3) rfl ?_
  refine k_callSNF X0 (y := (⟨"java/lang/StringUTF16", "checkBoundsBeginEnd", "(II[B)V"⟩ : MethodName)) d_jdk_52_47_3 (w_114 hw) (w_115 hw) (w_75 hw) (w_116 hw) (by decide) (argsL := [(.int (0 : Int32)), (.int nv), (.ref d)]) (rest := []) (own_ucbe l Z a0 hw G n0 h0 X0.old (0 : Int32) nv d kd (cs.length) (own_u16 cs) (.int (0 : Int32)) (by omega) (by decide) hnn (by rw [hnv]; exact Int32.lt_irrefl) q0) rfl pd_15 rfl rfl (by decide) (W := 0) (Nat.le_of_eq rfl) (by decide) (by decide) (by decide) all0 (pc' := 6) rfl ?_
  rintro T166 h166 L166 X166 K166 -
  have sz_h166 := K166.1
  have K0_h166 : Keep h0 h166 [] := K0_h0.trans K166 all0
  refine k_aloadN X166 d_jdk_52_47_6 rfl rfl (pc' := 7) rfl ?_
  refine k_iloadN X166 d_jdk_52_47_7 rfl (pc' := 8) rfl ?_
  refine k_iloadN X166 d_jdk_52_47_8 rfl (pc' := 9) rfl ?_
  refine k_iloadN X166 d_jdk_52_47_9 rfl (pc' := 10) rfl ?_
  have c167 := (q0.keep K166 nin0)
  refine k_callSVF X166 (y := (⟨"java/lang/StringUTF16", "indexOfCharUnsafe", "([BIII)I"⟩ : MethodName)) d_jdk_52_47_10 (w_128 hw) (w_129 hw) (w_75 hw) (w_130 hw) (by decide) (argsL := [(.ref d), (.int (44 : Int32)), (.int (0 : Int32)), (.int nv)]) (rest := []) (own_iocU l Z a0 hw G n0 h166 X166.old d kd nv cs hnv hb0 hr c167) rfl pd_11 rfl rfl (by decide) (W := 0) (Nat.le_of_eq rfl) (by decide) (by decide) (by decide) all0 (pc' := 13) rfl ?_
  rintro _ T168 h168 L168 X168 K168 ⟨rfl, -⟩
  have sz_h168 := K168.1
  have K0_h168 : Keep h0 h168 [] := K0_h166.trans K168 all0
  exact k_retFI X168 d_jdk_52_47_13 rfl K0_h168 ⟨_, rfl, rfl, trivial⟩ (by decide) (by decide)
set_option maxRecDepth 65536 in
set_option maxHeartbeats 40000000 in
theorem own_ixU (l : Launch) (Z : State) (a0 : Array Value) (hw : ∀ d ∈ tables_1, d.before a0 Z = true) (G : Gl Z) (n0 : Nat) (h0 : Heap) (O0 : Old Z n0 h0) (d : Nat) (kd : ClassId) (nv : Int32) (cs : List Int32) (hnv : nv = Int32.ofNat cs.length) (hb0 : 2 * cs.length < 2147483648) (hr : own_chs cs) (h1 : 0 < cs.length)  (q0 : Arv Z h0 d kd .byte (Int32.ofNat (2 * cs.length)) (own_u16 cs) (.int (0 : Int32))) :
    MetF l [] Z n0 (⟨"java/lang/StringUTF16", "indexOf", "([BIII)I"⟩ : MethodName) jdk_52_method_40_code 4 (Option.some FieldType.int) ({ frames := 4, cells := 0, slots := 0, locals := 58 } : Room) #[(.ref d), (.int (44 : Int32)), (.int (0 : Int32)), (.int nv)] h0 [] (fun r h' => ∃ w, r = some w ∧ w = (.int (own_ix (44 : Int32) cs)) ∧ True) := by
  refine metF (plainFor_of_name pn_0) O0 (Ls := #[.val (.ref d), .val (.int (44 : Int32)), .val (.int (0 : Int32)), .val (.int nv)]) (fun m => by first | rfl | (simp [entryFrame, mkF, argsToLocals, Value.category]; done)) ?_
  intro p e s m below meth c T0 X0
  have K0_h0 := Keep.refl h0 []
  have n0le := X0.n0le
  have ltq0 := own_n q0.lt
  obtain ⟨zc, fm, G_cs, G_zc, G_fm, isref_fm, G_assertionsDisabled, G_HI_BYTE_SHIFT, G_LO_BYTE_SHIFT⟩ := id G
  have hpos : (0 : Int32) < nv := by rw [hnv]; exact own_lt h1 (by omega)
  refine k_iloadN X0 d_jdk_52_40_0 rfl (pc' := 1) rfl ?_
  refine k_iconst X0 d_jdk_52_40_1 (w := (0 : Int32)) rfl (pc' := 2) rfl ?_
  refine k_callSVF X0 (y := (⟨"java/lang/Math", "max", "(II)I"⟩ : MethodName)) d_jdk_52_40_2 (w_108 hw) (w_67 hw) (w_68 hw) (w_69 hw) (by decide) (argsL := [(.int (0 : Int32)), (.int (0 : Int32))]) (rest := []) (own_max l Z a0 hw G n0 h0 X0.old (0 : Int32) (0 : Int32) (Int32.lt_irrefl) ) rfl pd_10 rfl rfl (by decide) (W := 0) (Nat.le_of_eq rfl) (by decide) (by decide) (by decide) all0 (pc' := 5) rfl ?_
  rintro _ T170 h170 L170 X170 K170 ⟨rfl, -⟩
  have sz_h170 := K170.1
  have K0_h170 : Keep h0 h170 [] := K0_h0.trans K170 all0
  refine k_istoreN X170 d_jdk_52_40_5 (Ls' := #[.val (.ref d), .val (.int (44 : Int32)), .val (.int (0 : Int32)), .val (.int nv)]) rfl (pc' := 6) rfl ?_
  refine k_iloadN X170 d_jdk_52_40_6 rfl (pc' := 7) rfl ?_
  refine k_aloadN X170 d_jdk_52_40_7 rfl rfl (pc' := 8) rfl ?_
  have c172 := (q0.keep K170 nin0)
  refine k_arlen X170 d_jdk_52_40_8 c172 (pc' := 9) rfl ?_
  refine k_iconst X170 d_jdk_52_40_9 (w := (1 : Int32)) rfl (pc' := 10) rfl ?_
  refine k_ishr X170 d_jdk_52_40_10 (w := (Int32.ofNat cs.length)) (own_shr1 (by omega)) (pc' := 11) rfl ?_
  refine k_callSVF X170 (y := (⟨"java/lang/Math", "min", "(II)I"⟩ : MethodName)) d_jdk_52_40_11 (w_109 hw) (w_71 hw) (w_68 hw) (w_72 hw) (by decide) (argsL := [(.int nv), (.int (Int32.ofNat cs.length))]) (rest := []) (own_min l Z a0 hw G n0 h170 X170.old nv (Int32.ofNat cs.length) (by rw [hnv]; exact Int32.lt_irrefl) ) rfl pd_10 rfl rfl (by decide) (W := 0) (Nat.le_of_eq rfl) (by decide) (by decide) (by decide) all0 (pc' := 14) rfl ?_
  rintro _ T173 h173 L173 X173 K173 ⟨rfl, -⟩
  have sz_h173 := K173.1
  have K0_h173 : Keep h0 h173 [] := K0_h170.trans K173 all0
  refine k_istoreN X173 d_jdk_52_40_14 (Ls' := #[.val (.ref d), .val (.int (44 : Int32)), .val (.int (0 : Int32)), .val (.int nv)]) rfl (pc' := 15) rfl ?_
  refine k_iloadN X173 d_jdk_52_40_15 rfl (pc' := 16) rfl ?_
  refine k_iloadN X173 d_jdk_52_40_16 rfl (pc' := 17) rfl ?_
  refine k_icmpYes X173 d_jdk_52_40_17 (tlt hpos).1 (pc' := 22) (by decide) (by decide) ?_
  refine k_iloadN X173 d_jdk_52_40_22 rfl (pc' := 23) rfl ?_
  refine k_ldcI X173 d_jdk_52_40_23 (w_110 hw) (pc' := 25) rfl ?_
  refine k_icmpNo X173 d_jdk_52_40_25 (by decide) (pc' := 28) rfl ?_
  refine k_aloadN X173 d_jdk_52_40_28 rfl rfl (pc' := 29) rfl ?_
  refine k_iloadN X173 d_jdk_52_40_29 rfl (pc' := 30) rfl ?_
  refine k_iloadN X173 d_jdk_52_40_30 rfl (pc' := 31) rfl ?_
  refine k_iloadN X173 d_jdk_52_40_31 rfl (pc' := 32) rfl ?_
  have c175 := (c172.keep K173 nin0)
  refine k_callSVF X173 (y := (⟨"java/lang/StringUTF16", "indexOfChar", "([BIII)I"⟩ : MethodName)) d_jdk_52_40_32 (w_111 hw) (w_112 hw) (w_75 hw) (w_113 hw) (by decide) (argsL := [(.ref d), (.int (44 : Int32)), (.int (0 : Int32)), (.int nv)]) (rest := []) (own_iocU2 l Z a0 hw G n0 h173 X173.old d kd nv cs hnv hb0 hr c175) rfl pd_11 rfl rfl (by decide) (W := 0) (Nat.le_of_eq rfl) (by decide) (by decide) (by decide) all0 (pc' := 35) rfl ?_
  rintro _ T176 h176 L176 X176 K176 ⟨rfl, -⟩
  have sz_h176 := K176.1
  have K0_h176 : Keep h0 h176 [] := K0_h173.trans K176 all0
  exact k_retFI X176 d_jdk_52_40_35 rfl K0_h176 ⟨_, rfl, rfl, trivial⟩ (by decide) (by decide)
set_option maxRecDepth 65536 in
set_option maxHeartbeats 40000000 in
theorem own_ix2 (l : Launch) (Z : State) (a0 : Array Value) (hw : ∀ d ∈ tables_1, d.before a0 Z = true) (G : Gl Z) (n0 : Nat) (h0 : Heap) (O0 : Old Z n0 h0) (a : Nat) (t : Nat) (kt : ClassId) (cd : Int32) (zz : Int32) (bs : List Value) (cs : List Int32) (hn : cs.length < 1073741823) (hr : own_chs cs)  (q0 : Exa Z h0 a "java/lang/String") (q1 : Fld Z h0 a "java/lang/String" "value" "[B" (.ref t)) (q2 : Fld Z h0 a "java/lang/String" "coder" "B" (.int cd)) (q3 : Arv Z h0 t kt .byte zz bs (.int (0 : Int32))) (q4 : own_cod cs cd zz bs) :
    MetF l [] Z n0 (⟨"java/lang/String", "indexOf", "(II)I"⟩ : MethodName) jdk_42_method_80_code 3 (Option.some FieldType.int) ({ frames := 5, cells := 0, slots := 0, locals := 73 } : Room) #[(.ref a), (.int (44 : Int32)), (.int (0 : Int32))] h0 [] (fun r h' => ∃ w, r = some w ∧ w = (.int (own_ix (44 : Int32) cs)) ∧ True) := by
  rcases q4 with ⟨hf, rfl, rfl, rfl⟩ | ⟨hf, rfl, rfl, rfl⟩
  · refine metF (plainFor_of_name pn_1) O0 (Ls := #[.val (.ref a), .val (.int (44 : Int32)), .val (.int (0 : Int32))]) (fun m => by first | rfl | (simp [entryFrame, mkF, argsToLocals, Value.category]; done)) ?_
    intro p e s m below meth c T0 X0
    have K0_h0 := Keep.refl h0 []
    have n0le := X0.n0le
    have ltq0 := own_n q0.lt
    have ltq1 := own_n q1.lt
    have ltq2 := own_n q2.lt
    have ltq3 := own_n q3.lt
    obtain ⟨zc, fm, G_cs, G_zc, G_fm, isref_fm, G_assertionsDisabled, G_HI_BYTE_SHIFT, G_LO_BYTE_SHIFT⟩ := id G
    have hlen : own_cod cs (0 : Int32) (Int32.ofNat cs.length) (own_lat cs) := Or.inl ⟨hf, rfl, rfl, rfl⟩
    have hr2 : ∀ i, i < cs.length → ¬ cs.getD i 0 < 0 ∧ ¬ 255 < cs.getD i 0 := fun i hi => ⟨(own_chs_at hr hi).1, own_lat_rng hf hi⟩
    refine k_aloadN X0 d_jdk_42_80_0 rfl rfl (pc' := 1) rfl ?_
    refine k_callVVF X0 (y := (⟨"java/lang/String", "isLatin1", "()Z"⟩ : MethodName)) d_jdk_42_80_1 (w_43 hw) (w_44 hw) (w_46 hw) (w_45 hw) (w_9 hw) (w_47 hw) (by decide) (notFace_of_selects (args := #[]) (mvT X0.hZ (w_46 hw))) q0 (argsL := []) (rest := []) (own_isLat0 l Z a0 hw G n0 h0 X0.old a q2) rfl pd_16 rfl rfl (by decide) (W := 0) (Nat.le_of_eq rfl) (by decide) (by decide) (by decide) all0 (pc' := 4) rfl ?_
    rintro _ T178 h178 L178 X178 K178 ⟨rfl, -⟩
    have sz_h178 := K178.1
    have K0_h178 : Keep h0 h178 [] := K0_h0.trans K178 all0
    refine k_ifNo X178 d_jdk_42_80_4 (by decide) (pc' := 7) rfl ?_
    refine k_aloadN X178 d_jdk_42_80_7 rfl rfl (pc' := 8) rfl ?_
    have c180 := (q1.keep K178 nin0)
    refine k_getF X178 d_jdk_42_80_8 (host := "") (Or.inl (w_27 hw)) Via.refl c180 (pc' := 11) rfl fun T181 X182 => ?_
    refine k_iloadN X182 d_jdk_42_80_11 rfl (pc' := 12) rfl ?_
    refine k_iloadN X182 d_jdk_42_80_12 rfl (pc' := 13) rfl ?_
    refine k_aloadN X182 d_jdk_42_80_13 rfl rfl (pc' := 14) rfl ?_
    have c183 := (q0.keep K178)
    have c184 := (q2.keep K178 nin0)
    have c185 := (q3.keep K178 nin0)
    refine k_callVVF X182 (y := (⟨"java/lang/String", "length", "()I"⟩ : MethodName)) d_jdk_42_80_14 (w_49 hw) (w_50 hw) (w_52 hw) (w_51 hw) (w_9 hw) (w_53 hw) (by decide) (notFace_of_selects (args := #[]) (mvT X182.hZ (w_52 hw))) c183 (argsL := []) (rest := [(.int (0 : Int32)), (.int (44 : Int32)), (.ref t)]) (own_len l Z a0 hw G n0 h178 X182.old a t kt (0 : Int32) (Int32.ofNat cs.length) (own_lat cs) cs (by omega) c183 c180 c184 c185 hlen) rfl pd_17 rfl rfl (by decide) (W := 3) (Nat.le_of_eq rfl) (by decide) (by decide) (by decide) all0 (pc' := 17) rfl ?_
    rintro _ T186 h186 L186 X186 K186 ⟨rfl, -⟩
    have sz_h186 := K186.1
    have K0_h186 : Keep h0 h186 [] := K0_h178.trans K186 all0
    have c188 := (c185.keep K186 nin0)
    refine k_callSVF X186 (y := (⟨"java/lang/StringLatin1", "indexOf", "([BIII)I"⟩ : MethodName)) d_jdk_42_80_17 (w_59 hw) (w_60 hw) (w_61 hw) (w_62 hw) (by decide) (argsL := [(.ref t), (.int (44 : Int32)), (.int (0 : Int32)), (.int (Int32.ofNat cs.length))]) (rest := []) (own_ixL l Z a0 hw G n0 h186 X186.old t kt (Int32.ofNat cs.length) cs rfl (by omega) hr2 c188) rfl pd_11 rfl rfl (by decide) (W := 0) (Nat.le_of_eq rfl) (by decide) (by decide) (by decide) all0 (pc' := 20) rfl ?_
    rintro _ T189 h189 L189 X189 K189 ⟨rfl, -⟩
    have sz_h189 := K189.1
    have K0_h189 : Keep h0 h189 [] := K0_h186.trans K189 all0
    refine k_goto X189 d_jdk_42_80_20 (pc' := 36) (by decide) (by decide) ?_
    exact k_retFI X189 d_jdk_42_80_36 rfl K0_h189 ⟨_, rfl, rfl, trivial⟩ (by decide) (by decide)
  · refine metF (plainFor_of_name pn_1) O0 (Ls := #[.val (.ref a), .val (.int (44 : Int32)), .val (.int (0 : Int32))]) (fun m => by first | rfl | (simp [entryFrame, mkF, argsToLocals, Value.category]; done)) ?_
    intro p e s m below meth c T0 X0
    have K0_h0 := Keep.refl h0 []
    have n0le := X0.n0le
    have ltq0 := own_n q0.lt
    have ltq1 := own_n q1.lt
    have ltq2 := own_n q2.lt
    have ltq3 := own_n q3.lt
    obtain ⟨zc, fm, G_cs, G_zc, G_fm, isref_fm, G_assertionsDisabled, G_HI_BYTE_SHIFT, G_LO_BYTE_SHIFT⟩ := id G
    have hlen : own_cod cs (1 : Int32) (Int32.ofNat (2 * cs.length)) (own_u16 cs) := Or.inr ⟨hf, rfl, rfl, rfl⟩
    refine k_aloadN X0 d_jdk_42_80_0 rfl rfl (pc' := 1) rfl ?_
    refine k_callVVF X0 (y := (⟨"java/lang/String", "isLatin1", "()Z"⟩ : MethodName)) d_jdk_42_80_1 (w_43 hw) (w_44 hw) (w_46 hw) (w_45 hw) (w_9 hw) (w_47 hw) (by decide) (notFace_of_selects (args := #[]) (mvT X0.hZ (w_46 hw))) q0 (argsL := []) (rest := []) (own_isLat1 l Z a0 hw G n0 h0 X0.old a q2) rfl pd_16 rfl rfl (by decide) (W := 0) (Nat.le_of_eq rfl) (by decide) (by decide) (by decide) all0 (pc' := 4) rfl ?_
    rintro _ T191 h191 L191 X191 K191 ⟨rfl, -⟩
    have sz_h191 := K191.1
    have K0_h191 : Keep h0 h191 [] := K0_h0.trans K191 all0
    refine k_ifYes X191 d_jdk_42_80_4 (by decide) (pc' := 23) (by decide) (by decide) ?_
    refine k_aloadN X191 d_jdk_42_80_23 rfl rfl (pc' := 24) rfl ?_
    have c193 := (q1.keep K191 nin0)
    refine k_getF X191 d_jdk_42_80_24 (host := "") (Or.inl (w_27 hw)) Via.refl c193 (pc' := 27) rfl fun T194 X195 => ?_
    refine k_iloadN X195 d_jdk_42_80_27 rfl (pc' := 28) rfl ?_
    refine k_iloadN X195 d_jdk_42_80_28 rfl (pc' := 29) rfl ?_
    refine k_aloadN X195 d_jdk_42_80_29 rfl rfl (pc' := 30) rfl ?_
    have c196 := (q0.keep K191)
    have c197 := (q2.keep K191 nin0)
    have c198 := (q3.keep K191 nin0)
    refine k_callVVF X195 (y := (⟨"java/lang/String", "length", "()I"⟩ : MethodName)) d_jdk_42_80_30 (w_49 hw) (w_50 hw) (w_52 hw) (w_51 hw) (w_9 hw) (w_53 hw) (by decide) (notFace_of_selects (args := #[]) (mvT X195.hZ (w_52 hw))) c196 (argsL := []) (rest := [(.int (0 : Int32)), (.int (44 : Int32)), (.ref t)]) (own_len l Z a0 hw G n0 h191 X195.old a t kt (1 : Int32) (Int32.ofNat (2 * cs.length)) (own_u16 cs) cs (by omega) c196 c193 c197 c198 hlen) rfl pd_17 rfl rfl (by decide) (W := 3) (Nat.le_of_eq rfl) (by decide) (by decide) (by decide) all0 (pc' := 33) rfl ?_
    rintro _ T199 h199 L199 X199 K199 ⟨rfl, -⟩
    have sz_h199 := K199.1
    have K0_h199 : Keep h0 h199 [] := K0_h191.trans K199 all0
    have c201 := (c198.keep K199 nin0)
    refine k_callSVF X199 (y := (⟨"java/lang/StringUTF16", "indexOf", "([BIII)I"⟩ : MethodName)) d_jdk_42_80_33 (w_105 hw) (w_106 hw) (w_75 hw) (w_107 hw) (by decide) (argsL := [(.ref t), (.int (44 : Int32)), (.int (0 : Int32)), (.int (Int32.ofNat cs.length))]) (rest := []) (own_ixU l Z a0 hw G n0 h199 X199.old t kt (Int32.ofNat cs.length) cs rfl (by omega) hr (by omega) c201) rfl pd_11 rfl rfl (by decide) (W := 0) (Nat.le_of_eq rfl) (by decide) (by decide) (by decide) all0 (pc' := 36) rfl ?_
    rintro _ T202 h202 L202 X202 K202 ⟨rfl, -⟩
    have sz_h202 := K202.1
    have K0_h202 : Keep h0 h202 [] := K0_h199.trans K202 all0
    exact k_retFI X202 d_jdk_42_80_36 rfl K0_h202 ⟨_, rfl, rfl, trivial⟩ (by decide) (by decide)
set_option maxRecDepth 65536 in
set_option maxHeartbeats 40000000 in
theorem own_ix1 (l : Launch) (Z : State) (a0 : Array Value) (hw : ∀ d ∈ tables_1, d.before a0 Z = true) (G : Gl Z) (n0 : Nat) (h0 : Heap) (O0 : Old Z n0 h0) (a : Nat) (t : Nat) (kt : ClassId) (cd : Int32) (zz : Int32) (bs : List Value) (cs : List Int32) (hn : cs.length < 1073741823) (hr : own_chs cs)  (q0 : Exa Z h0 a "java/lang/String") (q1 : Fld Z h0 a "java/lang/String" "value" "[B" (.ref t)) (q2 : Fld Z h0 a "java/lang/String" "coder" "B" (.int cd)) (q3 : Arv Z h0 t kt .byte zz bs (.int (0 : Int32))) (q4 : own_cod cs cd zz bs) :
    MetF l [] Z n0 (⟨"java/lang/String", "indexOf", "(I)I"⟩ : MethodName) jdk_42_method_79_code 2 (Option.some FieldType.int) ({ frames := 6, cells := 0, slots := 0, locals := 87 } : Room) #[(.ref a), (.int (44 : Int32))] h0 [] (fun r h' => ∃ w, r = some w ∧ w = (.int (own_ix (44 : Int32) cs)) ∧ True) := by
  refine metF (plainFor_of_name pn_1) O0 (Ls := #[.val (.ref a), .val (.int (44 : Int32))]) (fun m => by first | rfl | (simp [entryFrame, mkF, argsToLocals, Value.category]; done)) ?_
  intro p e s m below meth c T0 X0
  have K0_h0 := Keep.refl h0 []
  have n0le := X0.n0le
  have ltq0 := own_n q0.lt
  have ltq1 := own_n q1.lt
  have ltq2 := own_n q2.lt
  have ltq3 := own_n q3.lt
  obtain ⟨zc, fm, G_cs, G_zc, G_fm, isref_fm, G_assertionsDisabled, G_HI_BYTE_SHIFT, G_LO_BYTE_SHIFT⟩ := id G
  refine k_aloadN X0 d_jdk_42_79_0 rfl rfl (pc' := 1) rfl ?_
  refine k_iloadN X0 d_jdk_42_79_1 rfl (pc' := 2) rfl ?_
  refine k_iconst X0 d_jdk_42_79_2 (w := (0 : Int32)) rfl (pc' := 3) rfl ?_
  refine k_callVVF X0 (y := (⟨"java/lang/String", "indexOf", "(II)I"⟩ : MethodName)) d_jdk_42_79_3 (w_38 hw) (w_39 hw) (w_41 hw) (w_40 hw) (w_9 hw) (w_42 hw) (by decide) (notFace_of_selects (args := #[]) (mvT X0.hZ (w_41 hw))) q0 (argsL := [(.int (44 : Int32)), (.int (0 : Int32))]) (rest := []) (own_ix2 l Z a0 hw G n0 h0 X0.old a t kt cd zz bs cs hn hr q0 q1 q2 q3 q4) rfl pd_10 rfl rfl (by decide) (W := 0) (Nat.le_of_eq rfl) (by decide) (by decide) (by decide) all0 (pc' := 6) rfl ?_
  rintro _ T204 h204 L204 X204 K204 ⟨rfl, -⟩
  have sz_h204 := K204.1
  have K0_h204 : Keep h0 h204 [] := K0_h0.trans K204 all0
  exact k_retFI X204 d_jdk_42_79_6 rfl K0_h204 ⟨_, rfl, rfl, trivial⟩ (by decide) (by decide)
set_option maxRecDepth 65536 in
set_option maxHeartbeats 40000000 in
theorem own_keep (l : Launch) (Z : State) (a0 : Array Value) (hw : ∀ d ∈ tables_1, d.before a0 Z = true) (G : Gl Z) (n0 : Nat) (h0 : Heap) (O0 : Old Z n0 h0) (a : Nat) (t : Nat) (kt : ClassId) (cd : Int32) (zz : Int32) (bs : List Value) (cs : List Int32) (hn : cs.length < 1073741823) (hr : own_chs cs)  (q0 : Exa Z h0 a "java/lang/String") (q1 : Fld Z h0 a "java/lang/String" "value" "[B" (.ref t)) (q2 : Fld Z h0 a "java/lang/String" "coder" "B" (.int cd)) (q3 : Arv Z h0 t kt .byte zz bs (.int (0 : Int32))) (q4 : own_cod cs cd zz bs) :
    MetF l [] Z n0 (⟨"com/example/settlegram/settlegram/Positions", "keeps", "(Ljava/lang/String;)Z"⟩ : MethodName) prog_71_method_4_code 1 (Option.some FieldType.boolean) ({ frames := 7, cells := 0, slots := 0, locals := 100 } : Room) #[(.ref a)] h0 [] (fun r h' => ∃ w, r = some w ∧ w = (.int (own_keeps cs)) ∧ True) := by
  refine metF (plainFor_of_name pn_6) O0 (Ls := #[.val (.ref a)]) (fun m => by first | rfl | (simp [entryFrame, mkF, argsToLocals, Value.category]; done)) ?_
  intro p e s m below meth c T0 X0
  have K0_h0 := Keep.refl h0 []
  have n0le := X0.n0le
  have ltq0 := own_n q0.lt
  have ltq1 := own_n q1.lt
  have ltq2 := own_n q2.lt
  have ltq3 := own_n q3.lt
  obtain ⟨zc, fm, G_cs, G_zc, G_fm, isref_fm, G_assertionsDisabled, G_HI_BYTE_SHIFT, G_LO_BYTE_SHIFT⟩ := id G
  refine k_aloadN X0 d_prog_71_4_0 rfl rfl (pc' := 1) rfl ?_
  refine k_bipush X0 d_prog_71_4_1 (w := (44 : Int32)) rfl (pc' := 3) rfl ?_
  refine k_callVVF X0 (y := (⟨"java/lang/String", "indexOf", "(I)I"⟩ : MethodName)) d_prog_71_4_3 (w_33 hw) (w_34 hw) (w_36 hw) (w_35 hw) (w_9 hw) (w_37 hw) (by decide) (notFace_of_selects (args := #[]) (mvT X0.hZ (w_36 hw))) q0 (argsL := [(.int (44 : Int32))]) (rest := []) (own_ix1 l Z a0 hw G n0 h0 X0.old a t kt cd zz bs cs hn hr q0 q1 q2 q3 q4) rfl pd_3 rfl rfl (by decide) (W := 0) (Nat.le_of_eq rfl) (by decide) (by decide) (by decide) all0 (pc' := 6) rfl ?_
  rintro _ T206 h206 L206 X206 K206 ⟨rfl, -⟩
  have sz_h206 := K206.1
  have K0_h206 : Keep h0 h206 [] := K0_h0.trans K206 all0
  by_cases hc208 : own_pos (44 : Int32) cs < cs.length
  · have he : own_keeps cs = 0 := if_pos hc208
    refine k_ifYes X206 d_prog_71_4_6 ((if0 _ _).trans (flt (own_ix_yes hn hc208)).2.1) (pc' := 13) (by decide) (by decide) ?_
    refine k_iconst X206 d_prog_71_4_13 (w := (0 : Int32)) rfl (pc' := 14) rfl ?_
    exact k_retFN X206 (w := (0 : Int32)) d_prog_71_4_14 (t := .boolean) rfl (by simp) rfl K0_h206 ⟨_, rfl, by rw [he], trivial⟩ (by decide) (by decide)
  · have he : own_keeps cs = 1 := if_neg hc208
    refine k_ifNo X206 d_prog_71_4_6 ((if0 _ _).trans (tlt (own_ix_no hc208)).2.1) (pc' := 9) rfl ?_
    refine k_iconst X206 d_prog_71_4_9 (w := (1 : Int32)) rfl (pc' := 10) rfl ?_
    refine k_goto X206 d_prog_71_4_10 (pc' := 14) (by decide) (by decide) ?_
    exact k_retFN X206 (w := (1 : Int32)) d_prog_71_4_14 (t := .boolean) rfl (by simp) rfl K0_h206 ⟨_, rfl, by rw [he], trivial⟩ (by decide) (by decide)
set_option maxRecDepth 65536 in
set_option maxHeartbeats 40000000 in
theorem own_ch (l : Launch) (Z : State) (a0 : Array Value) (hw : ∀ d ∈ tables_1, d.before a0 Z = true) (G : Gl Z) (n0 : Nat) (h0 : Heap) (O0 : Old Z n0 h0) (x : Int32)   :
    MetF l [] Z n0 (⟨"com/example/settlegram/settlegram/PositionsKeepsPinLaw", "ch", "(I)C"⟩ : MethodName) method_2_code 1 (Option.some FieldType.char) ({ frames := 0, cells := 0, slots := 0, locals := 0 } : Room) #[(.int x)] h0 [] (fun r h' => ∃ w, r = some w ∧ ∃ (c0 : Int32), w = (.int c0) ∧ (¬ c0 < 0 ∧ ¬ 65535 < c0)) := by
  refine metF (plainFor_of_name pn_7) O0 (Ls := #[.val (.int x)]) (fun m => by first | rfl | (simp [entryFrame, mkF, argsToLocals, Value.category]; done)) ?_
  intro p e s m below meth c T0 X0
  have K0_h0 := Keep.refl h0 []
  have n0le := X0.n0le
  obtain ⟨zc, fm, G_cs, G_zc, G_fm, isref_fm, G_assertionsDisabled, G_HI_BYTE_SHIFT, G_LO_BYTE_SHIFT⟩ := id G
  refine k_iloadN X0 d_2_0 rfl (pc' := 1) rfl ?_
  refine k_ldcI X0 d_2_1 (w_5 hw) (pc' := 3) rfl ?_
  refine k_iand X0 d_2_3 (w := (x &&& (65536 : Int32))) rfl (pc' := 4) rfl ?_
  by_cases hc209 : (x &&& (65536 : Int32)) = (0 : Int32)
  · refine k_ifYes X0 d_2_4 ((if0 _ _).trans (teq hc209).1) (pc' := 12) (by decide) (by decide) ?_
    refine k_iloadN X0 d_2_12 rfl (pc' := 13) rfl ?_
    refine k_ldcI X0 d_2_13 (w_6 hw) (pc' := 15) rfl ?_
    refine k_iand X0 d_2_15 (w := (x &&& (65535 : Int32))) rfl (pc' := 16) rfl ?_
    refine k_i2c X0 d_2_16 (w := ((x &&& (65535 : Int32)).toUInt32.toUInt16.toUInt32.toInt32)) rfl (pc' := 17) rfl ?_
    exact k_retFN X0 (w := ((x &&& (65535 : Int32)).toUInt32.toUInt16.toUInt32.toInt32)) d_2_17 (t := .char) rfl (by simp) (own_i2c_id (own_i2c_rng _).1 (own_i2c_rng _).2) K0_h0 ⟨_, rfl, _, rfl, own_i2c_rng _⟩ (by decide) (by decide)
  · refine k_ifNo X0 d_2_4 ((if0 _ _).trans (feq hc209).1) (pc' := 7) rfl ?_
    refine k_bipush X0 d_2_7 (w := (44 : Int32)) rfl (pc' := 9) rfl ?_
    refine k_goto X0 d_2_9 (pc' := 17) (by decide) (by decide) ?_
    exact k_retFN X0 (w := (44 : Int32)) d_2_17 (t := .char) rfl (by simp) rfl K0_h0 ⟨_, rfl, _, rfl, by decide⟩ (by decide) (by decide)
set_option maxRecDepth 65536 in
set_option maxHeartbeats 40000000 in
theorem own_law (l : Launch) (Z : State) (a0 : Array Value) (hw : ∀ d ∈ tables_1, d.before a0 Z = true) (G : Gl Z) (n0 : Nat) (h0 : Heap) (O0 : Old Z n0 h0) (p0 : Int32) (p1 : Int32) (p2 : Int32) (p3 : Int32) (p4 : Int32) :
    MetH l tables_1 Z EL n0 (⟨"com/example/settlegram/settlegram/PositionsKeepsPinLaw", "law", "(IIIII)Z"⟩ : MethodName) code 12 (some .boolean) room_1 #[(.int p0), (.int p1), (.int p2), (.int p3), (.int p4)] h0 [] (fun r v' h' => ∃ w, r = some w ∧ w = .int (1 : Int32) ∧ True) := by
  refine metH (hEL hw) (plainFor_of_name pn_7) O0 (Ls := #[.val (.int p0), .val (.int p1), .val (.int p2), .val (.int p3), .val (.int p4), .unset, .unset, .unset, .unset, .unset, .unset, .unset]) (fun m => by first | rfl | (simp [entryFrame, mkF, argsToLocals, Value.category]; done)) ?_
  intro p e s m below meth c T0 v0 X0 hSf
  have K0_h0 := Keep.refl h0 []
  have n0le := X0.n0le
  obtain ⟨zc, fm, G_cs, G_zc, G_fm, isref_fm, G_assertionsDisabled, G_HI_BYTE_SHIFT, G_LO_BYTE_SHIFT⟩ := id G
  refine k_iloadN X0 at_0 rfl (pc' := 1) rfl ?_
  refine k_ldcI X0 at_1 (w_0 hw) (pc' := 3) rfl ?_
  refine k_iand X0 at_3 (w := (p0 &&& (2147483647 : Int32))) rfl (pc' := 4) rfl ?_
  refine k_iconst X0 at_4 (w := (5 : Int32)) rfl (pc' := 5) rfl ?_
  refine k_irem X0 at_5 (by decide) (w := ((p0 &&& (2147483647 : Int32)) - ((p0 &&& (2147483647 : Int32)) / (5 : Int32)) * (5 : Int32))) rfl (pc' := 6) rfl ?_
  refine k_istore X0 at_6 (Ls' := #[.val (.int p0), .val (.int p1), .val (.int p2), .val (.int p3), .val (.int p4), .val (.int ((p0 &&& (2147483647 : Int32)) - ((p0 &&& (2147483647 : Int32)) / (5 : Int32)) * (5 : Int32))), .unset, .unset, .unset, .unset, .unset, .unset]) rfl (pc' := 8) rfl ?_
  refine k_iloadN X0 at_8 rfl (pc' := 9) rfl ?_
  refine k_callSVF X0 (y := (⟨"com/example/settlegram/settlegram/PositionsKeepsPinLaw", "ch", "(I)C"⟩ : MethodName)) at_9 (w_1 hw) (w_2 hw) (w_3 hw) (w_4 hw) (by decide) (argsL := [(.int p1)]) (rest := []) (own_ch l Z a0 hw G n0 h0 X0.old p1 ) rfl pd_18 rfl rfl (by decide) (W := 0) (Nat.le_of_eq rfl) (by decide) (by decide) (by decide) all0 (pc' := 12) rfl ?_
  rintro _ T211 h211 L211 X211 K211 ⟨c0_210, rfl, q211_0⟩
  have sz_h211 := K211.1
  have K0_h211 : Keep h0 h211 [] := K0_h0.trans K211 all0
  refine k_istore X211 at_12 (Ls' := #[.val (.int p0), .val (.int p1), .val (.int p2), .val (.int p3), .val (.int p4), .val (.int ((p0 &&& (2147483647 : Int32)) - ((p0 &&& (2147483647 : Int32)) / (5 : Int32)) * (5 : Int32))), .val (.int c0_210), .unset, .unset, .unset, .unset, .unset]) rfl (pc' := 14) rfl ?_
  refine k_iloadN X211 at_14 rfl (pc' := 15) rfl ?_
  refine k_callSVF X211 (y := (⟨"com/example/settlegram/settlegram/PositionsKeepsPinLaw", "ch", "(I)C"⟩ : MethodName)) at_15 (w_1 hw) (w_2 hw) (w_3 hw) (w_4 hw) (by decide) (argsL := [(.int p2)]) (rest := []) (own_ch l Z a0 hw G n0 h211 X211.old p2 ) rfl pd_18 rfl rfl (by decide) (W := 0) (Nat.le_of_eq rfl) (by decide) (by decide) (by decide) all0 (pc' := 18) rfl ?_
  rintro _ T214 h214 L214 X214 K214 ⟨c0_213, rfl, q214_0⟩
  have sz_h214 := K214.1
  have K0_h214 : Keep h0 h214 [] := K0_h211.trans K214 all0
  refine k_istore X214 at_18 (Ls' := #[.val (.int p0), .val (.int p1), .val (.int p2), .val (.int p3), .val (.int p4), .val (.int ((p0 &&& (2147483647 : Int32)) - ((p0 &&& (2147483647 : Int32)) / (5 : Int32)) * (5 : Int32))), .val (.int c0_210), .val (.int c0_213), .unset, .unset, .unset, .unset]) rfl (pc' := 20) rfl ?_
  refine k_iloadN X214 at_20 rfl (pc' := 21) rfl ?_
  refine k_callSVF X214 (y := (⟨"com/example/settlegram/settlegram/PositionsKeepsPinLaw", "ch", "(I)C"⟩ : MethodName)) at_21 (w_1 hw) (w_2 hw) (w_3 hw) (w_4 hw) (by decide) (argsL := [(.int p3)]) (rest := []) (own_ch l Z a0 hw G n0 h214 X214.old p3 ) rfl pd_18 rfl rfl (by decide) (W := 0) (Nat.le_of_eq rfl) (by decide) (by decide) (by decide) all0 (pc' := 24) rfl ?_
  rintro _ T217 h217 L217 X217 K217 ⟨c0_216, rfl, q217_0⟩
  have sz_h217 := K217.1
  have K0_h217 : Keep h0 h217 [] := K0_h214.trans K217 all0
  refine k_istore X217 at_24 (Ls' := #[.val (.int p0), .val (.int p1), .val (.int p2), .val (.int p3), .val (.int p4), .val (.int ((p0 &&& (2147483647 : Int32)) - ((p0 &&& (2147483647 : Int32)) / (5 : Int32)) * (5 : Int32))), .val (.int c0_210), .val (.int c0_213), .val (.int c0_216), .unset, .unset, .unset]) rfl (pc' := 26) rfl ?_
  refine k_iload X217 at_26 rfl (pc' := 28) rfl ?_
  refine k_callSVF X217 (y := (⟨"com/example/settlegram/settlegram/PositionsKeepsPinLaw", "ch", "(I)C"⟩ : MethodName)) at_28 (w_1 hw) (w_2 hw) (w_3 hw) (w_4 hw) (by decide) (argsL := [(.int p4)]) (rest := []) (own_ch l Z a0 hw G n0 h217 X217.old p4 ) rfl pd_18 rfl rfl (by decide) (W := 0) (Nat.le_of_eq rfl) (by decide) (by decide) (by decide) all0 (pc' := 31) rfl ?_
  rintro _ T220 h220 L220 X220 K220 ⟨c0_219, rfl, q220_0⟩
  have sz_h220 := K220.1
  have K0_h220 : Keep h0 h220 [] := K0_h217.trans K220 all0
  refine k_istore X220 at_31 (Ls' := #[.val (.int p0), .val (.int p1), .val (.int p2), .val (.int p3), .val (.int p4), .val (.int ((p0 &&& (2147483647 : Int32)) - ((p0 &&& (2147483647 : Int32)) / (5 : Int32)) * (5 : Int32))), .val (.int c0_210), .val (.int c0_213), .val (.int c0_216), .val (.int c0_219), .unset, .unset]) rfl (pc' := 33) rfl ?_
  refine k_iload X220 at_33 rfl (pc' := 35) rfl ?_
  by_cases hc222 : ((p0 &&& (2147483647 : Int32)) - ((p0 &&& (2147483647 : Int32)) / (5 : Int32)) * (5 : Int32)) = (0 : Int32)
  · refine k_ifNo X220 at_35 ((if0 _ _).trans (teq hc222).2) (pc' := 38) rfl ?_
    refine k_newO X220 at_38 (w_7 hw) (w_8 hw) (w_9 hw) (by decide) (by decide) (pc' := 41) rfl fun T223 h223 b223 g223 X223 K223 E223 D223 S223 lt223 ge223 => ?_
    have sz_h223 := K223.1
    have K0_h223 : Keep h0 h223 [] := K0_h220.trans K223 all0
    have Fn223_value : Fld Z h223 b223 "java/lang/String" "value" "[B" .null := D223 (Or.inr (w_23 hw)) (ty := (.array .byte)) (by decide)
    have Fn223_coder : Fld Z h223 b223 "java/lang/String" "coder" "B" (.int (0 : Int32)) := D223 (Or.inr (w_24 hw)) (ty := .byte) (by decide)
    refine k_dup X223 at_41 rfl (pc' := 42) rfl ?_
    refine k_iconst X223 at_42 (w := (0 : Int32)) rfl (pc' := 43) rfl ?_
    refine k_newP X223 at_43 (w_10 hw) (by decide) (cap := 0) (by decide) (by decide) (by decide) (by decide) (pc' := 45) rfl fun T224 h224 b224 k224 g224 X224 K224 V224 S224 lt224 ge224 => ?_
    have sz_h224 := K224.1
    have K0_h224 : Keep h0 h224 [] := K0_h223.trans K224 all0
    have V224' : Arv Z h224 b224 k224 .char (0 : Int32) [] (.int (0 : Int32)) := Arv.pad V224 (pad_rep [] (.int (0 : Int32)) 0)
    have c225 := (E223.keep K224)
    have c226 := (Fn223_value.keep K224 nin0)
    have c227 := (Fn223_coder.keep K224 nin0)
    have c230 := (X223.sf K224 all0 S223)
    have ge231 : n0 ≤ b223 := by omega
    refine k_callPNH X224 (y := (⟨"java/lang/String", "<init>", "([C)V"⟩ : MethodName)) at_45 (w_11 hw) (w_12 hw) (w_9 hw) (w_13 hw) (by decide) rfl rfl (argsL := [(.ref b224)]) (rest := [(.ref b223)]) (own_initE l Z a0 hw G n0 h224 X224.old b223 b224 k224 [] (.int (0 : Int32)) (by omega) c225 c226 c227 V224') rfl pd_19 rfl rfl (by decide) (W := 1) (Nat.le_of_eq rfl) (by decide) (by decide) (by decide) (allS ⟨⟨own_n (by omega), c230⟩, ge231⟩ all0) (pc' := 48) rfl ?_
    rintro v232 T232 h232 L232 X232 K232 C232 ⟨t_228, kt_229, q232_0, q232_1, q232_2, q232_3⟩
    have sz_h232 := K232.1
    have K0_h232 : Keep h0 h232 [] := K0_h224.trans K232 (allS (Or.inr (by omega)) all0)
    have lt232_0 := own_n q232_0.lt
    have lt232_1 := own_n q232_1.lt
    have lt232_2 := own_n q232_2.lt
    have lt232_3 := own_n q232_3.lt
    refine k_astore X232 at_48 rfl (Ls' := #[.val (.int p0), .val (.int p1), .val (.int p2), .val (.int p3), .val (.int p4), .val (.int ((p0 &&& (2147483647 : Int32)) - ((p0 &&& (2147483647 : Int32)) / (5 : Int32)) * (5 : Int32))), .val (.int c0_210), .val (.int c0_213), .val (.int c0_216), .val (.int c0_219), .val (.ref b223), .unset]) rfl (pc' := 50) rfl ?_
    refine k_iconst X232 at_50 (w := (1 : Int32)) rfl (pc' := 51) rfl ?_
    refine k_istore X232 at_51 (Ls' := #[.val (.int p0), .val (.int p1), .val (.int p2), .val (.int p3), .val (.int p4), .val (.int ((p0 &&& (2147483647 : Int32)) - ((p0 &&& (2147483647 : Int32)) / (5 : Int32)) * (5 : Int32))), .val (.int c0_210), .val (.int c0_213), .val (.int c0_216), .val (.int c0_219), .val (.ref b223), .val (.int (1 : Int32))]) rfl (pc' := 53) rfl ?_
    refine k_goto X232 at_53 (pc' := 279) (by decide) (by decide) ?_
    refine k_aload X232 at_279 rfl rfl (pc' := 281) rfl ?_
    refine k_callSVF X232 (y := (⟨"com/example/settlegram/settlegram/Positions", "keeps", "(Ljava/lang/String;)Z"⟩ : MethodName)) at_281 (w_29 hw) (w_30 hw) (w_31 hw) (w_32 hw) (by decide) (argsL := [(.ref b223)]) (rest := []) (own_keep l Z a0 hw G n0 h232 X232.old b223 t_228 kt_229 (0 : Int32) (0 : Int32) [] [] (by decide) own_c0 q232_0 q232_2 q232_1 q232_3 (Or.inl ⟨rfl, rfl, rfl, rfl⟩)) rfl pd_20 rfl rfl (by decide) (W := 0) (Nat.le_of_eq rfl) (by decide) (by decide) (by decide) all0 (pc' := 284) rfl ?_
    rintro _ T233 h233 L233 X233 K233 ⟨rfl, -⟩
    have sz_h233 := K233.1
    have K0_h233 : Keep h0 h233 [] := K0_h232.trans K233 all0
    refine k_iload X233 at_284 rfl (pc' := 286) rfl ?_
    have hk : (own_keeps []) = (1 : Int32) := by simp [own_keeps, own_pos]
    refine k_icmpNo X233 at_286 (teq hk).2 (pc' := 289) rfl ?_
    refine k_iconst X233 at_289 (w := (1 : Int32)) rfl (pc' := 290) rfl ?_
    refine k_goto X233 at_290 (pc' := 294) (by decide) (by decide) ?_
    exact k_retHN X233 (w := (1 : Int32)) at_294 (t := .boolean) rfl (by simp) rfl K0_h233 (fun v' C' => ⟨_, rfl, rfl, trivial⟩) (by decide) (by decide)
  · refine k_ifYes X220 at_35 ((if0 _ _).trans (feq hc222).2) (pc' := 56) (by decide) (by decide) ?_
    refine k_iload X220 at_56 rfl (pc' := 58) rfl ?_
    refine k_iconst X220 at_58 (w := (1 : Int32)) rfl (pc' := 59) rfl ?_
    by_cases hc235 : ((p0 &&& (2147483647 : Int32)) - ((p0 &&& (2147483647 : Int32)) / (5 : Int32)) * (5 : Int32)) = (1 : Int32)
    · refine k_icmpNo X220 at_59 (teq hc235).2 (pc' := 62) rfl ?_
      refine k_newO X220 at_62 (w_7 hw) (w_8 hw) (w_9 hw) (by decide) (by decide) (pc' := 65) rfl fun T236 h236 b236 g236 X236 K236 E236 D236 S236 lt236 ge236 => ?_
      have sz_h236 := K236.1
      have K0_h236 : Keep h0 h236 [] := K0_h220.trans K236 all0
      have Fn236_value : Fld Z h236 b236 "java/lang/String" "value" "[B" .null := D236 (Or.inr (w_23 hw)) (ty := (.array .byte)) (by decide)
      have Fn236_coder : Fld Z h236 b236 "java/lang/String" "coder" "B" (.int (0 : Int32)) := D236 (Or.inr (w_24 hw)) (ty := .byte) (by decide)
      refine k_dup X236 at_65 rfl (pc' := 66) rfl ?_
      refine k_iconst X236 at_66 (w := (1 : Int32)) rfl (pc' := 67) rfl ?_
      refine k_newP X236 at_67 (w_10 hw) (by decide) (cap := 1) (by decide) (by decide) (by decide) (by decide) (pc' := 69) rfl fun T237 h237 b237 k237 g237 X237 K237 V237 S237 lt237 ge237 => ?_
      have sz_h237 := K237.1
      have K0_h237 : Keep h0 h237 [] := K0_h236.trans K237 all0
      have V237' : Arv Z h237 b237 k237 .char (1 : Int32) [(.int (0 : Int32))] (.int (0 : Int32)) := Arv.pad V237 (pad_rep [] (.int (0 : Int32)) 1)
      refine k_dup X237 at_69 rfl (pc' := 70) rfl ?_
      refine k_iconst X237 at_70 (w := (0 : Int32)) rfl (pc' := 71) rfl ?_
      refine k_iload X237 at_71 rfl (pc' := 73) rfl ?_
      have ge239 : n0 ≤ b237 := by omega
      refine k_castore X237 (w := c0_210) 0 at_73 V237' (by decide) (by decide) rfl (Nat.le_of_ble_eq_true rfl) (own_i2c_id q211_0.1 q211_0.2) (vs' := [(.int c0_210)]) rfl S237 ge239 (pc' := 74) rfl fun T238 h238 L238 X238 K238 V238 => ?_
      have sz_h238 := K238.1
      have K0_h238 : Keep h0 h238 [] := K0_h237.trans K238 (allS (Or.inr (by omega)) all0)
      have c240 := ((E236.keep K237).keep K238)
      have c241 := ((Fn236_value.keep K237 nin0).keep K238 (ninS (own_ne (by omega) : b236 ≠ b237) nin0))
      have c242 := ((Fn236_coder.keep K237 nin0).keep K238 (ninS (own_ne (by omega) : b236 ≠ b237) nin0))
      have c248 := (X237.sf K238 (allS ⟨S237, ge239⟩ all0) (X236.sf K237 all0 S236))
      have ge249 : n0 ≤ b236 := by omega
      refine k_callPNF X238 (y := (⟨"java/lang/String", "<init>", "([C)V"⟩ : MethodName)) at_74 (w_11 hw) (w_12 hw) (w_9 hw) (w_13 hw) (by decide) rfl rfl (argsL := [(.ref b237)]) (rest := [(.ref b236)]) (own_initS l Z a0 hw G n0 h238 X238.old b236 b237 k237 (1 : Int32) [(.int c0_210)] [c0_210] rfl rfl (by simp) (by simp) (by omega) c240 c241 c242 V238) rfl pd_19 rfl rfl (by decide) (W := 1) (Nat.le_of_eq rfl) (by decide) (by decide) (by decide) (allS ⟨c248, ge249⟩ all0) (pc' := 77) rfl ?_
      rintro T250 h250 L250 X250 K250 ⟨t_243, kt_244, cd_245, zz_246, bs_247, q250_0, q250_1, q250_2, q250_3, q250_4, q250_5⟩
      have sz_h250 := K250.1
      have K0_h250 : Keep h0 h250 [] := K0_h238.trans K250 (allS (Or.inr (by omega)) all0)
      have lt250_0 := own_n q250_0.lt
      have lt250_1 := own_n q250_1.lt
      have lt250_2 := own_n q250_2.lt
      have lt250_3 := own_n q250_3.lt
      refine k_astore X250 at_77 rfl (Ls' := #[.val (.int p0), .val (.int p1), .val (.int p2), .val (.int p3), .val (.int p4), .val (.int ((p0 &&& (2147483647 : Int32)) - ((p0 &&& (2147483647 : Int32)) / (5 : Int32)) * (5 : Int32))), .val (.int c0_210), .val (.int c0_213), .val (.int c0_216), .val (.int c0_219), .val (.ref b236), .unset]) rfl (pc' := 79) rfl ?_
      refine k_iload X250 at_79 rfl (pc' := 81) rfl ?_
      refine k_bipush X250 at_81 (w := (44 : Int32)) rfl (pc' := 83) rfl ?_
      by_cases hc251 : c0_210 = (44 : Int32)
      · refine k_icmpYes X250 at_83 (teq hc251).1 (pc' := 90) (by decide) (by decide) ?_
        refine k_iconst X250 at_90 (w := (0 : Int32)) rfl (pc' := 91) rfl ?_
        refine k_istore X250 at_91 (Ls' := #[.val (.int p0), .val (.int p1), .val (.int p2), .val (.int p3), .val (.int p4), .val (.int ((p0 &&& (2147483647 : Int32)) - ((p0 &&& (2147483647 : Int32)) / (5 : Int32)) * (5 : Int32))), .val (.int c0_210), .val (.int c0_213), .val (.int c0_216), .val (.int c0_219), .val (.ref b236), .val (.int (0 : Int32))]) rfl (pc' := 93) rfl ?_
        refine k_goto X250 at_93 (pc' := 279) (by decide) (by decide) ?_
        refine k_aload X250 at_279 rfl rfl (pc' := 281) rfl ?_
        refine k_callSVF X250 (y := (⟨"com/example/settlegram/settlegram/Positions", "keeps", "(Ljava/lang/String;)Z"⟩ : MethodName)) at_281 (w_29 hw) (w_30 hw) (w_31 hw) (w_32 hw) (by decide) (argsL := [(.ref b236)]) (rest := []) (own_keep l Z a0 hw G n0 h250 X250.old b236 t_243 kt_244 cd_245 zz_246 bs_247 [c0_210] (by simp) (own_cS q211_0 own_c0) q250_0 q250_2 q250_1 q250_3 q250_5) rfl pd_20 rfl rfl (by decide) (W := 0) (Nat.le_of_eq rfl) (by decide) (by decide) (by decide) all0 (pc' := 284) rfl ?_
        rintro _ T252 h252 L252 X252 K252 ⟨rfl, -⟩
        have sz_h252 := K252.1
        have K0_h252 : Keep h0 h252 [] := K0_h250.trans K252 all0
        refine k_iload X252 at_284 rfl (pc' := 286) rfl ?_
        have hk : (own_keeps [c0_210]) = (0 : Int32) := by simp [own_keeps, own_pos, hc251]
        refine k_icmpNo X252 at_286 (teq hk).2 (pc' := 289) rfl ?_
        refine k_iconst X252 at_289 (w := (1 : Int32)) rfl (pc' := 290) rfl ?_
        refine k_goto X252 at_290 (pc' := 294) (by decide) (by decide) ?_
        exact k_retHN X252 (w := (1 : Int32)) at_294 (t := .boolean) rfl (by simp) rfl K0_h252 (fun v' C' => ⟨_, rfl, rfl, trivial⟩) (by decide) (by decide)
      · refine k_icmpNo X250 at_83 (feq hc251).1 (pc' := 86) rfl ?_
        refine k_iconst X250 at_86 (w := (1 : Int32)) rfl (pc' := 87) rfl ?_
        refine k_goto X250 at_87 (pc' := 91) (by decide) (by decide) ?_
        refine k_istore X250 at_91 (Ls' := #[.val (.int p0), .val (.int p1), .val (.int p2), .val (.int p3), .val (.int p4), .val (.int ((p0 &&& (2147483647 : Int32)) - ((p0 &&& (2147483647 : Int32)) / (5 : Int32)) * (5 : Int32))), .val (.int c0_210), .val (.int c0_213), .val (.int c0_216), .val (.int c0_219), .val (.ref b236), .val (.int (1 : Int32))]) rfl (pc' := 93) rfl ?_
        refine k_goto X250 at_93 (pc' := 279) (by decide) (by decide) ?_
        refine k_aload X250 at_279 rfl rfl (pc' := 281) rfl ?_
        refine k_callSVF X250 (y := (⟨"com/example/settlegram/settlegram/Positions", "keeps", "(Ljava/lang/String;)Z"⟩ : MethodName)) at_281 (w_29 hw) (w_30 hw) (w_31 hw) (w_32 hw) (by decide) (argsL := [(.ref b236)]) (rest := []) (own_keep l Z a0 hw G n0 h250 X250.old b236 t_243 kt_244 cd_245 zz_246 bs_247 [c0_210] (by simp) (own_cS q211_0 own_c0) q250_0 q250_2 q250_1 q250_3 q250_5) rfl pd_20 rfl rfl (by decide) (W := 0) (Nat.le_of_eq rfl) (by decide) (by decide) (by decide) all0 (pc' := 284) rfl ?_
        rintro _ T254 h254 L254 X254 K254 ⟨rfl, -⟩
        have sz_h254 := K254.1
        have K0_h254 : Keep h0 h254 [] := K0_h250.trans K254 all0
        refine k_iload X254 at_284 rfl (pc' := 286) rfl ?_
        have hk : (own_keeps [c0_210]) = (1 : Int32) := by simp [own_keeps, own_pos, hc251]
        refine k_icmpNo X254 at_286 (teq hk).2 (pc' := 289) rfl ?_
        refine k_iconst X254 at_289 (w := (1 : Int32)) rfl (pc' := 290) rfl ?_
        refine k_goto X254 at_290 (pc' := 294) (by decide) (by decide) ?_
        exact k_retHN X254 (w := (1 : Int32)) at_294 (t := .boolean) rfl (by simp) rfl K0_h254 (fun v' C' => ⟨_, rfl, rfl, trivial⟩) (by decide) (by decide)
    · refine k_icmpYes X220 at_59 (feq hc235).2 (pc' := 96) (by decide) (by decide) ?_
      refine k_iload X220 at_96 rfl (pc' := 98) rfl ?_
      refine k_iconst X220 at_98 (w := (2 : Int32)) rfl (pc' := 99) rfl ?_
      by_cases hc256 : ((p0 &&& (2147483647 : Int32)) - ((p0 &&& (2147483647 : Int32)) / (5 : Int32)) * (5 : Int32)) = (2 : Int32)
      · refine k_icmpNo X220 at_99 (teq hc256).2 (pc' := 102) rfl ?_
        refine k_newO X220 at_102 (w_7 hw) (w_8 hw) (w_9 hw) (by decide) (by decide) (pc' := 105) rfl fun T257 h257 b257 g257 X257 K257 E257 D257 S257 lt257 ge257 => ?_
        have sz_h257 := K257.1
        have K0_h257 : Keep h0 h257 [] := K0_h220.trans K257 all0
        have Fn257_value : Fld Z h257 b257 "java/lang/String" "value" "[B" .null := D257 (Or.inr (w_23 hw)) (ty := (.array .byte)) (by decide)
        have Fn257_coder : Fld Z h257 b257 "java/lang/String" "coder" "B" (.int (0 : Int32)) := D257 (Or.inr (w_24 hw)) (ty := .byte) (by decide)
        refine k_dup X257 at_105 rfl (pc' := 106) rfl ?_
        refine k_iconst X257 at_106 (w := (2 : Int32)) rfl (pc' := 107) rfl ?_
        refine k_newP X257 at_107 (w_10 hw) (by decide) (cap := 2) (by decide) (by decide) (by decide) (by decide) (pc' := 109) rfl fun T258 h258 b258 k258 g258 X258 K258 V258 S258 lt258 ge258 => ?_
        have sz_h258 := K258.1
        have K0_h258 : Keep h0 h258 [] := K0_h257.trans K258 all0
        have V258' : Arv Z h258 b258 k258 .char (2 : Int32) [(.int (0 : Int32)), (.int (0 : Int32))] (.int (0 : Int32)) := Arv.pad V258 (pad_rep [] (.int (0 : Int32)) 2)
        refine k_dup X258 at_109 rfl (pc' := 110) rfl ?_
        refine k_iconst X258 at_110 (w := (0 : Int32)) rfl (pc' := 111) rfl ?_
        refine k_iload X258 at_111 rfl (pc' := 113) rfl ?_
        have ge260 : n0 ≤ b258 := by omega
        refine k_castore X258 (w := c0_210) 0 at_113 V258' (by decide) (by decide) rfl (Nat.le_of_ble_eq_true rfl) (own_i2c_id q211_0.1 q211_0.2) (vs' := [(.int c0_210), (.int (0 : Int32))]) rfl S258 ge260 (pc' := 114) rfl fun T259 h259 L259 X259 K259 V259 => ?_
        have sz_h259 := K259.1
        have K0_h259 : Keep h0 h259 [] := K0_h258.trans K259 (allS (Or.inr (by omega)) all0)
        refine k_dup X259 at_114 rfl (pc' := 115) rfl ?_
        refine k_iconst X259 at_115 (w := (1 : Int32)) rfl (pc' := 116) rfl ?_
        refine k_iload X259 at_116 rfl (pc' := 118) rfl ?_
        have c262 := (X258.sf K259 (allS ⟨S258, ge260⟩ all0) S258)
        have ge263 : n0 ≤ b258 := by omega
        refine k_castore X259 (w := c0_213) 1 at_118 V259 (by decide) (by decide) rfl (Nat.le_of_ble_eq_true rfl) (own_i2c_id q214_0.1 q214_0.2) (vs' := [(.int c0_210), (.int c0_213)]) rfl c262 ge263 (pc' := 119) rfl fun T261 h261 L261 X261 K261 V261 => ?_
        have sz_h261 := K261.1
        have K0_h261 : Keep h0 h261 [] := K0_h259.trans K261 (allS (Or.inr (by omega)) all0)
        have c264 := (((E257.keep K258).keep K259).keep K261)
        have c265 := (((Fn257_value.keep K258 nin0).keep K259 (ninS (own_ne (by omega) : b257 ≠ b258) nin0)).keep K261 (ninS (own_ne (by omega) : b257 ≠ b258) nin0))
        have c266 := (((Fn257_coder.keep K258 nin0).keep K259 (ninS (own_ne (by omega) : b257 ≠ b258) nin0)).keep K261 (ninS (own_ne (by omega) : b257 ≠ b258) nin0))
        have c272 := (X259.sf K261 (allS ⟨c262, ge263⟩ all0) (X258.sf K259 (allS ⟨S258, ge260⟩ all0) (X257.sf K258 all0 S257)))
        have ge273 : n0 ≤ b257 := by omega
        refine k_callPNF X261 (y := (⟨"java/lang/String", "<init>", "([C)V"⟩ : MethodName)) at_119 (w_11 hw) (w_12 hw) (w_9 hw) (w_13 hw) (by decide) rfl rfl (argsL := [(.ref b258)]) (rest := [(.ref b257)]) (own_initS l Z a0 hw G n0 h261 X261.old b257 b258 k258 (2 : Int32) [(.int c0_210), (.int c0_213)] [c0_210, c0_213] rfl rfl (by simp) (by simp) (by omega) c264 c265 c266 V261) rfl pd_19 rfl rfl (by decide) (W := 1) (Nat.le_of_eq rfl) (by decide) (by decide) (by decide) (allS ⟨c272, ge273⟩ all0) (pc' := 122) rfl ?_
        rintro T274 h274 L274 X274 K274 ⟨t_267, kt_268, cd_269, zz_270, bs_271, q274_0, q274_1, q274_2, q274_3, q274_4, q274_5⟩
        have sz_h274 := K274.1
        have K0_h274 : Keep h0 h274 [] := K0_h261.trans K274 (allS (Or.inr (by omega)) all0)
        have lt274_0 := own_n q274_0.lt
        have lt274_1 := own_n q274_1.lt
        have lt274_2 := own_n q274_2.lt
        have lt274_3 := own_n q274_3.lt
        refine k_astore X274 at_122 rfl (Ls' := #[.val (.int p0), .val (.int p1), .val (.int p2), .val (.int p3), .val (.int p4), .val (.int ((p0 &&& (2147483647 : Int32)) - ((p0 &&& (2147483647 : Int32)) / (5 : Int32)) * (5 : Int32))), .val (.int c0_210), .val (.int c0_213), .val (.int c0_216), .val (.int c0_219), .val (.ref b257), .unset]) rfl (pc' := 124) rfl ?_
        refine k_iload X274 at_124 rfl (pc' := 126) rfl ?_
        refine k_bipush X274 at_126 (w := (44 : Int32)) rfl (pc' := 128) rfl ?_
        by_cases hc275 : c0_210 = (44 : Int32)
        · refine k_icmpYes X274 at_128 (teq hc275).1 (pc' := 142) (by decide) (by decide) ?_
          refine k_iconst X274 at_142 (w := (0 : Int32)) rfl (pc' := 143) rfl ?_
          refine k_istore X274 at_143 (Ls' := #[.val (.int p0), .val (.int p1), .val (.int p2), .val (.int p3), .val (.int p4), .val (.int ((p0 &&& (2147483647 : Int32)) - ((p0 &&& (2147483647 : Int32)) / (5 : Int32)) * (5 : Int32))), .val (.int c0_210), .val (.int c0_213), .val (.int c0_216), .val (.int c0_219), .val (.ref b257), .val (.int (0 : Int32))]) rfl (pc' := 145) rfl ?_
          refine k_goto X274 at_145 (pc' := 279) (by decide) (by decide) ?_
          refine k_aload X274 at_279 rfl rfl (pc' := 281) rfl ?_
          refine k_callSVF X274 (y := (⟨"com/example/settlegram/settlegram/Positions", "keeps", "(Ljava/lang/String;)Z"⟩ : MethodName)) at_281 (w_29 hw) (w_30 hw) (w_31 hw) (w_32 hw) (by decide) (argsL := [(.ref b257)]) (rest := []) (own_keep l Z a0 hw G n0 h274 X274.old b257 t_267 kt_268 cd_269 zz_270 bs_271 [c0_210, c0_213] (by simp) (own_cS q211_0 (own_cS q214_0 own_c0)) q274_0 q274_2 q274_1 q274_3 q274_5) rfl pd_20 rfl rfl (by decide) (W := 0) (Nat.le_of_eq rfl) (by decide) (by decide) (by decide) all0 (pc' := 284) rfl ?_
          rintro _ T276 h276 L276 X276 K276 ⟨rfl, -⟩
          have sz_h276 := K276.1
          have K0_h276 : Keep h0 h276 [] := K0_h274.trans K276 all0
          refine k_iload X276 at_284 rfl (pc' := 286) rfl ?_
          have hk : (own_keeps [c0_210, c0_213]) = (0 : Int32) := by simp [own_keeps, own_pos, hc275]
          refine k_icmpNo X276 at_286 (teq hk).2 (pc' := 289) rfl ?_
          refine k_iconst X276 at_289 (w := (1 : Int32)) rfl (pc' := 290) rfl ?_
          refine k_goto X276 at_290 (pc' := 294) (by decide) (by decide) ?_
          exact k_retHN X276 (w := (1 : Int32)) at_294 (t := .boolean) rfl (by simp) rfl K0_h276 (fun v' C' => ⟨_, rfl, rfl, trivial⟩) (by decide) (by decide)
        · refine k_icmpNo X274 at_128 (feq hc275).1 (pc' := 131) rfl ?_
          refine k_iload X274 at_131 rfl (pc' := 133) rfl ?_
          refine k_bipush X274 at_133 (w := (44 : Int32)) rfl (pc' := 135) rfl ?_
          by_cases hc278 : c0_213 = (44 : Int32)
          · refine k_icmpYes X274 at_135 (teq hc278).1 (pc' := 142) (by decide) (by decide) ?_
            refine k_iconst X274 at_142 (w := (0 : Int32)) rfl (pc' := 143) rfl ?_
            refine k_istore X274 at_143 (Ls' := #[.val (.int p0), .val (.int p1), .val (.int p2), .val (.int p3), .val (.int p4), .val (.int ((p0 &&& (2147483647 : Int32)) - ((p0 &&& (2147483647 : Int32)) / (5 : Int32)) * (5 : Int32))), .val (.int c0_210), .val (.int c0_213), .val (.int c0_216), .val (.int c0_219), .val (.ref b257), .val (.int (0 : Int32))]) rfl (pc' := 145) rfl ?_
            refine k_goto X274 at_145 (pc' := 279) (by decide) (by decide) ?_
            refine k_aload X274 at_279 rfl rfl (pc' := 281) rfl ?_
            refine k_callSVF X274 (y := (⟨"com/example/settlegram/settlegram/Positions", "keeps", "(Ljava/lang/String;)Z"⟩ : MethodName)) at_281 (w_29 hw) (w_30 hw) (w_31 hw) (w_32 hw) (by decide) (argsL := [(.ref b257)]) (rest := []) (own_keep l Z a0 hw G n0 h274 X274.old b257 t_267 kt_268 cd_269 zz_270 bs_271 [c0_210, c0_213] (by simp) (own_cS q211_0 (own_cS q214_0 own_c0)) q274_0 q274_2 q274_1 q274_3 q274_5) rfl pd_20 rfl rfl (by decide) (W := 0) (Nat.le_of_eq rfl) (by decide) (by decide) (by decide) all0 (pc' := 284) rfl ?_
            rintro _ T279 h279 L279 X279 K279 ⟨rfl, -⟩
            have sz_h279 := K279.1
            have K0_h279 : Keep h0 h279 [] := K0_h274.trans K279 all0
            refine k_iload X279 at_284 rfl (pc' := 286) rfl ?_
            have hk : (own_keeps [c0_210, c0_213]) = (0 : Int32) := by simp [own_keeps, own_pos, hc275, hc278]
            refine k_icmpNo X279 at_286 (teq hk).2 (pc' := 289) rfl ?_
            refine k_iconst X279 at_289 (w := (1 : Int32)) rfl (pc' := 290) rfl ?_
            refine k_goto X279 at_290 (pc' := 294) (by decide) (by decide) ?_
            exact k_retHN X279 (w := (1 : Int32)) at_294 (t := .boolean) rfl (by simp) rfl K0_h279 (fun v' C' => ⟨_, rfl, rfl, trivial⟩) (by decide) (by decide)
          · refine k_icmpNo X274 at_135 (feq hc278).1 (pc' := 138) rfl ?_
            refine k_iconst X274 at_138 (w := (1 : Int32)) rfl (pc' := 139) rfl ?_
            refine k_goto X274 at_139 (pc' := 143) (by decide) (by decide) ?_
            refine k_istore X274 at_143 (Ls' := #[.val (.int p0), .val (.int p1), .val (.int p2), .val (.int p3), .val (.int p4), .val (.int ((p0 &&& (2147483647 : Int32)) - ((p0 &&& (2147483647 : Int32)) / (5 : Int32)) * (5 : Int32))), .val (.int c0_210), .val (.int c0_213), .val (.int c0_216), .val (.int c0_219), .val (.ref b257), .val (.int (1 : Int32))]) rfl (pc' := 145) rfl ?_
            refine k_goto X274 at_145 (pc' := 279) (by decide) (by decide) ?_
            refine k_aload X274 at_279 rfl rfl (pc' := 281) rfl ?_
            refine k_callSVF X274 (y := (⟨"com/example/settlegram/settlegram/Positions", "keeps", "(Ljava/lang/String;)Z"⟩ : MethodName)) at_281 (w_29 hw) (w_30 hw) (w_31 hw) (w_32 hw) (by decide) (argsL := [(.ref b257)]) (rest := []) (own_keep l Z a0 hw G n0 h274 X274.old b257 t_267 kt_268 cd_269 zz_270 bs_271 [c0_210, c0_213] (by simp) (own_cS q211_0 (own_cS q214_0 own_c0)) q274_0 q274_2 q274_1 q274_3 q274_5) rfl pd_20 rfl rfl (by decide) (W := 0) (Nat.le_of_eq rfl) (by decide) (by decide) (by decide) all0 (pc' := 284) rfl ?_
            rintro _ T281 h281 L281 X281 K281 ⟨rfl, -⟩
            have sz_h281 := K281.1
            have K0_h281 : Keep h0 h281 [] := K0_h274.trans K281 all0
            refine k_iload X281 at_284 rfl (pc' := 286) rfl ?_
            have hk : (own_keeps [c0_210, c0_213]) = (1 : Int32) := by simp [own_keeps, own_pos, hc275, hc278]
            refine k_icmpNo X281 at_286 (teq hk).2 (pc' := 289) rfl ?_
            refine k_iconst X281 at_289 (w := (1 : Int32)) rfl (pc' := 290) rfl ?_
            refine k_goto X281 at_290 (pc' := 294) (by decide) (by decide) ?_
            exact k_retHN X281 (w := (1 : Int32)) at_294 (t := .boolean) rfl (by simp) rfl K0_h281 (fun v' C' => ⟨_, rfl, rfl, trivial⟩) (by decide) (by decide)
      · refine k_icmpYes X220 at_99 (feq hc256).2 (pc' := 148) (by decide) (by decide) ?_
        refine k_iload X220 at_148 rfl (pc' := 150) rfl ?_
        refine k_iconst X220 at_150 (w := (3 : Int32)) rfl (pc' := 151) rfl ?_
        by_cases hc283 : ((p0 &&& (2147483647 : Int32)) - ((p0 &&& (2147483647 : Int32)) / (5 : Int32)) * (5 : Int32)) = (3 : Int32)
        · refine k_icmpNo X220 at_151 (teq hc283).2 (pc' := 154) rfl ?_
          refine k_newO X220 at_154 (w_7 hw) (w_8 hw) (w_9 hw) (by decide) (by decide) (pc' := 157) rfl fun T284 h284 b284 g284 X284 K284 E284 D284 S284 lt284 ge284 => ?_
          have sz_h284 := K284.1
          have K0_h284 : Keep h0 h284 [] := K0_h220.trans K284 all0
          have Fn284_value : Fld Z h284 b284 "java/lang/String" "value" "[B" .null := D284 (Or.inr (w_23 hw)) (ty := (.array .byte)) (by decide)
          have Fn284_coder : Fld Z h284 b284 "java/lang/String" "coder" "B" (.int (0 : Int32)) := D284 (Or.inr (w_24 hw)) (ty := .byte) (by decide)
          refine k_dup X284 at_157 rfl (pc' := 158) rfl ?_
          refine k_iconst X284 at_158 (w := (3 : Int32)) rfl (pc' := 159) rfl ?_
          refine k_newP X284 at_159 (w_10 hw) (by decide) (cap := 3) (by decide) (by decide) (by decide) (by decide) (pc' := 161) rfl fun T285 h285 b285 k285 g285 X285 K285 V285 S285 lt285 ge285 => ?_
          have sz_h285 := K285.1
          have K0_h285 : Keep h0 h285 [] := K0_h284.trans K285 all0
          have V285' : Arv Z h285 b285 k285 .char (3 : Int32) [(.int (0 : Int32)), (.int (0 : Int32)), (.int (0 : Int32))] (.int (0 : Int32)) := Arv.pad V285 (pad_rep [] (.int (0 : Int32)) 3)
          refine k_dup X285 at_161 rfl (pc' := 162) rfl ?_
          refine k_iconst X285 at_162 (w := (0 : Int32)) rfl (pc' := 163) rfl ?_
          refine k_iload X285 at_163 rfl (pc' := 165) rfl ?_
          have ge287 : n0 ≤ b285 := by omega
          refine k_castore X285 (w := c0_210) 0 at_165 V285' (by decide) (by decide) rfl (Nat.le_of_ble_eq_true rfl) (own_i2c_id q211_0.1 q211_0.2) (vs' := [(.int c0_210), (.int (0 : Int32)), (.int (0 : Int32))]) rfl S285 ge287 (pc' := 166) rfl fun T286 h286 L286 X286 K286 V286 => ?_
          have sz_h286 := K286.1
          have K0_h286 : Keep h0 h286 [] := K0_h285.trans K286 (allS (Or.inr (by omega)) all0)
          refine k_dup X286 at_166 rfl (pc' := 167) rfl ?_
          refine k_iconst X286 at_167 (w := (1 : Int32)) rfl (pc' := 168) rfl ?_
          refine k_iload X286 at_168 rfl (pc' := 170) rfl ?_
          have c289 := (X285.sf K286 (allS ⟨S285, ge287⟩ all0) S285)
          have ge290 : n0 ≤ b285 := by omega
          refine k_castore X286 (w := c0_213) 1 at_170 V286 (by decide) (by decide) rfl (Nat.le_of_ble_eq_true rfl) (own_i2c_id q214_0.1 q214_0.2) (vs' := [(.int c0_210), (.int c0_213), (.int (0 : Int32))]) rfl c289 ge290 (pc' := 171) rfl fun T288 h288 L288 X288 K288 V288 => ?_
          have sz_h288 := K288.1
          have K0_h288 : Keep h0 h288 [] := K0_h286.trans K288 (allS (Or.inr (by omega)) all0)
          refine k_dup X288 at_171 rfl (pc' := 172) rfl ?_
          refine k_iconst X288 at_172 (w := (2 : Int32)) rfl (pc' := 173) rfl ?_
          refine k_iload X288 at_173 rfl (pc' := 175) rfl ?_
          have c292 := (X286.sf K288 (allS ⟨c289, ge290⟩ all0) c289)
          have ge293 : n0 ≤ b285 := by omega
          refine k_castore X288 (w := c0_216) 2 at_175 V288 (by decide) (by decide) rfl (Nat.le_of_ble_eq_true rfl) (own_i2c_id q217_0.1 q217_0.2) (vs' := [(.int c0_210), (.int c0_213), (.int c0_216)]) rfl c292 ge293 (pc' := 176) rfl fun T291 h291 L291 X291 K291 V291 => ?_
          have sz_h291 := K291.1
          have K0_h291 : Keep h0 h291 [] := K0_h288.trans K291 (allS (Or.inr (by omega)) all0)
          have c294 := ((((E284.keep K285).keep K286).keep K288).keep K291)
          have c295 := ((((Fn284_value.keep K285 nin0).keep K286 (ninS (own_ne (by omega) : b284 ≠ b285) nin0)).keep K288 (ninS (own_ne (by omega) : b284 ≠ b285) nin0)).keep K291 (ninS (own_ne (by omega) : b284 ≠ b285) nin0))
          have c296 := ((((Fn284_coder.keep K285 nin0).keep K286 (ninS (own_ne (by omega) : b284 ≠ b285) nin0)).keep K288 (ninS (own_ne (by omega) : b284 ≠ b285) nin0)).keep K291 (ninS (own_ne (by omega) : b284 ≠ b285) nin0))
          have c302 := (X288.sf K291 (allS ⟨c292, ge293⟩ all0) (X286.sf K288 (allS ⟨c289, ge290⟩ all0) (X285.sf K286 (allS ⟨S285, ge287⟩ all0) (X284.sf K285 all0 S284))))
          have ge303 : n0 ≤ b284 := by omega
          refine k_callPNF X291 (y := (⟨"java/lang/String", "<init>", "([C)V"⟩ : MethodName)) at_176 (w_11 hw) (w_12 hw) (w_9 hw) (w_13 hw) (by decide) rfl rfl (argsL := [(.ref b285)]) (rest := [(.ref b284)]) (own_initS l Z a0 hw G n0 h291 X291.old b284 b285 k285 (3 : Int32) [(.int c0_210), (.int c0_213), (.int c0_216)] [c0_210, c0_213, c0_216] rfl rfl (by simp) (by simp) (by omega) c294 c295 c296 V291) rfl pd_19 rfl rfl (by decide) (W := 1) (Nat.le_of_eq rfl) (by decide) (by decide) (by decide) (allS ⟨c302, ge303⟩ all0) (pc' := 179) rfl ?_
          rintro T304 h304 L304 X304 K304 ⟨t_297, kt_298, cd_299, zz_300, bs_301, q304_0, q304_1, q304_2, q304_3, q304_4, q304_5⟩
          have sz_h304 := K304.1
          have K0_h304 : Keep h0 h304 [] := K0_h291.trans K304 (allS (Or.inr (by omega)) all0)
          have lt304_0 := own_n q304_0.lt
          have lt304_1 := own_n q304_1.lt
          have lt304_2 := own_n q304_2.lt
          have lt304_3 := own_n q304_3.lt
          refine k_astore X304 at_179 rfl (Ls' := #[.val (.int p0), .val (.int p1), .val (.int p2), .val (.int p3), .val (.int p4), .val (.int ((p0 &&& (2147483647 : Int32)) - ((p0 &&& (2147483647 : Int32)) / (5 : Int32)) * (5 : Int32))), .val (.int c0_210), .val (.int c0_213), .val (.int c0_216), .val (.int c0_219), .val (.ref b284), .unset]) rfl (pc' := 181) rfl ?_
          refine k_iload X304 at_181 rfl (pc' := 183) rfl ?_
          refine k_bipush X304 at_183 (w := (44 : Int32)) rfl (pc' := 185) rfl ?_
          by_cases hc305 : c0_210 = (44 : Int32)
          · refine k_icmpYes X304 at_185 (teq hc305).1 (pc' := 206) (by decide) (by decide) ?_
            refine k_iconst X304 at_206 (w := (0 : Int32)) rfl (pc' := 207) rfl ?_
            refine k_istore X304 at_207 (Ls' := #[.val (.int p0), .val (.int p1), .val (.int p2), .val (.int p3), .val (.int p4), .val (.int ((p0 &&& (2147483647 : Int32)) - ((p0 &&& (2147483647 : Int32)) / (5 : Int32)) * (5 : Int32))), .val (.int c0_210), .val (.int c0_213), .val (.int c0_216), .val (.int c0_219), .val (.ref b284), .val (.int (0 : Int32))]) rfl (pc' := 209) rfl ?_
            refine k_goto X304 at_209 (pc' := 279) (by decide) (by decide) ?_
            refine k_aload X304 at_279 rfl rfl (pc' := 281) rfl ?_
            refine k_callSVF X304 (y := (⟨"com/example/settlegram/settlegram/Positions", "keeps", "(Ljava/lang/String;)Z"⟩ : MethodName)) at_281 (w_29 hw) (w_30 hw) (w_31 hw) (w_32 hw) (by decide) (argsL := [(.ref b284)]) (rest := []) (own_keep l Z a0 hw G n0 h304 X304.old b284 t_297 kt_298 cd_299 zz_300 bs_301 [c0_210, c0_213, c0_216] (by simp) (own_cS q211_0 (own_cS q214_0 (own_cS q217_0 own_c0))) q304_0 q304_2 q304_1 q304_3 q304_5) rfl pd_20 rfl rfl (by decide) (W := 0) (Nat.le_of_eq rfl) (by decide) (by decide) (by decide) all0 (pc' := 284) rfl ?_
            rintro _ T306 h306 L306 X306 K306 ⟨rfl, -⟩
            have sz_h306 := K306.1
            have K0_h306 : Keep h0 h306 [] := K0_h304.trans K306 all0
            refine k_iload X306 at_284 rfl (pc' := 286) rfl ?_
            have hk : (own_keeps [c0_210, c0_213, c0_216]) = (0 : Int32) := by simp [own_keeps, own_pos, hc305]
            refine k_icmpNo X306 at_286 (teq hk).2 (pc' := 289) rfl ?_
            refine k_iconst X306 at_289 (w := (1 : Int32)) rfl (pc' := 290) rfl ?_
            refine k_goto X306 at_290 (pc' := 294) (by decide) (by decide) ?_
            exact k_retHN X306 (w := (1 : Int32)) at_294 (t := .boolean) rfl (by simp) rfl K0_h306 (fun v' C' => ⟨_, rfl, rfl, trivial⟩) (by decide) (by decide)
          · refine k_icmpNo X304 at_185 (feq hc305).1 (pc' := 188) rfl ?_
            refine k_iload X304 at_188 rfl (pc' := 190) rfl ?_
            refine k_bipush X304 at_190 (w := (44 : Int32)) rfl (pc' := 192) rfl ?_
            by_cases hc308 : c0_213 = (44 : Int32)
            · refine k_icmpYes X304 at_192 (teq hc308).1 (pc' := 206) (by decide) (by decide) ?_
              refine k_iconst X304 at_206 (w := (0 : Int32)) rfl (pc' := 207) rfl ?_
              refine k_istore X304 at_207 (Ls' := #[.val (.int p0), .val (.int p1), .val (.int p2), .val (.int p3), .val (.int p4), .val (.int ((p0 &&& (2147483647 : Int32)) - ((p0 &&& (2147483647 : Int32)) / (5 : Int32)) * (5 : Int32))), .val (.int c0_210), .val (.int c0_213), .val (.int c0_216), .val (.int c0_219), .val (.ref b284), .val (.int (0 : Int32))]) rfl (pc' := 209) rfl ?_
              refine k_goto X304 at_209 (pc' := 279) (by decide) (by decide) ?_
              refine k_aload X304 at_279 rfl rfl (pc' := 281) rfl ?_
              refine k_callSVF X304 (y := (⟨"com/example/settlegram/settlegram/Positions", "keeps", "(Ljava/lang/String;)Z"⟩ : MethodName)) at_281 (w_29 hw) (w_30 hw) (w_31 hw) (w_32 hw) (by decide) (argsL := [(.ref b284)]) (rest := []) (own_keep l Z a0 hw G n0 h304 X304.old b284 t_297 kt_298 cd_299 zz_300 bs_301 [c0_210, c0_213, c0_216] (by simp) (own_cS q211_0 (own_cS q214_0 (own_cS q217_0 own_c0))) q304_0 q304_2 q304_1 q304_3 q304_5) rfl pd_20 rfl rfl (by decide) (W := 0) (Nat.le_of_eq rfl) (by decide) (by decide) (by decide) all0 (pc' := 284) rfl ?_
              rintro _ T309 h309 L309 X309 K309 ⟨rfl, -⟩
              have sz_h309 := K309.1
              have K0_h309 : Keep h0 h309 [] := K0_h304.trans K309 all0
              refine k_iload X309 at_284 rfl (pc' := 286) rfl ?_
              have hk : (own_keeps [c0_210, c0_213, c0_216]) = (0 : Int32) := by simp [own_keeps, own_pos, hc305, hc308]
              refine k_icmpNo X309 at_286 (teq hk).2 (pc' := 289) rfl ?_
              refine k_iconst X309 at_289 (w := (1 : Int32)) rfl (pc' := 290) rfl ?_
              refine k_goto X309 at_290 (pc' := 294) (by decide) (by decide) ?_
              exact k_retHN X309 (w := (1 : Int32)) at_294 (t := .boolean) rfl (by simp) rfl K0_h309 (fun v' C' => ⟨_, rfl, rfl, trivial⟩) (by decide) (by decide)
            · refine k_icmpNo X304 at_192 (feq hc308).1 (pc' := 195) rfl ?_
              refine k_iload X304 at_195 rfl (pc' := 197) rfl ?_
              refine k_bipush X304 at_197 (w := (44 : Int32)) rfl (pc' := 199) rfl ?_
              by_cases hc311 : c0_216 = (44 : Int32)
              · refine k_icmpYes X304 at_199 (teq hc311).1 (pc' := 206) (by decide) (by decide) ?_
                refine k_iconst X304 at_206 (w := (0 : Int32)) rfl (pc' := 207) rfl ?_
                refine k_istore X304 at_207 (Ls' := #[.val (.int p0), .val (.int p1), .val (.int p2), .val (.int p3), .val (.int p4), .val (.int ((p0 &&& (2147483647 : Int32)) - ((p0 &&& (2147483647 : Int32)) / (5 : Int32)) * (5 : Int32))), .val (.int c0_210), .val (.int c0_213), .val (.int c0_216), .val (.int c0_219), .val (.ref b284), .val (.int (0 : Int32))]) rfl (pc' := 209) rfl ?_
                refine k_goto X304 at_209 (pc' := 279) (by decide) (by decide) ?_
                refine k_aload X304 at_279 rfl rfl (pc' := 281) rfl ?_
                refine k_callSVF X304 (y := (⟨"com/example/settlegram/settlegram/Positions", "keeps", "(Ljava/lang/String;)Z"⟩ : MethodName)) at_281 (w_29 hw) (w_30 hw) (w_31 hw) (w_32 hw) (by decide) (argsL := [(.ref b284)]) (rest := []) (own_keep l Z a0 hw G n0 h304 X304.old b284 t_297 kt_298 cd_299 zz_300 bs_301 [c0_210, c0_213, c0_216] (by simp) (own_cS q211_0 (own_cS q214_0 (own_cS q217_0 own_c0))) q304_0 q304_2 q304_1 q304_3 q304_5) rfl pd_20 rfl rfl (by decide) (W := 0) (Nat.le_of_eq rfl) (by decide) (by decide) (by decide) all0 (pc' := 284) rfl ?_
                rintro _ T312 h312 L312 X312 K312 ⟨rfl, -⟩
                have sz_h312 := K312.1
                have K0_h312 : Keep h0 h312 [] := K0_h304.trans K312 all0
                refine k_iload X312 at_284 rfl (pc' := 286) rfl ?_
                have hk : (own_keeps [c0_210, c0_213, c0_216]) = (0 : Int32) := by simp [own_keeps, own_pos, hc305, hc308, hc311]
                refine k_icmpNo X312 at_286 (teq hk).2 (pc' := 289) rfl ?_
                refine k_iconst X312 at_289 (w := (1 : Int32)) rfl (pc' := 290) rfl ?_
                refine k_goto X312 at_290 (pc' := 294) (by decide) (by decide) ?_
                exact k_retHN X312 (w := (1 : Int32)) at_294 (t := .boolean) rfl (by simp) rfl K0_h312 (fun v' C' => ⟨_, rfl, rfl, trivial⟩) (by decide) (by decide)
              · refine k_icmpNo X304 at_199 (feq hc311).1 (pc' := 202) rfl ?_
                refine k_iconst X304 at_202 (w := (1 : Int32)) rfl (pc' := 203) rfl ?_
                refine k_goto X304 at_203 (pc' := 207) (by decide) (by decide) ?_
                refine k_istore X304 at_207 (Ls' := #[.val (.int p0), .val (.int p1), .val (.int p2), .val (.int p3), .val (.int p4), .val (.int ((p0 &&& (2147483647 : Int32)) - ((p0 &&& (2147483647 : Int32)) / (5 : Int32)) * (5 : Int32))), .val (.int c0_210), .val (.int c0_213), .val (.int c0_216), .val (.int c0_219), .val (.ref b284), .val (.int (1 : Int32))]) rfl (pc' := 209) rfl ?_
                refine k_goto X304 at_209 (pc' := 279) (by decide) (by decide) ?_
                refine k_aload X304 at_279 rfl rfl (pc' := 281) rfl ?_
                refine k_callSVF X304 (y := (⟨"com/example/settlegram/settlegram/Positions", "keeps", "(Ljava/lang/String;)Z"⟩ : MethodName)) at_281 (w_29 hw) (w_30 hw) (w_31 hw) (w_32 hw) (by decide) (argsL := [(.ref b284)]) (rest := []) (own_keep l Z a0 hw G n0 h304 X304.old b284 t_297 kt_298 cd_299 zz_300 bs_301 [c0_210, c0_213, c0_216] (by simp) (own_cS q211_0 (own_cS q214_0 (own_cS q217_0 own_c0))) q304_0 q304_2 q304_1 q304_3 q304_5) rfl pd_20 rfl rfl (by decide) (W := 0) (Nat.le_of_eq rfl) (by decide) (by decide) (by decide) all0 (pc' := 284) rfl ?_
                rintro _ T314 h314 L314 X314 K314 ⟨rfl, -⟩
                have sz_h314 := K314.1
                have K0_h314 : Keep h0 h314 [] := K0_h304.trans K314 all0
                refine k_iload X314 at_284 rfl (pc' := 286) rfl ?_
                have hk : (own_keeps [c0_210, c0_213, c0_216]) = (1 : Int32) := by simp [own_keeps, own_pos, hc305, hc308, hc311]
                refine k_icmpNo X314 at_286 (teq hk).2 (pc' := 289) rfl ?_
                refine k_iconst X314 at_289 (w := (1 : Int32)) rfl (pc' := 290) rfl ?_
                refine k_goto X314 at_290 (pc' := 294) (by decide) (by decide) ?_
                exact k_retHN X314 (w := (1 : Int32)) at_294 (t := .boolean) rfl (by simp) rfl K0_h314 (fun v' C' => ⟨_, rfl, rfl, trivial⟩) (by decide) (by decide)
        · refine k_icmpYes X220 at_151 (feq hc283).2 (pc' := 212) (by decide) (by decide) ?_
          refine k_newO X220 at_212 (w_7 hw) (w_8 hw) (w_9 hw) (by decide) (by decide) (pc' := 215) rfl fun T316 h316 b316 g316 X316 K316 E316 D316 S316 lt316 ge316 => ?_
          have sz_h316 := K316.1
          have K0_h316 : Keep h0 h316 [] := K0_h220.trans K316 all0
          have Fn316_value : Fld Z h316 b316 "java/lang/String" "value" "[B" .null := D316 (Or.inr (w_23 hw)) (ty := (.array .byte)) (by decide)
          have Fn316_coder : Fld Z h316 b316 "java/lang/String" "coder" "B" (.int (0 : Int32)) := D316 (Or.inr (w_24 hw)) (ty := .byte) (by decide)
          refine k_dup X316 at_215 rfl (pc' := 216) rfl ?_
          refine k_iconst X316 at_216 (w := (4 : Int32)) rfl (pc' := 217) rfl ?_
          refine k_newP X316 at_217 (w_10 hw) (by decide) (cap := 4) (by decide) (by decide) (by decide) (by decide) (pc' := 219) rfl fun T317 h317 b317 k317 g317 X317 K317 V317 S317 lt317 ge317 => ?_
          have sz_h317 := K317.1
          have K0_h317 : Keep h0 h317 [] := K0_h316.trans K317 all0
          have V317' : Arv Z h317 b317 k317 .char (4 : Int32) [(.int (0 : Int32)), (.int (0 : Int32)), (.int (0 : Int32)), (.int (0 : Int32))] (.int (0 : Int32)) := Arv.pad V317 (pad_rep [] (.int (0 : Int32)) 4)
          refine k_dup X317 at_219 rfl (pc' := 220) rfl ?_
          refine k_iconst X317 at_220 (w := (0 : Int32)) rfl (pc' := 221) rfl ?_
          refine k_iload X317 at_221 rfl (pc' := 223) rfl ?_
          have ge319 : n0 ≤ b317 := by omega
          refine k_castore X317 (w := c0_210) 0 at_223 V317' (by decide) (by decide) rfl (Nat.le_of_ble_eq_true rfl) (own_i2c_id q211_0.1 q211_0.2) (vs' := [(.int c0_210), (.int (0 : Int32)), (.int (0 : Int32)), (.int (0 : Int32))]) rfl S317 ge319 (pc' := 224) rfl fun T318 h318 L318 X318 K318 V318 => ?_
          have sz_h318 := K318.1
          have K0_h318 : Keep h0 h318 [] := K0_h317.trans K318 (allS (Or.inr (by omega)) all0)
          refine k_dup X318 at_224 rfl (pc' := 225) rfl ?_
          refine k_iconst X318 at_225 (w := (1 : Int32)) rfl (pc' := 226) rfl ?_
          refine k_iload X318 at_226 rfl (pc' := 228) rfl ?_
          have c321 := (X317.sf K318 (allS ⟨S317, ge319⟩ all0) S317)
          have ge322 : n0 ≤ b317 := by omega
          refine k_castore X318 (w := c0_213) 1 at_228 V318 (by decide) (by decide) rfl (Nat.le_of_ble_eq_true rfl) (own_i2c_id q214_0.1 q214_0.2) (vs' := [(.int c0_210), (.int c0_213), (.int (0 : Int32)), (.int (0 : Int32))]) rfl c321 ge322 (pc' := 229) rfl fun T320 h320 L320 X320 K320 V320 => ?_
          have sz_h320 := K320.1
          have K0_h320 : Keep h0 h320 [] := K0_h318.trans K320 (allS (Or.inr (by omega)) all0)
          refine k_dup X320 at_229 rfl (pc' := 230) rfl ?_
          refine k_iconst X320 at_230 (w := (2 : Int32)) rfl (pc' := 231) rfl ?_
          refine k_iload X320 at_231 rfl (pc' := 233) rfl ?_
          have c324 := (X318.sf K320 (allS ⟨c321, ge322⟩ all0) c321)
          have ge325 : n0 ≤ b317 := by omega
          refine k_castore X320 (w := c0_216) 2 at_233 V320 (by decide) (by decide) rfl (Nat.le_of_ble_eq_true rfl) (own_i2c_id q217_0.1 q217_0.2) (vs' := [(.int c0_210), (.int c0_213), (.int c0_216), (.int (0 : Int32))]) rfl c324 ge325 (pc' := 234) rfl fun T323 h323 L323 X323 K323 V323 => ?_
          have sz_h323 := K323.1
          have K0_h323 : Keep h0 h323 [] := K0_h320.trans K323 (allS (Or.inr (by omega)) all0)
          refine k_dup X323 at_234 rfl (pc' := 235) rfl ?_
          refine k_iconst X323 at_235 (w := (3 : Int32)) rfl (pc' := 236) rfl ?_
          refine k_iload X323 at_236 rfl (pc' := 238) rfl ?_
          have c327 := (X320.sf K323 (allS ⟨c324, ge325⟩ all0) c324)
          have ge328 : n0 ≤ b317 := by omega
          refine k_castore X323 (w := c0_219) 3 at_238 V323 (by decide) (by decide) rfl (Nat.le_of_ble_eq_true rfl) (own_i2c_id q220_0.1 q220_0.2) (vs' := [(.int c0_210), (.int c0_213), (.int c0_216), (.int c0_219)]) rfl c327 ge328 (pc' := 239) rfl fun T326 h326 L326 X326 K326 V326 => ?_
          have sz_h326 := K326.1
          have K0_h326 : Keep h0 h326 [] := K0_h323.trans K326 (allS (Or.inr (by omega)) all0)
          have c329 := (((((E316.keep K317).keep K318).keep K320).keep K323).keep K326)
          have c330 := (((((Fn316_value.keep K317 nin0).keep K318 (ninS (own_ne (by omega) : b316 ≠ b317) nin0)).keep K320 (ninS (own_ne (by omega) : b316 ≠ b317) nin0)).keep K323 (ninS (own_ne (by omega) : b316 ≠ b317) nin0)).keep K326 (ninS (own_ne (by omega) : b316 ≠ b317) nin0))
          have c331 := (((((Fn316_coder.keep K317 nin0).keep K318 (ninS (own_ne (by omega) : b316 ≠ b317) nin0)).keep K320 (ninS (own_ne (by omega) : b316 ≠ b317) nin0)).keep K323 (ninS (own_ne (by omega) : b316 ≠ b317) nin0)).keep K326 (ninS (own_ne (by omega) : b316 ≠ b317) nin0))
          have c337 := (X323.sf K326 (allS ⟨c327, ge328⟩ all0) (X320.sf K323 (allS ⟨c324, ge325⟩ all0) (X318.sf K320 (allS ⟨c321, ge322⟩ all0) (X317.sf K318 (allS ⟨S317, ge319⟩ all0) (X316.sf K317 all0 S316)))))
          have ge338 : n0 ≤ b316 := by omega
          refine k_callPNF X326 (y := (⟨"java/lang/String", "<init>", "([C)V"⟩ : MethodName)) at_239 (w_11 hw) (w_12 hw) (w_9 hw) (w_13 hw) (by decide) rfl rfl (argsL := [(.ref b317)]) (rest := [(.ref b316)]) (own_initS l Z a0 hw G n0 h326 X326.old b316 b317 k317 (4 : Int32) [(.int c0_210), (.int c0_213), (.int c0_216), (.int c0_219)] [c0_210, c0_213, c0_216, c0_219] rfl rfl (by simp) (by simp) (by omega) c329 c330 c331 V326) rfl pd_19 rfl rfl (by decide) (W := 1) (Nat.le_of_eq rfl) (by decide) (by decide) (by decide) (allS ⟨c337, ge338⟩ all0) (pc' := 242) rfl ?_
          rintro T339 h339 L339 X339 K339 ⟨t_332, kt_333, cd_334, zz_335, bs_336, q339_0, q339_1, q339_2, q339_3, q339_4, q339_5⟩
          have sz_h339 := K339.1
          have K0_h339 : Keep h0 h339 [] := K0_h326.trans K339 (allS (Or.inr (by omega)) all0)
          have lt339_0 := own_n q339_0.lt
          have lt339_1 := own_n q339_1.lt
          have lt339_2 := own_n q339_2.lt
          have lt339_3 := own_n q339_3.lt
          refine k_astore X339 at_242 rfl (Ls' := #[.val (.int p0), .val (.int p1), .val (.int p2), .val (.int p3), .val (.int p4), .val (.int ((p0 &&& (2147483647 : Int32)) - ((p0 &&& (2147483647 : Int32)) / (5 : Int32)) * (5 : Int32))), .val (.int c0_210), .val (.int c0_213), .val (.int c0_216), .val (.int c0_219), .val (.ref b316), .unset]) rfl (pc' := 244) rfl ?_
          refine k_iload X339 at_244 rfl (pc' := 246) rfl ?_
          refine k_bipush X339 at_246 (w := (44 : Int32)) rfl (pc' := 248) rfl ?_
          by_cases hc340 : c0_210 = (44 : Int32)
          · refine k_icmpYes X339 at_248 (teq hc340).1 (pc' := 276) (by decide) (by decide) ?_
            refine k_iconst X339 at_276 (w := (0 : Int32)) rfl (pc' := 277) rfl ?_
            refine k_istore X339 at_277 (Ls' := #[.val (.int p0), .val (.int p1), .val (.int p2), .val (.int p3), .val (.int p4), .val (.int ((p0 &&& (2147483647 : Int32)) - ((p0 &&& (2147483647 : Int32)) / (5 : Int32)) * (5 : Int32))), .val (.int c0_210), .val (.int c0_213), .val (.int c0_216), .val (.int c0_219), .val (.ref b316), .val (.int (0 : Int32))]) rfl (pc' := 279) rfl ?_
            refine k_aload X339 at_279 rfl rfl (pc' := 281) rfl ?_
            refine k_callSVF X339 (y := (⟨"com/example/settlegram/settlegram/Positions", "keeps", "(Ljava/lang/String;)Z"⟩ : MethodName)) at_281 (w_29 hw) (w_30 hw) (w_31 hw) (w_32 hw) (by decide) (argsL := [(.ref b316)]) (rest := []) (own_keep l Z a0 hw G n0 h339 X339.old b316 t_332 kt_333 cd_334 zz_335 bs_336 [c0_210, c0_213, c0_216, c0_219] (by simp) (own_cS q211_0 (own_cS q214_0 (own_cS q217_0 (own_cS q220_0 own_c0)))) q339_0 q339_2 q339_1 q339_3 q339_5) rfl pd_20 rfl rfl (by decide) (W := 0) (Nat.le_of_eq rfl) (by decide) (by decide) (by decide) all0 (pc' := 284) rfl ?_
            rintro _ T341 h341 L341 X341 K341 ⟨rfl, -⟩
            have sz_h341 := K341.1
            have K0_h341 : Keep h0 h341 [] := K0_h339.trans K341 all0
            refine k_iload X341 at_284 rfl (pc' := 286) rfl ?_
            have hk : (own_keeps [c0_210, c0_213, c0_216, c0_219]) = (0 : Int32) := by simp [own_keeps, own_pos, hc340]
            refine k_icmpNo X341 at_286 (teq hk).2 (pc' := 289) rfl ?_
            refine k_iconst X341 at_289 (w := (1 : Int32)) rfl (pc' := 290) rfl ?_
            refine k_goto X341 at_290 (pc' := 294) (by decide) (by decide) ?_
            exact k_retHN X341 (w := (1 : Int32)) at_294 (t := .boolean) rfl (by simp) rfl K0_h341 (fun v' C' => ⟨_, rfl, rfl, trivial⟩) (by decide) (by decide)
          · refine k_icmpNo X339 at_248 (feq hc340).1 (pc' := 251) rfl ?_
            refine k_iload X339 at_251 rfl (pc' := 253) rfl ?_
            refine k_bipush X339 at_253 (w := (44 : Int32)) rfl (pc' := 255) rfl ?_
            by_cases hc343 : c0_213 = (44 : Int32)
            · refine k_icmpYes X339 at_255 (teq hc343).1 (pc' := 276) (by decide) (by decide) ?_
              refine k_iconst X339 at_276 (w := (0 : Int32)) rfl (pc' := 277) rfl ?_
              refine k_istore X339 at_277 (Ls' := #[.val (.int p0), .val (.int p1), .val (.int p2), .val (.int p3), .val (.int p4), .val (.int ((p0 &&& (2147483647 : Int32)) - ((p0 &&& (2147483647 : Int32)) / (5 : Int32)) * (5 : Int32))), .val (.int c0_210), .val (.int c0_213), .val (.int c0_216), .val (.int c0_219), .val (.ref b316), .val (.int (0 : Int32))]) rfl (pc' := 279) rfl ?_
              refine k_aload X339 at_279 rfl rfl (pc' := 281) rfl ?_
              refine k_callSVF X339 (y := (⟨"com/example/settlegram/settlegram/Positions", "keeps", "(Ljava/lang/String;)Z"⟩ : MethodName)) at_281 (w_29 hw) (w_30 hw) (w_31 hw) (w_32 hw) (by decide) (argsL := [(.ref b316)]) (rest := []) (own_keep l Z a0 hw G n0 h339 X339.old b316 t_332 kt_333 cd_334 zz_335 bs_336 [c0_210, c0_213, c0_216, c0_219] (by simp) (own_cS q211_0 (own_cS q214_0 (own_cS q217_0 (own_cS q220_0 own_c0)))) q339_0 q339_2 q339_1 q339_3 q339_5) rfl pd_20 rfl rfl (by decide) (W := 0) (Nat.le_of_eq rfl) (by decide) (by decide) (by decide) all0 (pc' := 284) rfl ?_
              rintro _ T344 h344 L344 X344 K344 ⟨rfl, -⟩
              have sz_h344 := K344.1
              have K0_h344 : Keep h0 h344 [] := K0_h339.trans K344 all0
              refine k_iload X344 at_284 rfl (pc' := 286) rfl ?_
              have hk : (own_keeps [c0_210, c0_213, c0_216, c0_219]) = (0 : Int32) := by simp [own_keeps, own_pos, hc340, hc343]
              refine k_icmpNo X344 at_286 (teq hk).2 (pc' := 289) rfl ?_
              refine k_iconst X344 at_289 (w := (1 : Int32)) rfl (pc' := 290) rfl ?_
              refine k_goto X344 at_290 (pc' := 294) (by decide) (by decide) ?_
              exact k_retHN X344 (w := (1 : Int32)) at_294 (t := .boolean) rfl (by simp) rfl K0_h344 (fun v' C' => ⟨_, rfl, rfl, trivial⟩) (by decide) (by decide)
            · refine k_icmpNo X339 at_255 (feq hc343).1 (pc' := 258) rfl ?_
              refine k_iload X339 at_258 rfl (pc' := 260) rfl ?_
              refine k_bipush X339 at_260 (w := (44 : Int32)) rfl (pc' := 262) rfl ?_
              by_cases hc346 : c0_216 = (44 : Int32)
              · refine k_icmpYes X339 at_262 (teq hc346).1 (pc' := 276) (by decide) (by decide) ?_
                refine k_iconst X339 at_276 (w := (0 : Int32)) rfl (pc' := 277) rfl ?_
                refine k_istore X339 at_277 (Ls' := #[.val (.int p0), .val (.int p1), .val (.int p2), .val (.int p3), .val (.int p4), .val (.int ((p0 &&& (2147483647 : Int32)) - ((p0 &&& (2147483647 : Int32)) / (5 : Int32)) * (5 : Int32))), .val (.int c0_210), .val (.int c0_213), .val (.int c0_216), .val (.int c0_219), .val (.ref b316), .val (.int (0 : Int32))]) rfl (pc' := 279) rfl ?_
                refine k_aload X339 at_279 rfl rfl (pc' := 281) rfl ?_
                refine k_callSVF X339 (y := (⟨"com/example/settlegram/settlegram/Positions", "keeps", "(Ljava/lang/String;)Z"⟩ : MethodName)) at_281 (w_29 hw) (w_30 hw) (w_31 hw) (w_32 hw) (by decide) (argsL := [(.ref b316)]) (rest := []) (own_keep l Z a0 hw G n0 h339 X339.old b316 t_332 kt_333 cd_334 zz_335 bs_336 [c0_210, c0_213, c0_216, c0_219] (by simp) (own_cS q211_0 (own_cS q214_0 (own_cS q217_0 (own_cS q220_0 own_c0)))) q339_0 q339_2 q339_1 q339_3 q339_5) rfl pd_20 rfl rfl (by decide) (W := 0) (Nat.le_of_eq rfl) (by decide) (by decide) (by decide) all0 (pc' := 284) rfl ?_
                rintro _ T347 h347 L347 X347 K347 ⟨rfl, -⟩
                have sz_h347 := K347.1
                have K0_h347 : Keep h0 h347 [] := K0_h339.trans K347 all0
                refine k_iload X347 at_284 rfl (pc' := 286) rfl ?_
                have hk : (own_keeps [c0_210, c0_213, c0_216, c0_219]) = (0 : Int32) := by simp [own_keeps, own_pos, hc340, hc343, hc346]
                refine k_icmpNo X347 at_286 (teq hk).2 (pc' := 289) rfl ?_
                refine k_iconst X347 at_289 (w := (1 : Int32)) rfl (pc' := 290) rfl ?_
                refine k_goto X347 at_290 (pc' := 294) (by decide) (by decide) ?_
                exact k_retHN X347 (w := (1 : Int32)) at_294 (t := .boolean) rfl (by simp) rfl K0_h347 (fun v' C' => ⟨_, rfl, rfl, trivial⟩) (by decide) (by decide)
              · refine k_icmpNo X339 at_262 (feq hc346).1 (pc' := 265) rfl ?_
                refine k_iload X339 at_265 rfl (pc' := 267) rfl ?_
                refine k_bipush X339 at_267 (w := (44 : Int32)) rfl (pc' := 269) rfl ?_
                by_cases hc349 : c0_219 = (44 : Int32)
                · refine k_icmpYes X339 at_269 (teq hc349).1 (pc' := 276) (by decide) (by decide) ?_
                  refine k_iconst X339 at_276 (w := (0 : Int32)) rfl (pc' := 277) rfl ?_
                  refine k_istore X339 at_277 (Ls' := #[.val (.int p0), .val (.int p1), .val (.int p2), .val (.int p3), .val (.int p4), .val (.int ((p0 &&& (2147483647 : Int32)) - ((p0 &&& (2147483647 : Int32)) / (5 : Int32)) * (5 : Int32))), .val (.int c0_210), .val (.int c0_213), .val (.int c0_216), .val (.int c0_219), .val (.ref b316), .val (.int (0 : Int32))]) rfl (pc' := 279) rfl ?_
                  refine k_aload X339 at_279 rfl rfl (pc' := 281) rfl ?_
                  refine k_callSVF X339 (y := (⟨"com/example/settlegram/settlegram/Positions", "keeps", "(Ljava/lang/String;)Z"⟩ : MethodName)) at_281 (w_29 hw) (w_30 hw) (w_31 hw) (w_32 hw) (by decide) (argsL := [(.ref b316)]) (rest := []) (own_keep l Z a0 hw G n0 h339 X339.old b316 t_332 kt_333 cd_334 zz_335 bs_336 [c0_210, c0_213, c0_216, c0_219] (by simp) (own_cS q211_0 (own_cS q214_0 (own_cS q217_0 (own_cS q220_0 own_c0)))) q339_0 q339_2 q339_1 q339_3 q339_5) rfl pd_20 rfl rfl (by decide) (W := 0) (Nat.le_of_eq rfl) (by decide) (by decide) (by decide) all0 (pc' := 284) rfl ?_
                  rintro _ T350 h350 L350 X350 K350 ⟨rfl, -⟩
                  have sz_h350 := K350.1
                  have K0_h350 : Keep h0 h350 [] := K0_h339.trans K350 all0
                  refine k_iload X350 at_284 rfl (pc' := 286) rfl ?_
                  have hk : (own_keeps [c0_210, c0_213, c0_216, c0_219]) = (0 : Int32) := by simp [own_keeps, own_pos, hc340, hc343, hc346, hc349]
                  refine k_icmpNo X350 at_286 (teq hk).2 (pc' := 289) rfl ?_
                  refine k_iconst X350 at_289 (w := (1 : Int32)) rfl (pc' := 290) rfl ?_
                  refine k_goto X350 at_290 (pc' := 294) (by decide) (by decide) ?_
                  exact k_retHN X350 (w := (1 : Int32)) at_294 (t := .boolean) rfl (by simp) rfl K0_h350 (fun v' C' => ⟨_, rfl, rfl, trivial⟩) (by decide) (by decide)
                · refine k_icmpNo X339 at_269 (feq hc349).1 (pc' := 272) rfl ?_
                  refine k_iconst X339 at_272 (w := (1 : Int32)) rfl (pc' := 273) rfl ?_
                  refine k_goto X339 at_273 (pc' := 277) (by decide) (by decide) ?_
                  refine k_istore X339 at_277 (Ls' := #[.val (.int p0), .val (.int p1), .val (.int p2), .val (.int p3), .val (.int p4), .val (.int ((p0 &&& (2147483647 : Int32)) - ((p0 &&& (2147483647 : Int32)) / (5 : Int32)) * (5 : Int32))), .val (.int c0_210), .val (.int c0_213), .val (.int c0_216), .val (.int c0_219), .val (.ref b316), .val (.int (1 : Int32))]) rfl (pc' := 279) rfl ?_
                  refine k_aload X339 at_279 rfl rfl (pc' := 281) rfl ?_
                  refine k_callSVF X339 (y := (⟨"com/example/settlegram/settlegram/Positions", "keeps", "(Ljava/lang/String;)Z"⟩ : MethodName)) at_281 (w_29 hw) (w_30 hw) (w_31 hw) (w_32 hw) (by decide) (argsL := [(.ref b316)]) (rest := []) (own_keep l Z a0 hw G n0 h339 X339.old b316 t_332 kt_333 cd_334 zz_335 bs_336 [c0_210, c0_213, c0_216, c0_219] (by simp) (own_cS q211_0 (own_cS q214_0 (own_cS q217_0 (own_cS q220_0 own_c0)))) q339_0 q339_2 q339_1 q339_3 q339_5) rfl pd_20 rfl rfl (by decide) (W := 0) (Nat.le_of_eq rfl) (by decide) (by decide) (by decide) all0 (pc' := 284) rfl ?_
                  rintro _ T352 h352 L352 X352 K352 ⟨rfl, -⟩
                  have sz_h352 := K352.1
                  have K0_h352 : Keep h0 h352 [] := K0_h339.trans K352 all0
                  refine k_iload X352 at_284 rfl (pc' := 286) rfl ?_
                  have hk : (own_keeps [c0_210, c0_213, c0_216, c0_219]) = (1 : Int32) := by simp [own_keeps, own_pos, hc340, hc343, hc346, hc349]
                  refine k_icmpNo X352 at_286 (teq hk).2 (pc' := 289) rfl ?_
                  refine k_iconst X352 at_289 (w := (1 : Int32)) rfl (pc' := 290) rfl ?_
                  refine k_goto X352 at_290 (pc' := 294) (by decide) (by decide) ?_
                  exact k_retHN X352 (w := (1 : Int32)) at_294 (t := .boolean) rfl (by simp) rfl K0_h352 (fun v' C' => ⟨_, rfl, rfl, trivial⟩) (by decide) (by decide)
set_option maxRecDepth 65536 in
set_option maxHeartbeats 40000000 in
theorem comes_1 {Post : Tables → Env → Array Value → State → Outcome → State → Prop} (hpost : ∀ tb e args s v u, (limb_1_1.after args s (.returned v) u = true ∧ limb_1_2.after args s (.returned v) u = true ∧ True) → ReturnedEndW s (.returned v) u (Jvm.fieldLocs frame_1_writes args s ++ Jvm.arrayLocs frame_1_arrays args s ++ Jvm.staticLocs frame_1_statics s) 24 1152 → Post tb e args s (.returned v) u) :
    ArmFor flags0 classFile x code maxLocals ret World_1 tables_1 room_1 Calls_1 rest_1 Pre_1 Post := by
  intro l hfl _ _ p e ha hc hk s m args below hf hA hF happ hP
  obtain ⟨hcalls, hrest, hpre⟩ := hP
  obtain ⟨-, -, -, hnamed, -, -, -, hat⟩ := (Spec.applies_iff hf).mp happ
  obtain ⟨hg, hn⟩ := and_e (Cond.before_iff.mp (show (Jvm.Cond.and given_1 narrow_1).before args s = true from hpre))
  obtain ⟨hcnt, g0⟩ := and_e hg
  obtain ⟨j0, g1⟩ := and_e g0
  obtain ⟨j1, g2⟩ := and_e g1
  obtain ⟨j2, g3⟩ := and_e g2
  obtain ⟨j3, g4⟩ := and_e g3
  obtain ⟨w0, w1, w2, w3, w4, rfl⟩ : ∃ w0 w1 w2 w3 w4 : Value, args = #[w0, w1, w2, w3, w4] := by
    have hs : args.size = 5 := by simpa [Cond.value, given_1] using hcnt
    obtain ⟨L⟩ := args
    match L, hs with
    | [w0, w1, w2, w3, w4], _ => exact ⟨w0, w1, w2, w3, w4, rfl⟩
  have hw := fun d (hd : d ∈ tables_1) => atoms_spec (ws := Jvm.Cond.code x code maxLocals ret :: tables_1) hat d (List.mem_cons_of_mem _ hd)
  obtain ⟨hsets, hown0⟩ := atoms_of _ (rest_1_c_eq ▸ (show rest_1_c.before _ s = true from hrest))
  have hfit : Fit s := fun {y c} hc i hi => by
    obtain ⟨ha, rfl⟩ := Array.getElem?_eq_some_iff.mp hc
    have q := List.all_eq_true.mp ((Array.all_eq_true_iff_forall_mem.mp hF) _ (Array.getElem_mem ha)) i (List.mem_range.mpr hi)
    simpa [Array.getElem?_eq_getElem hi] using q
  obtain ⟨i0, e0⟩ := is_v j0
  obtain rfl : w0 = (.int i0) := Option.some.inj e0
  obtain ⟨i1, e1⟩ := is_v j1
  obtain rfl : w1 = (.int i1) := Option.some.inj e1
  obtain ⟨i2, e2⟩ := is_v j2
  obtain rfl : w2 = (.int i2) := Option.some.inj e2
  obtain ⟨i3, e3⟩ := is_v j3
  obtain rfl : w3 = (.int i3) := Option.some.inj e3
  obtain ⟨i4, e4⟩ := is_v g4
  obtain rfl : w4 = (.int i4) := Option.some.inj e4
  obtain ⟨zc, ezc⟩ := is_v (Cond.before_iff.mp (hsets _ (List.mem_of_getElem? (i := 1) rfl)))
  have nzc := not_v (Cond.before_iff.mp (hsets _ (List.mem_of_getElem? (i := 2) rfl)))
  obtain ⟨fm, efm, rfm⟩ := isR_v (Cond.before_iff.mp (hsets _ (List.mem_of_getElem? (i := 8) rfl)))
  have G : Gl s := ⟨zc, fm, Sta.start ezc (Or.inl (hsets _ (List.mem_of_getElem? (i := 0) rfl))), gotF (Cond.eq_ints ezc (Term.int_eval (0))) nzc, Sta.start efm (Or.inl (hsets _ (List.mem_of_getElem? (i := 7) rfl))), rfm, Sta.start (own_eq_int (Cond.before_iff.mp (hsets _ (List.mem_of_getElem? (i := 12) rfl)))) (Or.inl (hsets _ (List.mem_of_getElem? (i := 11) rfl))), Sta.start (own_eq_int (Cond.before_iff.mp (hsets _ (List.mem_of_getElem? (i := 15) rfl)))) (Or.inl (hsets _ (List.mem_of_getElem? (i := 14) rfl))), Sta.start (own_eq_int (Cond.before_iff.mp (hsets _ (List.mem_of_getElem? (i := 18) rfl)))) (Or.inl (hsets _ (List.mem_of_getElem? (i := 17) rfl)))⟩
  have hh := hcalls.1
  have hcw : Jvm.Lit.compactW.before #[(.int i0), (.int i1), (.int i2), (.int i3), (.int i4)] s = true := hsets _ (List.mem_of_getElem? (i := 2) rfl)
  have hCH : CHv s EL s.vm s.heap := CHv.start (hEL hw) (fun q hq => hh q (own_ELsub q hq)) hcw (w_22 hw) (w_8 hw)
  obtain ⟨n, o, r1, r2, r3, _, L, rfl, ⟨⟨-, w, rfl, rfl, -⟩, N⟩, -, hq⟩ := own_law l s _ hw G s.heap.size s.heap (Old.start s) i0 i1 i2 i3 i4 p e ha hc hk s m _ below hf ((Spec.applies_iff_loose hf).mp happ).1 ⟨rfl, State.Warmed39.refl s, rfl, hCH, fun _ q => nomatch q⟩ trivial
  exact ⟨n, _, r1, r2, r3, hpost _ _ _ _ _ _ ⟨Cond.after_iff.mpr rfl, Cond.after_iff.mpr (eq_i res_at (Term.int_eval (1)) rfl), trivial⟩ ⟨hq.1, hq.2.1, hq.2.2.1, (hq.2.2.2.sift fun y hy => Or.inr (N y hy)).mono (by decide) (by decide)⟩⟩
theorem main_1_1 : Claimed_1_1 := comes_1 fun _ _ _ _ _ _ h hF => ⟨h.1, hF⟩
theorem main_1_2 : Claimed_1_2 := comes_1 fun _ _ _ _ _ _ h hF => ⟨h.2.1, hF⟩
end OwnProof
end Jvm.Pilot.@@N@@
namespace Jvm.Pilot.@@N@@
open Jvm Jvm.ClassFile Sem Op Lib Jvm.Free Jvm.Stand Jvm.Pilot.@@N@@.Jvm.D
/-! MADE BY PROGRAM (witnessworld.py) out of the Statement's table words and the real class files: 21 classes; the members and pool entries that the words name. The judged class is class 1, her method 2. -/
namespace start1
open Jvm.ClassFile
def u (s : String) : CpInfo := .utf8 (stringToUtf16 s)
/-- a pool by its gaps: so many unusable entries, then the entry; so many at the end -/
def gap : Nat → List CpInfo → List CpInfo
  | 0, r => r
  | n + 1, r => .unusable :: gap n r
def poolList (es : List (Nat × CpInfo)) (last : Nat) : List CpInfo := es.foldr (fun e r => gap e.1 (e.2 :: r)) (gap last [])
def pool (es : List (Nat × CpInfo)) (last : Nat) : Array CpInfo := ⟨poolList es last⟩
def fileOf (pool : Array CpInfo) (this : Nat) (attrs : Array Attribute := #[]) (ms : Array MethodInfo := #[]) (fl : Nat := 33) (sup : Nat := 0) (ifs : Array Nat := #[]) (fds : Array FieldInfo := #[]) : ClassFile where
  minorVersion := 0
  majorVersion := 65
  constantPool := pool
  accessFlags := fl
  thisClass := this
  superClass := sup
  interfaces := ifs
  fields := fds
  methods := ms
  attributes := attrs
def plain (name : String) (sup : Option ClassId) : Class where
  name := name
  kind := .ordinary
  loader := none
  accessFlags := 33
  super := sup
  interfaces := #[]
  cf := none
  fields := #[]
  methods := #[]
  instanceTypes := #[]
  staticTypes := #[]
  resolved := #[]
  callSites := []
  init := .initialized
  statics := none
  mirror := none

def pool0 : Array CpInfo := pool [(5, u "<init>"), (0, u "()V"), (1, .class_ 10), (1, u "java/lang/Object")] 113

def k0c0 : Code := { maxStack := 0, maxLocals := 1, code := object_method_1_code, exceptionTable := #[], attributes := #[] }
def k0m0 : Method := { name := "<init>", desc := "()V", sig := { parameters := [], returnType := none }, accessFlags := 1, code := some k0c0 }
/-- java/lang/Object -/
def k0 : Class := { plain "java/lang/Object" none with
  accessFlags := 33
  interfaces := #[]
  cf := some (fileOf pool0 8 #[] #[{ accessFlags := 1, nameIndex := 5, descriptorIndex := 6, attributes := #[] }] 33 0 #[] #[])
  fields := #[]
  methods := #[k0m0]
  instanceTypes := #[]
  staticTypes := #[]
  resolved := Array.replicate 124 none
  statics := none }

def pool1 : Array CpInfo := pool [(2, .class_ 4), (1, u "java/lang/Object"), (0, u "<init>"), (0, u "()V"), (0, .integer 65536), (0, .integer 65535), (0, .integer 2147483647), (0, .methodref 11 12), (0, .class_ 13), (0, .nameAndType 14 15), (0, u "com/example/settlegram/settlegram/PositionsKeepsPinLaw"), (0, u "ch"), (0, u "(I)C"), (0, .class_ 17), (0, u "java/lang/String"), (0, .methodref 16 19), (0, .nameAndType 5 20), (0, u "([C)V"), (0, .methodref 22 23), (0, .class_ 24), (0, .nameAndType 25 26), (0, u "com/example/settlegram/settlegram/Positions"), (0, u "keeps"), (0, u "(Ljava/lang/String;)Z"), (3, u "law"), (0, u "(IIIII)Z")] 2

def k1m0 : Method := { name := "<init>", desc := "()V", sig := { parameters := [], returnType := none }, accessFlags := 1, code := none }
def k1c1 : Code := { maxStack := 2, maxLocals := 1, code := method_2_code, exceptionTable := #[], attributes := #[] }
def k1m1 : Method := { name := "ch", desc := "(I)C", sig := { parameters := [.int], returnType := some .char }, accessFlags := 10, code := some k1c1 }
def k1c2 : Code := { maxStack := 6, maxLocals := 12, code := code, exceptionTable := #[], attributes := #[] }
def k1m2 : Method := { name := "law", desc := "(IIIII)Z", sig := { parameters := [.int, .int, .int, .int, .int], returnType := some .boolean }, accessFlags := 9, code := some k1c2 }
/-- com/example/settlegram/settlegram/PositionsKeepsPinLaw -/
def k1 : Class := { plain "com/example/settlegram/settlegram/PositionsKeepsPinLaw" (some 0) with
  accessFlags := 49
  interfaces := #[]
  cf := some (fileOf pool1 11 #[] #[{ accessFlags := 1, nameIndex := 5, descriptorIndex := 6, attributes := #[] }, { accessFlags := 10, nameIndex := 14, descriptorIndex := 15, attributes := #[] }, { accessFlags := 9, nameIndex := 30, descriptorIndex := 31, attributes := #[] }] 49 2 #[] #[])
  fields := #[]
  methods := #[k1m0, k1m1, k1m2]
  instanceTypes := #[]
  staticTypes := #[]
  resolved := Array.replicate 34 none
  statics := none }

def pool2 : Array CpInfo := pool [(1, .class_ 2), (0, u "java/io/Serializable"), (0, .class_ 4), (0, u "java/lang/Object")] 2

/-- java/io/Serializable -/
def k2 : Class := { plain "java/io/Serializable" (some 0) with
  accessFlags := 1537
  interfaces := #[]
  cf := some (fileOf pool2 1 #[] #[] 1537 3 #[] #[])
  fields := #[]
  methods := #[]
  instanceTypes := #[]
  staticTypes := #[]
  resolved := Array.replicate 7 none
  statics := none }

def pool3 : Array CpInfo := pool [(1, .class_ 2), (0, u "java/lang/Comparable"), (0, .class_ 4), (0, u "java/lang/Object")] 7

/-- java/lang/Comparable -/
def k3 : Class := { plain "java/lang/Comparable" (some 0) with
  accessFlags := 1537
  interfaces := #[]
  cf := some (fileOf pool3 1 #[] #[] 1537 3 #[] #[])
  fields := #[]
  methods := #[]
  instanceTypes := #[]
  staticTypes := #[]
  resolved := Array.replicate 12 none
  statics := none }

def pool4 : Array CpInfo := pool [(2, .class_ 4), (1, u "java/lang/CharSequence"), (42, .class_ 48), (0, u "java/lang/CharSequence$1CodePointIterator"), (10, .class_ 60), (0, u "java/lang/CharSequence$1CharIterator"), (5, .class_ 67), (0, u "java/lang/Object")] 63

/-- java/lang/CharSequence -/
def k4 : Class := { plain "java/lang/CharSequence" (some 0) with
  accessFlags := 1537
  interfaces := #[]
  cf := some (fileOf pool4 2 #[.nestMembers #[47, 59]] #[] 1537 66 #[] #[])
  fields := #[]
  methods := #[]
  instanceTypes := #[]
  staticTypes := #[]
  resolved := Array.replicate 131 none
  statics := none }

def pool5 : Array CpInfo := pool [(1, .class_ 2), (0, u "java/lang/constant/Constable"), (0, .class_ 4), (0, u "java/lang/Object")] 6

/-- java/lang/constant/Constable -/
def k5 : Class := { plain "java/lang/constant/Constable" (some 0) with
  accessFlags := 1537
  interfaces := #[]
  cf := some (fileOf pool5 1 #[] #[] 1537 3 #[] #[])
  fields := #[]
  methods := #[]
  instanceTypes := #[]
  staticTypes := #[]
  resolved := Array.replicate 11 none
  statics := none }

def pool6 : Array CpInfo := pool [(1, .class_ 2), (0, u "java/lang/constant/ConstantDesc"), (0, .class_ 4), (0, u "java/lang/Object")] 32

/-- java/lang/constant/ConstantDesc -/
def k6 : Class := { plain "java/lang/constant/ConstantDesc" (some 0) with
  accessFlags := 1537
  interfaces := #[]
  cf := some (fileOf pool6 1 #[] #[] 1537 3 #[] #[])
  fields := #[]
  methods := #[]
  instanceTypes := #[]
  staticTypes := #[]
  resolved := Array.replicate 37 none
  statics := none }

def pool7 : Array CpInfo := pool [(1, .methodref 2 3), (0, .class_ 4), (0, .nameAndType 5 6), (0, u "java/lang/Object"), (0, u "<init>"), (0, u "()V"), (0, .string 8), (0, u ""), (0, .fieldref 10 11), (0, .class_ 12), (0, .nameAndType 13 14), (0, u "java/lang/String"), (0, u "value"), (0, u "[B"), (0, .fieldref 10 16), (0, .nameAndType 17 18), (0, u "coder"), (0, u "B"), (2, u "hash"), (0, u "I"), (2, u "hashIsZero"), (0, u "Z"), (0, .methodref 10 28), (0, .nameAndType 5 29), (0, u "([CIILjava/lang/Void;)V"), (8, .fieldref 10 39), (0, .nameAndType 40 26), (0, u "COMPACT_STRINGS"), (1, .class_ 44), (1, u "java/lang/StringUTF16"), (0, u "compress"), (1, .methodref 42 48), (0, .nameAndType 49 50), (0, u "coderFromArrayLen"), (0, u "([BI)B"), (56, .class_ 109), (1, u "java/lang/StringLatin1"), (32, u "()Z"), (34, .methodref 42 178), (0, .nameAndType 45 179), (0, u "([CII)[B"), (154, u "()I"), (0, .methodref 10 336), (0, .nameAndType 17 337), (0, u "()B"), (154, .methodref 10 493), (0, .nameAndType 494 142), (0, u "isLatin1"), (10, .methodref 10 506), (0, .nameAndType 507 334), (0, u "length"), (5, u "checkFromToIndex"), (9, u "checkBoundsBeginEnd"), (0, u "(III)V"), (50, .class_ 576), (0, u "java/lang/CharSequence"), (22, u "CASE_INSENSITIVE_ORDER"), (0, u "Ljava/util/Comparator;"), (32, .methodref 10 634), (0, .nameAndType 635 636), (0, u "indexOf"), (0, u "(II)I"), (0, .methodref 107 638), (0, .nameAndType 635 639), (0, u "([BIII)I"), (0, .methodref 42 638), (124, u "(I)I"), (244, u "([C)V"), (42, .fieldref 1054 1055), (0, .class_ 1056), (0, .nameAndType 1057 1058), (0, u "jdk/internal/util/Preconditions"), (0, u "SIOOBE_FORMATTER"), (0, u "Ljava/util/function/BiFunction;"), (3, .methodref 1054 1063), (0, .nameAndType 513 1064), (0, u "(IIILjava/util/function/BiFunction;)I"), (36, u "serialPersistentFields"), (0, u "[Ljava/io/ObjectStreamField;"), (0, .class_ 1104), (0, u "java/lang/String$CaseInsensitiveComparator"), (1, .class_ 1107), (0, u "java/io/Serializable"), (0, .class_ 1109), (0, u "java/lang/Comparable"), (0, .class_ 1111), (0, u "java/lang/constant/Constable"), (0, .class_ 1113), (0, u "java/lang/constant/ConstantDesc"), (2, u "serialVersionUID"), (0, u "J"), (3, u "REPL"), (0, u "C"), (2, u "LATIN1"), (1, u "UTF16")] 323

def k7m0 : Method := { name := "<init>", desc := "()V", sig := { parameters := [], returnType := none }, accessFlags := 1, code := none }
def k7c1 : Code := { maxStack := 5, maxLocals := 2, code := jdk_42_method_3_code, exceptionTable := #[], attributes := #[] }
def k7m1 : Method := { name := "<init>", desc := "([C)V", sig := { parameters := [(.array .char)], returnType := none }, accessFlags := 1, code := some k7c1 }
def k7c2 : Code := { maxStack := 2, maxLocals := 1, code := jdk_42_method_54_code, exceptionTable := #[], attributes := #[] }
def k7m2 : Method := { name := "length", desc := "()I", sig := { parameters := [], returnType := some .int }, accessFlags := 1, code := some k7c2 }
def k7c3 : Code := { maxStack := 3, maxLocals := 2, code := jdk_42_method_79_code, exceptionTable := #[], attributes := #[] }
def k7m3 : Method := { name := "indexOf", desc := "(I)I", sig := { parameters := [.int], returnType := some .int }, accessFlags := 1, code := some k7c3 }
def k7c4 : Code := { maxStack := 4, maxLocals := 3, code := jdk_42_method_80_code, exceptionTable := #[], attributes := #[] }
def k7m4 : Method := { name := "indexOf", desc := "(II)I", sig := { parameters := [.int, .int], returnType := some .int }, accessFlags := 1, code := some k7c4 }
def k7c5 : Code := { maxStack := 4, maxLocals := 6, code := jdk_42_method_149_code, exceptionTable := #[], attributes := #[] }
def k7m5 : Method := { name := "<init>", desc := "([CIILjava/lang/Void;)V", sig := { parameters := [(.array .char), .int, .int, (.object "java/lang/Void")], returnType := none }, accessFlags := 2, code := some k7c5 }
def k7c6 : Code := { maxStack := 1, maxLocals := 1, code := jdk_42_method_152_code, exceptionTable := #[], attributes := #[] }
def k7m6 : Method := { name := "coder", desc := "()B", sig := { parameters := [], returnType := some .byte }, accessFlags := 0, code := some k7c6 }
def k7c7 : Code := { maxStack := 1, maxLocals := 1, code := jdk_42_method_154_code, exceptionTable := #[], attributes := #[] }
def k7m7 : Method := { name := "isLatin1", desc := "()Z", sig := { parameters := [], returnType := some .boolean }, accessFlags := 0, code := some k7c7 }
def k7c8 : Code := { maxStack := 4, maxLocals := 3, code := jdk_42_method_158_code, exceptionTable := #[], attributes := #[] }
def k7m8 : Method := { name := "checkBoundsBeginEnd", desc := "(III)V", sig := { parameters := [.int, .int, .int], returnType := none }, accessFlags := 8, code := some k7c8 }
/-- java/lang/String -/
def k7 : Class := { plain "java/lang/String" (some 0) with
  accessFlags := 49
  interfaces := #[2, 3, 4, 5, 6]
  cf := some (fileOf pool7 10 #[.nestMembers #[1103]] #[{ accessFlags := 1, nameIndex := 5, descriptorIndex := 6, attributes := #[] }, { accessFlags := 1, nameIndex := 5, descriptorIndex := 1010, attributes := #[] }, { accessFlags := 1, nameIndex := 507, descriptorIndex := 334, attributes := #[] }, { accessFlags := 1, nameIndex := 635, descriptorIndex := 765, attributes := #[] }, { accessFlags := 1, nameIndex := 635, descriptorIndex := 636, attributes := #[] }, { accessFlags := 2, nameIndex := 5, descriptorIndex := 29, attributes := #[] }, { accessFlags := 0, nameIndex := 17, descriptorIndex := 337, attributes := #[] }, { accessFlags := 0, nameIndex := 494, descriptorIndex := 142, attributes := #[] }, { accessFlags := 8, nameIndex := 523, descriptorIndex := 524, attributes := #[] }] 49 2 #[1106, 1108, 575, 1110, 1112] #[{ accessFlags := 18, nameIndex := 13, descriptorIndex := 14, attributes := #[] }, { accessFlags := 18, nameIndex := 17, descriptorIndex := 18, attributes := #[] }, { accessFlags := 2, nameIndex := 21, descriptorIndex := 22, attributes := #[] }, { accessFlags := 2, nameIndex := 25, descriptorIndex := 26, attributes := #[] }, { accessFlags := 26, nameIndex := 1116, descriptorIndex := 1117, attributes := #[] }, { accessFlags := 24, nameIndex := 40, descriptorIndex := 26, attributes := #[] }, { accessFlags := 26, nameIndex := 1101, descriptorIndex := 1102, attributes := #[] }, { accessFlags := 26, nameIndex := 1121, descriptorIndex := 1122, attributes := #[] }, { accessFlags := 25, nameIndex := 599, descriptorIndex := 600, attributes := #[] }, { accessFlags := 24, nameIndex := 1125, descriptorIndex := 18, attributes := #[] }, { accessFlags := 24, nameIndex := 1127, descriptorIndex := 18, attributes := #[] }])
  fields := #[{ name := "value", type := (.array .byte), accessFlags := 18, slot := 0, constantValue := 0 }, { name := "coder", type := .byte, accessFlags := 18, slot := 1, constantValue := 0 }, { name := "hash", type := .int, accessFlags := 2, slot := 2, constantValue := 0 }, { name := "hashIsZero", type := .boolean, accessFlags := 2, slot := 3, constantValue := 0 }, { name := "serialVersionUID", type := .long, accessFlags := 26, slot := 0, constantValue := 0 }, { name := "COMPACT_STRINGS", type := .boolean, accessFlags := 24, slot := 1, constantValue := 0 }, { name := "serialPersistentFields", type := (.array (.object "java/io/ObjectStreamField")), accessFlags := 26, slot := 2, constantValue := 0 }, { name := "REPL", type := .char, accessFlags := 26, slot := 3, constantValue := 0 }, { name := "CASE_INSENSITIVE_ORDER", type := (.object "java/util/Comparator"), accessFlags := 25, slot := 4, constantValue := 0 }, { name := "LATIN1", type := .byte, accessFlags := 24, slot := 5, constantValue := 0 }, { name := "UTF16", type := .byte, accessFlags := 24, slot := 6, constantValue := 0 }]
  methods := #[k7m0, k7m1, k7m2, k7m3, k7m4, k7m5, k7m6, k7m7, k7m8]
  instanceTypes := #[(.array .byte), .byte, .int, .boolean]
  staticTypes := #[.long, .boolean, (.array (.object "java/io/ObjectStreamField")), .char, (.object "java/util/Comparator"), .byte, .byte]
  resolved := Array.replicate 1451 none
  statics := some 0 }

def pool8 : Array CpInfo := pool [(2, .class_ 4), (1, u "java/lang/Object"), (0, u "<init>"), (0, u "()V"), (4, .class_ 13), (1, u "com/example/settlegram/settlegram/Positions"), (0, u "accounts"), (0, u "Ljava/util/Map;"), (25, u "COLUMNS"), (0, u "Ljava/util/List;"), (11, u "HEADER"), (0, u "Ljava/lang/String;"), (27, .class_ 84), (0, u "com/example/settlegram/settlegram/Positions$Account"), (9, .methodref 95 96), (0, .class_ 97), (0, .nameAndType 98 99), (0, u "java/lang/String"), (0, u "indexOf"), (0, u "(I)I"), (29, .class_ 131), (1, u "com/example/settlegram/settlegram/Positions$Holder"), (108, u "MEMBER"), (0, u "Ljava/util/regex/Pattern;"), (23, u "(Ljava/lang/String;)Z"), (6, u "QUANTITY"), (52, u "FILE"), (12, u "keeps")] 58

def k8m0 : Method := { name := "<init>", desc := "()V", sig := { parameters := [], returnType := none }, accessFlags := 0, code := none }
def k8c1 : Code := { maxStack := 2, maxLocals := 1, code := prog_71_method_4_code, exceptionTable := #[], attributes := #[] }
def k8m1 : Method := { name := "keeps", desc := "(Ljava/lang/String;)Z", sig := { parameters := [(.object "java/lang/String")], returnType := some .boolean }, accessFlags := 8, code := some k8c1 }
/-- com/example/settlegram/settlegram/Positions -/
def k8 : Class := { plain "com/example/settlegram/settlegram/Positions" (some 0) with
  accessFlags := 48
  interfaces := #[]
  cf := some (fileOf pool8 11 #[.nestMembers #[83, 129]] #[{ accessFlags := 0, nameIndex := 5, descriptorIndex := 6, attributes := #[] }, { accessFlags := 8, nameIndex := 338, descriptorIndex := 265, attributes := #[] }] 48 2 #[] #[{ accessFlags := 24, nameIndex := 325, descriptorIndex := 55, attributes := #[] }, { accessFlags := 24, nameIndex := 41, descriptorIndex := 42, attributes := #[] }, { accessFlags := 24, nameIndex := 54, descriptorIndex := 55, attributes := #[] }, { accessFlags := 26, nameIndex := 240, descriptorIndex := 241, attributes := #[] }, { accessFlags := 26, nameIndex := 272, descriptorIndex := 241, attributes := #[] }, { accessFlags := 18, nameIndex := 14, descriptorIndex := 15, attributes := #[] }])
  fields := #[{ name := "FILE", type := (.object "java/lang/String"), accessFlags := 24, slot := 0, constantValue := 0 }, { name := "COLUMNS", type := (.object "java/util/List"), accessFlags := 24, slot := 1, constantValue := 0 }, { name := "HEADER", type := (.object "java/lang/String"), accessFlags := 24, slot := 2, constantValue := 0 }, { name := "MEMBER", type := (.object "java/util/regex/Pattern"), accessFlags := 26, slot := 3, constantValue := 0 }, { name := "QUANTITY", type := (.object "java/util/regex/Pattern"), accessFlags := 26, slot := 4, constantValue := 0 }, { name := "accounts", type := (.object "java/util/Map"), accessFlags := 18, slot := 0, constantValue := 0 }]
  methods := #[k8m0, k8m1]
  instanceTypes := #[(.object "java/util/Map")]
  staticTypes := #[(.object "java/lang/String"), (.object "java/util/List"), (.object "java/lang/String"), (.object "java/util/regex/Pattern"), (.object "java/util/regex/Pattern")]
  resolved := Array.replicate 397 none
  statics := none }

def pool9 : Array CpInfo := pool [(4, .class_ 6), (1, u "java/lang/Object"), (0, u "<init>"), (0, u "()V"), (5, .class_ 16), (1, u "java/lang/StringLatin1"), (21, .methodref 39 40), (0, .class_ 41), (0, .nameAndType 42 43), (0, u "java/lang/Math"), (0, u "min"), (0, u "(II)I"), (44, .methodref 14 89), (0, .nameAndType 90 91), (0, u "canEncode"), (0, u "(I)Z"), (0, .methodref 39 93), (0, .nameAndType 94 43), (0, u "max"), (0, .methodref 14 96), (0, .nameAndType 97 98), (0, u "indexOfChar"), (0, u "([BIII)I"), (2, u "indexOf"), (19, u "$assertionsDisabled"), (0, u "Z"), (98, .class_ 223), (1, u "java/lang/StringLatin1$LinesSpliterator"), (166, .class_ 391), (0, u "java/lang/StringLatin1$CharsSpliterator")] 3

def k9m0 : Method := { name := "<init>", desc := "()V", sig := { parameters := [], returnType := none }, accessFlags := 0, code := none }
def k9c1 : Code := { maxStack := 2, maxLocals := 1, code := jdk_43_method_4_code, exceptionTable := #[], attributes := #[] }
def k9m1 : Method := { name := "canEncode", desc := "(I)Z", sig := { parameters := [.int], returnType := some .boolean }, accessFlags := 9, code := some k9c1 }
def k9c2 : Code := { maxStack := 4, maxLocals := 4, code := jdk_43_method_22_code, exceptionTable := #[], attributes := #[] }
def k9m2 : Method := { name := "indexOf", desc := "([BIII)I", sig := { parameters := [(.array .byte), .int, .int, .int], returnType := some .int }, accessFlags := 9, code := some k9c2 }
def k9c3 : Code := { maxStack := 2, maxLocals := 6, code := jdk_43_method_23_code, exceptionTable := #[], attributes := #[] }
def k9m3 : Method := { name := "indexOfChar", desc := "([BIII)I", sig := { parameters := [(.array .byte), .int, .int, .int], returnType := some .int }, accessFlags := 10, code := some k9c3 }
/-- java/lang/StringLatin1 -/
def k9 : Class := { plain "java/lang/StringLatin1" (some 0) with
  accessFlags := 48
  interfaces := #[]
  cf := some (fileOf pool9 14 #[.nestMembers #[390, 221]] #[{ accessFlags := 0, nameIndex := 7, descriptorIndex := 8, attributes := #[] }, { accessFlags := 9, nameIndex := 90, descriptorIndex := 91, attributes := #[] }, { accessFlags := 9, nameIndex := 101, descriptorIndex := 98, attributes := #[] }, { accessFlags := 10, nameIndex := 97, descriptorIndex := 98, attributes := #[] }] 48 4 #[] #[{ accessFlags := 4120, nameIndex := 121, descriptorIndex := 122, attributes := #[] }])
  fields := #[{ name := "$assertionsDisabled", type := .boolean, accessFlags := 4120, slot := 0, constantValue := 0 }]
  methods := #[k9m0, k9m1, k9m2, k9m3]
  instanceTypes := #[]
  staticTypes := #[.boolean]
  resolved := Array.replicate 395 none
  statics := none }

def pool10 : Array CpInfo := pool [(1, .class_ 2), (0, u "java/lang/Math"), (1, .class_ 6), (1, u "java/lang/Object"), (0, u "<init>"), (0, u "()V"), (89, .class_ 100), (1, u "java/lang/Math$RandomNumberGeneratorHolder"), (71, u "negativeZeroFloatBits"), (0, u "J"), (2, u "negativeZeroDoubleBits"), (21, u "max"), (2, u "min"), (43, u "$assertionsDisabled"), (0, u "Z"), (88, u "(II)I"), (2, u "twoToTheDoubleScaleDown"), (0, u "D"), (4, u "twoToTheDoubleScaleUp"), (9, u "E"), (3, u "PI"), (2, u "TAU"), (2, u "DEGREES_TO_RADIANS"), (0, u "RADIANS_TO_DEGREES")] 94

def k10m0 : Method := { name := "<init>", desc := "()V", sig := { parameters := [], returnType := none }, accessFlags := 2, code := none }
def k10c1 : Code := { maxStack := 2, maxLocals := 2, code := jdk_29_method_65_code, exceptionTable := #[], attributes := #[] }
def k10m1 : Method := { name := "max", desc := "(II)I", sig := { parameters := [.int, .int], returnType := some .int }, accessFlags := 9, code := some k10c1 }
def k10c2 : Code := { maxStack := 2, maxLocals := 2, code := jdk_29_method_69_code, exceptionTable := #[], attributes := #[] }
def k10m2 : Method := { name := "min", desc := "(II)I", sig := { parameters := [.int, .int], returnType := some .int }, accessFlags := 9, code := some k10c2 }
/-- java/lang/Math -/
def k10 : Class := { plain "java/lang/Math" (some 0) with
  accessFlags := 49
  interfaces := #[]
  cf := some (fileOf pool10 1 #[.nestMembers #[98]] #[{ accessFlags := 2, nameIndex := 7, descriptorIndex := 8, attributes := #[] }, { accessFlags := 9, nameIndex := 198, descriptorIndex := 335, attributes := #[] }, { accessFlags := 9, nameIndex := 201, descriptorIndex := 335, attributes := #[] }] 49 4 #[] #[{ accessFlags := 25, nameIndex := 354, descriptorIndex := 339, attributes := #[] }, { accessFlags := 25, nameIndex := 358, descriptorIndex := 339, attributes := #[] }, { accessFlags := 25, nameIndex := 361, descriptorIndex := 339, attributes := #[] }, { accessFlags := 26, nameIndex := 364, descriptorIndex := 339, attributes := #[] }, { accessFlags := 26, nameIndex := 365, descriptorIndex := 339, attributes := #[] }, { accessFlags := 26, nameIndex := 172, descriptorIndex := 173, attributes := #[] }, { accessFlags := 26, nameIndex := 176, descriptorIndex := 173, attributes := #[] }, { accessFlags := 8, nameIndex := 344, descriptorIndex := 339, attributes := #[] }, { accessFlags := 8, nameIndex := 338, descriptorIndex := 339, attributes := #[] }, { accessFlags := 4120, nameIndex := 245, descriptorIndex := 246, attributes := #[] }])
  fields := #[{ name := "E", type := .double, accessFlags := 25, slot := 0, constantValue := 0 }, { name := "PI", type := .double, accessFlags := 25, slot := 1, constantValue := 0 }, { name := "TAU", type := .double, accessFlags := 25, slot := 2, constantValue := 0 }, { name := "DEGREES_TO_RADIANS", type := .double, accessFlags := 26, slot := 3, constantValue := 0 }, { name := "RADIANS_TO_DEGREES", type := .double, accessFlags := 26, slot := 4, constantValue := 0 }, { name := "negativeZeroFloatBits", type := .long, accessFlags := 26, slot := 5, constantValue := 0 }, { name := "negativeZeroDoubleBits", type := .long, accessFlags := 26, slot := 6, constantValue := 0 }, { name := "twoToTheDoubleScaleUp", type := .double, accessFlags := 8, slot := 7, constantValue := 0 }, { name := "twoToTheDoubleScaleDown", type := .double, accessFlags := 8, slot := 8, constantValue := 0 }, { name := "$assertionsDisabled", type := .boolean, accessFlags := 4120, slot := 9, constantValue := 0 }]
  methods := #[k10m0, k10m1, k10m2]
  instanceTypes := #[]
  staticTypes := #[.double, .double, .double, .double, .double, .long, .long, .double, .double, .boolean]
  resolved := Array.replicate 460 none
  statics := none }

def pool11 : Array CpInfo := pool [(3, .class_ 4), (0, u "java/lang/String"), (1, .class_ 8), (1, u "java/lang/Object"), (0, u "<init>"), (0, u "()V"), (0, .methodref 12 13), (0, .class_ 14), (0, .nameAndType 15 16), (0, u "java/lang/StringUTF16"), (0, u "newBytesLength"), (0, u "(I)I"), (3, .integer 1073741823), (23, .fieldref 12 45), (0, .nameAndType 46 47), (0, u "$assertionsDisabled"), (0, u "Z"), (0, .methodref 12 49), (0, .nameAndType 50 51), (0, u "length"), (0, u "([B)I"), (7, .fieldref 12 60), (0, .nameAndType 61 62), (0, u "HI_BYTE_SHIFT"), (0, u "I"), (0, .fieldref 12 64), (0, .nameAndType 65 62), (0, u "LO_BYTE_SHIFT"), (5, .methodref 12 72), (0, .nameAndType 73 74), (0, u "getChar"), (0, u "([BI)C"), (21, .methodref 12 97), (0, .nameAndType 98 99), (0, u "checkBoundsBeginEnd"), (0, u "(II[B)V"), (7, .methodref 12 108), (0, .nameAndType 109 110), (0, u "newBytesFor"), (0, u "(I)[B"), (0, .methodref 12 112), (0, .nameAndType 113 114), (0, u "putChar"), (0, u "([BII)V"), (0, .methodref 12 116), (0, .nameAndType 117 118), (0, u "compress"), (0, u "([CI[BII)I"), (0, .methodref 12 120), (0, .nameAndType 121 122), (0, u "toBytes"), (0, u "([CII)[B"), (60, .methodref 184 185), (0, .class_ 186), (0, .nameAndType 187 188), (0, u "java/lang/Math"), (0, u "min"), (0, u "(II)I"), (35, .methodref 184 225), (0, .nameAndType 226 188), (0, u "max"), (0, .integer 65536), (0, .methodref 12 229), (0, .nameAndType 230 231), (0, u "indexOfChar"), (0, u "([BIII)I"), (9, .methodref 3 242), (0, .nameAndType 98 243), (0, u "(III)V"), (0, .methodref 12 245), (0, .nameAndType 246 231), (0, u "indexOfCharUnsafe"), (14, u "coderFromArrayLen"), (0, u "([BI)B"), (5, u "indexOf"), (100, .class_ 371), (1, u "java/lang/StringUTF16$LinesSpliterator"), (58, u "MAX_LENGTH"), (196, .class_ 628), (0, u "java/lang/StringUTF16$CodePointsSpliterator"), (0, .class_ 630), (0, u "java/lang/StringUTF16$CharsSpliterator")] 4

def k11m0 : Method := { name := "<init>", desc := "()V", sig := { parameters := [], returnType := none }, accessFlags := 0, code := none }
def k11c1 : Code := { maxStack := 1, maxLocals := 1, code := jdk_52_method_2_code, exceptionTable := #[], attributes := #[] }
def k11m1 : Method := { name := "newBytesFor", desc := "(I)[B", sig := { parameters := [.int], returnType := some (.array .byte) }, accessFlags := 9, code := some k11c1 }
def k11c2 : Code := { maxStack := 4, maxLocals := 1, code := jdk_52_method_3_code, exceptionTable := #[], attributes := #[] }
def k11m2 : Method := { name := "newBytesLength", desc := "(I)I", sig := { parameters := [.int], returnType := some .int }, accessFlags := 9, code := some k11c2 }
def k11c3 : Code := { maxStack := 4, maxLocals := 3, code := jdk_52_method_4_code, exceptionTable := #[], attributes := #[] }
def k11m3 : Method := { name := "putChar", desc := "([BII)V", sig := { parameters := [(.array .byte), .int, .int], returnType := none }, accessFlags := 8, code := some k11c3 }
def k11c4 : Code := { maxStack := 3, maxLocals := 2, code := jdk_52_method_5_code, exceptionTable := #[], attributes := #[] }
def k11m4 : Method := { name := "getChar", desc := "([BI)C", sig := { parameters := [(.array .byte), .int], returnType := some .char }, accessFlags := 8, code := some k11c4 }
def k11c5 : Code := { maxStack := 2, maxLocals := 1, code := jdk_52_method_6_code, exceptionTable := #[], attributes := #[] }
def k11m5 : Method := { name := "length", desc := "([B)I", sig := { parameters := [(.array .byte)], returnType := some .int }, accessFlags := 9, code := some k11c5 }
def k11c6 : Code := { maxStack := 4, maxLocals := 5, code := jdk_52_method_14_code, exceptionTable := #[], attributes := #[] }
def k11m6 : Method := { name := "toBytes", desc := "([CII)[B", sig := { parameters := [(.array .char), .int, .int], returnType := some (.array .byte) }, accessFlags := 9, code := some k11c6 }
def k11c7 : Code := { maxStack := 2, maxLocals := 2, code := jdk_52_method_15_code, exceptionTable := #[], attributes := #[] }
def k11m7 : Method := { name := "coderFromArrayLen", desc := "([BI)B", sig := { parameters := [(.array .byte), .int], returnType := some .byte }, accessFlags := 8, code := some k11c7 }
def k11c8 : Code := { maxStack := 5, maxLocals := 6, code := jdk_52_method_16_code, exceptionTable := #[], attributes := #[] }
def k11m8 : Method := { name := "compress", desc := "([CII)[B", sig := { parameters := [(.array .char), .int, .int], returnType := some (.array .byte) }, accessFlags := 9, code := some k11c8 }
def k11c9 : Code := { maxStack := 3, maxLocals := 7, code := jdk_52_method_21_code, exceptionTable := #[], attributes := #[] }
def k11m9 : Method := { name := "compress", desc := "([CI[BII)I", sig := { parameters := [(.array .char), .int, (.array .byte), .int, .int], returnType := some .int }, accessFlags := 9, code := some k11c9 }
def k11c10 : Code := { maxStack := 4, maxLocals := 4, code := jdk_52_method_40_code, exceptionTable := #[], attributes := #[] }
def k11m10 : Method := { name := "indexOf", desc := "([BIII)I", sig := { parameters := [(.array .byte), .int, .int, .int], returnType := some .int }, accessFlags := 9, code := some k11c10 }
def k11c11 : Code := { maxStack := 4, maxLocals := 4, code := jdk_52_method_47_code, exceptionTable := #[], attributes := #[] }
def k11m11 : Method := { name := "indexOfChar", desc := "([BIII)I", sig := { parameters := [(.array .byte), .int, .int, .int], returnType := some .int }, accessFlags := 10, code := some k11c11 }
def k11c12 : Code := { maxStack := 2, maxLocals := 5, code := jdk_52_method_48_code, exceptionTable := #[], attributes := #[] }
def k11m12 : Method := { name := "indexOfCharUnsafe", desc := "([BIII)I", sig := { parameters := [(.array .byte), .int, .int, .int], returnType := some .int }, accessFlags := 10, code := some k11c12 }
def k11c13 : Code := { maxStack := 3, maxLocals := 3, code := jdk_52_method_93_code, exceptionTable := #[], attributes := #[] }
def k11m13 : Method := { name := "checkBoundsBeginEnd", desc := "(II[B)V", sig := { parameters := [.int, .int, (.array .byte)], returnType := none }, accessFlags := 9, code := some k11c13 }
/-- java/lang/StringUTF16 -/
def k11 : Class := { plain "java/lang/StringUTF16" (some 0) with
  accessFlags := 48
  interfaces := #[]
  cf := some (fileOf pool11 12 #[.nestMembers #[627, 629, 369]] #[{ accessFlags := 0, nameIndex := 9, descriptorIndex := 10, attributes := #[] }, { accessFlags := 9, nameIndex := 109, descriptorIndex := 110, attributes := #[] }, { accessFlags := 9, nameIndex := 15, descriptorIndex := 16, attributes := #[] }, { accessFlags := 8, nameIndex := 113, descriptorIndex := 114, attributes := #[] }, { accessFlags := 8, nameIndex := 73, descriptorIndex := 74, attributes := #[] }, { accessFlags := 9, nameIndex := 50, descriptorIndex := 51, attributes := #[] }, { accessFlags := 9, nameIndex := 121, descriptorIndex := 122, attributes := #[] }, { accessFlags := 8, nameIndex := 261, descriptorIndex := 262, attributes := #[] }, { accessFlags := 9, nameIndex := 117, descriptorIndex := 122, attributes := #[] }, { accessFlags := 9, nameIndex := 117, descriptorIndex := 118, attributes := #[] }, { accessFlags := 9, nameIndex := 268, descriptorIndex := 231, attributes := #[] }, { accessFlags := 10, nameIndex := 230, descriptorIndex := 231, attributes := #[] }, { accessFlags := 10, nameIndex := 246, descriptorIndex := 231, attributes := #[] }, { accessFlags := 9, nameIndex := 98, descriptorIndex := 99, attributes := #[] }] 48 6 #[] #[{ accessFlags := 26, nameIndex := 61, descriptorIndex := 62, attributes := #[] }, { accessFlags := 26, nameIndex := 65, descriptorIndex := 62, attributes := #[] }, { accessFlags := 24, nameIndex := 430, descriptorIndex := 62, attributes := #[] }, { accessFlags := 4120, nameIndex := 46, descriptorIndex := 47, attributes := #[] }])
  fields := #[{ name := "HI_BYTE_SHIFT", type := .int, accessFlags := 26, slot := 0, constantValue := 0 }, { name := "LO_BYTE_SHIFT", type := .int, accessFlags := 26, slot := 1, constantValue := 0 }, { name := "MAX_LENGTH", type := .int, accessFlags := 24, slot := 2, constantValue := 0 }, { name := "$assertionsDisabled", type := .boolean, accessFlags := 4120, slot := 3, constantValue := 0 }]
  methods := #[k11m0, k11m1, k11m2, k11m3, k11m4, k11m5, k11m6, k11m7, k11m8, k11m9, k11m10, k11m11, k11m12, k11m13]
  instanceTypes := #[]
  staticTypes := #[.int, .int, .int, .boolean]
  resolved := Array.replicate 635 none
  statics := some 1 }

def pool12 : Array CpInfo := pool [(2, .class_ 4), (1, u "java/lang/Object"), (0, u "<init>"), (0, u "()V"), (17, .class_ 26), (1, u "jdk/internal/util/Preconditions"), (20, u "checkFromToIndex"), (7, .class_ 56), (0, u "jdk/internal/util/Preconditions$4"), (57, .class_ 115), (0, u "jdk/internal/util/Preconditions$1"), (7, u "SIOOBE_FORMATTER"), (0, u "Ljava/util/function/BiFunction;"), (0, .class_ 126), (0, u "jdk/internal/util/Preconditions$2"), (3, u "AIOOBE_FORMATTER"), (0, .class_ 132), (0, u "jdk/internal/util/Preconditions$3"), (3, u "IOOBE_FORMATTER"), (46, u "(IIILjava/util/function/BiFunction;)I")] 10

def k12m0 : Method := { name := "<init>", desc := "()V", sig := { parameters := [], returnType := none }, accessFlags := 1, code := none }
def k12c1 : Code := { maxStack := 4, maxLocals := 4, code := jdk_41_method_12_code, exceptionTable := #[], attributes := #[] }
def k12m1 : Method := { name := "checkFromToIndex", desc := "(IIILjava/util/function/BiFunction;)I", sig := { parameters := [.int, .int, .int, (.object "java/util/function/BiFunction")], returnType := some .int }, accessFlags := 9, code := some k12c1 }
/-- jdk/internal/util/Preconditions -/
def k12 : Class := { plain "jdk/internal/util/Preconditions" (some 0) with
  accessFlags := 33
  interfaces := #[]
  cf := some (fileOf pool12 24 #[.nestMembers #[55, 131, 125, 114]] #[{ accessFlags := 1, nameIndex := 5, descriptorIndex := 6, attributes := #[] }, { accessFlags := 9, nameIndex := 47, descriptorIndex := 183, attributes := #[] }] 33 2 #[] #[{ accessFlags := 25, nameIndex := 123, descriptorIndex := 124, attributes := #[] }, { accessFlags := 25, nameIndex := 130, descriptorIndex := 124, attributes := #[] }, { accessFlags := 25, nameIndex := 136, descriptorIndex := 124, attributes := #[] }])
  fields := #[{ name := "SIOOBE_FORMATTER", type := (.object "java/util/function/BiFunction"), accessFlags := 25, slot := 0, constantValue := 0 }, { name := "AIOOBE_FORMATTER", type := (.object "java/util/function/BiFunction"), accessFlags := 25, slot := 1, constantValue := 0 }, { name := "IOOBE_FORMATTER", type := (.object "java/util/function/BiFunction"), accessFlags := 25, slot := 2, constantValue := 0 }]
  methods := #[k12m0, k12m1]
  instanceTypes := #[]
  staticTypes := #[(.object "java/util/function/BiFunction"), (.object "java/util/function/BiFunction"), (.object "java/util/function/BiFunction")]
  resolved := Array.replicate 194 none
  statics := some 2 }

def pool13 : Array CpInfo := pool [(9, u "<init>"), (6, .class_ 18), (1, u "java/lang/Object"), (0, u "()V"), (1, .class_ 23), (1, u "jdk/internal/util/ArraysSupport"), (0, u "LOG2_ARRAY_LONG_INDEX_SCALE"), (0, u "I"), (2, u "U"), (0, u "Ljdk/internal/misc/Unsafe;"), (8, u "BIG_ENDIAN"), (0, u "Z"), (8, u "LOG2_BYTE_BIT_SIZE"), (4, u "LOG2_ARRAY_INT_INDEX_SCALE"), (54, u "JLA"), (0, u "Ljdk/internal/access/JavaLangAccess;"), (11, u "LOG2_ARRAY_BOOLEAN_INDEX_SCALE"), (9, u "LOG2_ARRAY_BYTE_INDEX_SCALE"), (5, u "LOG2_ARRAY_CHAR_INDEX_SCALE"), (5, u "LOG2_ARRAY_SHORT_INDEX_SCALE"), (18, u "LOG2_ARRAY_FLOAT_INDEX_SCALE"), (24, u "LOG2_ARRAY_DOUBLE_INDEX_SCALE"), (89, u "T_BOOLEAN"), (2, u "T_CHAR"), (1, u "T_FLOAT"), (1, u "T_DOUBLE"), (1, u "T_BYTE"), (1, u "T_SHORT"), (1, u "T_INT"), (1, u "T_LONG"), (1, u "SOFT_MAX_ARRAY_LENGTH")] 83

def k13m0 : Method := { name := "<init>", desc := "()V", sig := { parameters := [], returnType := none }, accessFlags := 2, code := none }
/-- jdk/internal/util/ArraysSupport -/
def k13 : Class := { plain "jdk/internal/util/ArraysSupport" (some 0) with
  accessFlags := 33
  interfaces := #[]
  cf := some (fileOf pool13 21 #[] #[{ accessFlags := 2, nameIndex := 9, descriptorIndex := 19, attributes := #[] }] 33 16 #[] #[{ accessFlags := 24, nameIndex := 28, descriptorIndex := 29, attributes := #[] }, { accessFlags := 26, nameIndex := 38, descriptorIndex := 39, attributes := #[] }, { accessFlags := 25, nameIndex := 121, descriptorIndex := 25, attributes := #[] }, { accessFlags := 25, nameIndex := 131, descriptorIndex := 25, attributes := #[] }, { accessFlags := 25, nameIndex := 137, descriptorIndex := 25, attributes := #[] }, { accessFlags := 25, nameIndex := 143, descriptorIndex := 25, attributes := #[] }, { accessFlags := 25, nameIndex := 53, descriptorIndex := 25, attributes := #[] }, { accessFlags := 25, nameIndex := 24, descriptorIndex := 25, attributes := #[] }, { accessFlags := 25, nameIndex := 162, descriptorIndex := 25, attributes := #[] }, { accessFlags := 25, nameIndex := 187, descriptorIndex := 25, attributes := #[] }, { accessFlags := 26, nameIndex := 48, descriptorIndex := 25, attributes := #[] }, { accessFlags := 25, nameIndex := 277, descriptorIndex := 25, attributes := #[] }, { accessFlags := 25, nameIndex := 280, descriptorIndex := 25, attributes := #[] }, { accessFlags := 25, nameIndex := 282, descriptorIndex := 25, attributes := #[] }, { accessFlags := 25, nameIndex := 284, descriptorIndex := 25, attributes := #[] }, { accessFlags := 25, nameIndex := 286, descriptorIndex := 25, attributes := #[] }, { accessFlags := 25, nameIndex := 288, descriptorIndex := 25, attributes := #[] }, { accessFlags := 25, nameIndex := 290, descriptorIndex := 25, attributes := #[] }, { accessFlags := 25, nameIndex := 292, descriptorIndex := 25, attributes := #[] }, { accessFlags := 26, nameIndex := 108, descriptorIndex := 109, attributes := #[] }, { accessFlags := 25, nameIndex := 294, descriptorIndex := 25, attributes := #[] }])
  fields := #[{ name := "U", type := (.object "jdk/internal/misc/Unsafe"), accessFlags := 24, slot := 0, constantValue := 0 }, { name := "BIG_ENDIAN", type := .boolean, accessFlags := 26, slot := 1, constantValue := 0 }, { name := "LOG2_ARRAY_BOOLEAN_INDEX_SCALE", type := .int, accessFlags := 25, slot := 2, constantValue := 0 }, { name := "LOG2_ARRAY_BYTE_INDEX_SCALE", type := .int, accessFlags := 25, slot := 3, constantValue := 0 }, { name := "LOG2_ARRAY_CHAR_INDEX_SCALE", type := .int, accessFlags := 25, slot := 4, constantValue := 0 }, { name := "LOG2_ARRAY_SHORT_INDEX_SCALE", type := .int, accessFlags := 25, slot := 5, constantValue := 0 }, { name := "LOG2_ARRAY_INT_INDEX_SCALE", type := .int, accessFlags := 25, slot := 6, constantValue := 0 }, { name := "LOG2_ARRAY_LONG_INDEX_SCALE", type := .int, accessFlags := 25, slot := 7, constantValue := 0 }, { name := "LOG2_ARRAY_FLOAT_INDEX_SCALE", type := .int, accessFlags := 25, slot := 8, constantValue := 0 }, { name := "LOG2_ARRAY_DOUBLE_INDEX_SCALE", type := .int, accessFlags := 25, slot := 9, constantValue := 0 }, { name := "LOG2_BYTE_BIT_SIZE", type := .int, accessFlags := 26, slot := 10, constantValue := 0 }, { name := "T_BOOLEAN", type := .int, accessFlags := 25, slot := 11, constantValue := 0 }, { name := "T_CHAR", type := .int, accessFlags := 25, slot := 12, constantValue := 0 }, { name := "T_FLOAT", type := .int, accessFlags := 25, slot := 13, constantValue := 0 }, { name := "T_DOUBLE", type := .int, accessFlags := 25, slot := 14, constantValue := 0 }, { name := "T_BYTE", type := .int, accessFlags := 25, slot := 15, constantValue := 0 }, { name := "T_SHORT", type := .int, accessFlags := 25, slot := 16, constantValue := 0 }, { name := "T_INT", type := .int, accessFlags := 25, slot := 17, constantValue := 0 }, { name := "T_LONG", type := .int, accessFlags := 25, slot := 18, constantValue := 0 }, { name := "JLA", type := (.object "jdk/internal/access/JavaLangAccess"), accessFlags := 26, slot := 19, constantValue := 0 }, { name := "SOFT_MAX_ARRAY_LENGTH", type := .int, accessFlags := 25, slot := 20, constantValue := 0 }]
  methods := #[k13m0]
  instanceTypes := #[]
  staticTypes := #[(.object "jdk/internal/misc/Unsafe"), .boolean, .int, .int, .int, .int, .int, .int, .int, .int, .int, .int, .int, .int, .int, .int, .int, .int, .int, (.object "jdk/internal/access/JavaLangAccess"), .int]
  resolved := Array.replicate 378 none
  statics := none }

def pool14 : Array CpInfo := pool [(1, u "java/lang/Cloneable"), (0, .class_ 1), (0, u "java/lang/Object"), (0, .class_ 3)] 3

/-- java/lang/Cloneable -/
def k14 : Class := { plain "java/lang/Cloneable" (some 0) with
  accessFlags := 1537
  interfaces := #[]
  cf := some (fileOf pool14 2 #[] #[] 1537 4 #[] #[])
  fields := #[]
  methods := #[]
  instanceTypes := #[]
  staticTypes := #[]
  resolved := Array.replicate 8 none
  statics := none }

/-- the primitive byte -/
def k15 : Class := { plain "byte" none with kind := .primitive 'B', accessFlags := 0x411 }
/-- [B -/
def k16 : Class := { plain "[B" (some 0) with kind := .array 15 .byte, interfaces := #[14, 2], accessFlags := 1041 }

/-- the primitive char -/
def k17 : Class := { plain "char" none with kind := .primitive 'C', accessFlags := 0x411 }
/-- [C -/
def k18 : Class := { plain "[C" (some 0) with kind := .array 17 .char, interfaces := #[14, 2], accessFlags := 1041 }

/-- the primitive int -/
def k19 : Class := { plain "int" none with kind := .primitive 'I', accessFlags := 0x411 }
/-- [I -/
def k20 : Class := { plain "[I" (some 0) with kind := .array 19 .int, interfaces := #[14, 2], accessFlags := 1041 }

def heap : Heap := #[{ cls := 7, slots := #[.long 0, .int 1, .null, .int 0, .null, .int 0, .int 0], vm := .statics 7 },
  { cls := 11, slots := #[.int 0, .int 8, .int 0, .int 1], vm := .statics 11 },
  { cls := 12, slots := #[.null, .null, .null], vm := .statics 12 }]
def classes : Array Class := #[k0, k1, k2, k3, k4, k5, k6, k7, k8, k9, k10, k11, k12, k13, k14, k15, k16, k17, k18, k19, k20]
def interned : List (Array UInt16 × Addr) := []
def slotsUsed : Nat := 14
def theMethod : MethodId := ⟨1, 2⟩
def args0 : Array Value := #[.int 5, .int 6, .int 7, .int 8, .int 9]
def aboutOver (below : List Frame) : State where
  vm := { classes := classes, interned := interned.toArray }
  heap := heap
  slotsUsed := slotsUsed
  threads := #[{ frames := .invoking theMethod args0 :: below }]
def below0 : List Frame := [.native { method := ⟨0, 0⟩, args := #[] }]
def about1 : State := aboutOver below0
def p0 : Program := .bare "" "" ""
def e0 : Env := launch0.env 0 0 0
theorem w_frames : about1.frames = Frame.invoking theMethod args0 :: below0 := rfl
set_option maxRecDepth 65536 in
theorem w_args : argsFit about1.vm theMethod args0 = true := by decide +kernel
set_option maxRecDepth 65536 in
theorem w_heap : heapFits about1 = true := by decide +kernel
set_option maxRecDepth 65536 in
theorem w_runnable : about1.curStatus? = some .runnable := by decide +kernel
set_option maxRecDepth 65536 in
theorem w_alone : about1.alone = true := by decide +kernel
set_option maxRecDepth 65536 in
theorem w_named : about1.methodNamed? x = some theMethod := by decide +kernel
set_option maxRecDepth 65536 in
theorem w_hears : about1.hears theMethod below0 = true := by decide +kernel
set_option maxRecDepth 65536 in
theorem w_ripe : about1.ripe theMethod args0 below0 = true := by decide +kernel
theorem w_running : about1.status = .running := rfl
set_option maxRecDepth 65536 in
theorem w_room : about1.hasRoom e0.platform room_1 = true :=
  launch0.hasRoom_least _ room_1 (by decide +kernel) (by decide +kernel) (by decide +kernel) (by decide +kernel) (by decide +kernel) (by decide +kernel)
theorem allAtoms_all (ts : List Jvm.Cond) (a : Array Jvm.Value) (st : Jvm.State) : (allAtoms ts).before a st = ts.all (fun c => c.before a st) := by
  induction ts with
  | nil => rfl
  | cons c t ih =>
    show (Jvm.Cond.and c (allAtoms t)).before a st = _
    rw [Jvm.Cond.before_and, ih, List.all_cons]
def words1 : List Jvm.Cond := Jvm.Cond.code x code maxLocals ret :: tables_1
/-- a 'code' word, met by the world's own term for the bytes: nothing is compared byte by byte -/
theorem code_word {y : MethodName} {bytes : ByteArray} {mx : Nat} {rt : Option FieldType} {a : Array Value} {s : State} {m : MethodId} {meth : Method} {c : Code} (h1 : s.methodNamed? y = some m) (h2 : s.vm.method? m = some meth) (h3 : meth.code = some c) (h4 : c.code = bytes)
    (h5 : (c.maxLocals == mx && c.exceptionTable.isEmpty && decide (c.maxStack ≤ mostOperands) && decide (meth.sig.returnType = rt) && !meth.locks && decide (parseMethodDescriptor y.desc = some meth.sig)) = true) : (Jvm.Cond.code y bytes mx rt).before a s = true := by
  simp only [Bool.and_eq_true, beq_iff_eq, Bool.not_eq_true', decide_eq_true_eq] at h5
  obtain ⟨⟨⟨⟨⟨g1, g2⟩, g3⟩, g4⟩, g5⟩, g6⟩ := h5
  simp [Cond.before, Cond.holds, Cond.value, h1, h2, h3, h4, g1, g2, g3, g4, g5, g6]
def isCode : Jvm.Cond → Bool
  | .code _ _ _ _ => true
  | _ => false
theorem all_split {L : List Jvm.Cond} {P : Jvm.Cond → Bool} (h1 : L.all (fun c => isCode c || P c) = true) (h2 : ∀ c ∈ L.filter isCode, P c = true) : L.all P = true := by
  refine List.all_eq_true.mpr fun c hc => ?_
  have h := List.all_eq_true.mp h1 c hc
  rcases Bool.eq_false_or_eq_true (isCode c) with hi | hi
  · exact h2 c (List.mem_filter.mpr ⟨hc, hi⟩)
  · simpa [hi] using h
set_option maxRecDepth 65536 in
theorem w_c0 : (Jvm.Cond.code x code maxLocals ret).before args0 about1 = true := code_word (m := ⟨1, 2⟩) (meth := k1m2) (c := k1c2) (by decide +kernel) rfl rfl rfl (by decide +kernel)
set_option maxRecDepth 65536 in
theorem w_c1 : (Jvm.Cond.code ({ cls := "com/example/settlegram/settlegram/PositionsKeepsPinLaw", name := "ch", desc := "(I)C" } : Jvm.MethodName) method_2_code (1 : Nat) (Option.some Jvm.ClassFile.FieldType.char)).before args0 about1 = true := code_word (m := ⟨1, 1⟩) (meth := k1m1) (c := k1c1) (by decide +kernel) rfl rfl rfl (by decide +kernel)
set_option maxRecDepth 65536 in
theorem w_c2 : (Jvm.Cond.code ({ cls := "java/lang/String", name := "<init>", desc := "([C)V" } : Jvm.MethodName) jdk_42_method_3_code (2 : Nat) (Option.none : Option Jvm.ClassFile.FieldType)).before args0 about1 = true := code_word (m := ⟨7, 1⟩) (meth := k7m1) (c := k7c1) (by decide +kernel) rfl rfl rfl (by decide +kernel)
set_option maxRecDepth 65536 in
theorem w_c3 : (Jvm.Cond.code ({ cls := "java/lang/String", name := "<init>", desc := "([CIILjava/lang/Void;)V" } : Jvm.MethodName) jdk_42_method_149_code (6 : Nat) (Option.none : Option Jvm.ClassFile.FieldType)).before args0 about1 = true := code_word (m := ⟨7, 5⟩) (meth := k7m5) (c := k7c5) (by decide +kernel) rfl rfl rfl (by decide +kernel)
set_option maxRecDepth 65536 in
theorem w_c4 : (Jvm.Cond.code ({ cls := "java/lang/Object", name := "<init>", desc := "()V" } : Jvm.MethodName) object_method_1_code (1 : Nat) (Option.none : Option Jvm.ClassFile.FieldType)).before args0 about1 = true := code_word (m := ⟨0, 0⟩) (meth := k0m0) (c := k0c0) (by decide +kernel) rfl rfl rfl (by decide +kernel)
set_option maxRecDepth 65536 in
theorem w_c5 : (Jvm.Cond.code ({ cls := "com/example/settlegram/settlegram/Positions", name := "keeps", desc := "(Ljava/lang/String;)Z" } : Jvm.MethodName) prog_71_method_4_code (1 : Nat) (Option.some Jvm.ClassFile.FieldType.boolean)).before args0 about1 = true := code_word (m := ⟨8, 1⟩) (meth := k8m1) (c := k8c1) (by decide +kernel) rfl rfl rfl (by decide +kernel)
set_option maxRecDepth 65536 in
theorem w_c6 : (Jvm.Cond.code ({ cls := "java/lang/String", name := "indexOf", desc := "(I)I" } : Jvm.MethodName) jdk_42_method_79_code (2 : Nat) (Option.some Jvm.ClassFile.FieldType.int)).before args0 about1 = true := code_word (m := ⟨7, 3⟩) (meth := k7m3) (c := k7c3) (by decide +kernel) rfl rfl rfl (by decide +kernel)
set_option maxRecDepth 65536 in
theorem w_c7 : (Jvm.Cond.code ({ cls := "java/lang/String", name := "indexOf", desc := "(II)I" } : Jvm.MethodName) jdk_42_method_80_code (3 : Nat) (Option.some Jvm.ClassFile.FieldType.int)).before args0 about1 = true := code_word (m := ⟨7, 4⟩) (meth := k7m4) (c := k7c4) (by decide +kernel) rfl rfl rfl (by decide +kernel)
set_option maxRecDepth 65536 in
theorem w_c8 : (Jvm.Cond.code ({ cls := "java/lang/String", name := "isLatin1", desc := "()Z" } : Jvm.MethodName) jdk_42_method_154_code (1 : Nat) (Option.some Jvm.ClassFile.FieldType.boolean)).before args0 about1 = true := code_word (m := ⟨7, 7⟩) (meth := k7m7) (c := k7c7) (by decide +kernel) rfl rfl rfl (by decide +kernel)
set_option maxRecDepth 65536 in
theorem w_c9 : (Jvm.Cond.code ({ cls := "java/lang/String", name := "length", desc := "()I" } : Jvm.MethodName) jdk_42_method_54_code (1 : Nat) (Option.some Jvm.ClassFile.FieldType.int)).before args0 about1 = true := code_word (m := ⟨7, 2⟩) (meth := k7m2) (c := k7c2) (by decide +kernel) rfl rfl rfl (by decide +kernel)
set_option maxRecDepth 65536 in
theorem w_c10 : (Jvm.Cond.code ({ cls := "java/lang/String", name := "coder", desc := "()B" } : Jvm.MethodName) jdk_42_method_152_code (1 : Nat) (Option.some Jvm.ClassFile.FieldType.byte)).before args0 about1 = true := code_word (m := ⟨7, 6⟩) (meth := k7m6) (c := k7c6) (by decide +kernel) rfl rfl rfl (by decide +kernel)
set_option maxRecDepth 65536 in
theorem w_c11 : (Jvm.Cond.code ({ cls := "java/lang/StringLatin1", name := "indexOf", desc := "([BIII)I" } : Jvm.MethodName) jdk_43_method_22_code (4 : Nat) (Option.some Jvm.ClassFile.FieldType.int)).before args0 about1 = true := code_word (m := ⟨9, 2⟩) (meth := k9m2) (c := k9c2) (by decide +kernel) rfl rfl rfl (by decide +kernel)
set_option maxRecDepth 65536 in
theorem w_c12 : (Jvm.Cond.code ({ cls := "java/lang/StringLatin1", name := "canEncode", desc := "(I)Z" } : Jvm.MethodName) jdk_43_method_4_code (1 : Nat) (Option.some Jvm.ClassFile.FieldType.boolean)).before args0 about1 = true := code_word (m := ⟨9, 1⟩) (meth := k9m1) (c := k9c1) (by decide +kernel) rfl rfl rfl (by decide +kernel)
set_option maxRecDepth 65536 in
theorem w_c13 : (Jvm.Cond.code ({ cls := "java/lang/Math", name := "max", desc := "(II)I" } : Jvm.MethodName) jdk_29_method_65_code (2 : Nat) (Option.some Jvm.ClassFile.FieldType.int)).before args0 about1 = true := code_word (m := ⟨10, 1⟩) (meth := k10m1) (c := k10c1) (by decide +kernel) rfl rfl rfl (by decide +kernel)
set_option maxRecDepth 65536 in
theorem w_c14 : (Jvm.Cond.code ({ cls := "java/lang/Math", name := "min", desc := "(II)I" } : Jvm.MethodName) jdk_29_method_69_code (2 : Nat) (Option.some Jvm.ClassFile.FieldType.int)).before args0 about1 = true := code_word (m := ⟨10, 2⟩) (meth := k10m2) (c := k10c2) (by decide +kernel) rfl rfl rfl (by decide +kernel)
set_option maxRecDepth 65536 in
theorem w_c15 : (Jvm.Cond.code ({ cls := "java/lang/StringUTF16", name := "compress", desc := "([CII)[B" } : Jvm.MethodName) jdk_52_method_16_code (6 : Nat) (Option.some (Jvm.ClassFile.FieldType.array Jvm.ClassFile.FieldType.byte))).before args0 about1 = true := code_word (m := ⟨11, 8⟩) (meth := k11m8) (c := k11c8) (by decide +kernel) rfl rfl rfl (by decide +kernel)
set_option maxRecDepth 65536 in
theorem w_c16 : (Jvm.Cond.code ({ cls := "java/lang/StringUTF16", name := "compress", desc := "([CI[BII)I" } : Jvm.MethodName) jdk_52_method_21_code (7 : Nat) (Option.some Jvm.ClassFile.FieldType.int)).before args0 about1 = true := code_word (m := ⟨11, 9⟩) (meth := k11m9) (c := k11c9) (by decide +kernel) rfl rfl rfl (by decide +kernel)
set_option maxRecDepth 65536 in
theorem w_c17 : (Jvm.Cond.code ({ cls := "java/lang/StringUTF16", name := "coderFromArrayLen", desc := "([BI)B" } : Jvm.MethodName) jdk_52_method_15_code (2 : Nat) (Option.some Jvm.ClassFile.FieldType.byte)).before args0 about1 = true := code_word (m := ⟨11, 7⟩) (meth := k11m7) (c := k11c7) (by decide +kernel) rfl rfl rfl (by decide +kernel)
set_option maxRecDepth 65536 in
theorem w_c18 : (Jvm.Cond.code ({ cls := "java/lang/StringLatin1", name := "indexOfChar", desc := "([BIII)I" } : Jvm.MethodName) jdk_43_method_23_code (6 : Nat) (Option.some Jvm.ClassFile.FieldType.int)).before args0 about1 = true := code_word (m := ⟨9, 3⟩) (meth := k9m3) (c := k9c3) (by decide +kernel) rfl rfl rfl (by decide +kernel)
set_option maxRecDepth 65536 in
theorem w_c19 : (Jvm.Cond.code ({ cls := "java/lang/StringUTF16", name := "toBytes", desc := "([CII)[B" } : Jvm.MethodName) jdk_52_method_14_code (5 : Nat) (Option.some (Jvm.ClassFile.FieldType.array Jvm.ClassFile.FieldType.byte))).before args0 about1 = true := code_word (m := ⟨11, 6⟩) (meth := k11m6) (c := k11c6) (by decide +kernel) rfl rfl rfl (by decide +kernel)
set_option maxRecDepth 65536 in
theorem w_c20 : (Jvm.Cond.code ({ cls := "java/lang/StringUTF16", name := "newBytesFor", desc := "(I)[B" } : Jvm.MethodName) jdk_52_method_2_code (1 : Nat) (Option.some (Jvm.ClassFile.FieldType.array Jvm.ClassFile.FieldType.byte))).before args0 about1 = true := code_word (m := ⟨11, 1⟩) (meth := k11m1) (c := k11c1) (by decide +kernel) rfl rfl rfl (by decide +kernel)
set_option maxRecDepth 65536 in
theorem w_c21 : (Jvm.Cond.code ({ cls := "java/lang/StringUTF16", name := "newBytesLength", desc := "(I)I" } : Jvm.MethodName) jdk_52_method_3_code (1 : Nat) (Option.some Jvm.ClassFile.FieldType.int)).before args0 about1 = true := code_word (m := ⟨11, 2⟩) (meth := k11m2) (c := k11c2) (by decide +kernel) rfl rfl rfl (by decide +kernel)
set_option maxRecDepth 65536 in
theorem w_c22 : (Jvm.Cond.code ({ cls := "java/lang/StringUTF16", name := "putChar", desc := "([BII)V" } : Jvm.MethodName) jdk_52_method_4_code (3 : Nat) (Option.none : Option Jvm.ClassFile.FieldType)).before args0 about1 = true := code_word (m := ⟨11, 3⟩) (meth := k11m3) (c := k11c3) (by decide +kernel) rfl rfl rfl (by decide +kernel)
set_option maxRecDepth 65536 in
theorem w_c23 : (Jvm.Cond.code ({ cls := "java/lang/StringUTF16", name := "getChar", desc := "([BI)C" } : Jvm.MethodName) jdk_52_method_5_code (2 : Nat) (Option.some Jvm.ClassFile.FieldType.char)).before args0 about1 = true := code_word (m := ⟨11, 4⟩) (meth := k11m4) (c := k11c4) (by decide +kernel) rfl rfl rfl (by decide +kernel)
set_option maxRecDepth 65536 in
theorem w_c24 : (Jvm.Cond.code ({ cls := "java/lang/StringUTF16", name := "indexOf", desc := "([BIII)I" } : Jvm.MethodName) jdk_52_method_40_code (4 : Nat) (Option.some Jvm.ClassFile.FieldType.int)).before args0 about1 = true := code_word (m := ⟨11, 10⟩) (meth := k11m10) (c := k11c10) (by decide +kernel) rfl rfl rfl (by decide +kernel)
set_option maxRecDepth 65536 in
theorem w_c25 : (Jvm.Cond.code ({ cls := "java/lang/StringUTF16", name := "indexOfChar", desc := "([BIII)I" } : Jvm.MethodName) jdk_52_method_47_code (4 : Nat) (Option.some Jvm.ClassFile.FieldType.int)).before args0 about1 = true := code_word (m := ⟨11, 11⟩) (meth := k11m11) (c := k11c11) (by decide +kernel) rfl rfl rfl (by decide +kernel)
set_option maxRecDepth 65536 in
theorem w_c26 : (Jvm.Cond.code ({ cls := "java/lang/StringUTF16", name := "checkBoundsBeginEnd", desc := "(II[B)V" } : Jvm.MethodName) jdk_52_method_93_code (3 : Nat) (Option.none : Option Jvm.ClassFile.FieldType)).before args0 about1 = true := code_word (m := ⟨11, 13⟩) (meth := k11m13) (c := k11c13) (by decide +kernel) rfl rfl rfl (by decide +kernel)
set_option maxRecDepth 65536 in
theorem w_c27 : (Jvm.Cond.code ({ cls := "java/lang/StringUTF16", name := "length", desc := "([B)I" } : Jvm.MethodName) jdk_52_method_6_code (1 : Nat) (Option.some Jvm.ClassFile.FieldType.int)).before args0 about1 = true := code_word (m := ⟨11, 5⟩) (meth := k11m5) (c := k11c5) (by decide +kernel) rfl rfl rfl (by decide +kernel)
set_option maxRecDepth 65536 in
theorem w_c28 : (Jvm.Cond.code ({ cls := "java/lang/String", name := "checkBoundsBeginEnd", desc := "(III)V" } : Jvm.MethodName) jdk_42_method_158_code (3 : Nat) (Option.none : Option Jvm.ClassFile.FieldType)).before args0 about1 = true := code_word (m := ⟨7, 8⟩) (meth := k7m8) (c := k7c8) (by decide +kernel) rfl rfl rfl (by decide +kernel)
set_option maxRecDepth 65536 in
theorem w_c29 : (Jvm.Cond.code ({ cls := "jdk/internal/util/Preconditions", name := "checkFromToIndex", desc := "(IIILjava/util/function/BiFunction;)I" } : Jvm.MethodName) jdk_41_method_12_code (4 : Nat) (Option.some Jvm.ClassFile.FieldType.int)).before args0 about1 = true := code_word (m := ⟨12, 1⟩) (meth := k12m1) (c := k12c1) (by decide +kernel) rfl rfl rfl (by decide +kernel)
set_option maxRecDepth 65536 in
theorem w_c30 : (Jvm.Cond.code ({ cls := "java/lang/StringUTF16", name := "indexOfCharUnsafe", desc := "([BIII)I" } : Jvm.MethodName) jdk_52_method_48_code (5 : Nat) (Option.some Jvm.ClassFile.FieldType.int)).before args0 about1 = true := code_word (m := ⟨11, 12⟩) (meth := k11m12) (c := k11c12) (by decide +kernel) rfl rfl rfl (by decide +kernel)
def codes1 : List Jvm.Cond := [Jvm.Cond.code x code maxLocals ret, Jvm.Cond.code ({ cls := "com/example/settlegram/settlegram/PositionsKeepsPinLaw", name := "ch", desc := "(I)C" } : Jvm.MethodName) method_2_code (1 : Nat) (Option.some Jvm.ClassFile.FieldType.char), Jvm.Cond.code ({ cls := "java/lang/String", name := "<init>", desc := "([C)V" } : Jvm.MethodName) jdk_42_method_3_code (2 : Nat) (Option.none : Option Jvm.ClassFile.FieldType), Jvm.Cond.code ({ cls := "java/lang/String", name := "<init>", desc := "([CIILjava/lang/Void;)V" } : Jvm.MethodName) jdk_42_method_149_code (6 : Nat) (Option.none : Option Jvm.ClassFile.FieldType), Jvm.Cond.code ({ cls := "java/lang/Object", name := "<init>", desc := "()V" } : Jvm.MethodName) object_method_1_code (1 : Nat) (Option.none : Option Jvm.ClassFile.FieldType), Jvm.Cond.code ({ cls := "com/example/settlegram/settlegram/Positions", name := "keeps", desc := "(Ljava/lang/String;)Z" } : Jvm.MethodName) prog_71_method_4_code (1 : Nat) (Option.some Jvm.ClassFile.FieldType.boolean), Jvm.Cond.code ({ cls := "java/lang/String", name := "indexOf", desc := "(I)I" } : Jvm.MethodName) jdk_42_method_79_code (2 : Nat) (Option.some Jvm.ClassFile.FieldType.int), Jvm.Cond.code ({ cls := "java/lang/String", name := "indexOf", desc := "(II)I" } : Jvm.MethodName) jdk_42_method_80_code (3 : Nat) (Option.some Jvm.ClassFile.FieldType.int), Jvm.Cond.code ({ cls := "java/lang/String", name := "isLatin1", desc := "()Z" } : Jvm.MethodName) jdk_42_method_154_code (1 : Nat) (Option.some Jvm.ClassFile.FieldType.boolean), Jvm.Cond.code ({ cls := "java/lang/String", name := "length", desc := "()I" } : Jvm.MethodName) jdk_42_method_54_code (1 : Nat) (Option.some Jvm.ClassFile.FieldType.int), Jvm.Cond.code ({ cls := "java/lang/String", name := "coder", desc := "()B" } : Jvm.MethodName) jdk_42_method_152_code (1 : Nat) (Option.some Jvm.ClassFile.FieldType.byte), Jvm.Cond.code ({ cls := "java/lang/StringLatin1", name := "indexOf", desc := "([BIII)I" } : Jvm.MethodName) jdk_43_method_22_code (4 : Nat) (Option.some Jvm.ClassFile.FieldType.int), Jvm.Cond.code ({ cls := "java/lang/StringLatin1", name := "canEncode", desc := "(I)Z" } : Jvm.MethodName) jdk_43_method_4_code (1 : Nat) (Option.some Jvm.ClassFile.FieldType.boolean), Jvm.Cond.code ({ cls := "java/lang/Math", name := "max", desc := "(II)I" } : Jvm.MethodName) jdk_29_method_65_code (2 : Nat) (Option.some Jvm.ClassFile.FieldType.int), Jvm.Cond.code ({ cls := "java/lang/Math", name := "min", desc := "(II)I" } : Jvm.MethodName) jdk_29_method_69_code (2 : Nat) (Option.some Jvm.ClassFile.FieldType.int), Jvm.Cond.code ({ cls := "java/lang/StringUTF16", name := "compress", desc := "([CII)[B" } : Jvm.MethodName) jdk_52_method_16_code (6 : Nat) (Option.some (Jvm.ClassFile.FieldType.array Jvm.ClassFile.FieldType.byte)), Jvm.Cond.code ({ cls := "java/lang/StringUTF16", name := "compress", desc := "([CI[BII)I" } : Jvm.MethodName) jdk_52_method_21_code (7 : Nat) (Option.some Jvm.ClassFile.FieldType.int), Jvm.Cond.code ({ cls := "java/lang/StringUTF16", name := "coderFromArrayLen", desc := "([BI)B" } : Jvm.MethodName) jdk_52_method_15_code (2 : Nat) (Option.some Jvm.ClassFile.FieldType.byte), Jvm.Cond.code ({ cls := "java/lang/StringLatin1", name := "indexOfChar", desc := "([BIII)I" } : Jvm.MethodName) jdk_43_method_23_code (6 : Nat) (Option.some Jvm.ClassFile.FieldType.int), Jvm.Cond.code ({ cls := "java/lang/StringUTF16", name := "toBytes", desc := "([CII)[B" } : Jvm.MethodName) jdk_52_method_14_code (5 : Nat) (Option.some (Jvm.ClassFile.FieldType.array Jvm.ClassFile.FieldType.byte)), Jvm.Cond.code ({ cls := "java/lang/StringUTF16", name := "newBytesFor", desc := "(I)[B" } : Jvm.MethodName) jdk_52_method_2_code (1 : Nat) (Option.some (Jvm.ClassFile.FieldType.array Jvm.ClassFile.FieldType.byte)), Jvm.Cond.code ({ cls := "java/lang/StringUTF16", name := "newBytesLength", desc := "(I)I" } : Jvm.MethodName) jdk_52_method_3_code (1 : Nat) (Option.some Jvm.ClassFile.FieldType.int), Jvm.Cond.code ({ cls := "java/lang/StringUTF16", name := "putChar", desc := "([BII)V" } : Jvm.MethodName) jdk_52_method_4_code (3 : Nat) (Option.none : Option Jvm.ClassFile.FieldType), Jvm.Cond.code ({ cls := "java/lang/StringUTF16", name := "getChar", desc := "([BI)C" } : Jvm.MethodName) jdk_52_method_5_code (2 : Nat) (Option.some Jvm.ClassFile.FieldType.char), Jvm.Cond.code ({ cls := "java/lang/StringUTF16", name := "indexOf", desc := "([BIII)I" } : Jvm.MethodName) jdk_52_method_40_code (4 : Nat) (Option.some Jvm.ClassFile.FieldType.int), Jvm.Cond.code ({ cls := "java/lang/StringUTF16", name := "indexOfChar", desc := "([BIII)I" } : Jvm.MethodName) jdk_52_method_47_code (4 : Nat) (Option.some Jvm.ClassFile.FieldType.int), Jvm.Cond.code ({ cls := "java/lang/StringUTF16", name := "checkBoundsBeginEnd", desc := "(II[B)V" } : Jvm.MethodName) jdk_52_method_93_code (3 : Nat) (Option.none : Option Jvm.ClassFile.FieldType), Jvm.Cond.code ({ cls := "java/lang/StringUTF16", name := "length", desc := "([B)I" } : Jvm.MethodName) jdk_52_method_6_code (1 : Nat) (Option.some Jvm.ClassFile.FieldType.int), Jvm.Cond.code ({ cls := "java/lang/String", name := "checkBoundsBeginEnd", desc := "(III)V" } : Jvm.MethodName) jdk_42_method_158_code (3 : Nat) (Option.none : Option Jvm.ClassFile.FieldType), Jvm.Cond.code ({ cls := "jdk/internal/util/Preconditions", name := "checkFromToIndex", desc := "(IIILjava/util/function/BiFunction;)I" } : Jvm.MethodName) jdk_41_method_12_code (4 : Nat) (Option.some Jvm.ClassFile.FieldType.int), Jvm.Cond.code ({ cls := "java/lang/StringUTF16", name := "indexOfCharUnsafe", desc := "([BIII)I" } : Jvm.MethodName) jdk_52_method_48_code (5 : Nat) (Option.some Jvm.ClassFile.FieldType.int)]
set_option maxRecDepth 65536 in
theorem codes_eq : words1.filter isCode = codes1 := rfl
theorem w_codes : ∀ c ∈ words1.filter isCode, c.before args0 about1 = true := by
  rw [codes_eq]
  intro c hc
  simp only [codes1, List.mem_cons, List.not_mem_nil, or_false] at hc
  rcases hc with rfl | rfl | rfl | rfl | rfl | rfl | rfl | rfl | rfl | rfl | rfl | rfl | rfl | rfl | rfl | rfl | rfl | rfl | rfl | rfl | rfl | rfl | rfl | rfl | rfl | rfl | rfl | rfl | rfl | rfl | rfl
  · exact w_c0
  · exact w_c1
  · exact w_c2
  · exact w_c3
  · exact w_c4
  · exact w_c5
  · exact w_c6
  · exact w_c7
  · exact w_c8
  · exact w_c9
  · exact w_c10
  · exact w_c11
  · exact w_c12
  · exact w_c13
  · exact w_c14
  · exact w_c15
  · exact w_c16
  · exact w_c17
  · exact w_c18
  · exact w_c19
  · exact w_c20
  · exact w_c21
  · exact w_c22
  · exact w_c23
  · exact w_c24
  · exact w_c25
  · exact w_c26
  · exact w_c27
  · exact w_c28
  · exact w_c29
  · exact w_c30
set_option maxRecDepth 65536 in
theorem w_t1 : (words1.take 24).all (fun c => isCode c || c.before args0 about1) = true := by decide +kernel
set_option maxRecDepth 65536 in
theorem w_t2 : ((words1.drop 24).take 24).all (fun c => isCode c || c.before args0 about1) = true := by decide +kernel
set_option maxRecDepth 65536 in
theorem w_t3 : (((words1.drop 24).drop 24).take 24).all (fun c => isCode c || c.before args0 about1) = true := by decide +kernel
set_option maxRecDepth 65536 in
theorem w_t4 : ((((words1.drop 24).drop 24).drop 24).take 24).all (fun c => isCode c || c.before args0 about1) = true := by decide +kernel
set_option maxRecDepth 65536 in
theorem w_t5 : (((((words1.drop 24).drop 24).drop 24).drop 24).take 24).all (fun c => isCode c || c.before args0 about1) = true := by decide +kernel
set_option maxRecDepth 65536 in
theorem w_t6 : (((((words1.drop 24).drop 24).drop 24).drop 24).drop 24).all (fun c => isCode c || c.before args0 about1) = true := by decide +kernel
theorem w_tables : (allAtoms (Jvm.Cond.code x code maxLocals ret :: tables_1)).before args0 about1 = true := by
  rw [allAtoms_all]
  show words1.all (fun c => c.before args0 about1) = true
  refine all_split ?_ w_codes
  rw [← List.take_append_drop 24 words1, List.all_append, w_t1, ← List.take_append_drop 24 (words1.drop 24), List.all_append, w_t2, ← List.take_append_drop 24 ((words1.drop 24).drop 24), List.all_append, w_t3, ← List.take_append_drop 24 (((words1.drop 24).drop 24).drop 24), List.all_append, w_t4, ← List.take_append_drop 24 ((((words1.drop 24).drop 24).drop 24).drop 24), List.all_append, w_t5, w_t6]
  rfl
set_option maxRecDepth 65536 in
theorem w_rest : rest_1_c.before args0 about1 = true := by decide +kernel
set_option maxRecDepth 65536 in
theorem w_case : (Jvm.Cond.and given_1 narrow_1).before args0 about1 = true := by decide +kernel
set_option maxRecDepth 65536 in
theorem w_consts : constsHeld consts_1 about1 := Jvm.Lit.constsHeldB_iff.mp (by decide +kernel)
theorem w_applies : (headSpec (Jvm.Cond.code x code maxLocals ret :: tables_1) room_1).applies x e0.platform about1 = true :=
  (Spec.applies_iff w_frames).mpr ⟨w_running, w_runnable, w_alone, w_named, w_hears, w_ripe, w_room, w_tables⟩
theorem atStart : AtStart classFile x code maxLocals ret World_1 tables_1 room_1 Calls_1 rest_1 Pre_1 launch0 p0 e0 about1 theMethod args0 below0 :=
  ⟨lists_1, trivial, launch0.admits_env _ _ _, launch0.least_env, fairChoices_fair.cas, fairChoices_fair.clock, w_frames, w_args, w_heap, w_applies, ⟨w_consts, trivial⟩, w_rest, w_case⟩
end start1
theorem witness_1 : WitnessClaimed_1 := ⟨start1.p0, start1.e0, start1.about1, start1.theMethod, start1.args0, start1.below0, start1.atStart⟩
end Jvm.Pilot.@@N@@
