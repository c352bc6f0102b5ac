import JvmDerived
import JvmDerived.Pilot.@@N@@Statement
import JvmDerived.Pilot.@@N@@Code
set_option linter.unusedVariables false
set_option linter.unusedSimpArgs false
namespace Jvm.Pilot.@@N@@.W
open Jvm Jvm.ClassFile Sem Op Lib Jvm.Free Jvm.Stand Jvm.LawKit Jvm.RoadKit
/-! own kit: a body's walk in one pass, backwards from its end ('Gl': from here the body comes to its end and there P holds) -/
section Walk
variable {p : Program} {l : Launch} {e : Env} {R : Room} {s : State} {m : MethodId} {args : Array Value} {below : List Frame} {meth : Method} {c : Code} {T T' : State} {locs : List Loc} {cells slots : Nat} {P : Option Value → Heap → List Loc → Prop} {C N : Nat} {Ls : Array Slot} {S : List Value} {pc pc' pc'' : Nat} {g : JFrame}
def Gl (p : Program) (e : Env) (below : List Frame) (s : State) (P : Option Value → Heap → List Loc → Prop) (C N : Nat) (T : State) (g : JFrame) : Prop :=
  ∃ (s₂ : State) (o : Outcome), Steps p.tables e below (T.setTop g) s₂ ∧ s₂.status = .running ∧ Ended s₂ below o ∧ ∃ v L, o = .returned v ∧ P v s₂.heap L ∧ FrameEnd s o s₂ L C N
theorem s1 (g' : JFrame) (h : ∀ t, Steps p.tables e below (T.setTop g') t → Steps p.tables e below (T.setTop g) t) (K : Gl p e below s P C N T g') : Gl p e below s P C N T g := by
  obtain ⟨s₂, o, h1, h2⟩ := K; exact ⟨s₂, o, h _ h1, h2⟩
theorem s2 (g' : JFrame) (h : ∀ t, Steps p.tables e below (T'.setTop g') t → Steps p.tables e below (T.setTop g) t) (K : Gl p e below s P C N T' g') : Gl p e below s P C N T g := by
  obtain ⟨s₂, o, h1, h2⟩ := K; exact ⟨s₂, o, h _ h1, h2⟩
theorem s3 (g' : JFrame) (h : Steps p.tables e below (T.setTop g) (T'.setTop g')) (K : Gl p e below s P C N T' g') : Gl p e below s P C N T g := by
  obtain ⟨s₂, o, h1, h2⟩ := K; exact ⟨s₂, o, h.trans h1, h2⟩
theorem cast {g' : JFrame} (q : g = g') (K : Gl p e below s P C N T g') : Gl p e below s P C N T g := q ▸ K
theorem fin (X : Stand p l e R s m args below meth c T locs cells slots) {v : Option Value} (hv : meth.sig.returnType = none → v = none) (hlk : meth.locks = false)
    (hs : ∀ fs, (∀ (f : JFrame) (acts : List Action), f.method = m → f.locked = none → f.entered = [] → (doReturn e (T.setTop f) acts v).1 = T.setFrames fs) → Steps p.tables e below (T.setTop g) (T.setFrames fs))
    (hP : P v T.heap locs) (hC : cells ≤ C) (hN : slots ≤ N) : Gl p e below s P C N T g := by
  obtain ⟨fs, hr, hrun, hended, hW, hsame⟩ := X.leave hv hlk
  exact ⟨_, _, hs fs hr, hrun, hended, _, _, rfl, hP, ⟨_, rfl⟩, hW, hsame.mono hC hN⟩
theorem retZ (X : Stand p l e R s m args below meth c T locs cells slots) (hx : p.tables.exec = Jvm.exec) (hlk : meth.locks = false) {z z' : Int32} {t : FieldType} (hret : meth.sig.returnType = some t) (ht : t = .boolean ∨ t = .byte ∨ t = .char ∨ t = .short)
    (hd : decode c.code pc = .ok (.ireturn, 1)) (hz : nar t z = z') (hP : P (some (.int z')) T.heap locs) (hC : cells ≤ C) (hN : slots ≤ N) : Gl p e below s P C N T (mkF m pc Ls (.int z :: S)) :=
  fin X (v := some (.int z')) (fun h => by rw [hret] at h; cases h) hlk (fun fs hr => by subst hz; exact RoadKit.retN X hx hret ht hd hr) hP hC hN
theorem retI (X : Stand p l e R s m args below meth c T locs cells slots) (hx : p.tables.exec = Jvm.exec) (hlk : meth.locks = false) {z : Int32} (hret : meth.sig.returnType = some .int)
    (hd : decode c.code pc = .ok (.ireturn, 1)) (hP : P (some (.int z)) T.heap locs) (hC : cells ≤ C) (hN : slots ≤ N) : Gl p e below s P C N T (mkF m pc Ls (.int z :: S)) :=
  fin X (v := some (.int z)) (fun h => by rw [hret] at h; cases h) hlk (fun fs hr => retOut X hx hret rfl (Or.inl ⟨rfl, Or.inl rfl, _, rfl⟩) hd hr) hP hC hN
theorem retL (X : Stand p l e R s m args below meth c T locs cells slots) (hx : p.tables.exec = Jvm.exec) (hlk : meth.locks = false) {z : Int64} (hret : meth.sig.returnType = some .long)
    (hd : decode c.code pc = .ok (.lreturn, 1)) (hP : P (some (.long z)) T.heap locs) (hC : cells ≤ C) (hN : slots ≤ N) : Gl p e below s P C N T (mkF m pc Ls (.long z :: S)) :=
  fin X (v := some (.long z)) (fun h => by rw [hret] at h; cases h) hlk (fun fs hr => retOut X hx hret rfl (Or.inr (Or.inl ⟨rfl, rfl, _, rfl⟩)) hd hr) hP hC hN
theorem retA (X : Stand p l e R s m args below meth c T locs cells slots) (hx : p.tables.exec = Jvm.exec) (hlk : meth.locks = false) {w : Value} {t : FieldType} (hret : meth.sig.returnType = some t) (ht : t.isReference = true) (hw : w.isRef = true) (hn : narrow t w = w)
    (hd : decode c.code pc = .ok (.areturn, 1)) (hP : P (some w) T.heap locs) (hC : cells ≤ C) (hN : slots ≤ N) : Gl p e below s P C N T (mkF m pc Ls (w :: S)) :=
  fin X (v := some w) (fun h => by rw [hret] at h; cases h) hlk (fun fs hr => retOut X hx hret hn (Or.inr (Or.inr (Or.inr (Or.inr ⟨rfl, ht, hw⟩)))) hd hr) hP hC hN
theorem ret0 (X : Stand p l e R s m args below meth c T locs cells slots) (hx : p.tables.exec = Jvm.exec) (hlk : meth.locks = false) (hret : meth.sig.returnType = none)
    (hd : decode c.code pc = .ok (.return_, 1)) (hP : P none T.heap locs) (hC : cells ≤ C) (hN : slots ≤ N) : Gl p e below s P C N T (mkF m pc Ls []) :=
  fin X (v := none) (fun _ => rfl) hlk (fun fs hr => X.returnOut hx hret hd hr) hP hC hN
/-! the branches -/
def cY : ClassFile.Cond → Int32 → Int32 → Prop
  | .eq, x, y => x = y
  | .ne, x, y => ¬ x = y
  | .lt, x, y => x < y
  | .ge, x, y => ¬ x < y
  | .gt, x, y => y < x
  | .le, x, y => ¬ y < x
def cN : ClassFile.Cond → Int32 → Int32 → Prop
  | .eq, x, y => ¬ x = y
  | .ne, x, y => x = y
  | .lt, x, y => ¬ x < y
  | .ge, x, y => x < y
  | .gt, x, y => ¬ y < x
  | .le, x, y => y < x
theorem cOr (cd : ClassFile.Cond) (x y : Int32) : (cY cd x y ∧ if_icmp.holds cd x y = true) ∨ (cN cd x y ∧ if_icmp.holds cd x y = false) := by
  cases cd with
  | eq => by_cases h : x = y; exact Or.inl ⟨h, (teq h).1⟩; exact Or.inr ⟨h, (feq h).1⟩
  | ne => by_cases h : x = y; exact Or.inr ⟨h, (teq h).2⟩; exact Or.inl ⟨h, (feq h).2⟩
  | lt => by_cases h : x < y; exact Or.inl ⟨h, (tlt h).1⟩; exact Or.inr ⟨h, (flt h).1⟩
  | ge => by_cases h : x < y; exact Or.inr ⟨h, (tlt h).2.1⟩; exact Or.inl ⟨h, (flt h).2.1⟩
  | gt => by_cases h : y < x; exact Or.inl ⟨h, (tlt h).2.2.1⟩; exact Or.inr ⟨h, (flt h).2.2.1⟩
  | le => by_cases h : y < x; exact Or.inr ⟨h, (tlt h).2.2.2⟩; exact Or.inl ⟨h, (flt h).2.2.2⟩
def lY : ClassFile.Cond → Int64 → Int64 → Prop
  | .eq, x, y => x = y
  | .ne, x, y => ¬ x = y
  | .lt, x, y => x < y
  | .ge, x, y => ¬ x < y
  | .gt, x, y => y < x
  | .le, x, y => ¬ y < x
def lN : ClassFile.Cond → Int64 → Int64 → Prop
  | .eq, x, y => ¬ x = y
  | .ne, x, y => x = y
  | .lt, x, y => ¬ x < y
  | .ge, x, y => x < y
  | .gt, x, y => ¬ y < x
  | .le, x, y => y < x
theorem lYc {cd : ClassFile.Cond} {x y : Int64} (h : cY cd (lcmpW x y) 0) : lY cd x y := by
  rw [lcW] at h
  cases cd with
  | eq => exact (lc_eq x y).mp h
  | ne => exact fun q => h ((lc_eq x y).mpr q)
  | lt => exact (lc_lt x y).mp h
  | ge => exact fun q => h ((lc_lt x y).mpr q)
  | gt => exact (lc_gt x y).mp h
  | le => exact fun q => h ((lc_gt x y).mpr q)
theorem lNc {cd : ClassFile.Cond} {x y : Int64} (h : cN cd (lcmpW x y) 0) : lN cd x y := by
  rw [lcW] at h
  cases cd with
  | eq => exact fun q => h ((lc_eq x y).mpr q)
  | ne => exact (lc_eq x y).mp h
  | lt => exact fun q => h ((lc_lt x y).mpr q)
  | ge => exact (lc_lt x y).mp h
  | gt => exact fun q => h ((lc_gt x y).mpr q)
  | le => exact (lc_gt x y).mp h
theorem icmp (X : Stand p l e R s m args below meth c T locs cells slots) (hx : p.tables.exec = Jvm.exec) {cd : ClassFile.Cond} {x y : Int32} {o : Int} (hd : decode c.code pc = .ok (.if_icmp cd o, 3)) (ho : 0 ≤ (pc : Int) + o) (hp : ((pc : Int) + o).toNat = pc') (hq : pc + 3 = pc'')
    (ky : cY cd x y → Gl p e below s P C N T (mkF m pc' Ls S)) (kn : cN cd x y → Gl p e below s P C N T (mkF m pc'' Ls S)) : Gl p e below s P C N T (mkF m pc Ls (.int y :: .int x :: S)) := by
  subst hq
  rcases cOr cd x y with ⟨h1, h2⟩ | ⟨h1, h2⟩
  · exact s1 _ (fun t k => XS.icmpYes X.here hx rfl (pc0 := pc) (pc' := pc') rfl hd rfl h2 ho hp k) (ky h1)
  · exact s1 _ (fun t k => XS.icmpNo X.here hx rfl hd rfl h2 k) (kn h1)
theorem ifc (X : Stand p l e R s m args below meth c T locs cells slots) (hx : p.tables.exec = Jvm.exec) {cd : ClassFile.Cond} {x : Int32} {o : Int} (hd : decode c.code pc = .ok (.ifCond cd o, 3)) (ho : 0 ≤ (pc : Int) + o) (hp : ((pc : Int) + o).toNat = pc') (hq : pc + 3 = pc'')
    (ky : cY cd x 0 → Gl p e below s P C N T (mkF m pc' Ls S)) (kn : cN cd x 0 → Gl p e below s P C N T (mkF m pc'' Ls S)) : Gl p e below s P C N T (mkF m pc Ls (.int x :: S)) := by
  subst hq
  rcases cOr cd x 0 with ⟨h1, h2⟩ | ⟨h1, h2⟩
  · exact s1 _ (fun t k => XS.ifYes X.here hx rfl (pc0 := pc) (pc' := pc') rfl hd rfl ((if0 _ _).trans h2) ho hp k) (ky h1)
  · exact s1 _ (fun t k => XS.ifNo X.here hx rfl hd rfl ((if0 _ _).trans h2) k) (kn h1)
theorem lif (X : Stand p l e R s m args below meth c T locs cells slots) (hx : p.tables.exec = Jvm.exec) {cd : ClassFile.Cond} {x y : Int64} {o : Int} (hd1 : decode c.code pc = .ok (.lcmp, 1)) {pc1 : Nat} (h1 : pc + 1 = pc1) (hd : decode c.code pc1 = .ok (.ifCond cd o, 3)) (ho : 0 ≤ (pc1 : Int) + o) (hp : ((pc1 : Int) + o).toNat = pc') (hq : pc1 + 3 = pc'')
    (ky : lY cd x y → Gl p e below s P C N T (mkF m pc' Ls S)) (kn : lN cd x y → Gl p e below s P C N T (mkF m pc'' Ls S)) : Gl p e below s P C N T (mkF m pc Ls (.long y :: .long x :: S)) := by
  subst h1
  exact s1 (mkF m (pc + 1) Ls (.int (lcmpW x y) :: S)) (fun t k => XS.lcmp X.here hx rfl hd1 rfl k) (ifc X hx hd ho hp hq (fun h => ky (lYc h)) (fun h => kn (lNc h)))
end Walk
/-! arrays of ints and of longs, by what each place holds -/
section Arrays
variable {Z : State} {h h' : Heap} {a b : Addr} {ty : FieldType} {n : Nat} {f : Nat → Int32} {q : Nat → Int64}
def up {α : Type} (f : Nat → α) (j : Nat) (v : α) : Nat → α := fun k => if k = j then v else f k
theorem up_same {α : Type} (f : Nat → α) (j : Nat) (v : α) : up f j v j = v := if_pos rfl
theorem up_other {α : Type} (f : Nat → α) {j k : Nat} (v : α) (h : ¬ k = j) : up f j v k = f k := if_neg h
def AI (Z : State) (h : Heap) (a : Addr) (ty : FieldType) (n : Nat) (f : Nat → Int32) : Prop := ∃ c : Cell, Arr Z h a c ty ∧ c.slots.size = n ∧ ∀ k, k < n → c.slots[k]? = some (.int (f k))
def AJ (Z : State) (h : Heap) (a : Addr) (n : Nat) (f : Nat → Int64) : Prop := ∃ c : Cell, Arr Z h a c .long ∧ c.slots.size = n ∧ ∀ k, k < n → c.slots[k]? = some (.long (f k))
theorem AI.lt (F : AI Z h a ty n f) : a < h.size := by obtain ⟨c, A, -⟩ := F; exact A.lt
theorem AJ.lt (F : AJ Z h a n q) : a < h.size := by obtain ⟨c, A, -⟩ := F; exact A.lt
theorem AI.ext (F : AI Z h a ty n f) (E : Ext h h') : AI Z h' a ty n f := by obtain ⟨c, A, r⟩ := F; exact ⟨c, A.ext E, r⟩
theorem AJ.ext (F : AJ Z h a n q) (E : Ext h h') : AJ Z h' a n q := by obtain ⟨c, A, r⟩ := F; exact ⟨c, A.ext E, r⟩
theorem AI.other {sl : Nat} {v : Value} (F : AI Z h b ty n f) (W : Wr h h' a sl v) (e : b ≠ a) : AI Z h' b ty n f := by obtain ⟨c, A, r⟩ := F; exact ⟨c, A.other W e, r⟩
theorem AJ.other {sl : Nat} {v : Value} (F : AJ Z h b n q) (W : Wr h h' a sl v) (e : b ≠ a) : AJ Z h' b n q := by obtain ⟨c, A, r⟩ := F; exact ⟨c, A.other W e, r⟩
theorem AI.keep {ws : List Addr} (F : AI Z h a ty n f) (K : Keep h h' ws) (e : a ∉ ws) : AI Z h' a ty n f := by obtain ⟨c, A, r⟩ := F; exact ⟨c, ⟨K.2.1 a c A.1 e, A.2⟩, r⟩
theorem AJ.keep {ws : List Addr} (F : AJ Z h a n q) (K : Keep h h' ws) (e : a ∉ ws) : AJ Z h' a n q := by obtain ⟨c, A, r⟩ := F; exact ⟨c, ⟨K.2.1 a c A.1 e, A.2⟩, r⟩
theorem slots_set {c : Cell} {j k : Nat} {v : Value} (hj : j < c.slots.size) : (c.setSlot j v).slots[k]? = if k = j then some v else c.slots[k]? := by
  by_cases e : k = j
  · subst e; simp [Cell.setSlot, hj]
  · simp only [Cell.setSlot, if_neg e]; exact Array.getElem?_setIfInBounds_ne (Ne.symm e)
theorem AI.set {j : Nat} {v : Int32} (F : AI Z h a ty n f) (W : Wr h h' a j (.int v)) (hj : j < n) : AI Z h' a ty n (up f j v) := by
  obtain ⟨c, A, r1, r2⟩ := F
  refine ⟨_, A.same W, by rw [sz_set]; exact r1, fun k hk => ?_⟩
  rw [slots_set (by omega)]
  by_cases e : k = j
  · rw [if_pos e, e, up_same]
  · rw [if_neg e, up_other _ _ e]; exact r2 k hk
theorem AJ.set {j : Nat} {v : Int64} (F : AJ Z h a n q) (W : Wr h h' a j (.long v)) (hj : j < n) : AJ Z h' a n (up q j v) := by
  obtain ⟨c, A, r1, r2⟩ := F
  refine ⟨_, A.same W, by rw [sz_set]; exact r1, fun k hk => ?_⟩
  rw [slots_set (by omega)]
  by_cases e : k = j
  · rw [if_pos e, e, up_same]
  · rw [if_neg e, up_other _ _ e]; exact r2 k hk
theorem clamp {z : Int32} (hz : z.toInt = n) : z.toNatClampNeg = n := by simp only [Int32.toNatClampNeg]; omega
theorem AI.new {k : ClassId} {z : Int32} (A : Arr Z h a (newA k ty z) ty) (hz : z.toInt = n) (hd : defaultValue ty = .int 0) : AI Z h a ty n (fun _ => 0) :=
  ⟨_, A, by rw [sz_new]; exact clamp hz, fun i hi => by rw [← clamp hz] at hi; simp [newA, hi, hd]⟩
theorem AJ.new {k : ClassId} {z : Int32} (A : Arr Z h a (newA k .long z) .long) (hz : z.toInt = n) : AJ Z h a n (fun _ => 0) :=
  ⟨_, A, by rw [sz_new]; exact clamp hz, fun i hi => by rw [← clamp hz] at hi; simp [newA, hi, defaultValue]⟩
theorem AI.congr {f' : Nat → Int32} (F : AI Z h a ty n f) (e : ∀ k, k < n → f' k = f k) : AI Z h a ty n f' := by obtain ⟨c, A, r1, r2⟩ := F; exact ⟨c, A, r1, fun k hk => by rw [e k hk]; exact r2 k hk⟩
theorem AJ.congr {f' : Nat → Int64} (F : AJ Z h a n q) (e : ∀ k, k < n → f' k = q k) : AJ Z h a n f' := by obtain ⟨c, A, r1, r2⟩ := F; exact ⟨c, A, r1, fun k hk => by rw [e k hk]; exact r2 k hk⟩
theorem inb {j : Int32} {k sz : Nat} (hj : j.toInt = k) (hk : k < sz) : ¬ (j < 0 ∨ sz ≤ j.toNatClampNeg) := by
  rw [clamp hj, Int32.lt_iff_toInt_lt, hj, show (0 : Int32).toInt = 0 from rfl]; omega
theorem szI {z : Int32} (hz : z.toInt = n) : Nat.toInt32 n = z := by
  rw [← Int32.toInt_inj, len_toInt (by have := z.toInt_lt; omega), hz]
end Arrays
section Steps
variable {p : Program} {l : Launch} {e : Env} {R : Room} {s : State} {m : MethodId} {args : Array Value} {below : List Frame} {meth : Method} {c : Code} {T T' : State} {locs : List Loc} {cells slots : Nat} {P : Option Value → Heap → List Loc → Prop} {C N : Nat} {Ls : Array Slot} {S : List Value} {pc pc' : Nat} {Z : State} {h : Heap} {a : Addr} {n n0 : Nat} {f : Nat → Int32} {q : Nat → Int64} {a0 : Array Value} {ty : FieldType}
theorem getf (X : Stand p l e R s m args below meth c T locs cells slots) (hx : p.tables.exec = Jvm.exec) (hZ : Z.Warmed39 s.vm) {own R0 O n d host : String} {index : Nat} (hown : s.vm.findClass own = some m.cls) (w : (Cond.fieldLink own index R0 n d).before a0 Z = true ∨ (Cond.fieldLinkNest own index R0 n d host).before a0 Z = true) (via : Via Z R0 O n d)
    (eT : T.heap = h) {v : Value} (F : Fld Z h a O n d v) (hd : decode c.code pc = .ok (.getfield index, 3)) (hq : pc + 3 = pc') (K : ∀ T', Stand p l e R s m args below meth c T' locs cells slots → T'.heap = h → Gl p e below s P C N T' (mkF m pc' Ls (v :: S))) : Gl p e below s P C N T (mkF m pc Ls (.ref a :: S)) := by
  subst hq
  obtain ⟨T', X', e', st⟩ := getF X hx hZ hown w via eT F (g := mkF m pc Ls (.ref a :: S)) rfl rfl hd
  exact s2 _ st (K T' X' e')
theorem gets (X : Stand p l e R s m args below meth c T locs cells slots) (hx : p.tables.exec = Jvm.exec) (hZ : Z.Warmed39 s.vm) {own R0 O n d host : String} {index : Nat} (hown : s.vm.findClass own = some m.cls) (w : (Cond.fieldLink own index R0 n d).before a0 Z = true ∨ (Cond.fieldLinkNest own index R0 n d host).before a0 Z = true) (via : Via Z R0 O n d)
    (eT : T.heap = h) {v : Value} (F : Sta Z h O n d v) (hd : decode c.code pc = .ok (.getstatic index, 3)) (hq : pc + 3 = pc') (K : ∀ T', Stand p l e R s m args below meth c T' locs cells slots → T'.heap = h → Gl p e below s P C N T' (mkF m pc' Ls (v :: S))) : Gl p e below s P C N T (mkF m pc Ls S) := by
  subst hq
  obtain ⟨T', X', e', st⟩ := getS2 X hx hZ hown w via eT F (g := mkF m pc Ls S) rfl hd
  exact s2 _ st (K T' X' e')
theorem putf (X : Stand p l e R s m args below meth c T locs cells slots) (hx : p.tables.exec = Jvm.exec) (hZ : Z.Warmed39 s.vm) {own R0 O n d host Cl : String} {index kk : Nat} (hown : s.vm.findClass own = some m.cls) (w : (Cond.fieldLink own index R0 n d).before a0 Z = true ∨ (Cond.fieldLinkNest own index R0 n d host).before a0 Z = true) (via : Via Z R0 O n d)
    (eT : T.heap = h) {v old : Value} (F : Fld Z h a O n d old) (E : Exa Z h a Cl) (L : (Cond.lays Cl O n d).before a0 Z = true ∨ ((Cond.laysFinal Cl O n d).before a0 Z = true ∧ own = O ∧ meth.name = "<init>")) (wi : (Cond.instantiable Cl kk).before a0 Z = true)
    (hty : parseFieldDescriptor d = some ty) (hn : narrow ty v = v) (hf : fits ty v = true) (N0 : Fr n0 locs) (ga : n0 ≤ a) (hd : decode c.code pc = .ok (.putfield index, 3)) (hq : pc + 3 = pc')
    (K : ∀ T' h' L', Stand p l e R s m args below meth c T' L' cells slots → T'.heap = h' → Wr h h' a (RoadKit.slotOf Z O n d) v → Fld Z h' a O n d v → Fr n0 L' → Gl p e below s P C N T' (mkF m pc' Ls S)) : Gl p e below s P C N T (mkF m pc Ls (v :: .ref a :: S)) := by
  subst hq
  obtain ⟨T', h', X', e', W, st⟩ := putF X hx hZ hown w via eT F E L wi hty hn hf (g := mkF m pc Ls (v :: .ref a :: S)) rfl rfl hd
  exact s2 _ st (K T' h' _ X' e' W (F.same W) (Fr.snoc X' N0 ga))
theorem newo (X : Stand p l e R s m args below meth c T locs cells slots) (hx : p.tables.exec = Jvm.exec) (hZ : Z.Warmed39 s.vm) {own Cl : String} {index n : Nat} (hown : s.vm.findClass own = some m.cls) (w : (Cond.classLink own index Cl).before a0 Z = true) (wi : (Cond.instantiable Cl n).before a0 Z = true) (wz : (Cond.initialized Cl).before a0 Z = true) (eT : T.heap = h)
    (hd : decode c.code pc = .ok (.new index, 3)) (hc : cells + 1 ≤ R.cells) (hl : slots + n ≤ R.slots) (hq : pc + 3 = pc')
    (K : ∀ T' h' a, Stand p l e R s m args below meth c T' locs (cells + 1) (slots + n) → T'.heap = h' → Ext h h' → a = h.size → Exa Z h' a Cl → (∀ {O nm d : String} {ty : FieldType}, Laid Z a0 Cl O nm d → parseFieldDescriptor d = some ty → Fld Z h' a O nm d (defaultValue ty)) → Gl p e below s P C N T' (mkF m pc' Ls (.ref a :: S))) : Gl p e below s P C N T (mkF m pc Ls S) := by
  subst hq
  obtain ⟨T', h', X', e', E, A, D, -, st⟩ := newO X hx hZ hown w wi wz eT (g := mkF m pc Ls S) rfl hd hc hl
  exact s2 _ st (K T' h' _ X' e' E rfl A D)
theorem newi (X : Stand p l e R s m args below meth c T locs cells slots) (hx : p.tables.exec = Jvm.exec) (hZ : Z.Warmed39 s.vm) {aty : ArrayType} (w : (Cond.arrayClass ty).before a0 Z = true) (hty : newarray.typeOf aty = ty) (hdv : defaultValue ty = .int 0) (eT : T.heap = h) {z : Int32} (hd : decode c.code pc = .ok (.newarray aty, 2)) (hz : z.toInt = n) {cap : Nat} (hcap : n ≤ cap) (hb : cap * 8 ≤ 536870912) (hc : cells + 1 ≤ R.cells) (hl : slots + cap ≤ R.slots) (hq : pc + 2 = pc')
    (K : ∀ T' h' a, Stand p l e R s m args below meth c T' locs (cells + 1) (slots + cap) → T'.heap = h' → Ext h h' → a = h.size → AI Z h' a ty n (fun _ => 0) → Gl p e below s P C N T' (mkF m pc' Ls (.ref a :: S))) : Gl p e below s P C N T (mkF m pc Ls (.int z :: S)) := by
  subst hq hty
  obtain ⟨T', h', k, X', e', E, A, st⟩ := newP X hx hZ w eT (g := mkF m pc Ls (.int z :: S)) rfl hd rfl (by rw [Int32.lt_iff_toInt_lt, hz, show (0 : Int32).toInt = 0 from rfl]; omega) (cap := cap) (by rw [clamp hz]; exact hcap) hb hc hl
  exact s2 _ st (K T' h' _ X' e' E rfl (AI.new A hz hdv))
theorem newj (X : Stand p l e R s m args below meth c T locs cells slots) (hx : p.tables.exec = Jvm.exec) (hZ : Z.Warmed39 s.vm) (w : (Cond.arrayClass .long).before a0 Z = true) (eT : T.heap = h) {z : Int32} (hd : decode c.code pc = .ok (.newarray .long, 2)) (hz : z.toInt = n) {cap : Nat} (hcap : n ≤ cap) (hb : cap * 8 ≤ 536870912) (hc : cells + 1 ≤ R.cells) (hl : slots + cap ≤ R.slots) (hq : pc + 2 = pc')
    (K : ∀ T' h' a, Stand p l e R s m args below meth c T' locs (cells + 1) (slots + cap) → T'.heap = h' → Ext h h' → a = h.size → AJ Z h' a n (fun _ => 0) → Gl p e below s P C N T' (mkF m pc' Ls (.ref a :: S))) : Gl p e below s P C N T (mkF m pc Ls (.int z :: S)) := by
  subst hq
  obtain ⟨T', h', k, X', e', E, A, st⟩ := newP X hx hZ (aty := .long) w eT (g := mkF m pc Ls (.int z :: S)) rfl hd rfl (by rw [Int32.lt_iff_toInt_lt, hz, show (0 : Int32).toInt = 0 from rfl]; omega) (cap := cap) (by rw [clamp hz]; exact hcap) hb hc hl
  exact s2 _ st (K T' h' _ X' e' E rfl (AJ.new A hz))
theorem ldi (X : Stand p l e R s m args below meth c T locs cells slots) (hx : p.tables.exec = Jvm.exec) (hZ : Z.Warmed39 s.vm) (eT : T.heap = h) (F : AI Z h a .int n f) {j : Int32} (k : Nat) (hj : j.toInt = k) (hk : k < n) (hd : decode c.code pc = .ok (.iaload, 1)) (hq : pc + 1 = pc')
    (K : Gl p e below s P C N T (mkF m pc' Ls (.int (f k) :: S))) : Gl p e below s P C N T (mkF m pc Ls (.int j :: .ref a :: S)) := by
  subst hq
  obtain ⟨cl, A, r1, r2⟩ := F
  exact s1 _ (fun t q => X.iaload hx (v := .int (f k)) (by rw [eT]; exact A.1) (State.isArrayOf_alike hZ.alike A.2.1) A.2.2 (inb hj (by omega)) (by rw [clamp hj]; exact r2 k hk) (g := mkF m pc Ls (.int j :: .ref a :: S)) rfl rfl hd t q) K
theorem ldz (X : Stand p l e R s m args below meth c T locs cells slots) (hx : p.tables.exec = Jvm.exec) (hZ : Z.Warmed39 s.vm) (eT : T.heap = h) (F : AI Z h a .boolean n f) {j : Int32} (k : Nat) (hj : j.toInt = k) (hk : k < n) (hd : decode c.code pc = .ok (.baload, 1)) (hq : pc + 1 = pc')
    (K : Gl p e below s P C N T (mkF m pc' Ls (.int (f k) :: S))) : Gl p e below s P C N T (mkF m pc Ls (.int j :: .ref a :: S)) := by
  subst hq
  obtain ⟨cl, A, r1, r2⟩ := F
  exact s1 _ (fun t q => X.baloadBooleans hx (v := .int (f k)) (by rw [eT]; exact A.1) (State.isArrayOf_alike hZ.alike A.2.1) A.2.2 (inb hj (by omega)) (by rw [clamp hj]; exact r2 k hk) (g := mkF m pc Ls (.int j :: .ref a :: S)) rfl rfl hd t q) K
theorem ldb (X : Stand p l e R s m args below meth c T locs cells slots) (hx : p.tables.exec = Jvm.exec) (hZ : Z.Warmed39 s.vm) (eT : T.heap = h) (F : AI Z h a .byte n f) {j : Int32} (k : Nat) (hj : j.toInt = k) (hk : k < n) (hd : decode c.code pc = .ok (.baload, 1)) (hq : pc + 1 = pc')
    (K : Gl p e below s P C N T (mkF m pc' Ls (.int (f k) :: S))) : Gl p e below s P C N T (mkF m pc Ls (.int j :: .ref a :: S)) := by
  subst hq
  obtain ⟨cl, A, r1, r2⟩ := F
  exact s1 _ (fun t q => X.baloadBytes hx (v := .int (f k)) (by rw [eT]; exact A.1) (State.isArrayOf_alike hZ.alike A.2.1) A.2.2 (inb hj (by omega)) (by rw [clamp hj]; exact r2 k hk) (g := mkF m pc Ls (.int j :: .ref a :: S)) rfl rfl hd t q) K
theorem ldj (X : Stand p l e R s m args below meth c T locs cells slots) (hx : p.tables.exec = Jvm.exec) (hZ : Z.Warmed39 s.vm) (eT : T.heap = h) (F : AJ Z h a n q) {j : Int32} (k : Nat) (hj : j.toInt = k) (hk : k < n) (hd : decode c.code pc = .ok (.laload, 1)) (hq : pc + 1 = pc')
    (K : Gl p e below s P C N T (mkF m pc' Ls (.long (q k) :: S))) : Gl p e below s P C N T (mkF m pc Ls (.int j :: .ref a :: S)) := by
  subst hq
  obtain ⟨cl, A, r1, r2⟩ := F
  exact s1 _ (fun t u => X.laload hx (v := .long (q k)) (by rw [eT]; exact A.1) (State.isArrayOf_alike hZ.alike A.2.1) A.2.2 (inb hj (by omega)) (by rw [clamp hj]; exact r2 k hk) (g := mkF m pc Ls (.int j :: .ref a :: S)) rfl rfl hd t u) K
theorem alen (X : Stand p l e R s m args below meth c T locs cells slots) (hx : p.tables.exec = Jvm.exec) (hZ : Z.Warmed39 s.vm) (eT : T.heap = h) (F : AI Z h a ty n f) {z : Int32} (hz : z.toInt = n) (hd : decode c.code pc = .ok (.arraylength, 1)) (hq : pc + 1 = pc')
    (K : Gl p e below s P C N T (mkF m pc' Ls (.int z :: S))) : Gl p e below s P C N T (mkF m pc Ls (.ref a :: S)) := by
  subst hq
  obtain ⟨cl, A, r1, r2⟩ := F
  exact s1 _ (fun t u => X.arraylength hx (by rw [eT]; exact A.1) (State.isArrayOf_alike hZ.alike A.2.1) (g := mkF m pc Ls (.ref a :: S)) rfl rfl hd t (by rw [r1, szI hz]; exact u)) K
theorem alenJ (X : Stand p l e R s m args below meth c T locs cells slots) (hx : p.tables.exec = Jvm.exec) (hZ : Z.Warmed39 s.vm) (eT : T.heap = h) (F : AJ Z h a n q) {z : Int32} (hz : z.toInt = n) (hd : decode c.code pc = .ok (.arraylength, 1)) (hq : pc + 1 = pc')
    (K : Gl p e below s P C N T (mkF m pc' Ls (.int z :: S))) : Gl p e below s P C N T (mkF m pc Ls (.ref a :: S)) := by
  subst hq
  obtain ⟨cl, A, r1, r2⟩ := F
  exact s1 _ (fun t u => X.arraylength hx (by rw [eT]; exact A.1) (State.isArrayOf_alike hZ.alike A.2.1) (g := mkF m pc Ls (.ref a :: S)) rfl rfl hd t (by rw [r1, szI hz]; exact u)) K
theorem sti (X : Stand p l e R s m args below meth c T locs cells slots) (hx : p.tables.exec = Jvm.exec) (hZ : Z.Warmed39 s.vm) (eT : T.heap = h) (F : AI Z h a .int n f) {j x : Int32} (k : Nat) (hj : j.toInt = k) (hk : k < n) (N0 : Fr n0 locs) (ga : n0 ≤ a) (hd : decode c.code pc = .ok (.iastore, 1)) (hq : pc + 1 = pc')
    (K : ∀ T' h' L', Stand p l e R s m args below meth c T' L' cells slots → T'.heap = h' → Wr h h' a k (.int x) → AI Z h' a .int n (up f k x) → Fr n0 L' → Gl p e below s P C N T' (mkF m pc' Ls S)) : Gl p e below s P C N T (mkF m pc Ls (.int x :: .int j :: .ref a :: S)) := by
  subst hq
  obtain ⟨cl, A, r1, r2⟩ := F
  obtain ⟨T', h', X', e', W, st⟩ := stI X hx hZ eT A (inb hj (by omega)) (g := mkF m pc Ls (.int x :: .int j :: .ref a :: S)) rfl rfl hd
  have N1 := Fr.snoc X' N0 ga
  rw [clamp hj] at W
  exact s2 _ st (K T' h' _ X' e' W (AI.set ⟨cl, A, r1, r2⟩ W hk) N1)
theorem stz (X : Stand p l e R s m args below meth c T locs cells slots) (hx : p.tables.exec = Jvm.exec) (hZ : Z.Warmed39 s.vm) (eT : T.heap = h) (F : AI Z h a .boolean n f) {j x x' : Int32} (hn : nar .boolean x = x') (k : Nat) (hj : j.toInt = k) (hk : k < n) (N0 : Fr n0 locs) (ga : n0 ≤ a) (hd : decode c.code pc = .ok (.bastore, 1)) (hq : pc + 1 = pc')
    (K : ∀ T' h' L', Stand p l e R s m args below meth c T' L' cells slots → T'.heap = h' → Wr h h' a k (.int x') → AI Z h' a .boolean n (up f k x') → Fr n0 L' → Gl p e below s P C N T' (mkF m pc' Ls S)) : Gl p e below s P C N T (mkF m pc Ls (.int x :: .int j :: .ref a :: S)) := by
  subst hq hn
  obtain ⟨cl, A, r1, r2⟩ := F
  obtain ⟨T', h', X', e', W, st⟩ := stZ X hx hZ eT A (inb hj (by omega)) (g := mkF m pc Ls (.int x :: .int j :: .ref a :: S)) rfl rfl hd
  have N1 := Fr.snoc X' N0 ga
  rw [clamp hj] at W
  exact s2 _ st (K T' h' _ X' e' W (AI.set ⟨cl, A, r1, r2⟩ W hk) N1)
theorem stb (X : Stand p l e R s m args below meth c T locs cells slots) (hx : p.tables.exec = Jvm.exec) (hZ : Z.Warmed39 s.vm) (eT : T.heap = h) (F : AI Z h a .byte n f) {j x x' : Int32} (hn : nar .byte x = x') (k : Nat) (hj : j.toInt = k) (hk : k < n) (N0 : Fr n0 locs) (ga : n0 ≤ a) (hd : decode c.code pc = .ok (.bastore, 1)) (hq : pc + 1 = pc')
    (K : ∀ T' h' L', Stand p l e R s m args below meth c T' L' cells slots → T'.heap = h' → Wr h h' a k (.int x') → AI Z h' a .byte n (up f k x') → Fr n0 L' → Gl p e below s P C N T' (mkF m pc' Ls S)) : Gl p e below s P C N T (mkF m pc Ls (.int x :: .int j :: .ref a :: S)) := by
  subst hq hn
  obtain ⟨cl, A, r1, r2⟩ := F
  obtain ⟨T', h', X', e', W, st⟩ := stB X hx hZ eT A (inb hj (by omega)) (g := mkF m pc Ls (.int x :: .int j :: .ref a :: S)) rfl rfl hd
  have N1 := Fr.snoc X' N0 ga
  rw [clamp hj] at W
  exact s2 _ st (K T' h' _ X' e' W (AI.set ⟨cl, A, r1, r2⟩ W hk) N1)
theorem stj (X : Stand p l e R s m args below meth c T locs cells slots) (hx : p.tables.exec = Jvm.exec) (hZ : Z.Warmed39 s.vm) (eT : T.heap = h) (F : AJ Z h a n q) {j : Int32} {x : Int64} (k : Nat) (hj : j.toInt = k) (hk : k < n) (N0 : Fr n0 locs) (ga : n0 ≤ a) (hd : decode c.code pc = .ok (.lastore, 1)) (hq : pc + 1 = pc')
    (K : ∀ T' h' L', Stand p l e R s m args below meth c T' L' cells slots → T'.heap = h' → Wr h h' a k (.long x) → AJ Z h' a n (up q k x) → Fr n0 L' → Gl p e below s P C N T' (mkF m pc' Ls S)) : Gl p e below s P C N T (mkF m pc Ls (.long x :: .int j :: .ref a :: S)) := by
  subst hq
  obtain ⟨cl, A, r1, r2⟩ := F
  obtain ⟨T', h', X', e', W, st⟩ := stJ X hx hZ eT A (inb hj (by omega)) (g := mkF m pc Ls (.long x :: .int j :: .ref a :: S)) rfl rfl hd
  have N1 := Fr.snoc X' N0 ga
  rw [clamp hj] at W
  exact s2 _ st (K T' h' _ X' e' W (AJ.set ⟨cl, A, r1, r2⟩ W hk) N1)
end Steps
end Jvm.Pilot.@@N@@.W
namespace Jvm.Pilot.@@N@@
open Jvm Jvm.ClassFile Sem Op Lib Jvm.Free Jvm.Stand Jvm.LawKit Jvm.RoadKit Bundle Jvm.Pilot.@@N@@.Jvm.D
theorem own_lay {x y : Int32} (hy : (1 : Int32) + ((x &&& (2147483647 : Int32)) % (7 : Int32)) = y) : y = 1 ∨ y = 2 ∨ y = 3 ∨ y = 4 ∨ y = 5 ∨ y = 6 ∨ y = 7 := by
  have h0 : 0 ≤ (x &&& (2147483647 : Int32)).toInt := (c_andS _ _).2.2 (by decide)
  have h1 := (c_irem (x &&& (2147483647 : Int32)) 7 7 rfl).1 h0
  have h2 := c_iadd 1 ((x &&& (2147483647 : Int32)) % (7 : Int32))
  have h3 := rng32 y
  have e1 : (1 : Int32).toInt = 1 := rfl
  rw [hy] at h2
  simp only [← Int32.toInt_inj, e1, show (2 : Int32).toInt = 2 from rfl, show (3 : Int32).toInt = 3 from rfl, show (4 : Int32).toInt = 4 from rfl, show (5 : Int32).toInt = 5 from rfl, show (6 : Int32).toInt = 6 from rfl, show (7 : Int32).toInt = 7 from rfl]
  omega
def own_case (x : Int32) (k : Nat) (f : Nat → Int32) : Prop := (x = 1 ∧ k = 2 ∧ f 0 = 66 ∧ f 1 = 77) ∨ (¬ x = 1 ∧ ¬ (3 : Int32) < x ∧ k = 1 ∧ f 0 = 66) ∨ ((3 : Int32) < x ∧ x = 5 ∧ k = 2 ∧ f 0 = 79 ∧ f 1 = 82) ∨ ((3 : Int32) < x ∧ ¬ x = 5 ∧ k = 0)
theorem own_c1 {k : Nat} {f : Nat → Int32} (h : own_case 1 k f) : k = 2 ∧ f 0 = 66 ∧ f 1 = 77 := by
  rcases h with ⟨_, h⟩ | ⟨h, _⟩ | ⟨h, _⟩ | ⟨h, _⟩
  · exact h
  · exact absurd rfl h
  · exact absurd h (by decide)
  · exact absurd h (by decide)
theorem own_c23 {x : Int32} (h1 : ¬ x = 1) (h3 : ¬ (3 : Int32) < x) {k : Nat} {f : Nat → Int32} (h : own_case x k f) : k = 1 ∧ f 0 = 66 := by
  rcases h with ⟨h, _⟩ | ⟨_, _, h⟩ | ⟨h, _⟩ | ⟨h, _⟩
  · exact absurd h h1
  · exact h
  · exact absurd h h3
  · exact absurd h h3
theorem own_c5 {k : Nat} {f : Nat → Int32} (h : own_case 5 k f) : k = 2 ∧ f 0 = 79 ∧ f 1 = 82 := by
  rcases h with ⟨h, _⟩ | ⟨_, h, _⟩ | ⟨_, _, h⟩ | ⟨_, h, _⟩
  · exact absurd h (by decide)
  · exact absurd h (by decide)
  · exact h
  · exact absurd rfl h
theorem own_c4 {x : Int32} (h1 : ¬ x = 1) (h3 : (3 : Int32) < x) (h5 : ¬ x = 5) {k : Nat} {f : Nat → Int32} (h : own_case x k f) : k = 0 := by
  rcases h with ⟨h, _⟩ | ⟨_, h, _⟩ | ⟨_, h, _⟩ | ⟨_, _, h⟩
  · exact absurd h h1
  · exact absurd h3 h
  · exact absurd h h5
  · exact h
theorem pn_0 : plainName "com/example/careful_courier/carefulcourier/store/Layout" = true := by first | (simp [plainName, overriddenIn]; done) | decide +kernel
theorem ef_1 (m : MethodId) (x0 : Int32) : entryFrame m #[(.int x0)] 1 = mkF m 0 #[.val (.int x0)] [] := by first | (simp [entryFrame, mkF, argsToLocals, Value.category]; done) | rfl
theorem d1_0 : decode prog_44_method_17_code 0 = .ok (.iload_n 0, 1) := by decide +kernel
theorem d1_1 : decode prog_44_method_17_code 1 = .ok (.iconst 1, 1) := by decide +kernel
theorem d1_2 : decode prog_44_method_17_code 2 = .ok (.if_icmp .ne 17, 3) := by decide +kernel
theorem d1_19 : decode prog_44_method_17_code 19 = .ok (.iload_n 0, 1) := by decide +kernel
theorem d1_20 : decode prog_44_method_17_code 20 = .ok (.iconst 3, 1) := by decide +kernel
theorem d1_21 : decode prog_44_method_17_code 21 = .ok (.if_icmp .gt 12, 3) := by decide +kernel
theorem d1_33 : decode prog_44_method_17_code 33 = .ok (.iload_n 0, 1) := by decide +kernel
theorem d1_34 : decode prog_44_method_17_code 34 = .ok (.iconst 5, 1) := by decide +kernel
theorem d1_35 : decode prog_44_method_17_code 35 = .ok (.if_icmp .ne 17, 3) := by decide +kernel
theorem d1_52 : decode prog_44_method_17_code 52 = .ok (.iconst 0, 1) := by decide +kernel
theorem d1_53 : decode prog_44_method_17_code 53 = .ok (.newarray .byte, 2) := by decide +kernel
theorem d1_55 : decode prog_44_method_17_code 55 = .ok (.areturn, 1) := by decide +kernel
theorem d1_38 : decode prog_44_method_17_code 38 = .ok (.iconst 2, 1) := by decide +kernel
theorem d1_39 : decode prog_44_method_17_code 39 = .ok (.newarray .byte, 2) := by decide +kernel
theorem d1_41 : decode prog_44_method_17_code 41 = .ok (.dup, 1) := by decide +kernel
theorem d1_42 : decode prog_44_method_17_code 42 = .ok (.iconst 0, 1) := by decide +kernel
theorem d1_43 : decode prog_44_method_17_code 43 = .ok (.bipush 79, 2) := by decide +kernel
theorem d1_45 : decode prog_44_method_17_code 45 = .ok (.bastore, 1) := by decide +kernel
theorem d1_46 : decode prog_44_method_17_code 46 = .ok (.dup, 1) := by decide +kernel
theorem d1_47 : decode prog_44_method_17_code 47 = .ok (.iconst 1, 1) := by decide +kernel
theorem d1_48 : decode prog_44_method_17_code 48 = .ok (.bipush 82, 2) := by decide +kernel
theorem d1_50 : decode prog_44_method_17_code 50 = .ok (.bastore, 1) := by decide +kernel
theorem d1_51 : decode prog_44_method_17_code 51 = .ok (.areturn, 1) := by decide +kernel
theorem d1_24 : decode prog_44_method_17_code 24 = .ok (.iconst 1, 1) := by decide +kernel
theorem d1_25 : decode prog_44_method_17_code 25 = .ok (.newarray .byte, 2) := by decide +kernel
theorem d1_27 : decode prog_44_method_17_code 27 = .ok (.dup, 1) := by decide +kernel
theorem d1_28 : decode prog_44_method_17_code 28 = .ok (.iconst 0, 1) := by decide +kernel
theorem d1_29 : decode prog_44_method_17_code 29 = .ok (.bipush 66, 2) := by decide +kernel
theorem d1_31 : decode prog_44_method_17_code 31 = .ok (.bastore, 1) := by decide +kernel
theorem d1_32 : decode prog_44_method_17_code 32 = .ok (.areturn, 1) := by decide +kernel
theorem d1_5 : decode prog_44_method_17_code 5 = .ok (.iconst 2, 1) := by decide +kernel
theorem d1_6 : decode prog_44_method_17_code 6 = .ok (.newarray .byte, 2) := by decide +kernel
theorem d1_8 : decode prog_44_method_17_code 8 = .ok (.dup, 1) := by decide +kernel
theorem d1_9 : decode prog_44_method_17_code 9 = .ok (.iconst 0, 1) := by decide +kernel
theorem d1_10 : decode prog_44_method_17_code 10 = .ok (.bipush 66, 2) := by decide +kernel
theorem d1_12 : decode prog_44_method_17_code 12 = .ok (.bastore, 1) := by decide +kernel
theorem d1_13 : decode prog_44_method_17_code 13 = .ok (.dup, 1) := by decide +kernel
theorem d1_14 : decode prog_44_method_17_code 14 = .ok (.iconst 1, 1) := by decide +kernel
theorem d1_15 : decode prog_44_method_17_code 15 = .ok (.bipush 77, 2) := by decide +kernel
theorem d1_17 : decode prog_44_method_17_code 17 = .ok (.bastore, 1) := by decide +kernel
theorem d1_18 : decode prog_44_method_17_code 18 = .ok (.areturn, 1) := by decide +kernel
def Q1 (Z : State) (xl : Int32) (h0 : Heap) (n0 : Nat) (v : Option Value) (h : Heap) (L : List Loc) : Prop := ∃ (b : Addr) (k : Nat) (f : Nat → Int32), v = some (.ref b) ∧ Fr n0 L ∧ Keep h0 h [] ∧ h0.size ≤ b ∧ W.AI Z h b .byte k f ∧ own_case xl k f
set_option maxRecDepth 65536 in
set_option maxHeartbeats 40000000 in
theorem rm1 (l : Launch) (Z : State) (a0 : Array Value) (hw : ∀ d ∈ tables_1, d.before a0 Z = true) (ws : List Jvm.Cond) (xl : Int32) (h0 : Heap) (n0 : Nat) (Z0 : n0 ≤ h0.size) :
    MetFree l (⟨"com/example/careful_courier/carefulcourier/store/Layout", "rewrittenPrefixes", "(I)[B"⟩ : MethodName) (head1 (Jvm.Cond.code (⟨"com/example/careful_courier/carefulcourier/store/Layout", "rewrittenPrefixes", "(I)[B"⟩ : MethodName) prog_44_method_17_code 1 (some (.array .byte)) :: ws) ({ frames := 0, cells := 1, slots := 2, locals := 0 } : Room)) (fun a U => a = #[(.int xl)] ∧ Z.Warmed39 U.vm ∧ U.heap = h0) (fun _ _ _ _ _ => True) (fun _ U o U' => ∃ v L, o = .returned v ∧ Q1 Z xl h0 n0 v U'.heap L ∧ FrameEnd U o U' L ({ frames := 0, cells := 1, slots := 2, locals := 0 } : Room).cells ({ frames := 0, cells := 1, slots := 2, locals := 0 } : Room).slots) := by
  refine MetFree.of_bodySF (plainFor_of_name pn_0) hisR ?_
  intro p e s m args below meth c s₁ Bd hml0 hP hK
  obtain ⟨rfl, hZ, hh⟩ := hP
  have hx := Bd.exec
  have hby := Bd.bytes
  have hml : c.maxLocals = 1 := hml0
  have hown : s.vm.findClass "com/example/careful_courier/carefulcourier/store/Layout" = some m.cls := findClass_of_methodNamed Bd.named
  have hnm := (name_of_methodNamed Bd.named Bd.method).1
  have hlk : meth.locks = false := BodyLoose.notSynchronized Bd
  have X0 : Stand p l e ({ frames := 0, cells := 1, slots := 2, locals := 0 } : Room) s m #[(.int xl)] below meth c s₁ [] 0 0 := Stand.of_body Bd
  have e0 : s₁.heap = h0 := by rw [← hh, Bd.state]; rfl
  have N0 := Fr.nil n0
  show W.Gl p e below s (Q1 Z xl h0 n0) ({ frames := 0, cells := 1, slots := 2, locals := 0 } : Room).cells ({ frames := 0, cells := 1, slots := 2, locals := 0 } : Room).slots s₁ (entryFrame m #[(.int xl)] 1)
  refine W.cast (ef_1 m xl) ?_
  have K0 : Keep h0 h0 [] := Keep.refl h0 []
  refine W.s1 (mkF m 1 #[.val (.int xl)] [(.int xl)]) (fun _ kx_ => XS.iloadN X0.here hx rfl (hb hby d1_0) rfl kx_) ?_
  refine W.s1 (mkF m 2 #[.val (.int xl)] [(.int (1 : Int32)), (.int xl)]) (fun _ kx_ => XS.iconst X0.here hx rfl (hb hby d1_1) kx_) ?_
  refine W.icmp X0 hx (hb hby d1_2) (pc' := 19) (pc'' := 5) (by decide) (by decide) rfl (fun (c2 : ¬ xl = (1 : Int32)) => ?_) (fun (c2 : xl = (1 : Int32)) => ?_)
  · refine W.s1 (mkF m 20 #[.val (.int xl)] [(.int xl)]) (fun _ kx_ => XS.iloadN X0.here hx rfl (hb hby d1_19) rfl kx_) ?_
    refine W.s1 (mkF m 21 #[.val (.int xl)] [(.int (3 : Int32)), (.int xl)]) (fun _ kx_ => XS.iconst X0.here hx rfl (hb hby d1_20) kx_) ?_
    refine W.icmp X0 hx (hb hby d1_21) (pc' := 33) (pc'' := 24) (by decide) (by decide) rfl (fun (c21 : (3 : Int32) < xl) => ?_) (fun (c21 : ¬ (3 : Int32) < xl) => ?_)
    · refine W.s1 (mkF m 34 #[.val (.int xl)] [(.int xl)]) (fun _ kx_ => XS.iloadN X0.here hx rfl (hb hby d1_33) rfl kx_) ?_
      refine W.s1 (mkF m 35 #[.val (.int xl)] [(.int (5 : Int32)), (.int xl)]) (fun _ kx_ => XS.iconst X0.here hx rfl (hb hby d1_34) kx_) ?_
      refine W.icmp X0 hx (hb hby d1_35) (pc' := 52) (pc'' := 38) (by decide) (by decide) rfl (fun (c35 : ¬ xl = (5 : Int32)) => ?_) (fun (c35 : xl = (5 : Int32)) => ?_)
      · refine W.s1 (mkF m 53 #[.val (.int xl)] [(.int (0 : Int32))]) (fun _ kx_ => XS.iconst X0.here hx rfl (hb hby d1_52) kx_) ?_
        refine W.newi X0 hx hZ (ty := .byte) (aty := .byte) (hw _ (List.mem_of_getElem? (i := 5) rfl)) rfl rfl e0 (hb hby d1_53) (n := 0) rfl (cap := 0) (Nat.le_refl _) (by decide) (by decide) (by decide) (pc' := 55) rfl (fun T101 h101 b101 X101 e101 E101 g101 A101 => ?_)
        have ge101 : n0 ≤ b101 := Nat.le_trans Z0 (Nat.le_of_eq g101.symm)
        have sz101 : h0.size ≤ b101 := Nat.le_trans K0.1 (Nat.le_of_eq g101.symm)
        have Z101 : n0 ≤ h101.size := Nat.le_trans Z0 E101.1
        have K101 : Keep h0 h101 [] := K0.ext E101
        exact W.retA X101 hx hlk Bd.returns rfl rfl rfl (hb hby d1_55) (by show Q1 Z xl h0 n0 _ T101.heap _; rw [e101]; exact ⟨_, _, _, rfl, N0, K101, sz101, A101, Or.inr (Or.inr (Or.inr ⟨c21, c35, rfl⟩))⟩) (by decide) (by decide)
      · refine W.s1 (mkF m 39 #[.val (.int xl)] [(.int (2 : Int32))]) (fun _ kx_ => XS.iconst X0.here hx rfl (hb hby d1_38) kx_) ?_
        refine W.newi X0 hx hZ (ty := .byte) (aty := .byte) (hw _ (List.mem_of_getElem? (i := 5) rfl)) rfl rfl e0 (hb hby d1_39) (n := 2) rfl (cap := 2) (Nat.le_refl _) (by decide) (by decide) (by decide) (pc' := 41) rfl (fun T102 h102 b102 X102 e102 E102 g102 A102 => ?_)
        have ge102 : n0 ≤ b102 := Nat.le_trans Z0 (Nat.le_of_eq g102.symm)
        have sz102 : h0.size ≤ b102 := Nat.le_trans K0.1 (Nat.le_of_eq g102.symm)
        have Z102 : n0 ≤ h102.size := Nat.le_trans Z0 E102.1
        have K102 : Keep h0 h102 [] := K0.ext E102
        refine W.s1 (mkF m 42 #[.val (.int xl)] [(.ref b102), (.ref b102)]) (fun _ kx_ => XS.dup X102.here hx rfl (hb hby d1_41) rfl rfl kx_) ?_
        refine W.s1 (mkF m 43 #[.val (.int xl)] [(.int (0 : Int32)), (.ref b102), (.ref b102)]) (fun _ kx_ => XS.iconst X102.here hx rfl (hb hby d1_42) kx_) ?_
        refine W.s1 (mkF m 45 #[.val (.int xl)] [(.int (79 : Int32)), (.int (0 : Int32)), (.ref b102), (.ref b102)]) (fun _ kx_ => XS.bipush X102.here hx rfl (hb hby d1_43) kx_) ?_
        refine W.stb X102 hx hZ e102 A102 (x' := (79 : Int32)) rfl 0 rfl (by decide) N0 ge102 (hb hby d1_45) (pc' := 46) rfl (fun T103 h103 L103 X103 e103 W103 fw103 N103 => ?_)
        have Z103 : n0 ≤ h103.size := Nat.le_trans Z102 (Keep.of_wr W103).1
        have K103 : Keep h0 h103 [] := K102.wr W103 (Or.inr sz102)
        refine W.s1 (mkF m 47 #[.val (.int xl)] [(.ref b102), (.ref b102)]) (fun _ kx_ => XS.dup X103.here hx rfl (hb hby d1_46) rfl rfl kx_) ?_
        refine W.s1 (mkF m 48 #[.val (.int xl)] [(.int (1 : Int32)), (.ref b102), (.ref b102)]) (fun _ kx_ => XS.iconst X103.here hx rfl (hb hby d1_47) kx_) ?_
        refine W.s1 (mkF m 50 #[.val (.int xl)] [(.int (82 : Int32)), (.int (1 : Int32)), (.ref b102), (.ref b102)]) (fun _ kx_ => XS.bipush X103.here hx rfl (hb hby d1_48) kx_) ?_
        refine W.stb X103 hx hZ e103 fw103 (x' := (82 : Int32)) rfl 1 rfl (by decide) N103 ge102 (hb hby d1_50) (pc' := 51) rfl (fun T104 h104 L104 X104 e104 W104 fw104 N104 => ?_)
        have Z104 : n0 ≤ h104.size := Nat.le_trans Z103 (Keep.of_wr W104).1
        have K104 : Keep h0 h104 [] := K103.wr W104 (Or.inr sz102)
        exact W.retA X104 hx hlk Bd.returns rfl rfl rfl (hb hby d1_51) (by show Q1 Z xl h0 n0 _ T104.heap _; rw [e104]; exact ⟨_, _, _, rfl, N104, K104, sz102, fw104, Or.inr (Or.inr (Or.inl ⟨c21, c35, rfl, rfl, rfl⟩))⟩) (by decide) (by decide)
    · refine W.s1 (mkF m 25 #[.val (.int xl)] [(.int (1 : Int32))]) (fun _ kx_ => XS.iconst X0.here hx rfl (hb hby d1_24) kx_) ?_
      refine W.newi X0 hx hZ (ty := .byte) (aty := .byte) (hw _ (List.mem_of_getElem? (i := 5) rfl)) rfl rfl e0 (hb hby d1_25) (n := 1) rfl (cap := 1) (Nat.le_refl _) (by decide) (by decide) (by decide) (pc' := 27) rfl (fun T105 h105 b105 X105 e105 E105 g105 A105 => ?_)
      have ge105 : n0 ≤ b105 := Nat.le_trans Z0 (Nat.le_of_eq g105.symm)
      have sz105 : h0.size ≤ b105 := Nat.le_trans K0.1 (Nat.le_of_eq g105.symm)
      have Z105 : n0 ≤ h105.size := Nat.le_trans Z0 E105.1
      have K105 : Keep h0 h105 [] := K0.ext E105
      refine W.s1 (mkF m 28 #[.val (.int xl)] [(.ref b105), (.ref b105)]) (fun _ kx_ => XS.dup X105.here hx rfl (hb hby d1_27) rfl rfl kx_) ?_
      refine W.s1 (mkF m 29 #[.val (.int xl)] [(.int (0 : Int32)), (.ref b105), (.ref b105)]) (fun _ kx_ => XS.iconst X105.here hx rfl (hb hby d1_28) kx_) ?_
      refine W.s1 (mkF m 31 #[.val (.int xl)] [(.int (66 : Int32)), (.int (0 : Int32)), (.ref b105), (.ref b105)]) (fun _ kx_ => XS.bipush X105.here hx rfl (hb hby d1_29) kx_) ?_
      refine W.stb X105 hx hZ e105 A105 (x' := (66 : Int32)) rfl 0 rfl (by decide) N0 ge105 (hb hby d1_31) (pc' := 32) rfl (fun T106 h106 L106 X106 e106 W106 fw106 N106 => ?_)
      have Z106 : n0 ≤ h106.size := Nat.le_trans Z105 (Keep.of_wr W106).1
      have K106 : Keep h0 h106 [] := K105.wr W106 (Or.inr sz105)
      exact W.retA X106 hx hlk Bd.returns rfl rfl rfl (hb hby d1_32) (by show Q1 Z xl h0 n0 _ T106.heap _; rw [e106]; exact ⟨_, _, _, rfl, N106, K106, sz105, fw106, Or.inr (Or.inl ⟨c2, c21, rfl, rfl⟩)⟩) (by decide) (by decide)
  · refine W.s1 (mkF m 6 #[.val (.int xl)] [(.int (2 : Int32))]) (fun _ kx_ => XS.iconst X0.here hx rfl (hb hby d1_5) kx_) ?_
    refine W.newi X0 hx hZ (ty := .byte) (aty := .byte) (hw _ (List.mem_of_getElem? (i := 5) rfl)) rfl rfl e0 (hb hby d1_6) (n := 2) rfl (cap := 2) (Nat.le_refl _) (by decide) (by decide) (by decide) (pc' := 8) rfl (fun T107 h107 b107 X107 e107 E107 g107 A107 => ?_)
    have ge107 : n0 ≤ b107 := Nat.le_trans Z0 (Nat.le_of_eq g107.symm)
    have sz107 : h0.size ≤ b107 := Nat.le_trans K0.1 (Nat.le_of_eq g107.symm)
    have Z107 : n0 ≤ h107.size := Nat.le_trans Z0 E107.1
    have K107 : Keep h0 h107 [] := K0.ext E107
    refine W.s1 (mkF m 9 #[.val (.int xl)] [(.ref b107), (.ref b107)]) (fun _ kx_ => XS.dup X107.here hx rfl (hb hby d1_8) rfl rfl kx_) ?_
    refine W.s1 (mkF m 10 #[.val (.int xl)] [(.int (0 : Int32)), (.ref b107), (.ref b107)]) (fun _ kx_ => XS.iconst X107.here hx rfl (hb hby d1_9) kx_) ?_
    refine W.s1 (mkF m 12 #[.val (.int xl)] [(.int (66 : Int32)), (.int (0 : Int32)), (.ref b107), (.ref b107)]) (fun _ kx_ => XS.bipush X107.here hx rfl (hb hby d1_10) kx_) ?_
    refine W.stb X107 hx hZ e107 A107 (x' := (66 : Int32)) rfl 0 rfl (by decide) N0 ge107 (hb hby d1_12) (pc' := 13) rfl (fun T108 h108 L108 X108 e108 W108 fw108 N108 => ?_)
    have Z108 : n0 ≤ h108.size := Nat.le_trans Z107 (Keep.of_wr W108).1
    have K108 : Keep h0 h108 [] := K107.wr W108 (Or.inr sz107)
    refine W.s1 (mkF m 14 #[.val (.int xl)] [(.ref b107), (.ref b107)]) (fun _ kx_ => XS.dup X108.here hx rfl (hb hby d1_13) rfl rfl kx_) ?_
    refine W.s1 (mkF m 15 #[.val (.int xl)] [(.int (1 : Int32)), (.ref b107), (.ref b107)]) (fun _ kx_ => XS.iconst X108.here hx rfl (hb hby d1_14) kx_) ?_
    refine W.s1 (mkF m 17 #[.val (.int xl)] [(.int (77 : Int32)), (.int (1 : Int32)), (.ref b107), (.ref b107)]) (fun _ kx_ => XS.bipush X108.here hx rfl (hb hby d1_15) kx_) ?_
    refine W.stb X108 hx hZ e108 fw108 (x' := (77 : Int32)) rfl 1 rfl (by decide) N108 ge107 (hb hby d1_17) (pc' := 18) rfl (fun T109 h109 L109 X109 e109 W109 fw109 N109 => ?_)
    have Z109 : n0 ≤ h109.size := Nat.le_trans Z108 (Keep.of_wr W109).1
    have K109 : Keep h0 h109 [] := K108.wr W109 (Or.inr sz107)
    exact W.retA X109 hx hlk Bd.returns rfl rfl rfl (hb hby d1_18) (by show Q1 Z xl h0 n0 _ T109.heap _; rw [e109]; exact ⟨_, _, _, rfl, N109, K109, sz107, fw109, Or.inl ⟨c2, rfl, rfl, rfl⟩⟩) (by decide) (by decide)
theorem pn_1 : plainName "com/example/careful_courier/carefulcourier/store/LayoutRewrittenPrefixesPinLaw" = true := by first | (simp [plainName, overriddenIn]; done) | decide +kernel
theorem ef_0 (m : MethodId) (x0 : Int32) : entryFrame m #[(.int x0)] maxLocals = mkF m 0 #[.val (.int x0), .unset, .unset, .unset, .unset, .unset, .unset, .unset, .unset] [] := by first | (simp [entryFrame, mkF, argsToLocals, Value.category, maxLocals]; done) | rfl
theorem pd_0 : parseMethodDescriptor "(I)[B" = some ⟨[.int], some (.array .byte)⟩ := by decide +kernel
def Q0 (Z : State) (x0 : Int32) (h0 : Heap) (n0 : Nat) (v : Option Value) (h : Heap) (L : List Loc) : Prop := v = some (.int 1) ∧ Fr n0 L
set_option maxRecDepth 65536 in
set_option maxHeartbeats 40000000 in
theorem rm0 (l : Launch) (Z : State) (a0 : Array Value) (hw : ∀ d ∈ tables_1, d.before a0 Z = true) (ws : List Jvm.Cond) (x0 : Int32) (h0 : Heap) (n0 : Nat) (Z0 : n0 ≤ h0.size) :
    MetFree l x (head1 (Jvm.Cond.code x code maxLocals ret :: ws) room_1) (fun a U => a = #[(.int x0)] ∧ Z.Warmed39 U.vm ∧ U.heap = h0) (fun _ _ _ _ _ => True) (fun _ U o U' => ∃ v L, o = .returned v ∧ Q0 Z x0 h0 n0 v U'.heap L ∧ FrameEnd U o U' L 16 128) := by
  refine MetFree.of_bodySF (plainFor_of_name pn_1) hisR ?_
  intro p e s m args below meth c s₁ Bd hml0 hP hK
  obtain ⟨rfl, hZ, hh⟩ := hP
  have hx := Bd.exec
  have hby := Bd.bytes
  have hml : c.maxLocals = 9 := hml0
  have hown : s.vm.findClass "com/example/careful_courier/carefulcourier/store/LayoutRewrittenPrefixesPinLaw" = some m.cls := findClass_of_methodNamed Bd.named
  have hnm := (name_of_methodNamed Bd.named Bd.method).1
  have hlk : meth.locks = false := BodyLoose.notSynchronized Bd
  have X0 : Stand p l e room_1 s m #[(.int x0)] below meth c s₁ [] 0 0 := Stand.of_body Bd
  have e0 : s₁.heap = h0 := by rw [← hh, Bd.state]; rfl
  have N0 := Fr.nil n0
  show W.Gl p e below s (Q0 Z x0 h0 n0) 16 128 s₁ (entryFrame m #[(.int x0)] maxLocals)
  refine W.cast (ef_0 m x0) ?_
  refine W.s1 (mkF m 1 #[.val (.int x0), .unset, .unset, .unset, .unset, .unset, .unset, .unset, .unset] [(.int (1 : Int32))]) (fun _ kx_ => XS.iconst X0.here hx rfl (hb hby at_0) kx_) ?_
  refine W.s1 (mkF m 2 #[.val (.int x0), .unset, .unset, .unset, .unset, .unset, .unset, .unset, .unset] [(.int x0), (.int (1 : Int32))]) (fun _ kx_ => XS.iloadN X0.here hx rfl (hb hby at_1) rfl kx_) ?_
  refine W.s1 (mkF m 4 #[.val (.int x0), .unset, .unset, .unset, .unset, .unset, .unset, .unset, .unset] [(.int (2147483647 : Int32)), (.int x0), (.int (1 : Int32))]) (fun _ kx_ => X0.ldcInt hx hown (mvT hZ (hw _ (List.mem_of_getElem? (i := 0) rfl))) (g := (mkF m 2 #[.val (.int x0), .unset, .unset, .unset, .unset, .unset, .unset, .unset, .unset] [(.int x0), (.int (1 : Int32))])) rfl (hb hby at_2) _ kx_) ?_
  refine W.s1 (mkF m 5 #[.val (.int x0), .unset, .unset, .unset, .unset, .unset, .unset, .unset, .unset] [(.int (x0 &&& (2147483647 : Int32))), (.int (1 : Int32))]) (fun _ kx_ => XS.iand X0.here hx rfl (hb hby at_4) rfl kx_) ?_
  refine W.s1 (mkF m 7 #[.val (.int x0), .unset, .unset, .unset, .unset, .unset, .unset, .unset, .unset] [(.int (7 : Int32)), (.int (x0 &&& (2147483647 : Int32))), (.int (1 : Int32))]) (fun _ kx_ => XS.bipush X0.here hx rfl (hb hby at_5) kx_) ?_
  refine W.s1 (mkF m 8 #[.val (.int x0), .unset, .unset, .unset, .unset, .unset, .unset, .unset, .unset] [(.int ((x0 &&& (2147483647 : Int32)) % (7 : Int32))), (.int (1 : Int32))]) (fun _ kx_ => iremM X0 hx rfl (hb hby at_7) rfl (by decide) kx_) ?_
  refine W.s1 (mkF m 9 #[.val (.int x0), .unset, .unset, .unset, .unset, .unset, .unset, .unset, .unset] [(.int ((1 : Int32) + ((x0 &&& (2147483647 : Int32)) % (7 : Int32))))]) (fun _ kx_ => XS.iadd X0.here hx rfl (hb hby at_8) rfl kx_) ?_
  generalize hg_xl : ((1 : Int32) + ((x0 &&& (2147483647 : Int32)) % (7 : Int32))) = xl
  refine W.s1 (mkF m 10 #[.val (.int x0), .val (.int xl), .unset, .unset, .unset, .unset, .unset, .unset, .unset] []) (fun _ kx_ => XS.istoreN X0.here hx rfl (hb hby at_9) rfl (l' := #[.val (.int x0), .val (.int xl), .unset, .unset, .unset, .unset, .unset, .unset, .unset]) rfl kx_) ?_
  have hcase := own_lay hg_xl
  rcases hcase with rfl | rfl | rfl | rfl | rfl | rfl | rfl
  · refine W.s1 (mkF m 11 #[.val (.int x0), .val (.int (1 : Int32)), .unset, .unset, .unset, .unset, .unset, .unset, .unset] [(.int (1 : Int32))]) (fun _ kx_ => XS.iloadN X0.here hx rfl (hb hby at_10) rfl kx_) ?_
    obtain ⟨_, _, ⟨T101, L101, k101, n101⟩, -, X101, ⟨Lc101, hQ101, l101, y101, z101⟩, st101⟩ := Jvm.LawKit.callS X0 hx (y := (⟨"com/example/careful_courier/carefulcourier/store/Layout", "rewrittenPrefixes", "(I)[B"⟩ : MethodName)) hown (mvT hZ (hw _ (List.mem_of_getElem? (i := 1) rfl))) (mvT hZ (hw _ (List.mem_of_getElem? (i := 2) rfl))) (mvT hZ (hw _ (List.mem_of_getElem? (i := 3) rfl))) (mvT hZ (hw _ (List.mem_of_getElem? (i := 4) rfl))) (by decide) (backOf (W := 0) (rm1 l Z a0 hw [] (1 : Int32) h0 n0 Z0 ) hZ (hw _ (List.mem_of_getElem? (i := 4) rfl)) (hw _ (List.mem_of_getElem? (i := 3) rfl)) (by decide) (by decide)) (g := (mkF m 11 #[.val (.int x0), .val (.int (1 : Int32)), .unset, .unset, .unset, .unset, .unset, .unset, .unset] [(.int (1 : Int32))])) rfl (by rw [hml]; rfl) (argsL := [(.int (1 : Int32))]) (rest := []) (lenOf pd_0 rfl) rfl (by show 2 * 0 + _ ≤ _; exact Nat.le_of_eq rfl) (hb hby at_11) (fun _ _ => ⟨rfl, e0, (by decide : 0 + 1 ≤ _), (by decide : 0 + 2 ≤ _)⟩)
    dsimp only [Pt.U, Pt.locs, Pt.cells, Pt.slots] at X101 l101 y101 z101 st101 hQ101
    subst l101 y101 z101
    obtain ⟨h101, e101⟩ : ∃ z, T101.heap = z := ⟨_, rfl⟩
    rw [e101] at hQ101
    obtain ⟨ar, kr, fr, rfl, Nq101, Kq101, hge, A101, hc⟩ := hQ101
    have N101 := Fr.app N0 Nq101
    have Z101 : n0 ≤ h101.size := Nat.le_trans Z0 Kq101.1
    obtain ⟨rfl, v0, v1⟩ := own_c1 hc
    have ger : n0 ≤ ar := Nat.le_trans Z0 hge
    refine W.s2 (mkF m 14 #[.val (.int x0), .val (.int (1 : Int32)), .unset, .unset, .unset, .unset, .unset, .unset, .unset] [(.ref ar)]) st101 ?_
    refine W.s1 (mkF m 15 #[.val (.int x0), .val (.int (1 : Int32)), .val (.ref ar), .unset, .unset, .unset, .unset, .unset, .unset] []) (fun _ kx_ => XS.astoreN X101.here hx rfl (hb hby at_14) rfl rfl (l' := #[.val (.int x0), .val (.int (1 : Int32)), .val (.ref ar), .unset, .unset, .unset, .unset, .unset, .unset]) rfl kx_) ?_
    refine W.s1 (mkF m 16 #[.val (.int x0), .val (.int (1 : Int32)), .val (.ref ar), .unset, .unset, .unset, .unset, .unset, .unset] [(.int (1 : Int32))]) (fun _ kx_ => XS.iloadN X101.here hx rfl (hb hby at_15) rfl kx_) ?_
    refine W.s1 (mkF m 17 #[.val (.int x0), .val (.int (1 : Int32)), .val (.ref ar), .unset, .unset, .unset, .unset, .unset, .unset] [(.int (3 : Int32)), (.int (1 : Int32))]) (fun _ kx_ => XS.iconst X101.here hx rfl (hb hby at_16) kx_) ?_
    refine W.icmp X101 hx (hb hby at_17) (pc' := 24) (pc'' := 20) (by decide) (by decide) rfl (fun (c17 : (3 : Int32) < (1 : Int32)) => ?_) (fun (c17 : ¬ (3 : Int32) < (1 : Int32)) => ?_)
    · exact absurd c17 (by decide)
    · refine W.s1 (mkF m 21 #[.val (.int x0), .val (.int (1 : Int32)), .val (.ref ar), .unset, .unset, .unset, .unset, .unset, .unset] [(.int (1 : Int32))]) (fun _ kx_ => XS.iconst X101.here hx rfl (hb hby at_20) kx_) ?_
      refine W.s1 (mkF m 25 #[.val (.int x0), .val (.int (1 : Int32)), .val (.ref ar), .unset, .unset, .unset, .unset, .unset, .unset] [(.int (1 : Int32))]) (fun _ kx_ => XS.goto X101.here hx rfl (pc0 := 21) (pc' := 25) rfl (hb hby at_21) (by decide) (by decide) kx_) ?_
      refine W.s1 (mkF m 26 #[.val (.int x0), .val (.int (1 : Int32)), .val (.ref ar), .val (.int (1 : Int32)), .unset, .unset, .unset, .unset, .unset] []) (fun _ kx_ => XS.istoreN X101.here hx rfl (hb hby at_25) rfl (l' := #[.val (.int x0), .val (.int (1 : Int32)), .val (.ref ar), .val (.int (1 : Int32)), .unset, .unset, .unset, .unset, .unset]) rfl kx_) ?_
      refine W.s1 (mkF m 27 #[.val (.int x0), .val (.int (1 : Int32)), .val (.ref ar), .val (.int (1 : Int32)), .unset, .unset, .unset, .unset, .unset] [(.int (1 : Int32))]) (fun _ kx_ => XS.iloadN X101.here hx rfl (hb hby at_26) rfl kx_) ?_
      refine W.s1 (mkF m 28 #[.val (.int x0), .val (.int (1 : Int32)), .val (.ref ar), .val (.int (1 : Int32)), .unset, .unset, .unset, .unset, .unset] [(.int (1 : Int32)), (.int (1 : Int32))]) (fun _ kx_ => XS.iconst X101.here hx rfl (hb hby at_27) kx_) ?_
      refine W.icmp X101 hx (hb hby at_28) (pc' := 35) (pc'' := 31) (by decide) (by decide) rfl (fun (c28 : ¬ (1 : Int32) = (1 : Int32)) => ?_) (fun (c28 : (1 : Int32) = (1 : Int32)) => ?_)
      · exact absurd c28 (by decide)
      · refine W.s1 (mkF m 32 #[.val (.int x0), .val (.int (1 : Int32)), .val (.ref ar), .val (.int (1 : Int32)), .unset, .unset, .unset, .unset, .unset] [(.int (1 : Int32))]) (fun _ kx_ => XS.iconst X101.here hx rfl (hb hby at_31) kx_) ?_
        refine W.s1 (mkF m 36 #[.val (.int x0), .val (.int (1 : Int32)), .val (.ref ar), .val (.int (1 : Int32)), .unset, .unset, .unset, .unset, .unset] [(.int (1 : Int32))]) (fun _ kx_ => XS.goto X101.here hx rfl (pc0 := 32) (pc' := 36) rfl (hb hby at_32) (by decide) (by decide) kx_) ?_
        refine W.s1 (mkF m 38 #[.val (.int x0), .val (.int (1 : Int32)), .val (.ref ar), .val (.int (1 : Int32)), .val (.int (1 : Int32)), .unset, .unset, .unset, .unset] []) (fun _ kx_ => XS.istore X101.here hx rfl (hb hby at_36) rfl (l' := #[.val (.int x0), .val (.int (1 : Int32)), .val (.ref ar), .val (.int (1 : Int32)), .val (.int (1 : Int32)), .unset, .unset, .unset, .unset]) rfl kx_) ?_
        refine W.s1 (mkF m 39 #[.val (.int x0), .val (.int (1 : Int32)), .val (.ref ar), .val (.int (1 : Int32)), .val (.int (1 : Int32)), .unset, .unset, .unset, .unset] [(.int (1 : Int32))]) (fun _ kx_ => XS.iloadN X101.here hx rfl (hb hby at_38) rfl kx_) ?_
        refine W.s1 (mkF m 40 #[.val (.int x0), .val (.int (1 : Int32)), .val (.ref ar), .val (.int (1 : Int32)), .val (.int (1 : Int32)), .unset, .unset, .unset, .unset] [(.int (5 : Int32)), (.int (1 : Int32))]) (fun _ kx_ => XS.iconst X101.here hx rfl (hb hby at_39) kx_) ?_
        refine W.icmp X101 hx (hb hby at_40) (pc' := 47) (pc'' := 43) (by decide) (by decide) rfl (fun (c40 : ¬ (1 : Int32) = (5 : Int32)) => ?_) (fun (c40 : (1 : Int32) = (5 : Int32)) => ?_)
        · refine W.s1 (mkF m 48 #[.val (.int x0), .val (.int (1 : Int32)), .val (.ref ar), .val (.int (1 : Int32)), .val (.int (1 : Int32)), .unset, .unset, .unset, .unset] [(.int (0 : Int32))]) (fun _ kx_ => XS.iconst X101.here hx rfl (hb hby at_47) kx_) ?_
          refine W.s1 (mkF m 50 #[.val (.int x0), .val (.int (1 : Int32)), .val (.ref ar), .val (.int (1 : Int32)), .val (.int (1 : Int32)), .val (.int (0 : Int32)), .unset, .unset, .unset] []) (fun _ kx_ => XS.istore X101.here hx rfl (hb hby at_48) rfl (l' := #[.val (.int x0), .val (.int (1 : Int32)), .val (.ref ar), .val (.int (1 : Int32)), .val (.int (1 : Int32)), .val (.int (0 : Int32)), .unset, .unset, .unset]) rfl kx_) ?_
          refine W.s1 (mkF m 51 #[.val (.int x0), .val (.int (1 : Int32)), .val (.ref ar), .val (.int (1 : Int32)), .val (.int (1 : Int32)), .val (.int (0 : Int32)), .unset, .unset, .unset] [(.int (1 : Int32))]) (fun _ kx_ => XS.iloadN X101.here hx rfl (hb hby at_50) rfl kx_) ?_
          refine W.ifc X101 hx (hb hby at_51) (pc' := 58) (pc'' := 54) (by decide) (by decide) rfl (fun (c51 : (1 : Int32) = (0 : Int32)) => ?_) (fun (c51 : ¬ (1 : Int32) = (0 : Int32)) => ?_)
          · exact absurd c51 (by decide)
          · refine W.s1 (mkF m 55 #[.val (.int x0), .val (.int (1 : Int32)), .val (.ref ar), .val (.int (1 : Int32)), .val (.int (1 : Int32)), .val (.int (0 : Int32)), .unset, .unset, .unset] [(.int (1 : Int32))]) (fun _ kx_ => XS.iconst X101.here hx rfl (hb hby at_54) kx_) ?_
            refine W.s1 (mkF m 59 #[.val (.int x0), .val (.int (1 : Int32)), .val (.ref ar), .val (.int (1 : Int32)), .val (.int (1 : Int32)), .val (.int (0 : Int32)), .unset, .unset, .unset] [(.int (1 : Int32))]) (fun _ kx_ => XS.goto X101.here hx rfl (pc0 := 55) (pc' := 59) rfl (hb hby at_55) (by decide) (by decide) kx_) ?_
            refine W.s1 (mkF m 61 #[.val (.int x0), .val (.int (1 : Int32)), .val (.ref ar), .val (.int (1 : Int32)), .val (.int (1 : Int32)), .val (.int (0 : Int32)), .unset, .unset, .unset] [(.int (1 : Int32)), (.int (1 : Int32))]) (fun _ kx_ => XS.iload X101.here hx rfl (hb hby at_59) rfl kx_) ?_
            refine W.ifc X101 hx (hb hby at_61) (pc' := 68) (pc'' := 64) (by decide) (by decide) rfl (fun (c61 : (1 : Int32) = (0 : Int32)) => ?_) (fun (c61 : ¬ (1 : Int32) = (0 : Int32)) => ?_)
            · exact absurd c61 (by decide)
            · refine W.s1 (mkF m 65 #[.val (.int x0), .val (.int (1 : Int32)), .val (.ref ar), .val (.int (1 : Int32)), .val (.int (1 : Int32)), .val (.int (0 : Int32)), .unset, .unset, .unset] [(.int (1 : Int32)), (.int (1 : Int32))]) (fun _ kx_ => XS.iconst X101.here hx rfl (hb hby at_64) kx_) ?_
              refine W.s1 (mkF m 69 #[.val (.int x0), .val (.int (1 : Int32)), .val (.ref ar), .val (.int (1 : Int32)), .val (.int (1 : Int32)), .val (.int (0 : Int32)), .unset, .unset, .unset] [(.int (1 : Int32)), (.int (1 : Int32))]) (fun _ kx_ => XS.goto X101.here hx rfl (pc0 := 65) (pc' := 69) rfl (hb hby at_65) (by decide) (by decide) kx_) ?_
              refine W.s1 (mkF m 70 #[.val (.int x0), .val (.int (1 : Int32)), .val (.ref ar), .val (.int (1 : Int32)), .val (.int (1 : Int32)), .val (.int (0 : Int32)), .unset, .unset, .unset] [(.int (2 : Int32))]) (fun _ kx_ => XS.iadd X101.here hx rfl (hb hby at_69) rfl kx_) ?_
              refine W.s1 (mkF m 72 #[.val (.int x0), .val (.int (1 : Int32)), .val (.ref ar), .val (.int (1 : Int32)), .val (.int (1 : Int32)), .val (.int (0 : Int32)), .unset, .unset, .unset] [(.int (0 : Int32)), (.int (2 : Int32))]) (fun _ kx_ => XS.iload X101.here hx rfl (hb hby at_70) rfl kx_) ?_
              refine W.ifc X101 hx (hb hby at_72) (pc' := 79) (pc'' := 75) (by decide) (by decide) rfl (fun (c72 : (0 : Int32) = (0 : Int32)) => ?_) (fun (c72 : ¬ (0 : Int32) = (0 : Int32)) => ?_)
              · refine W.s1 (mkF m 80 #[.val (.int x0), .val (.int (1 : Int32)), .val (.ref ar), .val (.int (1 : Int32)), .val (.int (1 : Int32)), .val (.int (0 : Int32)), .unset, .unset, .unset] [(.int (0 : Int32)), (.int (2 : Int32))]) (fun _ kx_ => XS.iconst X101.here hx rfl (hb hby at_79) kx_) ?_
                refine W.s1 (mkF m 81 #[.val (.int x0), .val (.int (1 : Int32)), .val (.ref ar), .val (.int (1 : Int32)), .val (.int (1 : Int32)), .val (.int (0 : Int32)), .unset, .unset, .unset] [(.int (2 : Int32))]) (fun _ kx_ => XS.iadd X101.here hx rfl (hb hby at_80) rfl kx_) ?_
                refine W.s1 (mkF m 83 #[.val (.int x0), .val (.int (1 : Int32)), .val (.ref ar), .val (.int (1 : Int32)), .val (.int (1 : Int32)), .val (.int (0 : Int32)), .val (.int (2 : Int32)), .unset, .unset] []) (fun _ kx_ => XS.istore X101.here hx rfl (hb hby at_81) rfl (l' := #[.val (.int x0), .val (.int (1 : Int32)), .val (.ref ar), .val (.int (1 : Int32)), .val (.int (1 : Int32)), .val (.int (0 : Int32)), .val (.int (2 : Int32)), .unset, .unset]) rfl kx_) ?_
                refine W.s1 (mkF m 84 #[.val (.int x0), .val (.int (1 : Int32)), .val (.ref ar), .val (.int (1 : Int32)), .val (.int (1 : Int32)), .val (.int (0 : Int32)), .val (.int (2 : Int32)), .unset, .unset] [(.ref ar)]) (fun _ kx_ => XS.aloadN X101.here hx rfl (hb hby at_83) rfl rfl kx_) ?_
                refine W.s1 (mkF m 87 #[.val (.int x0), .val (.int (1 : Int32)), .val (.ref ar), .val (.int (1 : Int32)), .val (.int (1 : Int32)), .val (.int (0 : Int32)), .val (.int (2 : Int32)), .unset, .unset] []) (fun _ kx_ => XS.ifnullNo X101.here hx rfl (hb hby at_84) rfl kx_) ?_
                refine W.s1 (mkF m 88 #[.val (.int x0), .val (.int (1 : Int32)), .val (.ref ar), .val (.int (1 : Int32)), .val (.int (1 : Int32)), .val (.int (0 : Int32)), .val (.int (2 : Int32)), .unset, .unset] [(.ref ar)]) (fun _ kx_ => XS.aloadN X101.here hx rfl (hb hby at_87) rfl rfl kx_) ?_
                refine W.alen X101 hx hZ e101 A101 (z := (2 : Int32)) rfl (hb hby at_88) (pc' := 89) rfl ?_
                refine W.s1 (mkF m 91 #[.val (.int x0), .val (.int (1 : Int32)), .val (.ref ar), .val (.int (1 : Int32)), .val (.int (1 : Int32)), .val (.int (0 : Int32)), .val (.int (2 : Int32)), .unset, .unset] [(.int (2 : Int32)), (.int (2 : Int32))]) (fun _ kx_ => XS.iload X101.here hx rfl (hb hby at_89) rfl kx_) ?_
                refine W.icmp X101 hx (hb hby at_91) (pc' := 96) (pc'' := 94) (by decide) (by decide) rfl (fun (c91 : (2 : Int32) = (2 : Int32)) => ?_) (fun (c91 : ¬ (2 : Int32) = (2 : Int32)) => ?_)
                · refine W.s1 (mkF m 97 #[.val (.int x0), .val (.int (1 : Int32)), .val (.ref ar), .val (.int (1 : Int32)), .val (.int (1 : Int32)), .val (.int (0 : Int32)), .val (.int (2 : Int32)), .unset, .unset] [(.int (4 : Int32))]) (fun _ kx_ => XS.iconst X101.here hx rfl (hb hby at_96) kx_) ?_
                  refine W.newi X101 hx hZ (ty := .byte) (aty := .byte) (hw _ (List.mem_of_getElem? (i := 5) rfl)) rfl rfl e101 (hb hby at_97) (n := 4) rfl (cap := 4) (Nat.le_refl _) (by decide) (by decide) (by decide) (pc' := 99) rfl (fun T102 h102 b102 X102 e102 E102 g102 A102 => ?_)
                  have ne103 : ar ≠ b102 := Nat.ne_of_lt (Nat.lt_of_lt_of_le A101.lt (Nat.le_of_eq g102.symm))
                  have ge102 : n0 ≤ b102 := Nat.le_trans Z101 (Nat.le_of_eq g102.symm)
                  have Z102 : n0 ≤ h102.size := Nat.le_trans Z101 E102.1
                  have f104 := A101.ext E102
                  refine W.s1 (mkF m 101 #[.val (.int x0), .val (.int (1 : Int32)), .val (.ref ar), .val (.int (1 : Int32)), .val (.int (1 : Int32)), .val (.int (0 : Int32)), .val (.int (2 : Int32)), .val (.ref b102), .unset] []) (fun _ kx_ => XS.astore X102.here hx rfl (hb hby at_99) rfl rfl (l' := #[.val (.int x0), .val (.int (1 : Int32)), .val (.ref ar), .val (.int (1 : Int32)), .val (.int (1 : Int32)), .val (.int (0 : Int32)), .val (.int (2 : Int32)), .val (.ref b102), .unset]) rfl kx_) ?_
                  refine W.s1 (mkF m 102 #[.val (.int x0), .val (.int (1 : Int32)), .val (.ref ar), .val (.int (1 : Int32)), .val (.int (1 : Int32)), .val (.int (0 : Int32)), .val (.int (2 : Int32)), .val (.ref b102), .unset] [(.int (0 : Int32))]) (fun _ kx_ => XS.iconst X102.here hx rfl (hb hby at_101) kx_) ?_
                  refine W.s1 (mkF m 104 #[.val (.int x0), .val (.int (1 : Int32)), .val (.ref ar), .val (.int (1 : Int32)), .val (.int (1 : Int32)), .val (.int (0 : Int32)), .val (.int (2 : Int32)), .val (.ref b102), .val (.int (0 : Int32))] []) (fun _ kx_ => XS.istore X102.here hx rfl (hb hby at_102) rfl (l' := #[.val (.int x0), .val (.int (1 : Int32)), .val (.ref ar), .val (.int (1 : Int32)), .val (.int (1 : Int32)), .val (.int (0 : Int32)), .val (.int (2 : Int32)), .val (.ref b102), .val (.int (0 : Int32))]) rfl kx_) ?_
                  refine W.s1 (mkF m 105 #[.val (.int x0), .val (.int (1 : Int32)), .val (.ref ar), .val (.int (1 : Int32)), .val (.int (1 : Int32)), .val (.int (0 : Int32)), .val (.int (2 : Int32)), .val (.ref b102), .val (.int (0 : Int32))] [(.int (1 : Int32))]) (fun _ kx_ => XS.iloadN X102.here hx rfl (hb hby at_104) rfl kx_) ?_
                  refine W.ifc X102 hx (hb hby at_105) (pc' := 121) (pc'' := 108) (by decide) (by decide) rfl (fun (c105 : (1 : Int32) = (0 : Int32)) => ?_) (fun (c105 : ¬ (1 : Int32) = (0 : Int32)) => ?_)
                  · exact absurd c105 (by decide)
                  · refine W.s1 (mkF m 110 #[.val (.int x0), .val (.int (1 : Int32)), .val (.ref ar), .val (.int (1 : Int32)), .val (.int (1 : Int32)), .val (.int (0 : Int32)), .val (.int (2 : Int32)), .val (.ref b102), .val (.int (0 : Int32))] [(.ref b102)]) (fun _ kx_ => XS.aload X102.here hx rfl (hb hby at_108) rfl rfl kx_) ?_
                    refine W.s1 (mkF m 112 #[.val (.int x0), .val (.int (1 : Int32)), .val (.ref ar), .val (.int (1 : Int32)), .val (.int (1 : Int32)), .val (.int (0 : Int32)), .val (.int (2 : Int32)), .val (.ref b102), .val (.int (0 : Int32))] [(.int (0 : Int32)), (.ref b102)]) (fun _ kx_ => XS.iload X102.here hx rfl (hb hby at_110) rfl kx_) ?_
                    refine W.s1 (mkF m 114 #[.val (.int x0), .val (.int (1 : Int32)), .val (.ref ar), .val (.int (1 : Int32)), .val (.int (1 : Int32)), .val (.int (0 : Int32)), .val (.int (2 : Int32)), .val (.ref b102), .val (.int (0 : Int32))] [(.int (66 : Int32)), (.int (0 : Int32)), (.ref b102)]) (fun _ kx_ => XS.bipush X102.here hx rfl (hb hby at_112) kx_) ?_
                    refine W.stb X102 hx hZ e102 A102 (x' := (66 : Int32)) rfl 0 rfl (by decide) N101 ge102 (hb hby at_114) (pc' := 115) rfl (fun T105 h105 L105 X105 e105 W105 fw105 N105 => ?_)
                    have Z105 : n0 ≤ h105.size := Nat.le_trans Z102 (Keep.of_wr W105).1
                    have f106 := f104.other W105 ne103
                    refine W.s1 (mkF m 117 #[.val (.int x0), .val (.int (1 : Int32)), .val (.ref ar), .val (.int (1 : Int32)), .val (.int (1 : Int32)), .val (.int (0 : Int32)), .val (.int (2 : Int32)), .val (.ref b102), .val (.int (0 : Int32))] [(.int (0 : Int32))]) (fun _ kx_ => XS.iload X105.here hx rfl (hb hby at_115) rfl kx_) ?_
                    refine W.s1 (mkF m 118 #[.val (.int x0), .val (.int (1 : Int32)), .val (.ref ar), .val (.int (1 : Int32)), .val (.int (1 : Int32)), .val (.int (0 : Int32)), .val (.int (2 : Int32)), .val (.ref b102), .val (.int (0 : Int32))] [(.int (1 : Int32)), (.int (0 : Int32))]) (fun _ kx_ => XS.iconst X105.here hx rfl (hb hby at_117) kx_) ?_
                    refine W.s1 (mkF m 119 #[.val (.int x0), .val (.int (1 : Int32)), .val (.ref ar), .val (.int (1 : Int32)), .val (.int (1 : Int32)), .val (.int (0 : Int32)), .val (.int (2 : Int32)), .val (.ref b102), .val (.int (0 : Int32))] [(.int (1 : Int32))]) (fun _ kx_ => XS.iadd X105.here hx rfl (hb hby at_118) rfl kx_) ?_
                    refine W.s1 (mkF m 121 #[.val (.int x0), .val (.int (1 : Int32)), .val (.ref ar), .val (.int (1 : Int32)), .val (.int (1 : Int32)), .val (.int (0 : Int32)), .val (.int (2 : Int32)), .val (.ref b102), .val (.int (1 : Int32))] []) (fun _ kx_ => XS.istore X105.here hx rfl (hb hby at_119) rfl (l' := #[.val (.int x0), .val (.int (1 : Int32)), .val (.ref ar), .val (.int (1 : Int32)), .val (.int (1 : Int32)), .val (.int (0 : Int32)), .val (.int (2 : Int32)), .val (.ref b102), .val (.int (1 : Int32))]) rfl kx_) ?_
                    refine W.s1 (mkF m 123 #[.val (.int x0), .val (.int (1 : Int32)), .val (.ref ar), .val (.int (1 : Int32)), .val (.int (1 : Int32)), .val (.int (0 : Int32)), .val (.int (2 : Int32)), .val (.ref b102), .val (.int (1 : Int32))] [(.int (1 : Int32))]) (fun _ kx_ => XS.iload X105.here hx rfl (hb hby at_121) rfl kx_) ?_
                    refine W.ifc X105 hx (hb hby at_123) (pc' := 139) (pc'' := 126) (by decide) (by decide) rfl (fun (c123 : (1 : Int32) = (0 : Int32)) => ?_) (fun (c123 : ¬ (1 : Int32) = (0 : Int32)) => ?_)
                    · exact absurd c123 (by decide)
                    · refine W.s1 (mkF m 128 #[.val (.int x0), .val (.int (1 : Int32)), .val (.ref ar), .val (.int (1 : Int32)), .val (.int (1 : Int32)), .val (.int (0 : Int32)), .val (.int (2 : Int32)), .val (.ref b102), .val (.int (1 : Int32))] [(.ref b102)]) (fun _ kx_ => XS.aload X105.here hx rfl (hb hby at_126) rfl rfl kx_) ?_
                      refine W.s1 (mkF m 130 #[.val (.int x0), .val (.int (1 : Int32)), .val (.ref ar), .val (.int (1 : Int32)), .val (.int (1 : Int32)), .val (.int (0 : Int32)), .val (.int (2 : Int32)), .val (.ref b102), .val (.int (1 : Int32))] [(.int (1 : Int32)), (.ref b102)]) (fun _ kx_ => XS.iload X105.here hx rfl (hb hby at_128) rfl kx_) ?_
                      refine W.s1 (mkF m 132 #[.val (.int x0), .val (.int (1 : Int32)), .val (.ref ar), .val (.int (1 : Int32)), .val (.int (1 : Int32)), .val (.int (0 : Int32)), .val (.int (2 : Int32)), .val (.ref b102), .val (.int (1 : Int32))] [(.int (77 : Int32)), (.int (1 : Int32)), (.ref b102)]) (fun _ kx_ => XS.bipush X105.here hx rfl (hb hby at_130) kx_) ?_
                      refine W.stb X105 hx hZ e105 fw105 (x' := (77 : Int32)) rfl 1 rfl (by decide) N105 ge102 (hb hby at_132) (pc' := 133) rfl (fun T107 h107 L107 X107 e107 W107 fw107 N107 => ?_)
                      have Z107 : n0 ≤ h107.size := Nat.le_trans Z105 (Keep.of_wr W107).1
                      have f108 := f106.other W107 ne103
                      refine W.s1 (mkF m 135 #[.val (.int x0), .val (.int (1 : Int32)), .val (.ref ar), .val (.int (1 : Int32)), .val (.int (1 : Int32)), .val (.int (0 : Int32)), .val (.int (2 : Int32)), .val (.ref b102), .val (.int (1 : Int32))] [(.int (1 : Int32))]) (fun _ kx_ => XS.iload X107.here hx rfl (hb hby at_133) rfl kx_) ?_
                      refine W.s1 (mkF m 136 #[.val (.int x0), .val (.int (1 : Int32)), .val (.ref ar), .val (.int (1 : Int32)), .val (.int (1 : Int32)), .val (.int (0 : Int32)), .val (.int (2 : Int32)), .val (.ref b102), .val (.int (1 : Int32))] [(.int (1 : Int32)), (.int (1 : Int32))]) (fun _ kx_ => XS.iconst X107.here hx rfl (hb hby at_135) kx_) ?_
                      refine W.s1 (mkF m 137 #[.val (.int x0), .val (.int (1 : Int32)), .val (.ref ar), .val (.int (1 : Int32)), .val (.int (1 : Int32)), .val (.int (0 : Int32)), .val (.int (2 : Int32)), .val (.ref b102), .val (.int (1 : Int32))] [(.int (2 : Int32))]) (fun _ kx_ => XS.iadd X107.here hx rfl (hb hby at_136) rfl kx_) ?_
                      refine W.s1 (mkF m 139 #[.val (.int x0), .val (.int (1 : Int32)), .val (.ref ar), .val (.int (1 : Int32)), .val (.int (1 : Int32)), .val (.int (0 : Int32)), .val (.int (2 : Int32)), .val (.ref b102), .val (.int (2 : Int32))] []) (fun _ kx_ => XS.istore X107.here hx rfl (hb hby at_137) rfl (l' := #[.val (.int x0), .val (.int (1 : Int32)), .val (.ref ar), .val (.int (1 : Int32)), .val (.int (1 : Int32)), .val (.int (0 : Int32)), .val (.int (2 : Int32)), .val (.ref b102), .val (.int (2 : Int32))]) rfl kx_) ?_
                      refine W.s1 (mkF m 141 #[.val (.int x0), .val (.int (1 : Int32)), .val (.ref ar), .val (.int (1 : Int32)), .val (.int (1 : Int32)), .val (.int (0 : Int32)), .val (.int (2 : Int32)), .val (.ref b102), .val (.int (2 : Int32))] [(.int (0 : Int32))]) (fun _ kx_ => XS.iload X107.here hx rfl (hb hby at_139) rfl kx_) ?_
                      refine W.ifc X107 hx (hb hby at_141) (pc' := 170) (pc'' := 144) (by decide) (by decide) rfl (fun (c141 : (0 : Int32) = (0 : Int32)) => ?_) (fun (c141 : ¬ (0 : Int32) = (0 : Int32)) => ?_)
                      · refine W.s1 (mkF m 172 #[.val (.int x0), .val (.int (1 : Int32)), .val (.ref ar), .val (.int (1 : Int32)), .val (.int (1 : Int32)), .val (.int (0 : Int32)), .val (.int (2 : Int32)), .val (.ref b102), .val (.int (2 : Int32))] [(.int (2 : Int32))]) (fun _ kx_ => XS.iload X107.here hx rfl (hb hby at_170) rfl kx_) ?_
                        refine W.s1 (mkF m 173 #[.val (.int x0), .val (.int (1 : Int32)), .val (.ref ar), .val (.int (1 : Int32)), .val (.int (1 : Int32)), .val (.int (0 : Int32)), .val (.int (2 : Int32)), .val (.ref b102), .val (.int (2 : Int32))] [(.int (1 : Int32)), (.int (2 : Int32))]) (fun _ kx_ => XS.iconst X107.here hx rfl (hb hby at_172) kx_) ?_
                        refine W.icmp X107 hx (hb hby at_173) (pc' := 186) (pc'' := 176) (by decide) (by decide) rfl (fun (c173 : (2 : Int32) < (1 : Int32)) => ?_) (fun (c173 : ¬ (2 : Int32) < (1 : Int32)) => ?_)
                        · exact absurd c173 (by decide)
                        · refine W.s1 (mkF m 177 #[.val (.int x0), .val (.int (1 : Int32)), .val (.ref ar), .val (.int (1 : Int32)), .val (.int (1 : Int32)), .val (.int (0 : Int32)), .val (.int (2 : Int32)), .val (.ref b102), .val (.int (2 : Int32))] [(.ref ar)]) (fun _ kx_ => XS.aloadN X107.here hx rfl (hb hby at_176) rfl rfl kx_) ?_
                          refine W.s1 (mkF m 178 #[.val (.int x0), .val (.int (1 : Int32)), .val (.ref ar), .val (.int (1 : Int32)), .val (.int (1 : Int32)), .val (.int (0 : Int32)), .val (.int (2 : Int32)), .val (.ref b102), .val (.int (2 : Int32))] [(.int (0 : Int32)), (.ref ar)]) (fun _ kx_ => XS.iconst X107.here hx rfl (hb hby at_177) kx_) ?_
                          refine W.ldb X107 hx hZ e107 f108 0 rfl (by decide) (hb hby at_178) (pc' := 179) rfl ?_
                          rw [v0]
                          refine W.s1 (mkF m 181 #[.val (.int x0), .val (.int (1 : Int32)), .val (.ref ar), .val (.int (1 : Int32)), .val (.int (1 : Int32)), .val (.int (0 : Int32)), .val (.int (2 : Int32)), .val (.ref b102), .val (.int (2 : Int32))] [(.ref b102), (.int (66 : Int32))]) (fun _ kx_ => XS.aload X107.here hx rfl (hb hby at_179) rfl rfl kx_) ?_
                          refine W.s1 (mkF m 182 #[.val (.int x0), .val (.int (1 : Int32)), .val (.ref ar), .val (.int (1 : Int32)), .val (.int (1 : Int32)), .val (.int (0 : Int32)), .val (.int (2 : Int32)), .val (.ref b102), .val (.int (2 : Int32))] [(.int (0 : Int32)), (.ref b102), (.int (66 : Int32))]) (fun _ kx_ => XS.iconst X107.here hx rfl (hb hby at_181) kx_) ?_
                          refine W.ldb X107 hx hZ e107 fw107 0 rfl (by decide) (hb hby at_182) (pc' := 183) rfl ?_
                          rw [show ((W.up (W.up (fun _ => 0) 0 (66 : Int32)) 1 (77 : Int32)) 0) = (66 : Int32) from rfl]
                          refine W.icmp X107 hx (hb hby at_183) (pc' := 238) (pc'' := 186) (by decide) (by decide) rfl (fun (c183 : ¬ (66 : Int32) = (66 : Int32)) => ?_) (fun (c183 : (66 : Int32) = (66 : Int32)) => ?_)
                          · exact absurd c183 (by decide)
                          · refine W.s1 (mkF m 188 #[.val (.int x0), .val (.int (1 : Int32)), .val (.ref ar), .val (.int (1 : Int32)), .val (.int (1 : Int32)), .val (.int (0 : Int32)), .val (.int (2 : Int32)), .val (.ref b102), .val (.int (2 : Int32))] [(.int (2 : Int32))]) (fun _ kx_ => XS.iload X107.here hx rfl (hb hby at_186) rfl kx_) ?_
                            refine W.s1 (mkF m 189 #[.val (.int x0), .val (.int (1 : Int32)), .val (.ref ar), .val (.int (1 : Int32)), .val (.int (1 : Int32)), .val (.int (0 : Int32)), .val (.int (2 : Int32)), .val (.ref b102), .val (.int (2 : Int32))] [(.int (2 : Int32)), (.int (2 : Int32))]) (fun _ kx_ => XS.iconst X107.here hx rfl (hb hby at_188) kx_) ?_
                            refine W.icmp X107 hx (hb hby at_189) (pc' := 202) (pc'' := 192) (by decide) (by decide) rfl (fun (c189 : (2 : Int32) < (2 : Int32)) => ?_) (fun (c189 : ¬ (2 : Int32) < (2 : Int32)) => ?_)
                            · exact absurd c189 (by decide)
                            · refine W.s1 (mkF m 193 #[.val (.int x0), .val (.int (1 : Int32)), .val (.ref ar), .val (.int (1 : Int32)), .val (.int (1 : Int32)), .val (.int (0 : Int32)), .val (.int (2 : Int32)), .val (.ref b102), .val (.int (2 : Int32))] [(.ref ar)]) (fun _ kx_ => XS.aloadN X107.here hx rfl (hb hby at_192) rfl rfl kx_) ?_
                              refine W.s1 (mkF m 194 #[.val (.int x0), .val (.int (1 : Int32)), .val (.ref ar), .val (.int (1 : Int32)), .val (.int (1 : Int32)), .val (.int (0 : Int32)), .val (.int (2 : Int32)), .val (.ref b102), .val (.int (2 : Int32))] [(.int (1 : Int32)), (.ref ar)]) (fun _ kx_ => XS.iconst X107.here hx rfl (hb hby at_193) kx_) ?_
                              refine W.ldb X107 hx hZ e107 f108 1 rfl (by decide) (hb hby at_194) (pc' := 195) rfl ?_
                              rw [v1]
                              refine W.s1 (mkF m 197 #[.val (.int x0), .val (.int (1 : Int32)), .val (.ref ar), .val (.int (1 : Int32)), .val (.int (1 : Int32)), .val (.int (0 : Int32)), .val (.int (2 : Int32)), .val (.ref b102), .val (.int (2 : Int32))] [(.ref b102), (.int (77 : Int32))]) (fun _ kx_ => XS.aload X107.here hx rfl (hb hby at_195) rfl rfl kx_) ?_
                              refine W.s1 (mkF m 198 #[.val (.int x0), .val (.int (1 : Int32)), .val (.ref ar), .val (.int (1 : Int32)), .val (.int (1 : Int32)), .val (.int (0 : Int32)), .val (.int (2 : Int32)), .val (.ref b102), .val (.int (2 : Int32))] [(.int (1 : Int32)), (.ref b102), (.int (77 : Int32))]) (fun _ kx_ => XS.iconst X107.here hx rfl (hb hby at_197) kx_) ?_
                              refine W.ldb X107 hx hZ e107 fw107 1 rfl (by decide) (hb hby at_198) (pc' := 199) rfl ?_
                              rw [show ((W.up (W.up (fun _ => 0) 0 (66 : Int32)) 1 (77 : Int32)) 1) = (77 : Int32) from rfl]
                              refine W.icmp X107 hx (hb hby at_199) (pc' := 238) (pc'' := 202) (by decide) (by decide) rfl (fun (c199 : ¬ (77 : Int32) = (77 : Int32)) => ?_) (fun (c199 : (77 : Int32) = (77 : Int32)) => ?_)
                              · exact absurd c199 (by decide)
                              · refine W.s1 (mkF m 204 #[.val (.int x0), .val (.int (1 : Int32)), .val (.ref ar), .val (.int (1 : Int32)), .val (.int (1 : Int32)), .val (.int (0 : Int32)), .val (.int (2 : Int32)), .val (.ref b102), .val (.int (2 : Int32))] [(.int (2 : Int32))]) (fun _ kx_ => XS.iload X107.here hx rfl (hb hby at_202) rfl kx_) ?_
                                refine W.s1 (mkF m 205 #[.val (.int x0), .val (.int (1 : Int32)), .val (.ref ar), .val (.int (1 : Int32)), .val (.int (1 : Int32)), .val (.int (0 : Int32)), .val (.int (2 : Int32)), .val (.ref b102), .val (.int (2 : Int32))] [(.int (3 : Int32)), (.int (2 : Int32))]) (fun _ kx_ => XS.iconst X107.here hx rfl (hb hby at_204) kx_) ?_
                                refine W.icmp X107 hx (hb hby at_205) (pc' := 218) (pc'' := 208) (by decide) (by decide) rfl (fun (c205 : (2 : Int32) < (3 : Int32)) => ?_) (fun (c205 : ¬ (2 : Int32) < (3 : Int32)) => ?_)
                                · refine W.s1 (mkF m 220 #[.val (.int x0), .val (.int (1 : Int32)), .val (.ref ar), .val (.int (1 : Int32)), .val (.int (1 : Int32)), .val (.int (0 : Int32)), .val (.int (2 : Int32)), .val (.ref b102), .val (.int (2 : Int32))] [(.int (2 : Int32))]) (fun _ kx_ => XS.iload X107.here hx rfl (hb hby at_218) rfl kx_) ?_
                                  refine W.s1 (mkF m 221 #[.val (.int x0), .val (.int (1 : Int32)), .val (.ref ar), .val (.int (1 : Int32)), .val (.int (1 : Int32)), .val (.int (0 : Int32)), .val (.int (2 : Int32)), .val (.ref b102), .val (.int (2 : Int32))] [(.int (4 : Int32)), (.int (2 : Int32))]) (fun _ kx_ => XS.iconst X107.here hx rfl (hb hby at_220) kx_) ?_
                                  refine W.icmp X107 hx (hb hby at_221) (pc' := 234) (pc'' := 224) (by decide) (by decide) rfl (fun (c221 : (2 : Int32) < (4 : Int32)) => ?_) (fun (c221 : ¬ (2 : Int32) < (4 : Int32)) => ?_)
                                  · refine W.s1 (mkF m 235 #[.val (.int x0), .val (.int (1 : Int32)), .val (.ref ar), .val (.int (1 : Int32)), .val (.int (1 : Int32)), .val (.int (0 : Int32)), .val (.int (2 : Int32)), .val (.ref b102), .val (.int (2 : Int32))] [(.int (1 : Int32))]) (fun _ kx_ => XS.iconst X107.here hx rfl (hb hby at_234) kx_) ?_
                                    refine W.s1 (mkF m 239 #[.val (.int x0), .val (.int (1 : Int32)), .val (.ref ar), .val (.int (1 : Int32)), .val (.int (1 : Int32)), .val (.int (0 : Int32)), .val (.int (2 : Int32)), .val (.ref b102), .val (.int (2 : Int32))] [(.int (1 : Int32))]) (fun _ kx_ => XS.goto X107.here hx rfl (pc0 := 235) (pc' := 239) rfl (hb hby at_235) (by decide) (by decide) kx_) ?_
                                    exact W.retZ X107 hx hlk (t := .boolean) (z' := (1 : Int32)) Bd.returns (by simp) (hb hby at_239) rfl (by show Q0 Z x0 h0 n0 _ T107.heap _; rw [e107]; exact ⟨rfl, N107⟩) (by decide) (by decide)
                                  · exact absurd c221 (by decide)
                                · exact absurd c205 (by decide)
                      · exact absurd c141 (by decide)
                · exact absurd c91 (by decide)
              · exact absurd c72 (by decide)
        · exact absurd c40 (by decide)
  · refine W.s1 (mkF m 11 #[.val (.int x0), .val (.int (2 : Int32)), .unset, .unset, .unset, .unset, .unset, .unset, .unset] [(.int (2 : Int32))]) (fun _ kx_ => XS.iloadN X0.here hx rfl (hb hby at_10) rfl kx_) ?_
    obtain ⟨_, _, ⟨T109, L109, k109, n109⟩, -, X109, ⟨Lc109, hQ109, l109, y109, z109⟩, st109⟩ := Jvm.LawKit.callS X0 hx (y := (⟨"com/example/careful_courier/carefulcourier/store/Layout", "rewrittenPrefixes", "(I)[B"⟩ : MethodName)) hown (mvT hZ (hw _ (List.mem_of_getElem? (i := 1) rfl))) (mvT hZ (hw _ (List.mem_of_getElem? (i := 2) rfl))) (mvT hZ (hw _ (List.mem_of_getElem? (i := 3) rfl))) (mvT hZ (hw _ (List.mem_of_getElem? (i := 4) rfl))) (by decide) (backOf (W := 0) (rm1 l Z a0 hw [] (2 : Int32) h0 n0 Z0 ) hZ (hw _ (List.mem_of_getElem? (i := 4) rfl)) (hw _ (List.mem_of_getElem? (i := 3) rfl)) (by decide) (by decide)) (g := (mkF m 11 #[.val (.int x0), .val (.int (2 : Int32)), .unset, .unset, .unset, .unset, .unset, .unset, .unset] [(.int (2 : Int32))])) rfl (by rw [hml]; rfl) (argsL := [(.int (2 : Int32))]) (rest := []) (lenOf pd_0 rfl) rfl (by show 2 * 0 + _ ≤ _; exact Nat.le_of_eq rfl) (hb hby at_11) (fun _ _ => ⟨rfl, e0, (by decide : 0 + 1 ≤ _), (by decide : 0 + 2 ≤ _)⟩)
    dsimp only [Pt.U, Pt.locs, Pt.cells, Pt.slots] at X109 l109 y109 z109 st109 hQ109
    subst l109 y109 z109
    obtain ⟨h109, e109⟩ : ∃ z, T109.heap = z := ⟨_, rfl⟩
    rw [e109] at hQ109
    obtain ⟨ar, kr, fr, rfl, Nq109, Kq109, hge, A109, hc⟩ := hQ109
    have N109 := Fr.app N0 Nq109
    have Z109 : n0 ≤ h109.size := Nat.le_trans Z0 Kq109.1
    obtain ⟨rfl, v0⟩ := own_c23 (by decide) (by decide) hc
    have ger : n0 ≤ ar := Nat.le_trans Z0 hge
    refine W.s2 (mkF m 14 #[.val (.int x0), .val (.int (2 : Int32)), .unset, .unset, .unset, .unset, .unset, .unset, .unset] [(.ref ar)]) st109 ?_
    refine W.s1 (mkF m 15 #[.val (.int x0), .val (.int (2 : Int32)), .val (.ref ar), .unset, .unset, .unset, .unset, .unset, .unset] []) (fun _ kx_ => XS.astoreN X109.here hx rfl (hb hby at_14) rfl rfl (l' := #[.val (.int x0), .val (.int (2 : Int32)), .val (.ref ar), .unset, .unset, .unset, .unset, .unset, .unset]) rfl kx_) ?_
    refine W.s1 (mkF m 16 #[.val (.int x0), .val (.int (2 : Int32)), .val (.ref ar), .unset, .unset, .unset, .unset, .unset, .unset] [(.int (2 : Int32))]) (fun _ kx_ => XS.iloadN X109.here hx rfl (hb hby at_15) rfl kx_) ?_
    refine W.s1 (mkF m 17 #[.val (.int x0), .val (.int (2 : Int32)), .val (.ref ar), .unset, .unset, .unset, .unset, .unset, .unset] [(.int (3 : Int32)), (.int (2 : Int32))]) (fun _ kx_ => XS.iconst X109.here hx rfl (hb hby at_16) kx_) ?_
    refine W.icmp X109 hx (hb hby at_17) (pc' := 24) (pc'' := 20) (by decide) (by decide) rfl (fun (c17 : (3 : Int32) < (2 : Int32)) => ?_) (fun (c17 : ¬ (3 : Int32) < (2 : Int32)) => ?_)
    · exact absurd c17 (by decide)
    · refine W.s1 (mkF m 21 #[.val (.int x0), .val (.int (2 : Int32)), .val (.ref ar), .unset, .unset, .unset, .unset, .unset, .unset] [(.int (1 : Int32))]) (fun _ kx_ => XS.iconst X109.here hx rfl (hb hby at_20) kx_) ?_
      refine W.s1 (mkF m 25 #[.val (.int x0), .val (.int (2 : Int32)), .val (.ref ar), .unset, .unset, .unset, .unset, .unset, .unset] [(.int (1 : Int32))]) (fun _ kx_ => XS.goto X109.here hx rfl (pc0 := 21) (pc' := 25) rfl (hb hby at_21) (by decide) (by decide) kx_) ?_
      refine W.s1 (mkF m 26 #[.val (.int x0), .val (.int (2 : Int32)), .val (.ref ar), .val (.int (1 : Int32)), .unset, .unset, .unset, .unset, .unset] []) (fun _ kx_ => XS.istoreN X109.here hx rfl (hb hby at_25) rfl (l' := #[.val (.int x0), .val (.int (2 : Int32)), .val (.ref ar), .val (.int (1 : Int32)), .unset, .unset, .unset, .unset, .unset]) rfl kx_) ?_
      refine W.s1 (mkF m 27 #[.val (.int x0), .val (.int (2 : Int32)), .val (.ref ar), .val (.int (1 : Int32)), .unset, .unset, .unset, .unset, .unset] [(.int (2 : Int32))]) (fun _ kx_ => XS.iloadN X109.here hx rfl (hb hby at_26) rfl kx_) ?_
      refine W.s1 (mkF m 28 #[.val (.int x0), .val (.int (2 : Int32)), .val (.ref ar), .val (.int (1 : Int32)), .unset, .unset, .unset, .unset, .unset] [(.int (1 : Int32)), (.int (2 : Int32))]) (fun _ kx_ => XS.iconst X109.here hx rfl (hb hby at_27) kx_) ?_
      refine W.icmp X109 hx (hb hby at_28) (pc' := 35) (pc'' := 31) (by decide) (by decide) rfl (fun (c28 : ¬ (2 : Int32) = (1 : Int32)) => ?_) (fun (c28 : (2 : Int32) = (1 : Int32)) => ?_)
      · refine W.s1 (mkF m 36 #[.val (.int x0), .val (.int (2 : Int32)), .val (.ref ar), .val (.int (1 : Int32)), .unset, .unset, .unset, .unset, .unset] [(.int (0 : Int32))]) (fun _ kx_ => XS.iconst X109.here hx rfl (hb hby at_35) kx_) ?_
        refine W.s1 (mkF m 38 #[.val (.int x0), .val (.int (2 : Int32)), .val (.ref ar), .val (.int (1 : Int32)), .val (.int (0 : Int32)), .unset, .unset, .unset, .unset] []) (fun _ kx_ => XS.istore X109.here hx rfl (hb hby at_36) rfl (l' := #[.val (.int x0), .val (.int (2 : Int32)), .val (.ref ar), .val (.int (1 : Int32)), .val (.int (0 : Int32)), .unset, .unset, .unset, .unset]) rfl kx_) ?_
        refine W.s1 (mkF m 39 #[.val (.int x0), .val (.int (2 : Int32)), .val (.ref ar), .val (.int (1 : Int32)), .val (.int (0 : Int32)), .unset, .unset, .unset, .unset] [(.int (2 : Int32))]) (fun _ kx_ => XS.iloadN X109.here hx rfl (hb hby at_38) rfl kx_) ?_
        refine W.s1 (mkF m 40 #[.val (.int x0), .val (.int (2 : Int32)), .val (.ref ar), .val (.int (1 : Int32)), .val (.int (0 : Int32)), .unset, .unset, .unset, .unset] [(.int (5 : Int32)), (.int (2 : Int32))]) (fun _ kx_ => XS.iconst X109.here hx rfl (hb hby at_39) kx_) ?_
        refine W.icmp X109 hx (hb hby at_40) (pc' := 47) (pc'' := 43) (by decide) (by decide) rfl (fun (c40 : ¬ (2 : Int32) = (5 : Int32)) => ?_) (fun (c40 : (2 : Int32) = (5 : Int32)) => ?_)
        · refine W.s1 (mkF m 48 #[.val (.int x0), .val (.int (2 : Int32)), .val (.ref ar), .val (.int (1 : Int32)), .val (.int (0 : Int32)), .unset, .unset, .unset, .unset] [(.int (0 : Int32))]) (fun _ kx_ => XS.iconst X109.here hx rfl (hb hby at_47) kx_) ?_
          refine W.s1 (mkF m 50 #[.val (.int x0), .val (.int (2 : Int32)), .val (.ref ar), .val (.int (1 : Int32)), .val (.int (0 : Int32)), .val (.int (0 : Int32)), .unset, .unset, .unset] []) (fun _ kx_ => XS.istore X109.here hx rfl (hb hby at_48) rfl (l' := #[.val (.int x0), .val (.int (2 : Int32)), .val (.ref ar), .val (.int (1 : Int32)), .val (.int (0 : Int32)), .val (.int (0 : Int32)), .unset, .unset, .unset]) rfl kx_) ?_
          refine W.s1 (mkF m 51 #[.val (.int x0), .val (.int (2 : Int32)), .val (.ref ar), .val (.int (1 : Int32)), .val (.int (0 : Int32)), .val (.int (0 : Int32)), .unset, .unset, .unset] [(.int (1 : Int32))]) (fun _ kx_ => XS.iloadN X109.here hx rfl (hb hby at_50) rfl kx_) ?_
          refine W.ifc X109 hx (hb hby at_51) (pc' := 58) (pc'' := 54) (by decide) (by decide) rfl (fun (c51 : (1 : Int32) = (0 : Int32)) => ?_) (fun (c51 : ¬ (1 : Int32) = (0 : Int32)) => ?_)
          · exact absurd c51 (by decide)
          · refine W.s1 (mkF m 55 #[.val (.int x0), .val (.int (2 : Int32)), .val (.ref ar), .val (.int (1 : Int32)), .val (.int (0 : Int32)), .val (.int (0 : Int32)), .unset, .unset, .unset] [(.int (1 : Int32))]) (fun _ kx_ => XS.iconst X109.here hx rfl (hb hby at_54) kx_) ?_
            refine W.s1 (mkF m 59 #[.val (.int x0), .val (.int (2 : Int32)), .val (.ref ar), .val (.int (1 : Int32)), .val (.int (0 : Int32)), .val (.int (0 : Int32)), .unset, .unset, .unset] [(.int (1 : Int32))]) (fun _ kx_ => XS.goto X109.here hx rfl (pc0 := 55) (pc' := 59) rfl (hb hby at_55) (by decide) (by decide) kx_) ?_
            refine W.s1 (mkF m 61 #[.val (.int x0), .val (.int (2 : Int32)), .val (.ref ar), .val (.int (1 : Int32)), .val (.int (0 : Int32)), .val (.int (0 : Int32)), .unset, .unset, .unset] [(.int (0 : Int32)), (.int (1 : Int32))]) (fun _ kx_ => XS.iload X109.here hx rfl (hb hby at_59) rfl kx_) ?_
            refine W.ifc X109 hx (hb hby at_61) (pc' := 68) (pc'' := 64) (by decide) (by decide) rfl (fun (c61 : (0 : Int32) = (0 : Int32)) => ?_) (fun (c61 : ¬ (0 : Int32) = (0 : Int32)) => ?_)
            · refine W.s1 (mkF m 69 #[.val (.int x0), .val (.int (2 : Int32)), .val (.ref ar), .val (.int (1 : Int32)), .val (.int (0 : Int32)), .val (.int (0 : Int32)), .unset, .unset, .unset] [(.int (0 : Int32)), (.int (1 : Int32))]) (fun _ kx_ => XS.iconst X109.here hx rfl (hb hby at_68) kx_) ?_
              refine W.s1 (mkF m 70 #[.val (.int x0), .val (.int (2 : Int32)), .val (.ref ar), .val (.int (1 : Int32)), .val (.int (0 : Int32)), .val (.int (0 : Int32)), .unset, .unset, .unset] [(.int (1 : Int32))]) (fun _ kx_ => XS.iadd X109.here hx rfl (hb hby at_69) rfl kx_) ?_
              refine W.s1 (mkF m 72 #[.val (.int x0), .val (.int (2 : Int32)), .val (.ref ar), .val (.int (1 : Int32)), .val (.int (0 : Int32)), .val (.int (0 : Int32)), .unset, .unset, .unset] [(.int (0 : Int32)), (.int (1 : Int32))]) (fun _ kx_ => XS.iload X109.here hx rfl (hb hby at_70) rfl kx_) ?_
              refine W.ifc X109 hx (hb hby at_72) (pc' := 79) (pc'' := 75) (by decide) (by decide) rfl (fun (c72 : (0 : Int32) = (0 : Int32)) => ?_) (fun (c72 : ¬ (0 : Int32) = (0 : Int32)) => ?_)
              · refine W.s1 (mkF m 80 #[.val (.int x0), .val (.int (2 : Int32)), .val (.ref ar), .val (.int (1 : Int32)), .val (.int (0 : Int32)), .val (.int (0 : Int32)), .unset, .unset, .unset] [(.int (0 : Int32)), (.int (1 : Int32))]) (fun _ kx_ => XS.iconst X109.here hx rfl (hb hby at_79) kx_) ?_
                refine W.s1 (mkF m 81 #[.val (.int x0), .val (.int (2 : Int32)), .val (.ref ar), .val (.int (1 : Int32)), .val (.int (0 : Int32)), .val (.int (0 : Int32)), .unset, .unset, .unset] [(.int (1 : Int32))]) (fun _ kx_ => XS.iadd X109.here hx rfl (hb hby at_80) rfl kx_) ?_
                refine W.s1 (mkF m 83 #[.val (.int x0), .val (.int (2 : Int32)), .val (.ref ar), .val (.int (1 : Int32)), .val (.int (0 : Int32)), .val (.int (0 : Int32)), .val (.int (1 : Int32)), .unset, .unset] []) (fun _ kx_ => XS.istore X109.here hx rfl (hb hby at_81) rfl (l' := #[.val (.int x0), .val (.int (2 : Int32)), .val (.ref ar), .val (.int (1 : Int32)), .val (.int (0 : Int32)), .val (.int (0 : Int32)), .val (.int (1 : Int32)), .unset, .unset]) rfl kx_) ?_
                refine W.s1 (mkF m 84 #[.val (.int x0), .val (.int (2 : Int32)), .val (.ref ar), .val (.int (1 : Int32)), .val (.int (0 : Int32)), .val (.int (0 : Int32)), .val (.int (1 : Int32)), .unset, .unset] [(.ref ar)]) (fun _ kx_ => XS.aloadN X109.here hx rfl (hb hby at_83) rfl rfl kx_) ?_
                refine W.s1 (mkF m 87 #[.val (.int x0), .val (.int (2 : Int32)), .val (.ref ar), .val (.int (1 : Int32)), .val (.int (0 : Int32)), .val (.int (0 : Int32)), .val (.int (1 : Int32)), .unset, .unset] []) (fun _ kx_ => XS.ifnullNo X109.here hx rfl (hb hby at_84) rfl kx_) ?_
                refine W.s1 (mkF m 88 #[.val (.int x0), .val (.int (2 : Int32)), .val (.ref ar), .val (.int (1 : Int32)), .val (.int (0 : Int32)), .val (.int (0 : Int32)), .val (.int (1 : Int32)), .unset, .unset] [(.ref ar)]) (fun _ kx_ => XS.aloadN X109.here hx rfl (hb hby at_87) rfl rfl kx_) ?_
                refine W.alen X109 hx hZ e109 A109 (z := (1 : Int32)) rfl (hb hby at_88) (pc' := 89) rfl ?_
                refine W.s1 (mkF m 91 #[.val (.int x0), .val (.int (2 : Int32)), .val (.ref ar), .val (.int (1 : Int32)), .val (.int (0 : Int32)), .val (.int (0 : Int32)), .val (.int (1 : Int32)), .unset, .unset] [(.int (1 : Int32)), (.int (1 : Int32))]) (fun _ kx_ => XS.iload X109.here hx rfl (hb hby at_89) rfl kx_) ?_
                refine W.icmp X109 hx (hb hby at_91) (pc' := 96) (pc'' := 94) (by decide) (by decide) rfl (fun (c91 : (1 : Int32) = (1 : Int32)) => ?_) (fun (c91 : ¬ (1 : Int32) = (1 : Int32)) => ?_)
                · refine W.s1 (mkF m 97 #[.val (.int x0), .val (.int (2 : Int32)), .val (.ref ar), .val (.int (1 : Int32)), .val (.int (0 : Int32)), .val (.int (0 : Int32)), .val (.int (1 : Int32)), .unset, .unset] [(.int (4 : Int32))]) (fun _ kx_ => XS.iconst X109.here hx rfl (hb hby at_96) kx_) ?_
                  refine W.newi X109 hx hZ (ty := .byte) (aty := .byte) (hw _ (List.mem_of_getElem? (i := 5) rfl)) rfl rfl e109 (hb hby at_97) (n := 4) rfl (cap := 4) (Nat.le_refl _) (by decide) (by decide) (by decide) (pc' := 99) rfl (fun T110 h110 b110 X110 e110 E110 g110 A110 => ?_)
                  have ne111 : ar ≠ b110 := Nat.ne_of_lt (Nat.lt_of_lt_of_le A109.lt (Nat.le_of_eq g110.symm))
                  have ge110 : n0 ≤ b110 := Nat.le_trans Z109 (Nat.le_of_eq g110.symm)
                  have Z110 : n0 ≤ h110.size := Nat.le_trans Z109 E110.1
                  have f112 := A109.ext E110
                  refine W.s1 (mkF m 101 #[.val (.int x0), .val (.int (2 : Int32)), .val (.ref ar), .val (.int (1 : Int32)), .val (.int (0 : Int32)), .val (.int (0 : Int32)), .val (.int (1 : Int32)), .val (.ref b110), .unset] []) (fun _ kx_ => XS.astore X110.here hx rfl (hb hby at_99) rfl rfl (l' := #[.val (.int x0), .val (.int (2 : Int32)), .val (.ref ar), .val (.int (1 : Int32)), .val (.int (0 : Int32)), .val (.int (0 : Int32)), .val (.int (1 : Int32)), .val (.ref b110), .unset]) rfl kx_) ?_
                  refine W.s1 (mkF m 102 #[.val (.int x0), .val (.int (2 : Int32)), .val (.ref ar), .val (.int (1 : Int32)), .val (.int (0 : Int32)), .val (.int (0 : Int32)), .val (.int (1 : Int32)), .val (.ref b110), .unset] [(.int (0 : Int32))]) (fun _ kx_ => XS.iconst X110.here hx rfl (hb hby at_101) kx_) ?_
                  refine W.s1 (mkF m 104 #[.val (.int x0), .val (.int (2 : Int32)), .val (.ref ar), .val (.int (1 : Int32)), .val (.int (0 : Int32)), .val (.int (0 : Int32)), .val (.int (1 : Int32)), .val (.ref b110), .val (.int (0 : Int32))] []) (fun _ kx_ => XS.istore X110.here hx rfl (hb hby at_102) rfl (l' := #[.val (.int x0), .val (.int (2 : Int32)), .val (.ref ar), .val (.int (1 : Int32)), .val (.int (0 : Int32)), .val (.int (0 : Int32)), .val (.int (1 : Int32)), .val (.ref b110), .val (.int (0 : Int32))]) rfl kx_) ?_
                  refine W.s1 (mkF m 105 #[.val (.int x0), .val (.int (2 : Int32)), .val (.ref ar), .val (.int (1 : Int32)), .val (.int (0 : Int32)), .val (.int (0 : Int32)), .val (.int (1 : Int32)), .val (.ref b110), .val (.int (0 : Int32))] [(.int (1 : Int32))]) (fun _ kx_ => XS.iloadN X110.here hx rfl (hb hby at_104) rfl kx_) ?_
                  refine W.ifc X110 hx (hb hby at_105) (pc' := 121) (pc'' := 108) (by decide) (by decide) rfl (fun (c105 : (1 : Int32) = (0 : Int32)) => ?_) (fun (c105 : ¬ (1 : Int32) = (0 : Int32)) => ?_)
                  · exact absurd c105 (by decide)
                  · refine W.s1 (mkF m 110 #[.val (.int x0), .val (.int (2 : Int32)), .val (.ref ar), .val (.int (1 : Int32)), .val (.int (0 : Int32)), .val (.int (0 : Int32)), .val (.int (1 : Int32)), .val (.ref b110), .val (.int (0 : Int32))] [(.ref b110)]) (fun _ kx_ => XS.aload X110.here hx rfl (hb hby at_108) rfl rfl kx_) ?_
                    refine W.s1 (mkF m 112 #[.val (.int x0), .val (.int (2 : Int32)), .val (.ref ar), .val (.int (1 : Int32)), .val (.int (0 : Int32)), .val (.int (0 : Int32)), .val (.int (1 : Int32)), .val (.ref b110), .val (.int (0 : Int32))] [(.int (0 : Int32)), (.ref b110)]) (fun _ kx_ => XS.iload X110.here hx rfl (hb hby at_110) rfl kx_) ?_
                    refine W.s1 (mkF m 114 #[.val (.int x0), .val (.int (2 : Int32)), .val (.ref ar), .val (.int (1 : Int32)), .val (.int (0 : Int32)), .val (.int (0 : Int32)), .val (.int (1 : Int32)), .val (.ref b110), .val (.int (0 : Int32))] [(.int (66 : Int32)), (.int (0 : Int32)), (.ref b110)]) (fun _ kx_ => XS.bipush X110.here hx rfl (hb hby at_112) kx_) ?_
                    refine W.stb X110 hx hZ e110 A110 (x' := (66 : Int32)) rfl 0 rfl (by decide) N109 ge110 (hb hby at_114) (pc' := 115) rfl (fun T113 h113 L113 X113 e113 W113 fw113 N113 => ?_)
                    have Z113 : n0 ≤ h113.size := Nat.le_trans Z110 (Keep.of_wr W113).1
                    have f114 := f112.other W113 ne111
                    refine W.s1 (mkF m 117 #[.val (.int x0), .val (.int (2 : Int32)), .val (.ref ar), .val (.int (1 : Int32)), .val (.int (0 : Int32)), .val (.int (0 : Int32)), .val (.int (1 : Int32)), .val (.ref b110), .val (.int (0 : Int32))] [(.int (0 : Int32))]) (fun _ kx_ => XS.iload X113.here hx rfl (hb hby at_115) rfl kx_) ?_
                    refine W.s1 (mkF m 118 #[.val (.int x0), .val (.int (2 : Int32)), .val (.ref ar), .val (.int (1 : Int32)), .val (.int (0 : Int32)), .val (.int (0 : Int32)), .val (.int (1 : Int32)), .val (.ref b110), .val (.int (0 : Int32))] [(.int (1 : Int32)), (.int (0 : Int32))]) (fun _ kx_ => XS.iconst X113.here hx rfl (hb hby at_117) kx_) ?_
                    refine W.s1 (mkF m 119 #[.val (.int x0), .val (.int (2 : Int32)), .val (.ref ar), .val (.int (1 : Int32)), .val (.int (0 : Int32)), .val (.int (0 : Int32)), .val (.int (1 : Int32)), .val (.ref b110), .val (.int (0 : Int32))] [(.int (1 : Int32))]) (fun _ kx_ => XS.iadd X113.here hx rfl (hb hby at_118) rfl kx_) ?_
                    refine W.s1 (mkF m 121 #[.val (.int x0), .val (.int (2 : Int32)), .val (.ref ar), .val (.int (1 : Int32)), .val (.int (0 : Int32)), .val (.int (0 : Int32)), .val (.int (1 : Int32)), .val (.ref b110), .val (.int (1 : Int32))] []) (fun _ kx_ => XS.istore X113.here hx rfl (hb hby at_119) rfl (l' := #[.val (.int x0), .val (.int (2 : Int32)), .val (.ref ar), .val (.int (1 : Int32)), .val (.int (0 : Int32)), .val (.int (0 : Int32)), .val (.int (1 : Int32)), .val (.ref b110), .val (.int (1 : Int32))]) rfl kx_) ?_
                    refine W.s1 (mkF m 123 #[.val (.int x0), .val (.int (2 : Int32)), .val (.ref ar), .val (.int (1 : Int32)), .val (.int (0 : Int32)), .val (.int (0 : Int32)), .val (.int (1 : Int32)), .val (.ref b110), .val (.int (1 : Int32))] [(.int (0 : Int32))]) (fun _ kx_ => XS.iload X113.here hx rfl (hb hby at_121) rfl kx_) ?_
                    refine W.ifc X113 hx (hb hby at_123) (pc' := 139) (pc'' := 126) (by decide) (by decide) rfl (fun (c123 : (0 : Int32) = (0 : Int32)) => ?_) (fun (c123 : ¬ (0 : Int32) = (0 : Int32)) => ?_)
                    · refine W.s1 (mkF m 141 #[.val (.int x0), .val (.int (2 : Int32)), .val (.ref ar), .val (.int (1 : Int32)), .val (.int (0 : Int32)), .val (.int (0 : Int32)), .val (.int (1 : Int32)), .val (.ref b110), .val (.int (1 : Int32))] [(.int (0 : Int32))]) (fun _ kx_ => XS.iload X113.here hx rfl (hb hby at_139) rfl kx_) ?_
                      refine W.ifc X113 hx (hb hby at_141) (pc' := 170) (pc'' := 144) (by decide) (by decide) rfl (fun (c141 : (0 : Int32) = (0 : Int32)) => ?_) (fun (c141 : ¬ (0 : Int32) = (0 : Int32)) => ?_)
                      · refine W.s1 (mkF m 172 #[.val (.int x0), .val (.int (2 : Int32)), .val (.ref ar), .val (.int (1 : Int32)), .val (.int (0 : Int32)), .val (.int (0 : Int32)), .val (.int (1 : Int32)), .val (.ref b110), .val (.int (1 : Int32))] [(.int (1 : Int32))]) (fun _ kx_ => XS.iload X113.here hx rfl (hb hby at_170) rfl kx_) ?_
                        refine W.s1 (mkF m 173 #[.val (.int x0), .val (.int (2 : Int32)), .val (.ref ar), .val (.int (1 : Int32)), .val (.int (0 : Int32)), .val (.int (0 : Int32)), .val (.int (1 : Int32)), .val (.ref b110), .val (.int (1 : Int32))] [(.int (1 : Int32)), (.int (1 : Int32))]) (fun _ kx_ => XS.iconst X113.here hx rfl (hb hby at_172) kx_) ?_
                        refine W.icmp X113 hx (hb hby at_173) (pc' := 186) (pc'' := 176) (by decide) (by decide) rfl (fun (c173 : (1 : Int32) < (1 : Int32)) => ?_) (fun (c173 : ¬ (1 : Int32) < (1 : Int32)) => ?_)
                        · exact absurd c173 (by decide)
                        · refine W.s1 (mkF m 177 #[.val (.int x0), .val (.int (2 : Int32)), .val (.ref ar), .val (.int (1 : Int32)), .val (.int (0 : Int32)), .val (.int (0 : Int32)), .val (.int (1 : Int32)), .val (.ref b110), .val (.int (1 : Int32))] [(.ref ar)]) (fun _ kx_ => XS.aloadN X113.here hx rfl (hb hby at_176) rfl rfl kx_) ?_
                          refine W.s1 (mkF m 178 #[.val (.int x0), .val (.int (2 : Int32)), .val (.ref ar), .val (.int (1 : Int32)), .val (.int (0 : Int32)), .val (.int (0 : Int32)), .val (.int (1 : Int32)), .val (.ref b110), .val (.int (1 : Int32))] [(.int (0 : Int32)), (.ref ar)]) (fun _ kx_ => XS.iconst X113.here hx rfl (hb hby at_177) kx_) ?_
                          refine W.ldb X113 hx hZ e113 f114 0 rfl (by decide) (hb hby at_178) (pc' := 179) rfl ?_
                          rw [v0]
                          refine W.s1 (mkF m 181 #[.val (.int x0), .val (.int (2 : Int32)), .val (.ref ar), .val (.int (1 : Int32)), .val (.int (0 : Int32)), .val (.int (0 : Int32)), .val (.int (1 : Int32)), .val (.ref b110), .val (.int (1 : Int32))] [(.ref b110), (.int (66 : Int32))]) (fun _ kx_ => XS.aload X113.here hx rfl (hb hby at_179) rfl rfl kx_) ?_
                          refine W.s1 (mkF m 182 #[.val (.int x0), .val (.int (2 : Int32)), .val (.ref ar), .val (.int (1 : Int32)), .val (.int (0 : Int32)), .val (.int (0 : Int32)), .val (.int (1 : Int32)), .val (.ref b110), .val (.int (1 : Int32))] [(.int (0 : Int32)), (.ref b110), (.int (66 : Int32))]) (fun _ kx_ => XS.iconst X113.here hx rfl (hb hby at_181) kx_) ?_
                          refine W.ldb X113 hx hZ e113 fw113 0 rfl (by decide) (hb hby at_182) (pc' := 183) rfl ?_
                          rw [show ((W.up (fun _ => 0) 0 (66 : Int32)) 0) = (66 : Int32) from rfl]
                          refine W.icmp X113 hx (hb hby at_183) (pc' := 238) (pc'' := 186) (by decide) (by decide) rfl (fun (c183 : ¬ (66 : Int32) = (66 : Int32)) => ?_) (fun (c183 : (66 : Int32) = (66 : Int32)) => ?_)
                          · exact absurd c183 (by decide)
                          · refine W.s1 (mkF m 188 #[.val (.int x0), .val (.int (2 : Int32)), .val (.ref ar), .val (.int (1 : Int32)), .val (.int (0 : Int32)), .val (.int (0 : Int32)), .val (.int (1 : Int32)), .val (.ref b110), .val (.int (1 : Int32))] [(.int (1 : Int32))]) (fun _ kx_ => XS.iload X113.here hx rfl (hb hby at_186) rfl kx_) ?_
                            refine W.s1 (mkF m 189 #[.val (.int x0), .val (.int (2 : Int32)), .val (.ref ar), .val (.int (1 : Int32)), .val (.int (0 : Int32)), .val (.int (0 : Int32)), .val (.int (1 : Int32)), .val (.ref b110), .val (.int (1 : Int32))] [(.int (2 : Int32)), (.int (1 : Int32))]) (fun _ kx_ => XS.iconst X113.here hx rfl (hb hby at_188) kx_) ?_
                            refine W.icmp X113 hx (hb hby at_189) (pc' := 202) (pc'' := 192) (by decide) (by decide) rfl (fun (c189 : (1 : Int32) < (2 : Int32)) => ?_) (fun (c189 : ¬ (1 : Int32) < (2 : Int32)) => ?_)
                            · refine W.s1 (mkF m 204 #[.val (.int x0), .val (.int (2 : Int32)), .val (.ref ar), .val (.int (1 : Int32)), .val (.int (0 : Int32)), .val (.int (0 : Int32)), .val (.int (1 : Int32)), .val (.ref b110), .val (.int (1 : Int32))] [(.int (1 : Int32))]) (fun _ kx_ => XS.iload X113.here hx rfl (hb hby at_202) rfl kx_) ?_
                              refine W.s1 (mkF m 205 #[.val (.int x0), .val (.int (2 : Int32)), .val (.ref ar), .val (.int (1 : Int32)), .val (.int (0 : Int32)), .val (.int (0 : Int32)), .val (.int (1 : Int32)), .val (.ref b110), .val (.int (1 : Int32))] [(.int (3 : Int32)), (.int (1 : Int32))]) (fun _ kx_ => XS.iconst X113.here hx rfl (hb hby at_204) kx_) ?_
                              refine W.icmp X113 hx (hb hby at_205) (pc' := 218) (pc'' := 208) (by decide) (by decide) rfl (fun (c205 : (1 : Int32) < (3 : Int32)) => ?_) (fun (c205 : ¬ (1 : Int32) < (3 : Int32)) => ?_)
                              · refine W.s1 (mkF m 220 #[.val (.int x0), .val (.int (2 : Int32)), .val (.ref ar), .val (.int (1 : Int32)), .val (.int (0 : Int32)), .val (.int (0 : Int32)), .val (.int (1 : Int32)), .val (.ref b110), .val (.int (1 : Int32))] [(.int (1 : Int32))]) (fun _ kx_ => XS.iload X113.here hx rfl (hb hby at_218) rfl kx_) ?_
                                refine W.s1 (mkF m 221 #[.val (.int x0), .val (.int (2 : Int32)), .val (.ref ar), .val (.int (1 : Int32)), .val (.int (0 : Int32)), .val (.int (0 : Int32)), .val (.int (1 : Int32)), .val (.ref b110), .val (.int (1 : Int32))] [(.int (4 : Int32)), (.int (1 : Int32))]) (fun _ kx_ => XS.iconst X113.here hx rfl (hb hby at_220) kx_) ?_
                                refine W.icmp X113 hx (hb hby at_221) (pc' := 234) (pc'' := 224) (by decide) (by decide) rfl (fun (c221 : (1 : Int32) < (4 : Int32)) => ?_) (fun (c221 : ¬ (1 : Int32) < (4 : Int32)) => ?_)
                                · refine W.s1 (mkF m 235 #[.val (.int x0), .val (.int (2 : Int32)), .val (.ref ar), .val (.int (1 : Int32)), .val (.int (0 : Int32)), .val (.int (0 : Int32)), .val (.int (1 : Int32)), .val (.ref b110), .val (.int (1 : Int32))] [(.int (1 : Int32))]) (fun _ kx_ => XS.iconst X113.here hx rfl (hb hby at_234) kx_) ?_
                                  refine W.s1 (mkF m 239 #[.val (.int x0), .val (.int (2 : Int32)), .val (.ref ar), .val (.int (1 : Int32)), .val (.int (0 : Int32)), .val (.int (0 : Int32)), .val (.int (1 : Int32)), .val (.ref b110), .val (.int (1 : Int32))] [(.int (1 : Int32))]) (fun _ kx_ => XS.goto X113.here hx rfl (pc0 := 235) (pc' := 239) rfl (hb hby at_235) (by decide) (by decide) kx_) ?_
                                  exact W.retZ X113 hx hlk (t := .boolean) (z' := (1 : Int32)) Bd.returns (by simp) (hb hby at_239) rfl (by show Q0 Z x0 h0 n0 _ T113.heap _; rw [e113]; exact ⟨rfl, N113⟩) (by decide) (by decide)
                                · exact absurd c221 (by decide)
                              · exact absurd c205 (by decide)
                            · exact absurd c189 (by decide)
                      · exact absurd c141 (by decide)
                    · exact absurd c123 (by decide)
                · exact absurd c91 (by decide)
              · exact absurd c72 (by decide)
            · exact absurd c61 (by decide)
        · exact absurd c40 (by decide)
      · exact absurd c28 (by decide)
  · refine W.s1 (mkF m 11 #[.val (.int x0), .val (.int (3 : Int32)), .unset, .unset, .unset, .unset, .unset, .unset, .unset] [(.int (3 : Int32))]) (fun _ kx_ => XS.iloadN X0.here hx rfl (hb hby at_10) rfl kx_) ?_
    obtain ⟨_, _, ⟨T115, L115, k115, n115⟩, -, X115, ⟨Lc115, hQ115, l115, y115, z115⟩, st115⟩ := Jvm.LawKit.callS X0 hx (y := (⟨"com/example/careful_courier/carefulcourier/store/Layout", "rewrittenPrefixes", "(I)[B"⟩ : MethodName)) hown (mvT hZ (hw _ (List.mem_of_getElem? (i := 1) rfl))) (mvT hZ (hw _ (List.mem_of_getElem? (i := 2) rfl))) (mvT hZ (hw _ (List.mem_of_getElem? (i := 3) rfl))) (mvT hZ (hw _ (List.mem_of_getElem? (i := 4) rfl))) (by decide) (backOf (W := 0) (rm1 l Z a0 hw [] (3 : Int32) h0 n0 Z0 ) hZ (hw _ (List.mem_of_getElem? (i := 4) rfl)) (hw _ (List.mem_of_getElem? (i := 3) rfl)) (by decide) (by decide)) (g := (mkF m 11 #[.val (.int x0), .val (.int (3 : Int32)), .unset, .unset, .unset, .unset, .unset, .unset, .unset] [(.int (3 : Int32))])) rfl (by rw [hml]; rfl) (argsL := [(.int (3 : Int32))]) (rest := []) (lenOf pd_0 rfl) rfl (by show 2 * 0 + _ ≤ _; exact Nat.le_of_eq rfl) (hb hby at_11) (fun _ _ => ⟨rfl, e0, (by decide : 0 + 1 ≤ _), (by decide : 0 + 2 ≤ _)⟩)
    dsimp only [Pt.U, Pt.locs, Pt.cells, Pt.slots] at X115 l115 y115 z115 st115 hQ115
    subst l115 y115 z115
    obtain ⟨h115, e115⟩ : ∃ z, T115.heap = z := ⟨_, rfl⟩
    rw [e115] at hQ115
    obtain ⟨ar, kr, fr, rfl, Nq115, Kq115, hge, A115, hc⟩ := hQ115
    have N115 := Fr.app N0 Nq115
    have Z115 : n0 ≤ h115.size := Nat.le_trans Z0 Kq115.1
    obtain ⟨rfl, v0⟩ := own_c23 (by decide) (by decide) hc
    have ger : n0 ≤ ar := Nat.le_trans Z0 hge
    refine W.s2 (mkF m 14 #[.val (.int x0), .val (.int (3 : Int32)), .unset, .unset, .unset, .unset, .unset, .unset, .unset] [(.ref ar)]) st115 ?_
    refine W.s1 (mkF m 15 #[.val (.int x0), .val (.int (3 : Int32)), .val (.ref ar), .unset, .unset, .unset, .unset, .unset, .unset] []) (fun _ kx_ => XS.astoreN X115.here hx rfl (hb hby at_14) rfl rfl (l' := #[.val (.int x0), .val (.int (3 : Int32)), .val (.ref ar), .unset, .unset, .unset, .unset, .unset, .unset]) rfl kx_) ?_
    refine W.s1 (mkF m 16 #[.val (.int x0), .val (.int (3 : Int32)), .val (.ref ar), .unset, .unset, .unset, .unset, .unset, .unset] [(.int (3 : Int32))]) (fun _ kx_ => XS.iloadN X115.here hx rfl (hb hby at_15) rfl kx_) ?_
    refine W.s1 (mkF m 17 #[.val (.int x0), .val (.int (3 : Int32)), .val (.ref ar), .unset, .unset, .unset, .unset, .unset, .unset] [(.int (3 : Int32)), (.int (3 : Int32))]) (fun _ kx_ => XS.iconst X115.here hx rfl (hb hby at_16) kx_) ?_
    refine W.icmp X115 hx (hb hby at_17) (pc' := 24) (pc'' := 20) (by decide) (by decide) rfl (fun (c17 : (3 : Int32) < (3 : Int32)) => ?_) (fun (c17 : ¬ (3 : Int32) < (3 : Int32)) => ?_)
    · exact absurd c17 (by decide)
    · refine W.s1 (mkF m 21 #[.val (.int x0), .val (.int (3 : Int32)), .val (.ref ar), .unset, .unset, .unset, .unset, .unset, .unset] [(.int (1 : Int32))]) (fun _ kx_ => XS.iconst X115.here hx rfl (hb hby at_20) kx_) ?_
      refine W.s1 (mkF m 25 #[.val (.int x0), .val (.int (3 : Int32)), .val (.ref ar), .unset, .unset, .unset, .unset, .unset, .unset] [(.int (1 : Int32))]) (fun _ kx_ => XS.goto X115.here hx rfl (pc0 := 21) (pc' := 25) rfl (hb hby at_21) (by decide) (by decide) kx_) ?_
      refine W.s1 (mkF m 26 #[.val (.int x0), .val (.int (3 : Int32)), .val (.ref ar), .val (.int (1 : Int32)), .unset, .unset, .unset, .unset, .unset] []) (fun _ kx_ => XS.istoreN X115.here hx rfl (hb hby at_25) rfl (l' := #[.val (.int x0), .val (.int (3 : Int32)), .val (.ref ar), .val (.int (1 : Int32)), .unset, .unset, .unset, .unset, .unset]) rfl kx_) ?_
      refine W.s1 (mkF m 27 #[.val (.int x0), .val (.int (3 : Int32)), .val (.ref ar), .val (.int (1 : Int32)), .unset, .unset, .unset, .unset, .unset] [(.int (3 : Int32))]) (fun _ kx_ => XS.iloadN X115.here hx rfl (hb hby at_26) rfl kx_) ?_
      refine W.s1 (mkF m 28 #[.val (.int x0), .val (.int (3 : Int32)), .val (.ref ar), .val (.int (1 : Int32)), .unset, .unset, .unset, .unset, .unset] [(.int (1 : Int32)), (.int (3 : Int32))]) (fun _ kx_ => XS.iconst X115.here hx rfl (hb hby at_27) kx_) ?_
      refine W.icmp X115 hx (hb hby at_28) (pc' := 35) (pc'' := 31) (by decide) (by decide) rfl (fun (c28 : ¬ (3 : Int32) = (1 : Int32)) => ?_) (fun (c28 : (3 : Int32) = (1 : Int32)) => ?_)
      · refine W.s1 (mkF m 36 #[.val (.int x0), .val (.int (3 : Int32)), .val (.ref ar), .val (.int (1 : Int32)), .unset, .unset, .unset, .unset, .unset] [(.int (0 : Int32))]) (fun _ kx_ => XS.iconst X115.here hx rfl (hb hby at_35) kx_) ?_
        refine W.s1 (mkF m 38 #[.val (.int x0), .val (.int (3 : Int32)), .val (.ref ar), .val (.int (1 : Int32)), .val (.int (0 : Int32)), .unset, .unset, .unset, .unset] []) (fun _ kx_ => XS.istore X115.here hx rfl (hb hby at_36) rfl (l' := #[.val (.int x0), .val (.int (3 : Int32)), .val (.ref ar), .val (.int (1 : Int32)), .val (.int (0 : Int32)), .unset, .unset, .unset, .unset]) rfl kx_) ?_
        refine W.s1 (mkF m 39 #[.val (.int x0), .val (.int (3 : Int32)), .val (.ref ar), .val (.int (1 : Int32)), .val (.int (0 : Int32)), .unset, .unset, .unset, .unset] [(.int (3 : Int32))]) (fun _ kx_ => XS.iloadN X115.here hx rfl (hb hby at_38) rfl kx_) ?_
        refine W.s1 (mkF m 40 #[.val (.int x0), .val (.int (3 : Int32)), .val (.ref ar), .val (.int (1 : Int32)), .val (.int (0 : Int32)), .unset, .unset, .unset, .unset] [(.int (5 : Int32)), (.int (3 : Int32))]) (fun _ kx_ => XS.iconst X115.here hx rfl (hb hby at_39) kx_) ?_
        refine W.icmp X115 hx (hb hby at_40) (pc' := 47) (pc'' := 43) (by decide) (by decide) rfl (fun (c40 : ¬ (3 : Int32) = (5 : Int32)) => ?_) (fun (c40 : (3 : Int32) = (5 : Int32)) => ?_)
        · refine W.s1 (mkF m 48 #[.val (.int x0), .val (.int (3 : Int32)), .val (.ref ar), .val (.int (1 : Int32)), .val (.int (0 : Int32)), .unset, .unset, .unset, .unset] [(.int (0 : Int32))]) (fun _ kx_ => XS.iconst X115.here hx rfl (hb hby at_47) kx_) ?_
          refine W.s1 (mkF m 50 #[.val (.int x0), .val (.int (3 : Int32)), .val (.ref ar), .val (.int (1 : Int32)), .val (.int (0 : Int32)), .val (.int (0 : Int32)), .unset, .unset, .unset] []) (fun _ kx_ => XS.istore X115.here hx rfl (hb hby at_48) rfl (l' := #[.val (.int x0), .val (.int (3 : Int32)), .val (.ref ar), .val (.int (1 : Int32)), .val (.int (0 : Int32)), .val (.int (0 : Int32)), .unset, .unset, .unset]) rfl kx_) ?_
          refine W.s1 (mkF m 51 #[.val (.int x0), .val (.int (3 : Int32)), .val (.ref ar), .val (.int (1 : Int32)), .val (.int (0 : Int32)), .val (.int (0 : Int32)), .unset, .unset, .unset] [(.int (1 : Int32))]) (fun _ kx_ => XS.iloadN X115.here hx rfl (hb hby at_50) rfl kx_) ?_
          refine W.ifc X115 hx (hb hby at_51) (pc' := 58) (pc'' := 54) (by decide) (by decide) rfl (fun (c51 : (1 : Int32) = (0 : Int32)) => ?_) (fun (c51 : ¬ (1 : Int32) = (0 : Int32)) => ?_)
          · exact absurd c51 (by decide)
          · refine W.s1 (mkF m 55 #[.val (.int x0), .val (.int (3 : Int32)), .val (.ref ar), .val (.int (1 : Int32)), .val (.int (0 : Int32)), .val (.int (0 : Int32)), .unset, .unset, .unset] [(.int (1 : Int32))]) (fun _ kx_ => XS.iconst X115.here hx rfl (hb hby at_54) kx_) ?_
            refine W.s1 (mkF m 59 #[.val (.int x0), .val (.int (3 : Int32)), .val (.ref ar), .val (.int (1 : Int32)), .val (.int (0 : Int32)), .val (.int (0 : Int32)), .unset, .unset, .unset] [(.int (1 : Int32))]) (fun _ kx_ => XS.goto X115.here hx rfl (pc0 := 55) (pc' := 59) rfl (hb hby at_55) (by decide) (by decide) kx_) ?_
            refine W.s1 (mkF m 61 #[.val (.int x0), .val (.int (3 : Int32)), .val (.ref ar), .val (.int (1 : Int32)), .val (.int (0 : Int32)), .val (.int (0 : Int32)), .unset, .unset, .unset] [(.int (0 : Int32)), (.int (1 : Int32))]) (fun _ kx_ => XS.iload X115.here hx rfl (hb hby at_59) rfl kx_) ?_
            refine W.ifc X115 hx (hb hby at_61) (pc' := 68) (pc'' := 64) (by decide) (by decide) rfl (fun (c61 : (0 : Int32) = (0 : Int32)) => ?_) (fun (c61 : ¬ (0 : Int32) = (0 : Int32)) => ?_)
            · refine W.s1 (mkF m 69 #[.val (.int x0), .val (.int (3 : Int32)), .val (.ref ar), .val (.int (1 : Int32)), .val (.int (0 : Int32)), .val (.int (0 : Int32)), .unset, .unset, .unset] [(.int (0 : Int32)), (.int (1 : Int32))]) (fun _ kx_ => XS.iconst X115.here hx rfl (hb hby at_68) kx_) ?_
              refine W.s1 (mkF m 70 #[.val (.int x0), .val (.int (3 : Int32)), .val (.ref ar), .val (.int (1 : Int32)), .val (.int (0 : Int32)), .val (.int (0 : Int32)), .unset, .unset, .unset] [(.int (1 : Int32))]) (fun _ kx_ => XS.iadd X115.here hx rfl (hb hby at_69) rfl kx_) ?_
              refine W.s1 (mkF m 72 #[.val (.int x0), .val (.int (3 : Int32)), .val (.ref ar), .val (.int (1 : Int32)), .val (.int (0 : Int32)), .val (.int (0 : Int32)), .unset, .unset, .unset] [(.int (0 : Int32)), (.int (1 : Int32))]) (fun _ kx_ => XS.iload X115.here hx rfl (hb hby at_70) rfl kx_) ?_
              refine W.ifc X115 hx (hb hby at_72) (pc' := 79) (pc'' := 75) (by decide) (by decide) rfl (fun (c72 : (0 : Int32) = (0 : Int32)) => ?_) (fun (c72 : ¬ (0 : Int32) = (0 : Int32)) => ?_)
              · refine W.s1 (mkF m 80 #[.val (.int x0), .val (.int (3 : Int32)), .val (.ref ar), .val (.int (1 : Int32)), .val (.int (0 : Int32)), .val (.int (0 : Int32)), .unset, .unset, .unset] [(.int (0 : Int32)), (.int (1 : Int32))]) (fun _ kx_ => XS.iconst X115.here hx rfl (hb hby at_79) kx_) ?_
                refine W.s1 (mkF m 81 #[.val (.int x0), .val (.int (3 : Int32)), .val (.ref ar), .val (.int (1 : Int32)), .val (.int (0 : Int32)), .val (.int (0 : Int32)), .unset, .unset, .unset] [(.int (1 : Int32))]) (fun _ kx_ => XS.iadd X115.here hx rfl (hb hby at_80) rfl kx_) ?_
                refine W.s1 (mkF m 83 #[.val (.int x0), .val (.int (3 : Int32)), .val (.ref ar), .val (.int (1 : Int32)), .val (.int (0 : Int32)), .val (.int (0 : Int32)), .val (.int (1 : Int32)), .unset, .unset] []) (fun _ kx_ => XS.istore X115.here hx rfl (hb hby at_81) rfl (l' := #[.val (.int x0), .val (.int (3 : Int32)), .val (.ref ar), .val (.int (1 : Int32)), .val (.int (0 : Int32)), .val (.int (0 : Int32)), .val (.int (1 : Int32)), .unset, .unset]) rfl kx_) ?_
                refine W.s1 (mkF m 84 #[.val (.int x0), .val (.int (3 : Int32)), .val (.ref ar), .val (.int (1 : Int32)), .val (.int (0 : Int32)), .val (.int (0 : Int32)), .val (.int (1 : Int32)), .unset, .unset] [(.ref ar)]) (fun _ kx_ => XS.aloadN X115.here hx rfl (hb hby at_83) rfl rfl kx_) ?_
                refine W.s1 (mkF m 87 #[.val (.int x0), .val (.int (3 : Int32)), .val (.ref ar), .val (.int (1 : Int32)), .val (.int (0 : Int32)), .val (.int (0 : Int32)), .val (.int (1 : Int32)), .unset, .unset] []) (fun _ kx_ => XS.ifnullNo X115.here hx rfl (hb hby at_84) rfl kx_) ?_
                refine W.s1 (mkF m 88 #[.val (.int x0), .val (.int (3 : Int32)), .val (.ref ar), .val (.int (1 : Int32)), .val (.int (0 : Int32)), .val (.int (0 : Int32)), .val (.int (1 : Int32)), .unset, .unset] [(.ref ar)]) (fun _ kx_ => XS.aloadN X115.here hx rfl (hb hby at_87) rfl rfl kx_) ?_
                refine W.alen X115 hx hZ e115 A115 (z := (1 : Int32)) rfl (hb hby at_88) (pc' := 89) rfl ?_
                refine W.s1 (mkF m 91 #[.val (.int x0), .val (.int (3 : Int32)), .val (.ref ar), .val (.int (1 : Int32)), .val (.int (0 : Int32)), .val (.int (0 : Int32)), .val (.int (1 : Int32)), .unset, .unset] [(.int (1 : Int32)), (.int (1 : Int32))]) (fun _ kx_ => XS.iload X115.here hx rfl (hb hby at_89) rfl kx_) ?_
                refine W.icmp X115 hx (hb hby at_91) (pc' := 96) (pc'' := 94) (by decide) (by decide) rfl (fun (c91 : (1 : Int32) = (1 : Int32)) => ?_) (fun (c91 : ¬ (1 : Int32) = (1 : Int32)) => ?_)
                · refine W.s1 (mkF m 97 #[.val (.int x0), .val (.int (3 : Int32)), .val (.ref ar), .val (.int (1 : Int32)), .val (.int (0 : Int32)), .val (.int (0 : Int32)), .val (.int (1 : Int32)), .unset, .unset] [(.int (4 : Int32))]) (fun _ kx_ => XS.iconst X115.here hx rfl (hb hby at_96) kx_) ?_
                  refine W.newi X115 hx hZ (ty := .byte) (aty := .byte) (hw _ (List.mem_of_getElem? (i := 5) rfl)) rfl rfl e115 (hb hby at_97) (n := 4) rfl (cap := 4) (Nat.le_refl _) (by decide) (by decide) (by decide) (pc' := 99) rfl (fun T116 h116 b116 X116 e116 E116 g116 A116 => ?_)
                  have ne117 : ar ≠ b116 := Nat.ne_of_lt (Nat.lt_of_lt_of_le A115.lt (Nat.le_of_eq g116.symm))
                  have ge116 : n0 ≤ b116 := Nat.le_trans Z115 (Nat.le_of_eq g116.symm)
                  have Z116 : n0 ≤ h116.size := Nat.le_trans Z115 E116.1
                  have f118 := A115.ext E116
                  refine W.s1 (mkF m 101 #[.val (.int x0), .val (.int (3 : Int32)), .val (.ref ar), .val (.int (1 : Int32)), .val (.int (0 : Int32)), .val (.int (0 : Int32)), .val (.int (1 : Int32)), .val (.ref b116), .unset] []) (fun _ kx_ => XS.astore X116.here hx rfl (hb hby at_99) rfl rfl (l' := #[.val (.int x0), .val (.int (3 : Int32)), .val (.ref ar), .val (.int (1 : Int32)), .val (.int (0 : Int32)), .val (.int (0 : Int32)), .val (.int (1 : Int32)), .val (.ref b116), .unset]) rfl kx_) ?_
                  refine W.s1 (mkF m 102 #[.val (.int x0), .val (.int (3 : Int32)), .val (.ref ar), .val (.int (1 : Int32)), .val (.int (0 : Int32)), .val (.int (0 : Int32)), .val (.int (1 : Int32)), .val (.ref b116), .unset] [(.int (0 : Int32))]) (fun _ kx_ => XS.iconst X116.here hx rfl (hb hby at_101) kx_) ?_
                  refine W.s1 (mkF m 104 #[.val (.int x0), .val (.int (3 : Int32)), .val (.ref ar), .val (.int (1 : Int32)), .val (.int (0 : Int32)), .val (.int (0 : Int32)), .val (.int (1 : Int32)), .val (.ref b116), .val (.int (0 : Int32))] []) (fun _ kx_ => XS.istore X116.here hx rfl (hb hby at_102) rfl (l' := #[.val (.int x0), .val (.int (3 : Int32)), .val (.ref ar), .val (.int (1 : Int32)), .val (.int (0 : Int32)), .val (.int (0 : Int32)), .val (.int (1 : Int32)), .val (.ref b116), .val (.int (0 : Int32))]) rfl kx_) ?_
                  refine W.s1 (mkF m 105 #[.val (.int x0), .val (.int (3 : Int32)), .val (.ref ar), .val (.int (1 : Int32)), .val (.int (0 : Int32)), .val (.int (0 : Int32)), .val (.int (1 : Int32)), .val (.ref b116), .val (.int (0 : Int32))] [(.int (1 : Int32))]) (fun _ kx_ => XS.iloadN X116.here hx rfl (hb hby at_104) rfl kx_) ?_
                  refine W.ifc X116 hx (hb hby at_105) (pc' := 121) (pc'' := 108) (by decide) (by decide) rfl (fun (c105 : (1 : Int32) = (0 : Int32)) => ?_) (fun (c105 : ¬ (1 : Int32) = (0 : Int32)) => ?_)
                  · exact absurd c105 (by decide)
                  · refine W.s1 (mkF m 110 #[.val (.int x0), .val (.int (3 : Int32)), .val (.ref ar), .val (.int (1 : Int32)), .val (.int (0 : Int32)), .val (.int (0 : Int32)), .val (.int (1 : Int32)), .val (.ref b116), .val (.int (0 : Int32))] [(.ref b116)]) (fun _ kx_ => XS.aload X116.here hx rfl (hb hby at_108) rfl rfl kx_) ?_
                    refine W.s1 (mkF m 112 #[.val (.int x0), .val (.int (3 : Int32)), .val (.ref ar), .val (.int (1 : Int32)), .val (.int (0 : Int32)), .val (.int (0 : Int32)), .val (.int (1 : Int32)), .val (.ref b116), .val (.int (0 : Int32))] [(.int (0 : Int32)), (.ref b116)]) (fun _ kx_ => XS.iload X116.here hx rfl (hb hby at_110) rfl kx_) ?_
                    refine W.s1 (mkF m 114 #[.val (.int x0), .val (.int (3 : Int32)), .val (.ref ar), .val (.int (1 : Int32)), .val (.int (0 : Int32)), .val (.int (0 : Int32)), .val (.int (1 : Int32)), .val (.ref b116), .val (.int (0 : Int32))] [(.int (66 : Int32)), (.int (0 : Int32)), (.ref b116)]) (fun _ kx_ => XS.bipush X116.here hx rfl (hb hby at_112) kx_) ?_
                    refine W.stb X116 hx hZ e116 A116 (x' := (66 : Int32)) rfl 0 rfl (by decide) N115 ge116 (hb hby at_114) (pc' := 115) rfl (fun T119 h119 L119 X119 e119 W119 fw119 N119 => ?_)
                    have Z119 : n0 ≤ h119.size := Nat.le_trans Z116 (Keep.of_wr W119).1
                    have f120 := f118.other W119 ne117
                    refine W.s1 (mkF m 117 #[.val (.int x0), .val (.int (3 : Int32)), .val (.ref ar), .val (.int (1 : Int32)), .val (.int (0 : Int32)), .val (.int (0 : Int32)), .val (.int (1 : Int32)), .val (.ref b116), .val (.int (0 : Int32))] [(.int (0 : Int32))]) (fun _ kx_ => XS.iload X119.here hx rfl (hb hby at_115) rfl kx_) ?_
                    refine W.s1 (mkF m 118 #[.val (.int x0), .val (.int (3 : Int32)), .val (.ref ar), .val (.int (1 : Int32)), .val (.int (0 : Int32)), .val (.int (0 : Int32)), .val (.int (1 : Int32)), .val (.ref b116), .val (.int (0 : Int32))] [(.int (1 : Int32)), (.int (0 : Int32))]) (fun _ kx_ => XS.iconst X119.here hx rfl (hb hby at_117) kx_) ?_
                    refine W.s1 (mkF m 119 #[.val (.int x0), .val (.int (3 : Int32)), .val (.ref ar), .val (.int (1 : Int32)), .val (.int (0 : Int32)), .val (.int (0 : Int32)), .val (.int (1 : Int32)), .val (.ref b116), .val (.int (0 : Int32))] [(.int (1 : Int32))]) (fun _ kx_ => XS.iadd X119.here hx rfl (hb hby at_118) rfl kx_) ?_
                    refine W.s1 (mkF m 121 #[.val (.int x0), .val (.int (3 : Int32)), .val (.ref ar), .val (.int (1 : Int32)), .val (.int (0 : Int32)), .val (.int (0 : Int32)), .val (.int (1 : Int32)), .val (.ref b116), .val (.int (1 : Int32))] []) (fun _ kx_ => XS.istore X119.here hx rfl (hb hby at_119) rfl (l' := #[.val (.int x0), .val (.int (3 : Int32)), .val (.ref ar), .val (.int (1 : Int32)), .val (.int (0 : Int32)), .val (.int (0 : Int32)), .val (.int (1 : Int32)), .val (.ref b116), .val (.int (1 : Int32))]) rfl kx_) ?_
                    refine W.s1 (mkF m 123 #[.val (.int x0), .val (.int (3 : Int32)), .val (.ref ar), .val (.int (1 : Int32)), .val (.int (0 : Int32)), .val (.int (0 : Int32)), .val (.int (1 : Int32)), .val (.ref b116), .val (.int (1 : Int32))] [(.int (0 : Int32))]) (fun _ kx_ => XS.iload X119.here hx rfl (hb hby at_121) rfl kx_) ?_
                    refine W.ifc X119 hx (hb hby at_123) (pc' := 139) (pc'' := 126) (by decide) (by decide) rfl (fun (c123 : (0 : Int32) = (0 : Int32)) => ?_) (fun (c123 : ¬ (0 : Int32) = (0 : Int32)) => ?_)
                    · refine W.s1 (mkF m 141 #[.val (.int x0), .val (.int (3 : Int32)), .val (.ref ar), .val (.int (1 : Int32)), .val (.int (0 : Int32)), .val (.int (0 : Int32)), .val (.int (1 : Int32)), .val (.ref b116), .val (.int (1 : Int32))] [(.int (0 : Int32))]) (fun _ kx_ => XS.iload X119.here hx rfl (hb hby at_139) rfl kx_) ?_
                      refine W.ifc X119 hx (hb hby at_141) (pc' := 170) (pc'' := 144) (by decide) (by decide) rfl (fun (c141 : (0 : Int32) = (0 : Int32)) => ?_) (fun (c141 : ¬ (0 : Int32) = (0 : Int32)) => ?_)
                      · refine W.s1 (mkF m 172 #[.val (.int x0), .val (.int (3 : Int32)), .val (.ref ar), .val (.int (1 : Int32)), .val (.int (0 : Int32)), .val (.int (0 : Int32)), .val (.int (1 : Int32)), .val (.ref b116), .val (.int (1 : Int32))] [(.int (1 : Int32))]) (fun _ kx_ => XS.iload X119.here hx rfl (hb hby at_170) rfl kx_) ?_
                        refine W.s1 (mkF m 173 #[.val (.int x0), .val (.int (3 : Int32)), .val (.ref ar), .val (.int (1 : Int32)), .val (.int (0 : Int32)), .val (.int (0 : Int32)), .val (.int (1 : Int32)), .val (.ref b116), .val (.int (1 : Int32))] [(.int (1 : Int32)), (.int (1 : Int32))]) (fun _ kx_ => XS.iconst X119.here hx rfl (hb hby at_172) kx_) ?_
                        refine W.icmp X119 hx (hb hby at_173) (pc' := 186) (pc'' := 176) (by decide) (by decide) rfl (fun (c173 : (1 : Int32) < (1 : Int32)) => ?_) (fun (c173 : ¬ (1 : Int32) < (1 : Int32)) => ?_)
                        · exact absurd c173 (by decide)
                        · refine W.s1 (mkF m 177 #[.val (.int x0), .val (.int (3 : Int32)), .val (.ref ar), .val (.int (1 : Int32)), .val (.int (0 : Int32)), .val (.int (0 : Int32)), .val (.int (1 : Int32)), .val (.ref b116), .val (.int (1 : Int32))] [(.ref ar)]) (fun _ kx_ => XS.aloadN X119.here hx rfl (hb hby at_176) rfl rfl kx_) ?_
                          refine W.s1 (mkF m 178 #[.val (.int x0), .val (.int (3 : Int32)), .val (.ref ar), .val (.int (1 : Int32)), .val (.int (0 : Int32)), .val (.int (0 : Int32)), .val (.int (1 : Int32)), .val (.ref b116), .val (.int (1 : Int32))] [(.int (0 : Int32)), (.ref ar)]) (fun _ kx_ => XS.iconst X119.here hx rfl (hb hby at_177) kx_) ?_
                          refine W.ldb X119 hx hZ e119 f120 0 rfl (by decide) (hb hby at_178) (pc' := 179) rfl ?_
                          rw [v0]
                          refine W.s1 (mkF m 181 #[.val (.int x0), .val (.int (3 : Int32)), .val (.ref ar), .val (.int (1 : Int32)), .val (.int (0 : Int32)), .val (.int (0 : Int32)), .val (.int (1 : Int32)), .val (.ref b116), .val (.int (1 : Int32))] [(.ref b116), (.int (66 : Int32))]) (fun _ kx_ => XS.aload X119.here hx rfl (hb hby at_179) rfl rfl kx_) ?_
                          refine W.s1 (mkF m 182 #[.val (.int x0), .val (.int (3 : Int32)), .val (.ref ar), .val (.int (1 : Int32)), .val (.int (0 : Int32)), .val (.int (0 : Int32)), .val (.int (1 : Int32)), .val (.ref b116), .val (.int (1 : Int32))] [(.int (0 : Int32)), (.ref b116), (.int (66 : Int32))]) (fun _ kx_ => XS.iconst X119.here hx rfl (hb hby at_181) kx_) ?_
                          refine W.ldb X119 hx hZ e119 fw119 0 rfl (by decide) (hb hby at_182) (pc' := 183) rfl ?_
                          rw [show ((W.up (fun _ => 0) 0 (66 : Int32)) 0) = (66 : Int32) from rfl]
                          refine W.icmp X119 hx (hb hby at_183) (pc' := 238) (pc'' := 186) (by decide) (by decide) rfl (fun (c183 : ¬ (66 : Int32) = (66 : Int32)) => ?_) (fun (c183 : (66 : Int32) = (66 : Int32)) => ?_)
                          · exact absurd c183 (by decide)
                          · refine W.s1 (mkF m 188 #[.val (.int x0), .val (.int (3 : Int32)), .val (.ref ar), .val (.int (1 : Int32)), .val (.int (0 : Int32)), .val (.int (0 : Int32)), .val (.int (1 : Int32)), .val (.ref b116), .val (.int (1 : Int32))] [(.int (1 : Int32))]) (fun _ kx_ => XS.iload X119.here hx rfl (hb hby at_186) rfl kx_) ?_
                            refine W.s1 (mkF m 189 #[.val (.int x0), .val (.int (3 : Int32)), .val (.ref ar), .val (.int (1 : Int32)), .val (.int (0 : Int32)), .val (.int (0 : Int32)), .val (.int (1 : Int32)), .val (.ref b116), .val (.int (1 : Int32))] [(.int (2 : Int32)), (.int (1 : Int32))]) (fun _ kx_ => XS.iconst X119.here hx rfl (hb hby at_188) kx_) ?_
                            refine W.icmp X119 hx (hb hby at_189) (pc' := 202) (pc'' := 192) (by decide) (by decide) rfl (fun (c189 : (1 : Int32) < (2 : Int32)) => ?_) (fun (c189 : ¬ (1 : Int32) < (2 : Int32)) => ?_)
                            · refine W.s1 (mkF m 204 #[.val (.int x0), .val (.int (3 : Int32)), .val (.ref ar), .val (.int (1 : Int32)), .val (.int (0 : Int32)), .val (.int (0 : Int32)), .val (.int (1 : Int32)), .val (.ref b116), .val (.int (1 : Int32))] [(.int (1 : Int32))]) (fun _ kx_ => XS.iload X119.here hx rfl (hb hby at_202) rfl kx_) ?_
                              refine W.s1 (mkF m 205 #[.val (.int x0), .val (.int (3 : Int32)), .val (.ref ar), .val (.int (1 : Int32)), .val (.int (0 : Int32)), .val (.int (0 : Int32)), .val (.int (1 : Int32)), .val (.ref b116), .val (.int (1 : Int32))] [(.int (3 : Int32)), (.int (1 : Int32))]) (fun _ kx_ => XS.iconst X119.here hx rfl (hb hby at_204) kx_) ?_
                              refine W.icmp X119 hx (hb hby at_205) (pc' := 218) (pc'' := 208) (by decide) (by decide) rfl (fun (c205 : (1 : Int32) < (3 : Int32)) => ?_) (fun (c205 : ¬ (1 : Int32) < (3 : Int32)) => ?_)
                              · refine W.s1 (mkF m 220 #[.val (.int x0), .val (.int (3 : Int32)), .val (.ref ar), .val (.int (1 : Int32)), .val (.int (0 : Int32)), .val (.int (0 : Int32)), .val (.int (1 : Int32)), .val (.ref b116), .val (.int (1 : Int32))] [(.int (1 : Int32))]) (fun _ kx_ => XS.iload X119.here hx rfl (hb hby at_218) rfl kx_) ?_
                                refine W.s1 (mkF m 221 #[.val (.int x0), .val (.int (3 : Int32)), .val (.ref ar), .val (.int (1 : Int32)), .val (.int (0 : Int32)), .val (.int (0 : Int32)), .val (.int (1 : Int32)), .val (.ref b116), .val (.int (1 : Int32))] [(.int (4 : Int32)), (.int (1 : Int32))]) (fun _ kx_ => XS.iconst X119.here hx rfl (hb hby at_220) kx_) ?_
                                refine W.icmp X119 hx (hb hby at_221) (pc' := 234) (pc'' := 224) (by decide) (by decide) rfl (fun (c221 : (1 : Int32) < (4 : Int32)) => ?_) (fun (c221 : ¬ (1 : Int32) < (4 : Int32)) => ?_)
                                · refine W.s1 (mkF m 235 #[.val (.int x0), .val (.int (3 : Int32)), .val (.ref ar), .val (.int (1 : Int32)), .val (.int (0 : Int32)), .val (.int (0 : Int32)), .val (.int (1 : Int32)), .val (.ref b116), .val (.int (1 : Int32))] [(.int (1 : Int32))]) (fun _ kx_ => XS.iconst X119.here hx rfl (hb hby at_234) kx_) ?_
                                  refine W.s1 (mkF m 239 #[.val (.int x0), .val (.int (3 : Int32)), .val (.ref ar), .val (.int (1 : Int32)), .val (.int (0 : Int32)), .val (.int (0 : Int32)), .val (.int (1 : Int32)), .val (.ref b116), .val (.int (1 : Int32))] [(.int (1 : Int32))]) (fun _ kx_ => XS.goto X119.here hx rfl (pc0 := 235) (pc' := 239) rfl (hb hby at_235) (by decide) (by decide) kx_) ?_
                                  exact W.retZ X119 hx hlk (t := .boolean) (z' := (1 : Int32)) Bd.returns (by simp) (hb hby at_239) rfl (by show Q0 Z x0 h0 n0 _ T119.heap _; rw [e119]; exact ⟨rfl, N119⟩) (by decide) (by decide)
                                · exact absurd c221 (by decide)
                              · exact absurd c205 (by decide)
                            · exact absurd c189 (by decide)
                      · exact absurd c141 (by decide)
                    · exact absurd c123 (by decide)
                · exact absurd c91 (by decide)
              · exact absurd c72 (by decide)
            · exact absurd c61 (by decide)
        · exact absurd c40 (by decide)
      · exact absurd c28 (by decide)
  · refine W.s1 (mkF m 11 #[.val (.int x0), .val (.int (4 : Int32)), .unset, .unset, .unset, .unset, .unset, .unset, .unset] [(.int (4 : Int32))]) (fun _ kx_ => XS.iloadN X0.here hx rfl (hb hby at_10) rfl kx_) ?_
    obtain ⟨_, _, ⟨T121, L121, k121, n121⟩, -, X121, ⟨Lc121, hQ121, l121, y121, z121⟩, st121⟩ := Jvm.LawKit.callS X0 hx (y := (⟨"com/example/careful_courier/carefulcourier/store/Layout", "rewrittenPrefixes", "(I)[B"⟩ : MethodName)) hown (mvT hZ (hw _ (List.mem_of_getElem? (i := 1) rfl))) (mvT hZ (hw _ (List.mem_of_getElem? (i := 2) rfl))) (mvT hZ (hw _ (List.mem_of_getElem? (i := 3) rfl))) (mvT hZ (hw _ (List.mem_of_getElem? (i := 4) rfl))) (by decide) (backOf (W := 0) (rm1 l Z a0 hw [] (4 : Int32) h0 n0 Z0 ) hZ (hw _ (List.mem_of_getElem? (i := 4) rfl)) (hw _ (List.mem_of_getElem? (i := 3) rfl)) (by decide) (by decide)) (g := (mkF m 11 #[.val (.int x0), .val (.int (4 : Int32)), .unset, .unset, .unset, .unset, .unset, .unset, .unset] [(.int (4 : Int32))])) rfl (by rw [hml]; rfl) (argsL := [(.int (4 : Int32))]) (rest := []) (lenOf pd_0 rfl) rfl (by show 2 * 0 + _ ≤ _; exact Nat.le_of_eq rfl) (hb hby at_11) (fun _ _ => ⟨rfl, e0, (by decide : 0 + 1 ≤ _), (by decide : 0 + 2 ≤ _)⟩)
    dsimp only [Pt.U, Pt.locs, Pt.cells, Pt.slots] at X121 l121 y121 z121 st121 hQ121
    subst l121 y121 z121
    obtain ⟨h121, e121⟩ : ∃ z, T121.heap = z := ⟨_, rfl⟩
    rw [e121] at hQ121
    obtain ⟨ar, kr, fr, rfl, Nq121, Kq121, hge, A121, hc⟩ := hQ121
    have N121 := Fr.app N0 Nq121
    have Z121 : n0 ≤ h121.size := Nat.le_trans Z0 Kq121.1
    obtain rfl := own_c4 (by decide) (by decide) (by decide) hc
    have ger : n0 ≤ ar := Nat.le_trans Z0 hge
    refine W.s2 (mkF m 14 #[.val (.int x0), .val (.int (4 : Int32)), .unset, .unset, .unset, .unset, .unset, .unset, .unset] [(.ref ar)]) st121 ?_
    refine W.s1 (mkF m 15 #[.val (.int x0), .val (.int (4 : Int32)), .val (.ref ar), .unset, .unset, .unset, .unset, .unset, .unset] []) (fun _ kx_ => XS.astoreN X121.here hx rfl (hb hby at_14) rfl rfl (l' := #[.val (.int x0), .val (.int (4 : Int32)), .val (.ref ar), .unset, .unset, .unset, .unset, .unset, .unset]) rfl kx_) ?_
    refine W.s1 (mkF m 16 #[.val (.int x0), .val (.int (4 : Int32)), .val (.ref ar), .unset, .unset, .unset, .unset, .unset, .unset] [(.int (4 : Int32))]) (fun _ kx_ => XS.iloadN X121.here hx rfl (hb hby at_15) rfl kx_) ?_
    refine W.s1 (mkF m 17 #[.val (.int x0), .val (.int (4 : Int32)), .val (.ref ar), .unset, .unset, .unset, .unset, .unset, .unset] [(.int (3 : Int32)), (.int (4 : Int32))]) (fun _ kx_ => XS.iconst X121.here hx rfl (hb hby at_16) kx_) ?_
    refine W.icmp X121 hx (hb hby at_17) (pc' := 24) (pc'' := 20) (by decide) (by decide) rfl (fun (c17 : (3 : Int32) < (4 : Int32)) => ?_) (fun (c17 : ¬ (3 : Int32) < (4 : Int32)) => ?_)
    · refine W.s1 (mkF m 25 #[.val (.int x0), .val (.int (4 : Int32)), .val (.ref ar), .unset, .unset, .unset, .unset, .unset, .unset] [(.int (0 : Int32))]) (fun _ kx_ => XS.iconst X121.here hx rfl (hb hby at_24) kx_) ?_
      refine W.s1 (mkF m 26 #[.val (.int x0), .val (.int (4 : Int32)), .val (.ref ar), .val (.int (0 : Int32)), .unset, .unset, .unset, .unset, .unset] []) (fun _ kx_ => XS.istoreN X121.here hx rfl (hb hby at_25) rfl (l' := #[.val (.int x0), .val (.int (4 : Int32)), .val (.ref ar), .val (.int (0 : Int32)), .unset, .unset, .unset, .unset, .unset]) rfl kx_) ?_
      refine W.s1 (mkF m 27 #[.val (.int x0), .val (.int (4 : Int32)), .val (.ref ar), .val (.int (0 : Int32)), .unset, .unset, .unset, .unset, .unset] [(.int (4 : Int32))]) (fun _ kx_ => XS.iloadN X121.here hx rfl (hb hby at_26) rfl kx_) ?_
      refine W.s1 (mkF m 28 #[.val (.int x0), .val (.int (4 : Int32)), .val (.ref ar), .val (.int (0 : Int32)), .unset, .unset, .unset, .unset, .unset] [(.int (1 : Int32)), (.int (4 : Int32))]) (fun _ kx_ => XS.iconst X121.here hx rfl (hb hby at_27) kx_) ?_
      refine W.icmp X121 hx (hb hby at_28) (pc' := 35) (pc'' := 31) (by decide) (by decide) rfl (fun (c28 : ¬ (4 : Int32) = (1 : Int32)) => ?_) (fun (c28 : (4 : Int32) = (1 : Int32)) => ?_)
      · refine W.s1 (mkF m 36 #[.val (.int x0), .val (.int (4 : Int32)), .val (.ref ar), .val (.int (0 : Int32)), .unset, .unset, .unset, .unset, .unset] [(.int (0 : Int32))]) (fun _ kx_ => XS.iconst X121.here hx rfl (hb hby at_35) kx_) ?_
        refine W.s1 (mkF m 38 #[.val (.int x0), .val (.int (4 : Int32)), .val (.ref ar), .val (.int (0 : Int32)), .val (.int (0 : Int32)), .unset, .unset, .unset, .unset] []) (fun _ kx_ => XS.istore X121.here hx rfl (hb hby at_36) rfl (l' := #[.val (.int x0), .val (.int (4 : Int32)), .val (.ref ar), .val (.int (0 : Int32)), .val (.int (0 : Int32)), .unset, .unset, .unset, .unset]) rfl kx_) ?_
        refine W.s1 (mkF m 39 #[.val (.int x0), .val (.int (4 : Int32)), .val (.ref ar), .val (.int (0 : Int32)), .val (.int (0 : Int32)), .unset, .unset, .unset, .unset] [(.int (4 : Int32))]) (fun _ kx_ => XS.iloadN X121.here hx rfl (hb hby at_38) rfl kx_) ?_
        refine W.s1 (mkF m 40 #[.val (.int x0), .val (.int (4 : Int32)), .val (.ref ar), .val (.int (0 : Int32)), .val (.int (0 : Int32)), .unset, .unset, .unset, .unset] [(.int (5 : Int32)), (.int (4 : Int32))]) (fun _ kx_ => XS.iconst X121.here hx rfl (hb hby at_39) kx_) ?_
        refine W.icmp X121 hx (hb hby at_40) (pc' := 47) (pc'' := 43) (by decide) (by decide) rfl (fun (c40 : ¬ (4 : Int32) = (5 : Int32)) => ?_) (fun (c40 : (4 : Int32) = (5 : Int32)) => ?_)
        · refine W.s1 (mkF m 48 #[.val (.int x0), .val (.int (4 : Int32)), .val (.ref ar), .val (.int (0 : Int32)), .val (.int (0 : Int32)), .unset, .unset, .unset, .unset] [(.int (0 : Int32))]) (fun _ kx_ => XS.iconst X121.here hx rfl (hb hby at_47) kx_) ?_
          refine W.s1 (mkF m 50 #[.val (.int x0), .val (.int (4 : Int32)), .val (.ref ar), .val (.int (0 : Int32)), .val (.int (0 : Int32)), .val (.int (0 : Int32)), .unset, .unset, .unset] []) (fun _ kx_ => XS.istore X121.here hx rfl (hb hby at_48) rfl (l' := #[.val (.int x0), .val (.int (4 : Int32)), .val (.ref ar), .val (.int (0 : Int32)), .val (.int (0 : Int32)), .val (.int (0 : Int32)), .unset, .unset, .unset]) rfl kx_) ?_
          refine W.s1 (mkF m 51 #[.val (.int x0), .val (.int (4 : Int32)), .val (.ref ar), .val (.int (0 : Int32)), .val (.int (0 : Int32)), .val (.int (0 : Int32)), .unset, .unset, .unset] [(.int (0 : Int32))]) (fun _ kx_ => XS.iloadN X121.here hx rfl (hb hby at_50) rfl kx_) ?_
          refine W.ifc X121 hx (hb hby at_51) (pc' := 58) (pc'' := 54) (by decide) (by decide) rfl (fun (c51 : (0 : Int32) = (0 : Int32)) => ?_) (fun (c51 : ¬ (0 : Int32) = (0 : Int32)) => ?_)
          · refine W.s1 (mkF m 59 #[.val (.int x0), .val (.int (4 : Int32)), .val (.ref ar), .val (.int (0 : Int32)), .val (.int (0 : Int32)), .val (.int (0 : Int32)), .unset, .unset, .unset] [(.int (0 : Int32))]) (fun _ kx_ => XS.iconst X121.here hx rfl (hb hby at_58) kx_) ?_
            refine W.s1 (mkF m 61 #[.val (.int x0), .val (.int (4 : Int32)), .val (.ref ar), .val (.int (0 : Int32)), .val (.int (0 : Int32)), .val (.int (0 : Int32)), .unset, .unset, .unset] [(.int (0 : Int32)), (.int (0 : Int32))]) (fun _ kx_ => XS.iload X121.here hx rfl (hb hby at_59) rfl kx_) ?_
            refine W.ifc X121 hx (hb hby at_61) (pc' := 68) (pc'' := 64) (by decide) (by decide) rfl (fun (c61 : (0 : Int32) = (0 : Int32)) => ?_) (fun (c61 : ¬ (0 : Int32) = (0 : Int32)) => ?_)
            · refine W.s1 (mkF m 69 #[.val (.int x0), .val (.int (4 : Int32)), .val (.ref ar), .val (.int (0 : Int32)), .val (.int (0 : Int32)), .val (.int (0 : Int32)), .unset, .unset, .unset] [(.int (0 : Int32)), (.int (0 : Int32))]) (fun _ kx_ => XS.iconst X121.here hx rfl (hb hby at_68) kx_) ?_
              refine W.s1 (mkF m 70 #[.val (.int x0), .val (.int (4 : Int32)), .val (.ref ar), .val (.int (0 : Int32)), .val (.int (0 : Int32)), .val (.int (0 : Int32)), .unset, .unset, .unset] [(.int (0 : Int32))]) (fun _ kx_ => XS.iadd X121.here hx rfl (hb hby at_69) rfl kx_) ?_
              refine W.s1 (mkF m 72 #[.val (.int x0), .val (.int (4 : Int32)), .val (.ref ar), .val (.int (0 : Int32)), .val (.int (0 : Int32)), .val (.int (0 : Int32)), .unset, .unset, .unset] [(.int (0 : Int32)), (.int (0 : Int32))]) (fun _ kx_ => XS.iload X121.here hx rfl (hb hby at_70) rfl kx_) ?_
              refine W.ifc X121 hx (hb hby at_72) (pc' := 79) (pc'' := 75) (by decide) (by decide) rfl (fun (c72 : (0 : Int32) = (0 : Int32)) => ?_) (fun (c72 : ¬ (0 : Int32) = (0 : Int32)) => ?_)
              · refine W.s1 (mkF m 80 #[.val (.int x0), .val (.int (4 : Int32)), .val (.ref ar), .val (.int (0 : Int32)), .val (.int (0 : Int32)), .val (.int (0 : Int32)), .unset, .unset, .unset] [(.int (0 : Int32)), (.int (0 : Int32))]) (fun _ kx_ => XS.iconst X121.here hx rfl (hb hby at_79) kx_) ?_
                refine W.s1 (mkF m 81 #[.val (.int x0), .val (.int (4 : Int32)), .val (.ref ar), .val (.int (0 : Int32)), .val (.int (0 : Int32)), .val (.int (0 : Int32)), .unset, .unset, .unset] [(.int (0 : Int32))]) (fun _ kx_ => XS.iadd X121.here hx rfl (hb hby at_80) rfl kx_) ?_
                refine W.s1 (mkF m 83 #[.val (.int x0), .val (.int (4 : Int32)), .val (.ref ar), .val (.int (0 : Int32)), .val (.int (0 : Int32)), .val (.int (0 : Int32)), .val (.int (0 : Int32)), .unset, .unset] []) (fun _ kx_ => XS.istore X121.here hx rfl (hb hby at_81) rfl (l' := #[.val (.int x0), .val (.int (4 : Int32)), .val (.ref ar), .val (.int (0 : Int32)), .val (.int (0 : Int32)), .val (.int (0 : Int32)), .val (.int (0 : Int32)), .unset, .unset]) rfl kx_) ?_
                refine W.s1 (mkF m 84 #[.val (.int x0), .val (.int (4 : Int32)), .val (.ref ar), .val (.int (0 : Int32)), .val (.int (0 : Int32)), .val (.int (0 : Int32)), .val (.int (0 : Int32)), .unset, .unset] [(.ref ar)]) (fun _ kx_ => XS.aloadN X121.here hx rfl (hb hby at_83) rfl rfl kx_) ?_
                refine W.s1 (mkF m 87 #[.val (.int x0), .val (.int (4 : Int32)), .val (.ref ar), .val (.int (0 : Int32)), .val (.int (0 : Int32)), .val (.int (0 : Int32)), .val (.int (0 : Int32)), .unset, .unset] []) (fun _ kx_ => XS.ifnullNo X121.here hx rfl (hb hby at_84) rfl kx_) ?_
                refine W.s1 (mkF m 88 #[.val (.int x0), .val (.int (4 : Int32)), .val (.ref ar), .val (.int (0 : Int32)), .val (.int (0 : Int32)), .val (.int (0 : Int32)), .val (.int (0 : Int32)), .unset, .unset] [(.ref ar)]) (fun _ kx_ => XS.aloadN X121.here hx rfl (hb hby at_87) rfl rfl kx_) ?_
                refine W.alen X121 hx hZ e121 A121 (z := (0 : Int32)) rfl (hb hby at_88) (pc' := 89) rfl ?_
                refine W.s1 (mkF m 91 #[.val (.int x0), .val (.int (4 : Int32)), .val (.ref ar), .val (.int (0 : Int32)), .val (.int (0 : Int32)), .val (.int (0 : Int32)), .val (.int (0 : Int32)), .unset, .unset] [(.int (0 : Int32)), (.int (0 : Int32))]) (fun _ kx_ => XS.iload X121.here hx rfl (hb hby at_89) rfl kx_) ?_
                refine W.icmp X121 hx (hb hby at_91) (pc' := 96) (pc'' := 94) (by decide) (by decide) rfl (fun (c91 : (0 : Int32) = (0 : Int32)) => ?_) (fun (c91 : ¬ (0 : Int32) = (0 : Int32)) => ?_)
                · refine W.s1 (mkF m 97 #[.val (.int x0), .val (.int (4 : Int32)), .val (.ref ar), .val (.int (0 : Int32)), .val (.int (0 : Int32)), .val (.int (0 : Int32)), .val (.int (0 : Int32)), .unset, .unset] [(.int (4 : Int32))]) (fun _ kx_ => XS.iconst X121.here hx rfl (hb hby at_96) kx_) ?_
                  refine W.newi X121 hx hZ (ty := .byte) (aty := .byte) (hw _ (List.mem_of_getElem? (i := 5) rfl)) rfl rfl e121 (hb hby at_97) (n := 4) rfl (cap := 4) (Nat.le_refl _) (by decide) (by decide) (by decide) (pc' := 99) rfl (fun T122 h122 b122 X122 e122 E122 g122 A122 => ?_)
                  have ne123 : ar ≠ b122 := Nat.ne_of_lt (Nat.lt_of_lt_of_le A121.lt (Nat.le_of_eq g122.symm))
                  have ge122 : n0 ≤ b122 := Nat.le_trans Z121 (Nat.le_of_eq g122.symm)
                  have Z122 : n0 ≤ h122.size := Nat.le_trans Z121 E122.1
                  have f124 := A121.ext E122
                  refine W.s1 (mkF m 101 #[.val (.int x0), .val (.int (4 : Int32)), .val (.ref ar), .val (.int (0 : Int32)), .val (.int (0 : Int32)), .val (.int (0 : Int32)), .val (.int (0 : Int32)), .val (.ref b122), .unset] []) (fun _ kx_ => XS.astore X122.here hx rfl (hb hby at_99) rfl rfl (l' := #[.val (.int x0), .val (.int (4 : Int32)), .val (.ref ar), .val (.int (0 : Int32)), .val (.int (0 : Int32)), .val (.int (0 : Int32)), .val (.int (0 : Int32)), .val (.ref b122), .unset]) rfl kx_) ?_
                  refine W.s1 (mkF m 102 #[.val (.int x0), .val (.int (4 : Int32)), .val (.ref ar), .val (.int (0 : Int32)), .val (.int (0 : Int32)), .val (.int (0 : Int32)), .val (.int (0 : Int32)), .val (.ref b122), .unset] [(.int (0 : Int32))]) (fun _ kx_ => XS.iconst X122.here hx rfl (hb hby at_101) kx_) ?_
                  refine W.s1 (mkF m 104 #[.val (.int x0), .val (.int (4 : Int32)), .val (.ref ar), .val (.int (0 : Int32)), .val (.int (0 : Int32)), .val (.int (0 : Int32)), .val (.int (0 : Int32)), .val (.ref b122), .val (.int (0 : Int32))] []) (fun _ kx_ => XS.istore X122.here hx rfl (hb hby at_102) rfl (l' := #[.val (.int x0), .val (.int (4 : Int32)), .val (.ref ar), .val (.int (0 : Int32)), .val (.int (0 : Int32)), .val (.int (0 : Int32)), .val (.int (0 : Int32)), .val (.ref b122), .val (.int (0 : Int32))]) rfl kx_) ?_
                  refine W.s1 (mkF m 105 #[.val (.int x0), .val (.int (4 : Int32)), .val (.ref ar), .val (.int (0 : Int32)), .val (.int (0 : Int32)), .val (.int (0 : Int32)), .val (.int (0 : Int32)), .val (.ref b122), .val (.int (0 : Int32))] [(.int (0 : Int32))]) (fun _ kx_ => XS.iloadN X122.here hx rfl (hb hby at_104) rfl kx_) ?_
                  refine W.ifc X122 hx (hb hby at_105) (pc' := 121) (pc'' := 108) (by decide) (by decide) rfl (fun (c105 : (0 : Int32) = (0 : Int32)) => ?_) (fun (c105 : ¬ (0 : Int32) = (0 : Int32)) => ?_)
                  · refine W.s1 (mkF m 123 #[.val (.int x0), .val (.int (4 : Int32)), .val (.ref ar), .val (.int (0 : Int32)), .val (.int (0 : Int32)), .val (.int (0 : Int32)), .val (.int (0 : Int32)), .val (.ref b122), .val (.int (0 : Int32))] [(.int (0 : Int32))]) (fun _ kx_ => XS.iload X122.here hx rfl (hb hby at_121) rfl kx_) ?_
                    refine W.ifc X122 hx (hb hby at_123) (pc' := 139) (pc'' := 126) (by decide) (by decide) rfl (fun (c123 : (0 : Int32) = (0 : Int32)) => ?_) (fun (c123 : ¬ (0 : Int32) = (0 : Int32)) => ?_)
                    · refine W.s1 (mkF m 141 #[.val (.int x0), .val (.int (4 : Int32)), .val (.ref ar), .val (.int (0 : Int32)), .val (.int (0 : Int32)), .val (.int (0 : Int32)), .val (.int (0 : Int32)), .val (.ref b122), .val (.int (0 : Int32))] [(.int (0 : Int32))]) (fun _ kx_ => XS.iload X122.here hx rfl (hb hby at_139) rfl kx_) ?_
                      refine W.ifc X122 hx (hb hby at_141) (pc' := 170) (pc'' := 144) (by decide) (by decide) rfl (fun (c141 : (0 : Int32) = (0 : Int32)) => ?_) (fun (c141 : ¬ (0 : Int32) = (0 : Int32)) => ?_)
                      · refine W.s1 (mkF m 172 #[.val (.int x0), .val (.int (4 : Int32)), .val (.ref ar), .val (.int (0 : Int32)), .val (.int (0 : Int32)), .val (.int (0 : Int32)), .val (.int (0 : Int32)), .val (.ref b122), .val (.int (0 : Int32))] [(.int (0 : Int32))]) (fun _ kx_ => XS.iload X122.here hx rfl (hb hby at_170) rfl kx_) ?_
                        refine W.s1 (mkF m 173 #[.val (.int x0), .val (.int (4 : Int32)), .val (.ref ar), .val (.int (0 : Int32)), .val (.int (0 : Int32)), .val (.int (0 : Int32)), .val (.int (0 : Int32)), .val (.ref b122), .val (.int (0 : Int32))] [(.int (1 : Int32)), (.int (0 : Int32))]) (fun _ kx_ => XS.iconst X122.here hx rfl (hb hby at_172) kx_) ?_
                        refine W.icmp X122 hx (hb hby at_173) (pc' := 186) (pc'' := 176) (by decide) (by decide) rfl (fun (c173 : (0 : Int32) < (1 : Int32)) => ?_) (fun (c173 : ¬ (0 : Int32) < (1 : Int32)) => ?_)
                        · refine W.s1 (mkF m 188 #[.val (.int x0), .val (.int (4 : Int32)), .val (.ref ar), .val (.int (0 : Int32)), .val (.int (0 : Int32)), .val (.int (0 : Int32)), .val (.int (0 : Int32)), .val (.ref b122), .val (.int (0 : Int32))] [(.int (0 : Int32))]) (fun _ kx_ => XS.iload X122.here hx rfl (hb hby at_186) rfl kx_) ?_
                          refine W.s1 (mkF m 189 #[.val (.int x0), .val (.int (4 : Int32)), .val (.ref ar), .val (.int (0 : Int32)), .val (.int (0 : Int32)), .val (.int (0 : Int32)), .val (.int (0 : Int32)), .val (.ref b122), .val (.int (0 : Int32))] [(.int (2 : Int32)), (.int (0 : Int32))]) (fun _ kx_ => XS.iconst X122.here hx rfl (hb hby at_188) kx_) ?_
                          refine W.icmp X122 hx (hb hby at_189) (pc' := 202) (pc'' := 192) (by decide) (by decide) rfl (fun (c189 : (0 : Int32) < (2 : Int32)) => ?_) (fun (c189 : ¬ (0 : Int32) < (2 : Int32)) => ?_)
                          · refine W.s1 (mkF m 204 #[.val (.int x0), .val (.int (4 : Int32)), .val (.ref ar), .val (.int (0 : Int32)), .val (.int (0 : Int32)), .val (.int (0 : Int32)), .val (.int (0 : Int32)), .val (.ref b122), .val (.int (0 : Int32))] [(.int (0 : Int32))]) (fun _ kx_ => XS.iload X122.here hx rfl (hb hby at_202) rfl kx_) ?_
                            refine W.s1 (mkF m 205 #[.val (.int x0), .val (.int (4 : Int32)), .val (.ref ar), .val (.int (0 : Int32)), .val (.int (0 : Int32)), .val (.int (0 : Int32)), .val (.int (0 : Int32)), .val (.ref b122), .val (.int (0 : Int32))] [(.int (3 : Int32)), (.int (0 : Int32))]) (fun _ kx_ => XS.iconst X122.here hx rfl (hb hby at_204) kx_) ?_
                            refine W.icmp X122 hx (hb hby at_205) (pc' := 218) (pc'' := 208) (by decide) (by decide) rfl (fun (c205 : (0 : Int32) < (3 : Int32)) => ?_) (fun (c205 : ¬ (0 : Int32) < (3 : Int32)) => ?_)
                            · refine W.s1 (mkF m 220 #[.val (.int x0), .val (.int (4 : Int32)), .val (.ref ar), .val (.int (0 : Int32)), .val (.int (0 : Int32)), .val (.int (0 : Int32)), .val (.int (0 : Int32)), .val (.ref b122), .val (.int (0 : Int32))] [(.int (0 : Int32))]) (fun _ kx_ => XS.iload X122.here hx rfl (hb hby at_218) rfl kx_) ?_
                              refine W.s1 (mkF m 221 #[.val (.int x0), .val (.int (4 : Int32)), .val (.ref ar), .val (.int (0 : Int32)), .val (.int (0 : Int32)), .val (.int (0 : Int32)), .val (.int (0 : Int32)), .val (.ref b122), .val (.int (0 : Int32))] [(.int (4 : Int32)), (.int (0 : Int32))]) (fun _ kx_ => XS.iconst X122.here hx rfl (hb hby at_220) kx_) ?_
                              refine W.icmp X122 hx (hb hby at_221) (pc' := 234) (pc'' := 224) (by decide) (by decide) rfl (fun (c221 : (0 : Int32) < (4 : Int32)) => ?_) (fun (c221 : ¬ (0 : Int32) < (4 : Int32)) => ?_)
                              · refine W.s1 (mkF m 235 #[.val (.int x0), .val (.int (4 : Int32)), .val (.ref ar), .val (.int (0 : Int32)), .val (.int (0 : Int32)), .val (.int (0 : Int32)), .val (.int (0 : Int32)), .val (.ref b122), .val (.int (0 : Int32))] [(.int (1 : Int32))]) (fun _ kx_ => XS.iconst X122.here hx rfl (hb hby at_234) kx_) ?_
                                refine W.s1 (mkF m 239 #[.val (.int x0), .val (.int (4 : Int32)), .val (.ref ar), .val (.int (0 : Int32)), .val (.int (0 : Int32)), .val (.int (0 : Int32)), .val (.int (0 : Int32)), .val (.ref b122), .val (.int (0 : Int32))] [(.int (1 : Int32))]) (fun _ kx_ => XS.goto X122.here hx rfl (pc0 := 235) (pc' := 239) rfl (hb hby at_235) (by decide) (by decide) kx_) ?_
                                exact W.retZ X122 hx hlk (t := .boolean) (z' := (1 : Int32)) Bd.returns (by simp) (hb hby at_239) rfl (by show Q0 Z x0 h0 n0 _ T122.heap _; rw [e122]; exact ⟨rfl, N121⟩) (by decide) (by decide)
                              · exact absurd c221 (by decide)
                            · exact absurd c205 (by decide)
                          · exact absurd c189 (by decide)
                        · exact absurd c173 (by decide)
                      · exact absurd c141 (by decide)
                    · exact absurd c123 (by decide)
                  · exact absurd c105 (by decide)
                · exact absurd c91 (by decide)
              · exact absurd c72 (by decide)
            · exact absurd c61 (by decide)
          · exact absurd c51 (by decide)
        · exact absurd c40 (by decide)
      · exact absurd c28 (by decide)
    · exact absurd c17 (by decide)
  · refine W.s1 (mkF m 11 #[.val (.int x0), .val (.int (5 : Int32)), .unset, .unset, .unset, .unset, .unset, .unset, .unset] [(.int (5 : Int32))]) (fun _ kx_ => XS.iloadN X0.here hx rfl (hb hby at_10) rfl kx_) ?_
    obtain ⟨_, _, ⟨T125, L125, k125, n125⟩, -, X125, ⟨Lc125, hQ125, l125, y125, z125⟩, st125⟩ := Jvm.LawKit.callS X0 hx (y := (⟨"com/example/careful_courier/carefulcourier/store/Layout", "rewrittenPrefixes", "(I)[B"⟩ : MethodName)) hown (mvT hZ (hw _ (List.mem_of_getElem? (i := 1) rfl))) (mvT hZ (hw _ (List.mem_of_getElem? (i := 2) rfl))) (mvT hZ (hw _ (List.mem_of_getElem? (i := 3) rfl))) (mvT hZ (hw _ (List.mem_of_getElem? (i := 4) rfl))) (by decide) (backOf (W := 0) (rm1 l Z a0 hw [] (5 : Int32) h0 n0 Z0 ) hZ (hw _ (List.mem_of_getElem? (i := 4) rfl)) (hw _ (List.mem_of_getElem? (i := 3) rfl)) (by decide) (by decide)) (g := (mkF m 11 #[.val (.int x0), .val (.int (5 : Int32)), .unset, .unset, .unset, .unset, .unset, .unset, .unset] [(.int (5 : Int32))])) rfl (by rw [hml]; rfl) (argsL := [(.int (5 : Int32))]) (rest := []) (lenOf pd_0 rfl) rfl (by show 2 * 0 + _ ≤ _; exact Nat.le_of_eq rfl) (hb hby at_11) (fun _ _ => ⟨rfl, e0, (by decide : 0 + 1 ≤ _), (by decide : 0 + 2 ≤ _)⟩)
    dsimp only [Pt.U, Pt.locs, Pt.cells, Pt.slots] at X125 l125 y125 z125 st125 hQ125
    subst l125 y125 z125
    obtain ⟨h125, e125⟩ : ∃ z, T125.heap = z := ⟨_, rfl⟩
    rw [e125] at hQ125
    obtain ⟨ar, kr, fr, rfl, Nq125, Kq125, hge, A125, hc⟩ := hQ125
    have N125 := Fr.app N0 Nq125
    have Z125 : n0 ≤ h125.size := Nat.le_trans Z0 Kq125.1
    obtain ⟨rfl, v0, v1⟩ := own_c5 hc
    have ger : n0 ≤ ar := Nat.le_trans Z0 hge
    refine W.s2 (mkF m 14 #[.val (.int x0), .val (.int (5 : Int32)), .unset, .unset, .unset, .unset, .unset, .unset, .unset] [(.ref ar)]) st125 ?_
    refine W.s1 (mkF m 15 #[.val (.int x0), .val (.int (5 : Int32)), .val (.ref ar), .unset, .unset, .unset, .unset, .unset, .unset] []) (fun _ kx_ => XS.astoreN X125.here hx rfl (hb hby at_14) rfl rfl (l' := #[.val (.int x0), .val (.int (5 : Int32)), .val (.ref ar), .unset, .unset, .unset, .unset, .unset, .unset]) rfl kx_) ?_
    refine W.s1 (mkF m 16 #[.val (.int x0), .val (.int (5 : Int32)), .val (.ref ar), .unset, .unset, .unset, .unset, .unset, .unset] [(.int (5 : Int32))]) (fun _ kx_ => XS.iloadN X125.here hx rfl (hb hby at_15) rfl kx_) ?_
    refine W.s1 (mkF m 17 #[.val (.int x0), .val (.int (5 : Int32)), .val (.ref ar), .unset, .unset, .unset, .unset, .unset, .unset] [(.int (3 : Int32)), (.int (5 : Int32))]) (fun _ kx_ => XS.iconst X125.here hx rfl (hb hby at_16) kx_) ?_
    refine W.icmp X125 hx (hb hby at_17) (pc' := 24) (pc'' := 20) (by decide) (by decide) rfl (fun (c17 : (3 : Int32) < (5 : Int32)) => ?_) (fun (c17 : ¬ (3 : Int32) < (5 : Int32)) => ?_)
    · refine W.s1 (mkF m 25 #[.val (.int x0), .val (.int (5 : Int32)), .val (.ref ar), .unset, .unset, .unset, .unset, .unset, .unset] [(.int (0 : Int32))]) (fun _ kx_ => XS.iconst X125.here hx rfl (hb hby at_24) kx_) ?_
      refine W.s1 (mkF m 26 #[.val (.int x0), .val (.int (5 : Int32)), .val (.ref ar), .val (.int (0 : Int32)), .unset, .unset, .unset, .unset, .unset] []) (fun _ kx_ => XS.istoreN X125.here hx rfl (hb hby at_25) rfl (l' := #[.val (.int x0), .val (.int (5 : Int32)), .val (.ref ar), .val (.int (0 : Int32)), .unset, .unset, .unset, .unset, .unset]) rfl kx_) ?_
      refine W.s1 (mkF m 27 #[.val (.int x0), .val (.int (5 : Int32)), .val (.ref ar), .val (.int (0 : Int32)), .unset, .unset, .unset, .unset, .unset] [(.int (5 : Int32))]) (fun _ kx_ => XS.iloadN X125.here hx rfl (hb hby at_26) rfl kx_) ?_
      refine W.s1 (mkF m 28 #[.val (.int x0), .val (.int (5 : Int32)), .val (.ref ar), .val (.int (0 : Int32)), .unset, .unset, .unset, .unset, .unset] [(.int (1 : Int32)), (.int (5 : Int32))]) (fun _ kx_ => XS.iconst X125.here hx rfl (hb hby at_27) kx_) ?_
      refine W.icmp X125 hx (hb hby at_28) (pc' := 35) (pc'' := 31) (by decide) (by decide) rfl (fun (c28 : ¬ (5 : Int32) = (1 : Int32)) => ?_) (fun (c28 : (5 : Int32) = (1 : Int32)) => ?_)
      · refine W.s1 (mkF m 36 #[.val (.int x0), .val (.int (5 : Int32)), .val (.ref ar), .val (.int (0 : Int32)), .unset, .unset, .unset, .unset, .unset] [(.int (0 : Int32))]) (fun _ kx_ => XS.iconst X125.here hx rfl (hb hby at_35) kx_) ?_
        refine W.s1 (mkF m 38 #[.val (.int x0), .val (.int (5 : Int32)), .val (.ref ar), .val (.int (0 : Int32)), .val (.int (0 : Int32)), .unset, .unset, .unset, .unset] []) (fun _ kx_ => XS.istore X125.here hx rfl (hb hby at_36) rfl (l' := #[.val (.int x0), .val (.int (5 : Int32)), .val (.ref ar), .val (.int (0 : Int32)), .val (.int (0 : Int32)), .unset, .unset, .unset, .unset]) rfl kx_) ?_
        refine W.s1 (mkF m 39 #[.val (.int x0), .val (.int (5 : Int32)), .val (.ref ar), .val (.int (0 : Int32)), .val (.int (0 : Int32)), .unset, .unset, .unset, .unset] [(.int (5 : Int32))]) (fun _ kx_ => XS.iloadN X125.here hx rfl (hb hby at_38) rfl kx_) ?_
        refine W.s1 (mkF m 40 #[.val (.int x0), .val (.int (5 : Int32)), .val (.ref ar), .val (.int (0 : Int32)), .val (.int (0 : Int32)), .unset, .unset, .unset, .unset] [(.int (5 : Int32)), (.int (5 : Int32))]) (fun _ kx_ => XS.iconst X125.here hx rfl (hb hby at_39) kx_) ?_
        refine W.icmp X125 hx (hb hby at_40) (pc' := 47) (pc'' := 43) (by decide) (by decide) rfl (fun (c40 : ¬ (5 : Int32) = (5 : Int32)) => ?_) (fun (c40 : (5 : Int32) = (5 : Int32)) => ?_)
        · exact absurd c40 (by decide)
        · refine W.s1 (mkF m 44 #[.val (.int x0), .val (.int (5 : Int32)), .val (.ref ar), .val (.int (0 : Int32)), .val (.int (0 : Int32)), .unset, .unset, .unset, .unset] [(.int (1 : Int32))]) (fun _ kx_ => XS.iconst X125.here hx rfl (hb hby at_43) kx_) ?_
          refine W.s1 (mkF m 48 #[.val (.int x0), .val (.int (5 : Int32)), .val (.ref ar), .val (.int (0 : Int32)), .val (.int (0 : Int32)), .unset, .unset, .unset, .unset] [(.int (1 : Int32))]) (fun _ kx_ => XS.goto X125.here hx rfl (pc0 := 44) (pc' := 48) rfl (hb hby at_44) (by decide) (by decide) kx_) ?_
          refine W.s1 (mkF m 50 #[.val (.int x0), .val (.int (5 : Int32)), .val (.ref ar), .val (.int (0 : Int32)), .val (.int (0 : Int32)), .val (.int (1 : Int32)), .unset, .unset, .unset] []) (fun _ kx_ => XS.istore X125.here hx rfl (hb hby at_48) rfl (l' := #[.val (.int x0), .val (.int (5 : Int32)), .val (.ref ar), .val (.int (0 : Int32)), .val (.int (0 : Int32)), .val (.int (1 : Int32)), .unset, .unset, .unset]) rfl kx_) ?_
          refine W.s1 (mkF m 51 #[.val (.int x0), .val (.int (5 : Int32)), .val (.ref ar), .val (.int (0 : Int32)), .val (.int (0 : Int32)), .val (.int (1 : Int32)), .unset, .unset, .unset] [(.int (0 : Int32))]) (fun _ kx_ => XS.iloadN X125.here hx rfl (hb hby at_50) rfl kx_) ?_
          refine W.ifc X125 hx (hb hby at_51) (pc' := 58) (pc'' := 54) (by decide) (by decide) rfl (fun (c51 : (0 : Int32) = (0 : Int32)) => ?_) (fun (c51 : ¬ (0 : Int32) = (0 : Int32)) => ?_)
          · refine W.s1 (mkF m 59 #[.val (.int x0), .val (.int (5 : Int32)), .val (.ref ar), .val (.int (0 : Int32)), .val (.int (0 : Int32)), .val (.int (1 : Int32)), .unset, .unset, .unset] [(.int (0 : Int32))]) (fun _ kx_ => XS.iconst X125.here hx rfl (hb hby at_58) kx_) ?_
            refine W.s1 (mkF m 61 #[.val (.int x0), .val (.int (5 : Int32)), .val (.ref ar), .val (.int (0 : Int32)), .val (.int (0 : Int32)), .val (.int (1 : Int32)), .unset, .unset, .unset] [(.int (0 : Int32)), (.int (0 : Int32))]) (fun _ kx_ => XS.iload X125.here hx rfl (hb hby at_59) rfl kx_) ?_
            refine W.ifc X125 hx (hb hby at_61) (pc' := 68) (pc'' := 64) (by decide) (by decide) rfl (fun (c61 : (0 : Int32) = (0 : Int32)) => ?_) (fun (c61 : ¬ (0 : Int32) = (0 : Int32)) => ?_)
            · refine W.s1 (mkF m 69 #[.val (.int x0), .val (.int (5 : Int32)), .val (.ref ar), .val (.int (0 : Int32)), .val (.int (0 : Int32)), .val (.int (1 : Int32)), .unset, .unset, .unset] [(.int (0 : Int32)), (.int (0 : Int32))]) (fun _ kx_ => XS.iconst X125.here hx rfl (hb hby at_68) kx_) ?_
              refine W.s1 (mkF m 70 #[.val (.int x0), .val (.int (5 : Int32)), .val (.ref ar), .val (.int (0 : Int32)), .val (.int (0 : Int32)), .val (.int (1 : Int32)), .unset, .unset, .unset] [(.int (0 : Int32))]) (fun _ kx_ => XS.iadd X125.here hx rfl (hb hby at_69) rfl kx_) ?_
              refine W.s1 (mkF m 72 #[.val (.int x0), .val (.int (5 : Int32)), .val (.ref ar), .val (.int (0 : Int32)), .val (.int (0 : Int32)), .val (.int (1 : Int32)), .unset, .unset, .unset] [(.int (1 : Int32)), (.int (0 : Int32))]) (fun _ kx_ => XS.iload X125.here hx rfl (hb hby at_70) rfl kx_) ?_
              refine W.ifc X125 hx (hb hby at_72) (pc' := 79) (pc'' := 75) (by decide) (by decide) rfl (fun (c72 : (1 : Int32) = (0 : Int32)) => ?_) (fun (c72 : ¬ (1 : Int32) = (0 : Int32)) => ?_)
              · exact absurd c72 (by decide)
              · refine W.s1 (mkF m 76 #[.val (.int x0), .val (.int (5 : Int32)), .val (.ref ar), .val (.int (0 : Int32)), .val (.int (0 : Int32)), .val (.int (1 : Int32)), .unset, .unset, .unset] [(.int (2 : Int32)), (.int (0 : Int32))]) (fun _ kx_ => XS.iconst X125.here hx rfl (hb hby at_75) kx_) ?_
                refine W.s1 (mkF m 80 #[.val (.int x0), .val (.int (5 : Int32)), .val (.ref ar), .val (.int (0 : Int32)), .val (.int (0 : Int32)), .val (.int (1 : Int32)), .unset, .unset, .unset] [(.int (2 : Int32)), (.int (0 : Int32))]) (fun _ kx_ => XS.goto X125.here hx rfl (pc0 := 76) (pc' := 80) rfl (hb hby at_76) (by decide) (by decide) kx_) ?_
                refine W.s1 (mkF m 81 #[.val (.int x0), .val (.int (5 : Int32)), .val (.ref ar), .val (.int (0 : Int32)), .val (.int (0 : Int32)), .val (.int (1 : Int32)), .unset, .unset, .unset] [(.int (2 : Int32))]) (fun _ kx_ => XS.iadd X125.here hx rfl (hb hby at_80) rfl kx_) ?_
                refine W.s1 (mkF m 83 #[.val (.int x0), .val (.int (5 : Int32)), .val (.ref ar), .val (.int (0 : Int32)), .val (.int (0 : Int32)), .val (.int (1 : Int32)), .val (.int (2 : Int32)), .unset, .unset] []) (fun _ kx_ => XS.istore X125.here hx rfl (hb hby at_81) rfl (l' := #[.val (.int x0), .val (.int (5 : Int32)), .val (.ref ar), .val (.int (0 : Int32)), .val (.int (0 : Int32)), .val (.int (1 : Int32)), .val (.int (2 : Int32)), .unset, .unset]) rfl kx_) ?_
                refine W.s1 (mkF m 84 #[.val (.int x0), .val (.int (5 : Int32)), .val (.ref ar), .val (.int (0 : Int32)), .val (.int (0 : Int32)), .val (.int (1 : Int32)), .val (.int (2 : Int32)), .unset, .unset] [(.ref ar)]) (fun _ kx_ => XS.aloadN X125.here hx rfl (hb hby at_83) rfl rfl kx_) ?_
                refine W.s1 (mkF m 87 #[.val (.int x0), .val (.int (5 : Int32)), .val (.ref ar), .val (.int (0 : Int32)), .val (.int (0 : Int32)), .val (.int (1 : Int32)), .val (.int (2 : Int32)), .unset, .unset] []) (fun _ kx_ => XS.ifnullNo X125.here hx rfl (hb hby at_84) rfl kx_) ?_
                refine W.s1 (mkF m 88 #[.val (.int x0), .val (.int (5 : Int32)), .val (.ref ar), .val (.int (0 : Int32)), .val (.int (0 : Int32)), .val (.int (1 : Int32)), .val (.int (2 : Int32)), .unset, .unset] [(.ref ar)]) (fun _ kx_ => XS.aloadN X125.here hx rfl (hb hby at_87) rfl rfl kx_) ?_
                refine W.alen X125 hx hZ e125 A125 (z := (2 : Int32)) rfl (hb hby at_88) (pc' := 89) rfl ?_
                refine W.s1 (mkF m 91 #[.val (.int x0), .val (.int (5 : Int32)), .val (.ref ar), .val (.int (0 : Int32)), .val (.int (0 : Int32)), .val (.int (1 : Int32)), .val (.int (2 : Int32)), .unset, .unset] [(.int (2 : Int32)), (.int (2 : Int32))]) (fun _ kx_ => XS.iload X125.here hx rfl (hb hby at_89) rfl kx_) ?_
                refine W.icmp X125 hx (hb hby at_91) (pc' := 96) (pc'' := 94) (by decide) (by decide) rfl (fun (c91 : (2 : Int32) = (2 : Int32)) => ?_) (fun (c91 : ¬ (2 : Int32) = (2 : Int32)) => ?_)
                · refine W.s1 (mkF m 97 #[.val (.int x0), .val (.int (5 : Int32)), .val (.ref ar), .val (.int (0 : Int32)), .val (.int (0 : Int32)), .val (.int (1 : Int32)), .val (.int (2 : Int32)), .unset, .unset] [(.int (4 : Int32))]) (fun _ kx_ => XS.iconst X125.here hx rfl (hb hby at_96) kx_) ?_
                  refine W.newi X125 hx hZ (ty := .byte) (aty := .byte) (hw _ (List.mem_of_getElem? (i := 5) rfl)) rfl rfl e125 (hb hby at_97) (n := 4) rfl (cap := 4) (Nat.le_refl _) (by decide) (by decide) (by decide) (pc' := 99) rfl (fun T126 h126 b126 X126 e126 E126 g126 A126 => ?_)
                  have ne127 : ar ≠ b126 := Nat.ne_of_lt (Nat.lt_of_lt_of_le A125.lt (Nat.le_of_eq g126.symm))
                  have ge126 : n0 ≤ b126 := Nat.le_trans Z125 (Nat.le_of_eq g126.symm)
                  have Z126 : n0 ≤ h126.size := Nat.le_trans Z125 E126.1
                  have f128 := A125.ext E126
                  refine W.s1 (mkF m 101 #[.val (.int x0), .val (.int (5 : Int32)), .val (.ref ar), .val (.int (0 : Int32)), .val (.int (0 : Int32)), .val (.int (1 : Int32)), .val (.int (2 : Int32)), .val (.ref b126), .unset] []) (fun _ kx_ => XS.astore X126.here hx rfl (hb hby at_99) rfl rfl (l' := #[.val (.int x0), .val (.int (5 : Int32)), .val (.ref ar), .val (.int (0 : Int32)), .val (.int (0 : Int32)), .val (.int (1 : Int32)), .val (.int (2 : Int32)), .val (.ref b126), .unset]) rfl kx_) ?_
                  refine W.s1 (mkF m 102 #[.val (.int x0), .val (.int (5 : Int32)), .val (.ref ar), .val (.int (0 : Int32)), .val (.int (0 : Int32)), .val (.int (1 : Int32)), .val (.int (2 : Int32)), .val (.ref b126), .unset] [(.int (0 : Int32))]) (fun _ kx_ => XS.iconst X126.here hx rfl (hb hby at_101) kx_) ?_
                  refine W.s1 (mkF m 104 #[.val (.int x0), .val (.int (5 : Int32)), .val (.ref ar), .val (.int (0 : Int32)), .val (.int (0 : Int32)), .val (.int (1 : Int32)), .val (.int (2 : Int32)), .val (.ref b126), .val (.int (0 : Int32))] []) (fun _ kx_ => XS.istore X126.here hx rfl (hb hby at_102) rfl (l' := #[.val (.int x0), .val (.int (5 : Int32)), .val (.ref ar), .val (.int (0 : Int32)), .val (.int (0 : Int32)), .val (.int (1 : Int32)), .val (.int (2 : Int32)), .val (.ref b126), .val (.int (0 : Int32))]) rfl kx_) ?_
                  refine W.s1 (mkF m 105 #[.val (.int x0), .val (.int (5 : Int32)), .val (.ref ar), .val (.int (0 : Int32)), .val (.int (0 : Int32)), .val (.int (1 : Int32)), .val (.int (2 : Int32)), .val (.ref b126), .val (.int (0 : Int32))] [(.int (0 : Int32))]) (fun _ kx_ => XS.iloadN X126.here hx rfl (hb hby at_104) rfl kx_) ?_
                  refine W.ifc X126 hx (hb hby at_105) (pc' := 121) (pc'' := 108) (by decide) (by decide) rfl (fun (c105 : (0 : Int32) = (0 : Int32)) => ?_) (fun (c105 : ¬ (0 : Int32) = (0 : Int32)) => ?_)
                  · refine W.s1 (mkF m 123 #[.val (.int x0), .val (.int (5 : Int32)), .val (.ref ar), .val (.int (0 : Int32)), .val (.int (0 : Int32)), .val (.int (1 : Int32)), .val (.int (2 : Int32)), .val (.ref b126), .val (.int (0 : Int32))] [(.int (0 : Int32))]) (fun _ kx_ => XS.iload X126.here hx rfl (hb hby at_121) rfl kx_) ?_
                    refine W.ifc X126 hx (hb hby at_123) (pc' := 139) (pc'' := 126) (by decide) (by decide) rfl (fun (c123 : (0 : Int32) = (0 : Int32)) => ?_) (fun (c123 : ¬ (0 : Int32) = (0 : Int32)) => ?_)
                    · refine W.s1 (mkF m 141 #[.val (.int x0), .val (.int (5 : Int32)), .val (.ref ar), .val (.int (0 : Int32)), .val (.int (0 : Int32)), .val (.int (1 : Int32)), .val (.int (2 : Int32)), .val (.ref b126), .val (.int (0 : Int32))] [(.int (1 : Int32))]) (fun _ kx_ => XS.iload X126.here hx rfl (hb hby at_139) rfl kx_) ?_
                      refine W.ifc X126 hx (hb hby at_141) (pc' := 170) (pc'' := 144) (by decide) (by decide) rfl (fun (c141 : (1 : Int32) = (0 : Int32)) => ?_) (fun (c141 : ¬ (1 : Int32) = (0 : Int32)) => ?_)
                      · exact absurd c141 (by decide)
                      · refine W.s1 (mkF m 146 #[.val (.int x0), .val (.int (5 : Int32)), .val (.ref ar), .val (.int (0 : Int32)), .val (.int (0 : Int32)), .val (.int (1 : Int32)), .val (.int (2 : Int32)), .val (.ref b126), .val (.int (0 : Int32))] [(.ref b126)]) (fun _ kx_ => XS.aload X126.here hx rfl (hb hby at_144) rfl rfl kx_) ?_
                        refine W.s1 (mkF m 148 #[.val (.int x0), .val (.int (5 : Int32)), .val (.ref ar), .val (.int (0 : Int32)), .val (.int (0 : Int32)), .val (.int (1 : Int32)), .val (.int (2 : Int32)), .val (.ref b126), .val (.int (0 : Int32))] [(.int (0 : Int32)), (.ref b126)]) (fun _ kx_ => XS.iload X126.here hx rfl (hb hby at_146) rfl kx_) ?_
                        refine W.s1 (mkF m 150 #[.val (.int x0), .val (.int (5 : Int32)), .val (.ref ar), .val (.int (0 : Int32)), .val (.int (0 : Int32)), .val (.int (1 : Int32)), .val (.int (2 : Int32)), .val (.ref b126), .val (.int (0 : Int32))] [(.int (79 : Int32)), (.int (0 : Int32)), (.ref b126)]) (fun _ kx_ => XS.bipush X126.here hx rfl (hb hby at_148) kx_) ?_
                        refine W.stb X126 hx hZ e126 A126 (x' := (79 : Int32)) rfl 0 rfl (by decide) N125 ge126 (hb hby at_150) (pc' := 151) rfl (fun T129 h129 L129 X129 e129 W129 fw129 N129 => ?_)
                        have Z129 : n0 ≤ h129.size := Nat.le_trans Z126 (Keep.of_wr W129).1
                        have f130 := f128.other W129 ne127
                        refine W.s1 (mkF m 153 #[.val (.int x0), .val (.int (5 : Int32)), .val (.ref ar), .val (.int (0 : Int32)), .val (.int (0 : Int32)), .val (.int (1 : Int32)), .val (.int (2 : Int32)), .val (.ref b126), .val (.int (0 : Int32))] [(.int (0 : Int32))]) (fun _ kx_ => XS.iload X129.here hx rfl (hb hby at_151) rfl kx_) ?_
                        refine W.s1 (mkF m 154 #[.val (.int x0), .val (.int (5 : Int32)), .val (.ref ar), .val (.int (0 : Int32)), .val (.int (0 : Int32)), .val (.int (1 : Int32)), .val (.int (2 : Int32)), .val (.ref b126), .val (.int (0 : Int32))] [(.int (1 : Int32)), (.int (0 : Int32))]) (fun _ kx_ => XS.iconst X129.here hx rfl (hb hby at_153) kx_) ?_
                        refine W.s1 (mkF m 155 #[.val (.int x0), .val (.int (5 : Int32)), .val (.ref ar), .val (.int (0 : Int32)), .val (.int (0 : Int32)), .val (.int (1 : Int32)), .val (.int (2 : Int32)), .val (.ref b126), .val (.int (0 : Int32))] [(.int (1 : Int32))]) (fun _ kx_ => XS.iadd X129.here hx rfl (hb hby at_154) rfl kx_) ?_
                        refine W.s1 (mkF m 157 #[.val (.int x0), .val (.int (5 : Int32)), .val (.ref ar), .val (.int (0 : Int32)), .val (.int (0 : Int32)), .val (.int (1 : Int32)), .val (.int (2 : Int32)), .val (.ref b126), .val (.int (1 : Int32))] []) (fun _ kx_ => XS.istore X129.here hx rfl (hb hby at_155) rfl (l' := #[.val (.int x0), .val (.int (5 : Int32)), .val (.ref ar), .val (.int (0 : Int32)), .val (.int (0 : Int32)), .val (.int (1 : Int32)), .val (.int (2 : Int32)), .val (.ref b126), .val (.int (1 : Int32))]) rfl kx_) ?_
                        refine W.s1 (mkF m 159 #[.val (.int x0), .val (.int (5 : Int32)), .val (.ref ar), .val (.int (0 : Int32)), .val (.int (0 : Int32)), .val (.int (1 : Int32)), .val (.int (2 : Int32)), .val (.ref b126), .val (.int (1 : Int32))] [(.ref b126)]) (fun _ kx_ => XS.aload X129.here hx rfl (hb hby at_157) rfl rfl kx_) ?_
                        refine W.s1 (mkF m 161 #[.val (.int x0), .val (.int (5 : Int32)), .val (.ref ar), .val (.int (0 : Int32)), .val (.int (0 : Int32)), .val (.int (1 : Int32)), .val (.int (2 : Int32)), .val (.ref b126), .val (.int (1 : Int32))] [(.int (1 : Int32)), (.ref b126)]) (fun _ kx_ => XS.iload X129.here hx rfl (hb hby at_159) rfl kx_) ?_
                        refine W.s1 (mkF m 163 #[.val (.int x0), .val (.int (5 : Int32)), .val (.ref ar), .val (.int (0 : Int32)), .val (.int (0 : Int32)), .val (.int (1 : Int32)), .val (.int (2 : Int32)), .val (.ref b126), .val (.int (1 : Int32))] [(.int (82 : Int32)), (.int (1 : Int32)), (.ref b126)]) (fun _ kx_ => XS.bipush X129.here hx rfl (hb hby at_161) kx_) ?_
                        refine W.stb X129 hx hZ e129 fw129 (x' := (82 : Int32)) rfl 1 rfl (by decide) N129 ge126 (hb hby at_163) (pc' := 164) rfl (fun T131 h131 L131 X131 e131 W131 fw131 N131 => ?_)
                        have Z131 : n0 ≤ h131.size := Nat.le_trans Z129 (Keep.of_wr W131).1
                        have f132 := f130.other W131 ne127
                        refine W.s1 (mkF m 166 #[.val (.int x0), .val (.int (5 : Int32)), .val (.ref ar), .val (.int (0 : Int32)), .val (.int (0 : Int32)), .val (.int (1 : Int32)), .val (.int (2 : Int32)), .val (.ref b126), .val (.int (1 : Int32))] [(.int (1 : Int32))]) (fun _ kx_ => XS.iload X131.here hx rfl (hb hby at_164) rfl kx_) ?_
                        refine W.s1 (mkF m 167 #[.val (.int x0), .val (.int (5 : Int32)), .val (.ref ar), .val (.int (0 : Int32)), .val (.int (0 : Int32)), .val (.int (1 : Int32)), .val (.int (2 : Int32)), .val (.ref b126), .val (.int (1 : Int32))] [(.int (1 : Int32)), (.int (1 : Int32))]) (fun _ kx_ => XS.iconst X131.here hx rfl (hb hby at_166) kx_) ?_
                        refine W.s1 (mkF m 168 #[.val (.int x0), .val (.int (5 : Int32)), .val (.ref ar), .val (.int (0 : Int32)), .val (.int (0 : Int32)), .val (.int (1 : Int32)), .val (.int (2 : Int32)), .val (.ref b126), .val (.int (1 : Int32))] [(.int (2 : Int32))]) (fun _ kx_ => XS.iadd X131.here hx rfl (hb hby at_167) rfl kx_) ?_
                        refine W.s1 (mkF m 170 #[.val (.int x0), .val (.int (5 : Int32)), .val (.ref ar), .val (.int (0 : Int32)), .val (.int (0 : Int32)), .val (.int (1 : Int32)), .val (.int (2 : Int32)), .val (.ref b126), .val (.int (2 : Int32))] []) (fun _ kx_ => XS.istore X131.here hx rfl (hb hby at_168) rfl (l' := #[.val (.int x0), .val (.int (5 : Int32)), .val (.ref ar), .val (.int (0 : Int32)), .val (.int (0 : Int32)), .val (.int (1 : Int32)), .val (.int (2 : Int32)), .val (.ref b126), .val (.int (2 : Int32))]) rfl kx_) ?_
                        refine W.s1 (mkF m 172 #[.val (.int x0), .val (.int (5 : Int32)), .val (.ref ar), .val (.int (0 : Int32)), .val (.int (0 : Int32)), .val (.int (1 : Int32)), .val (.int (2 : Int32)), .val (.ref b126), .val (.int (2 : Int32))] [(.int (2 : Int32))]) (fun _ kx_ => XS.iload X131.here hx rfl (hb hby at_170) rfl kx_) ?_
                        refine W.s1 (mkF m 173 #[.val (.int x0), .val (.int (5 : Int32)), .val (.ref ar), .val (.int (0 : Int32)), .val (.int (0 : Int32)), .val (.int (1 : Int32)), .val (.int (2 : Int32)), .val (.ref b126), .val (.int (2 : Int32))] [(.int (1 : Int32)), (.int (2 : Int32))]) (fun _ kx_ => XS.iconst X131.here hx rfl (hb hby at_172) kx_) ?_
                        refine W.icmp X131 hx (hb hby at_173) (pc' := 186) (pc'' := 176) (by decide) (by decide) rfl (fun (c173 : (2 : Int32) < (1 : Int32)) => ?_) (fun (c173 : ¬ (2 : Int32) < (1 : Int32)) => ?_)
                        · exact absurd c173 (by decide)
                        · refine W.s1 (mkF m 177 #[.val (.int x0), .val (.int (5 : Int32)), .val (.ref ar), .val (.int (0 : Int32)), .val (.int (0 : Int32)), .val (.int (1 : Int32)), .val (.int (2 : Int32)), .val (.ref b126), .val (.int (2 : Int32))] [(.ref ar)]) (fun _ kx_ => XS.aloadN X131.here hx rfl (hb hby at_176) rfl rfl kx_) ?_
                          refine W.s1 (mkF m 178 #[.val (.int x0), .val (.int (5 : Int32)), .val (.ref ar), .val (.int (0 : Int32)), .val (.int (0 : Int32)), .val (.int (1 : Int32)), .val (.int (2 : Int32)), .val (.ref b126), .val (.int (2 : Int32))] [(.int (0 : Int32)), (.ref ar)]) (fun _ kx_ => XS.iconst X131.here hx rfl (hb hby at_177) kx_) ?_
                          refine W.ldb X131 hx hZ e131 f132 0 rfl (by decide) (hb hby at_178) (pc' := 179) rfl ?_
                          rw [v0]
                          refine W.s1 (mkF m 181 #[.val (.int x0), .val (.int (5 : Int32)), .val (.ref ar), .val (.int (0 : Int32)), .val (.int (0 : Int32)), .val (.int (1 : Int32)), .val (.int (2 : Int32)), .val (.ref b126), .val (.int (2 : Int32))] [(.ref b126), (.int (79 : Int32))]) (fun _ kx_ => XS.aload X131.here hx rfl (hb hby at_179) rfl rfl kx_) ?_
                          refine W.s1 (mkF m 182 #[.val (.int x0), .val (.int (5 : Int32)), .val (.ref ar), .val (.int (0 : Int32)), .val (.int (0 : Int32)), .val (.int (1 : Int32)), .val (.int (2 : Int32)), .val (.ref b126), .val (.int (2 : Int32))] [(.int (0 : Int32)), (.ref b126), (.int (79 : Int32))]) (fun _ kx_ => XS.iconst X131.here hx rfl (hb hby at_181) kx_) ?_
                          refine W.ldb X131 hx hZ e131 fw131 0 rfl (by decide) (hb hby at_182) (pc' := 183) rfl ?_
                          rw [show ((W.up (W.up (fun _ => 0) 0 (79 : Int32)) 1 (82 : Int32)) 0) = (79 : Int32) from rfl]
                          refine W.icmp X131 hx (hb hby at_183) (pc' := 238) (pc'' := 186) (by decide) (by decide) rfl (fun (c183 : ¬ (79 : Int32) = (79 : Int32)) => ?_) (fun (c183 : (79 : Int32) = (79 : Int32)) => ?_)
                          · exact absurd c183 (by decide)
                          · refine W.s1 (mkF m 188 #[.val (.int x0), .val (.int (5 : Int32)), .val (.ref ar), .val (.int (0 : Int32)), .val (.int (0 : Int32)), .val (.int (1 : Int32)), .val (.int (2 : Int32)), .val (.ref b126), .val (.int (2 : Int32))] [(.int (2 : Int32))]) (fun _ kx_ => XS.iload X131.here hx rfl (hb hby at_186) rfl kx_) ?_
                            refine W.s1 (mkF m 189 #[.val (.int x0), .val (.int (5 : Int32)), .val (.ref ar), .val (.int (0 : Int32)), .val (.int (0 : Int32)), .val (.int (1 : Int32)), .val (.int (2 : Int32)), .val (.ref b126), .val (.int (2 : Int32))] [(.int (2 : Int32)), (.int (2 : Int32))]) (fun _ kx_ => XS.iconst X131.here hx rfl (hb hby at_188) kx_) ?_
                            refine W.icmp X131 hx (hb hby at_189) (pc' := 202) (pc'' := 192) (by decide) (by decide) rfl (fun (c189 : (2 : Int32) < (2 : Int32)) => ?_) (fun (c189 : ¬ (2 : Int32) < (2 : Int32)) => ?_)
                            · exact absurd c189 (by decide)
                            · refine W.s1 (mkF m 193 #[.val (.int x0), .val (.int (5 : Int32)), .val (.ref ar), .val (.int (0 : Int32)), .val (.int (0 : Int32)), .val (.int (1 : Int32)), .val (.int (2 : Int32)), .val (.ref b126), .val (.int (2 : Int32))] [(.ref ar)]) (fun _ kx_ => XS.aloadN X131.here hx rfl (hb hby at_192) rfl rfl kx_) ?_
                              refine W.s1 (mkF m 194 #[.val (.int x0), .val (.int (5 : Int32)), .val (.ref ar), .val (.int (0 : Int32)), .val (.int (0 : Int32)), .val (.int (1 : Int32)), .val (.int (2 : Int32)), .val (.ref b126), .val (.int (2 : Int32))] [(.int (1 : Int32)), (.ref ar)]) (fun _ kx_ => XS.iconst X131.here hx rfl (hb hby at_193) kx_) ?_
                              refine W.ldb X131 hx hZ e131 f132 1 rfl (by decide) (hb hby at_194) (pc' := 195) rfl ?_
                              rw [v1]
                              refine W.s1 (mkF m 197 #[.val (.int x0), .val (.int (5 : Int32)), .val (.ref ar), .val (.int (0 : Int32)), .val (.int (0 : Int32)), .val (.int (1 : Int32)), .val (.int (2 : Int32)), .val (.ref b126), .val (.int (2 : Int32))] [(.ref b126), (.int (82 : Int32))]) (fun _ kx_ => XS.aload X131.here hx rfl (hb hby at_195) rfl rfl kx_) ?_
                              refine W.s1 (mkF m 198 #[.val (.int x0), .val (.int (5 : Int32)), .val (.ref ar), .val (.int (0 : Int32)), .val (.int (0 : Int32)), .val (.int (1 : Int32)), .val (.int (2 : Int32)), .val (.ref b126), .val (.int (2 : Int32))] [(.int (1 : Int32)), (.ref b126), (.int (82 : Int32))]) (fun _ kx_ => XS.iconst X131.here hx rfl (hb hby at_197) kx_) ?_
                              refine W.ldb X131 hx hZ e131 fw131 1 rfl (by decide) (hb hby at_198) (pc' := 199) rfl ?_
                              rw [show ((W.up (W.up (fun _ => 0) 0 (79 : Int32)) 1 (82 : Int32)) 1) = (82 : Int32) from rfl]
                              refine W.icmp X131 hx (hb hby at_199) (pc' := 238) (pc'' := 202) (by decide) (by decide) rfl (fun (c199 : ¬ (82 : Int32) = (82 : Int32)) => ?_) (fun (c199 : (82 : Int32) = (82 : Int32)) => ?_)
                              · exact absurd c199 (by decide)
                              · refine W.s1 (mkF m 204 #[.val (.int x0), .val (.int (5 : Int32)), .val (.ref ar), .val (.int (0 : Int32)), .val (.int (0 : Int32)), .val (.int (1 : Int32)), .val (.int (2 : Int32)), .val (.ref b126), .val (.int (2 : Int32))] [(.int (2 : Int32))]) (fun _ kx_ => XS.iload X131.here hx rfl (hb hby at_202) rfl kx_) ?_
                                refine W.s1 (mkF m 205 #[.val (.int x0), .val (.int (5 : Int32)), .val (.ref ar), .val (.int (0 : Int32)), .val (.int (0 : Int32)), .val (.int (1 : Int32)), .val (.int (2 : Int32)), .val (.ref b126), .val (.int (2 : Int32))] [(.int (3 : Int32)), (.int (2 : Int32))]) (fun _ kx_ => XS.iconst X131.here hx rfl (hb hby at_204) kx_) ?_
                                refine W.icmp X131 hx (hb hby at_205) (pc' := 218) (pc'' := 208) (by decide) (by decide) rfl (fun (c205 : (2 : Int32) < (3 : Int32)) => ?_) (fun (c205 : ¬ (2 : Int32) < (3 : Int32)) => ?_)
                                · refine W.s1 (mkF m 220 #[.val (.int x0), .val (.int (5 : Int32)), .val (.ref ar), .val (.int (0 : Int32)), .val (.int (0 : Int32)), .val (.int (1 : Int32)), .val (.int (2 : Int32)), .val (.ref b126), .val (.int (2 : Int32))] [(.int (2 : Int32))]) (fun _ kx_ => XS.iload X131.here hx rfl (hb hby at_218) rfl kx_) ?_
                                  refine W.s1 (mkF m 221 #[.val (.int x0), .val (.int (5 : Int32)), .val (.ref ar), .val (.int (0 : Int32)), .val (.int (0 : Int32)), .val (.int (1 : Int32)), .val (.int (2 : Int32)), .val (.ref b126), .val (.int (2 : Int32))] [(.int (4 : Int32)), (.int (2 : Int32))]) (fun _ kx_ => XS.iconst X131.here hx rfl (hb hby at_220) kx_) ?_
                                  refine W.icmp X131 hx (hb hby at_221) (pc' := 234) (pc'' := 224) (by decide) (by decide) rfl (fun (c221 : (2 : Int32) < (4 : Int32)) => ?_) (fun (c221 : ¬ (2 : Int32) < (4 : Int32)) => ?_)
                                  · refine W.s1 (mkF m 235 #[.val (.int x0), .val (.int (5 : Int32)), .val (.ref ar), .val (.int (0 : Int32)), .val (.int (0 : Int32)), .val (.int (1 : Int32)), .val (.int (2 : Int32)), .val (.ref b126), .val (.int (2 : Int32))] [(.int (1 : Int32))]) (fun _ kx_ => XS.iconst X131.here hx rfl (hb hby at_234) kx_) ?_
                                    refine W.s1 (mkF m 239 #[.val (.int x0), .val (.int (5 : Int32)), .val (.ref ar), .val (.int (0 : Int32)), .val (.int (0 : Int32)), .val (.int (1 : Int32)), .val (.int (2 : Int32)), .val (.ref b126), .val (.int (2 : Int32))] [(.int (1 : Int32))]) (fun _ kx_ => XS.goto X131.here hx rfl (pc0 := 235) (pc' := 239) rfl (hb hby at_235) (by decide) (by decide) kx_) ?_
                                    exact W.retZ X131 hx hlk (t := .boolean) (z' := (1 : Int32)) Bd.returns (by simp) (hb hby at_239) rfl (by show Q0 Z x0 h0 n0 _ T131.heap _; rw [e131]; exact ⟨rfl, N131⟩) (by decide) (by decide)
                                  · exact absurd c221 (by decide)
                                · exact absurd c205 (by decide)
                    · exact absurd c123 (by decide)
                  · exact absurd c105 (by decide)
                · exact absurd c91 (by decide)
            · exact absurd c61 (by decide)
          · exact absurd c51 (by decide)
      · exact absurd c28 (by decide)
    · exact absurd c17 (by decide)
  · refine W.s1 (mkF m 11 #[.val (.int x0), .val (.int (6 : Int32)), .unset, .unset, .unset, .unset, .unset, .unset, .unset] [(.int (6 : Int32))]) (fun _ kx_ => XS.iloadN X0.here hx rfl (hb hby at_10) rfl kx_) ?_
    obtain ⟨_, _, ⟨T133, L133, k133, n133⟩, -, X133, ⟨Lc133, hQ133, l133, y133, z133⟩, st133⟩ := Jvm.LawKit.callS X0 hx (y := (⟨"com/example/careful_courier/carefulcourier/store/Layout", "rewrittenPrefixes", "(I)[B"⟩ : MethodName)) hown (mvT hZ (hw _ (List.mem_of_getElem? (i := 1) rfl))) (mvT hZ (hw _ (List.mem_of_getElem? (i := 2) rfl))) (mvT hZ (hw _ (List.mem_of_getElem? (i := 3) rfl))) (mvT hZ (hw _ (List.mem_of_getElem? (i := 4) rfl))) (by decide) (backOf (W := 0) (rm1 l Z a0 hw [] (6 : Int32) h0 n0 Z0 ) hZ (hw _ (List.mem_of_getElem? (i := 4) rfl)) (hw _ (List.mem_of_getElem? (i := 3) rfl)) (by decide) (by decide)) (g := (mkF m 11 #[.val (.int x0), .val (.int (6 : Int32)), .unset, .unset, .unset, .unset, .unset, .unset, .unset] [(.int (6 : Int32))])) rfl (by rw [hml]; rfl) (argsL := [(.int (6 : Int32))]) (rest := []) (lenOf pd_0 rfl) rfl (by show 2 * 0 + _ ≤ _; exact Nat.le_of_eq rfl) (hb hby at_11) (fun _ _ => ⟨rfl, e0, (by decide : 0 + 1 ≤ _), (by decide : 0 + 2 ≤ _)⟩)
    dsimp only [Pt.U, Pt.locs, Pt.cells, Pt.slots] at X133 l133 y133 z133 st133 hQ133
    subst l133 y133 z133
    obtain ⟨h133, e133⟩ : ∃ z, T133.heap = z := ⟨_, rfl⟩
    rw [e133] at hQ133
    obtain ⟨ar, kr, fr, rfl, Nq133, Kq133, hge, A133, hc⟩ := hQ133
    have N133 := Fr.app N0 Nq133
    have Z133 : n0 ≤ h133.size := Nat.le_trans Z0 Kq133.1
    obtain rfl := own_c4 (by decide) (by decide) (by decide) hc
    have ger : n0 ≤ ar := Nat.le_trans Z0 hge
    refine W.s2 (mkF m 14 #[.val (.int x0), .val (.int (6 : Int32)), .unset, .unset, .unset, .unset, .unset, .unset, .unset] [(.ref ar)]) st133 ?_
    refine W.s1 (mkF m 15 #[.val (.int x0), .val (.int (6 : Int32)), .val (.ref ar), .unset, .unset, .unset, .unset, .unset, .unset] []) (fun _ kx_ => XS.astoreN X133.here hx rfl (hb hby at_14) rfl rfl (l' := #[.val (.int x0), .val (.int (6 : Int32)), .val (.ref ar), .unset, .unset, .unset, .unset, .unset, .unset]) rfl kx_) ?_
    refine W.s1 (mkF m 16 #[.val (.int x0), .val (.int (6 : Int32)), .val (.ref ar), .unset, .unset, .unset, .unset, .unset, .unset] [(.int (6 : Int32))]) (fun _ kx_ => XS.iloadN X133.here hx rfl (hb hby at_15) rfl kx_) ?_
    refine W.s1 (mkF m 17 #[.val (.int x0), .val (.int (6 : Int32)), .val (.ref ar), .unset, .unset, .unset, .unset, .unset, .unset] [(.int (3 : Int32)), (.int (6 : Int32))]) (fun _ kx_ => XS.iconst X133.here hx rfl (hb hby at_16) kx_) ?_
    refine W.icmp X133 hx (hb hby at_17) (pc' := 24) (pc'' := 20) (by decide) (by decide) rfl (fun (c17 : (3 : Int32) < (6 : Int32)) => ?_) (fun (c17 : ¬ (3 : Int32) < (6 : Int32)) => ?_)
    · refine W.s1 (mkF m 25 #[.val (.int x0), .val (.int (6 : Int32)), .val (.ref ar), .unset, .unset, .unset, .unset, .unset, .unset] [(.int (0 : Int32))]) (fun _ kx_ => XS.iconst X133.here hx rfl (hb hby at_24) kx_) ?_
      refine W.s1 (mkF m 26 #[.val (.int x0), .val (.int (6 : Int32)), .val (.ref ar), .val (.int (0 : Int32)), .unset, .unset, .unset, .unset, .unset] []) (fun _ kx_ => XS.istoreN X133.here hx rfl (hb hby at_25) rfl (l' := #[.val (.int x0), .val (.int (6 : Int32)), .val (.ref ar), .val (.int (0 : Int32)), .unset, .unset, .unset, .unset, .unset]) rfl kx_) ?_
      refine W.s1 (mkF m 27 #[.val (.int x0), .val (.int (6 : Int32)), .val (.ref ar), .val (.int (0 : Int32)), .unset, .unset, .unset, .unset, .unset] [(.int (6 : Int32))]) (fun _ kx_ => XS.iloadN X133.here hx rfl (hb hby at_26) rfl kx_) ?_
      refine W.s1 (mkF m 28 #[.val (.int x0), .val (.int (6 : Int32)), .val (.ref ar), .val (.int (0 : Int32)), .unset, .unset, .unset, .unset, .unset] [(.int (1 : Int32)), (.int (6 : Int32))]) (fun _ kx_ => XS.iconst X133.here hx rfl (hb hby at_27) kx_) ?_
      refine W.icmp X133 hx (hb hby at_28) (pc' := 35) (pc'' := 31) (by decide) (by decide) rfl (fun (c28 : ¬ (6 : Int32) = (1 : Int32)) => ?_) (fun (c28 : (6 : Int32) = (1 : Int32)) => ?_)
      · refine W.s1 (mkF m 36 #[.val (.int x0), .val (.int (6 : Int32)), .val (.ref ar), .val (.int (0 : Int32)), .unset, .unset, .unset, .unset, .unset] [(.int (0 : Int32))]) (fun _ kx_ => XS.iconst X133.here hx rfl (hb hby at_35) kx_) ?_
        refine W.s1 (mkF m 38 #[.val (.int x0), .val (.int (6 : Int32)), .val (.ref ar), .val (.int (0 : Int32)), .val (.int (0 : Int32)), .unset, .unset, .unset, .unset] []) (fun _ kx_ => XS.istore X133.here hx rfl (hb hby at_36) rfl (l' := #[.val (.int x0), .val (.int (6 : Int32)), .val (.ref ar), .val (.int (0 : Int32)), .val (.int (0 : Int32)), .unset, .unset, .unset, .unset]) rfl kx_) ?_
        refine W.s1 (mkF m 39 #[.val (.int x0), .val (.int (6 : Int32)), .val (.ref ar), .val (.int (0 : Int32)), .val (.int (0 : Int32)), .unset, .unset, .unset, .unset] [(.int (6 : Int32))]) (fun _ kx_ => XS.iloadN X133.here hx rfl (hb hby at_38) rfl kx_) ?_
        refine W.s1 (mkF m 40 #[.val (.int x0), .val (.int (6 : Int32)), .val (.ref ar), .val (.int (0 : Int32)), .val (.int (0 : Int32)), .unset, .unset, .unset, .unset] [(.int (5 : Int32)), (.int (6 : Int32))]) (fun _ kx_ => XS.iconst X133.here hx rfl (hb hby at_39) kx_) ?_
        refine W.icmp X133 hx (hb hby at_40) (pc' := 47) (pc'' := 43) (by decide) (by decide) rfl (fun (c40 : ¬ (6 : Int32) = (5 : Int32)) => ?_) (fun (c40 : (6 : Int32) = (5 : Int32)) => ?_)
        · refine W.s1 (mkF m 48 #[.val (.int x0), .val (.int (6 : Int32)), .val (.ref ar), .val (.int (0 : Int32)), .val (.int (0 : Int32)), .unset, .unset, .unset, .unset] [(.int (0 : Int32))]) (fun _ kx_ => XS.iconst X133.here hx rfl (hb hby at_47) kx_) ?_
          refine W.s1 (mkF m 50 #[.val (.int x0), .val (.int (6 : Int32)), .val (.ref ar), .val (.int (0 : Int32)), .val (.int (0 : Int32)), .val (.int (0 : Int32)), .unset, .unset, .unset] []) (fun _ kx_ => XS.istore X133.here hx rfl (hb hby at_48) rfl (l' := #[.val (.int x0), .val (.int (6 : Int32)), .val (.ref ar), .val (.int (0 : Int32)), .val (.int (0 : Int32)), .val (.int (0 : Int32)), .unset, .unset, .unset]) rfl kx_) ?_
          refine W.s1 (mkF m 51 #[.val (.int x0), .val (.int (6 : Int32)), .val (.ref ar), .val (.int (0 : Int32)), .val (.int (0 : Int32)), .val (.int (0 : Int32)), .unset, .unset, .unset] [(.int (0 : Int32))]) (fun _ kx_ => XS.iloadN X133.here hx rfl (hb hby at_50) rfl kx_) ?_
          refine W.ifc X133 hx (hb hby at_51) (pc' := 58) (pc'' := 54) (by decide) (by decide) rfl (fun (c51 : (0 : Int32) = (0 : Int32)) => ?_) (fun (c51 : ¬ (0 : Int32) = (0 : Int32)) => ?_)
          · refine W.s1 (mkF m 59 #[.val (.int x0), .val (.int (6 : Int32)), .val (.ref ar), .val (.int (0 : Int32)), .val (.int (0 : Int32)), .val (.int (0 : Int32)), .unset, .unset, .unset] [(.int (0 : Int32))]) (fun _ kx_ => XS.iconst X133.here hx rfl (hb hby at_58) kx_) ?_
            refine W.s1 (mkF m 61 #[.val (.int x0), .val (.int (6 : Int32)), .val (.ref ar), .val (.int (0 : Int32)), .val (.int (0 : Int32)), .val (.int (0 : Int32)), .unset, .unset, .unset] [(.int (0 : Int32)), (.int (0 : Int32))]) (fun _ kx_ => XS.iload X133.here hx rfl (hb hby at_59) rfl kx_) ?_
            refine W.ifc X133 hx (hb hby at_61) (pc' := 68) (pc'' := 64) (by decide) (by decide) rfl (fun (c61 : (0 : Int32) = (0 : Int32)) => ?_) (fun (c61 : ¬ (0 : Int32) = (0 : Int32)) => ?_)
            · refine W.s1 (mkF m 69 #[.val (.int x0), .val (.int (6 : Int32)), .val (.ref ar), .val (.int (0 : Int32)), .val (.int (0 : Int32)), .val (.int (0 : Int32)), .unset, .unset, .unset] [(.int (0 : Int32)), (.int (0 : Int32))]) (fun _ kx_ => XS.iconst X133.here hx rfl (hb hby at_68) kx_) ?_
              refine W.s1 (mkF m 70 #[.val (.int x0), .val (.int (6 : Int32)), .val (.ref ar), .val (.int (0 : Int32)), .val (.int (0 : Int32)), .val (.int (0 : Int32)), .unset, .unset, .unset] [(.int (0 : Int32))]) (fun _ kx_ => XS.iadd X133.here hx rfl (hb hby at_69) rfl kx_) ?_
              refine W.s1 (mkF m 72 #[.val (.int x0), .val (.int (6 : Int32)), .val (.ref ar), .val (.int (0 : Int32)), .val (.int (0 : Int32)), .val (.int (0 : Int32)), .unset, .unset, .unset] [(.int (0 : Int32)), (.int (0 : Int32))]) (fun _ kx_ => XS.iload X133.here hx rfl (hb hby at_70) rfl kx_) ?_
              refine W.ifc X133 hx (hb hby at_72) (pc' := 79) (pc'' := 75) (by decide) (by decide) rfl (fun (c72 : (0 : Int32) = (0 : Int32)) => ?_) (fun (c72 : ¬ (0 : Int32) = (0 : Int32)) => ?_)
              · refine W.s1 (mkF m 80 #[.val (.int x0), .val (.int (6 : Int32)), .val (.ref ar), .val (.int (0 : Int32)), .val (.int (0 : Int32)), .val (.int (0 : Int32)), .unset, .unset, .unset] [(.int (0 : Int32)), (.int (0 : Int32))]) (fun _ kx_ => XS.iconst X133.here hx rfl (hb hby at_79) kx_) ?_
                refine W.s1 (mkF m 81 #[.val (.int x0), .val (.int (6 : Int32)), .val (.ref ar), .val (.int (0 : Int32)), .val (.int (0 : Int32)), .val (.int (0 : Int32)), .unset, .unset, .unset] [(.int (0 : Int32))]) (fun _ kx_ => XS.iadd X133.here hx rfl (hb hby at_80) rfl kx_) ?_
                refine W.s1 (mkF m 83 #[.val (.int x0), .val (.int (6 : Int32)), .val (.ref ar), .val (.int (0 : Int32)), .val (.int (0 : Int32)), .val (.int (0 : Int32)), .val (.int (0 : Int32)), .unset, .unset] []) (fun _ kx_ => XS.istore X133.here hx rfl (hb hby at_81) rfl (l' := #[.val (.int x0), .val (.int (6 : Int32)), .val (.ref ar), .val (.int (0 : Int32)), .val (.int (0 : Int32)), .val (.int (0 : Int32)), .val (.int (0 : Int32)), .unset, .unset]) rfl kx_) ?_
                refine W.s1 (mkF m 84 #[.val (.int x0), .val (.int (6 : Int32)), .val (.ref ar), .val (.int (0 : Int32)), .val (.int (0 : Int32)), .val (.int (0 : Int32)), .val (.int (0 : Int32)), .unset, .unset] [(.ref ar)]) (fun _ kx_ => XS.aloadN X133.here hx rfl (hb hby at_83) rfl rfl kx_) ?_
                refine W.s1 (mkF m 87 #[.val (.int x0), .val (.int (6 : Int32)), .val (.ref ar), .val (.int (0 : Int32)), .val (.int (0 : Int32)), .val (.int (0 : Int32)), .val (.int (0 : Int32)), .unset, .unset] []) (fun _ kx_ => XS.ifnullNo X133.here hx rfl (hb hby at_84) rfl kx_) ?_
                refine W.s1 (mkF m 88 #[.val (.int x0), .val (.int (6 : Int32)), .val (.ref ar), .val (.int (0 : Int32)), .val (.int (0 : Int32)), .val (.int (0 : Int32)), .val (.int (0 : Int32)), .unset, .unset] [(.ref ar)]) (fun _ kx_ => XS.aloadN X133.here hx rfl (hb hby at_87) rfl rfl kx_) ?_
                refine W.alen X133 hx hZ e133 A133 (z := (0 : Int32)) rfl (hb hby at_88) (pc' := 89) rfl ?_
                refine W.s1 (mkF m 91 #[.val (.int x0), .val (.int (6 : Int32)), .val (.ref ar), .val (.int (0 : Int32)), .val (.int (0 : Int32)), .val (.int (0 : Int32)), .val (.int (0 : Int32)), .unset, .unset] [(.int (0 : Int32)), (.int (0 : Int32))]) (fun _ kx_ => XS.iload X133.here hx rfl (hb hby at_89) rfl kx_) ?_
                refine W.icmp X133 hx (hb hby at_91) (pc' := 96) (pc'' := 94) (by decide) (by decide) rfl (fun (c91 : (0 : Int32) = (0 : Int32)) => ?_) (fun (c91 : ¬ (0 : Int32) = (0 : Int32)) => ?_)
                · refine W.s1 (mkF m 97 #[.val (.int x0), .val (.int (6 : Int32)), .val (.ref ar), .val (.int (0 : Int32)), .val (.int (0 : Int32)), .val (.int (0 : Int32)), .val (.int (0 : Int32)), .unset, .unset] [(.int (4 : Int32))]) (fun _ kx_ => XS.iconst X133.here hx rfl (hb hby at_96) kx_) ?_
                  refine W.newi X133 hx hZ (ty := .byte) (aty := .byte) (hw _ (List.mem_of_getElem? (i := 5) rfl)) rfl rfl e133 (hb hby at_97) (n := 4) rfl (cap := 4) (Nat.le_refl _) (by decide) (by decide) (by decide) (pc' := 99) rfl (fun T134 h134 b134 X134 e134 E134 g134 A134 => ?_)
                  have ne135 : ar ≠ b134 := Nat.ne_of_lt (Nat.lt_of_lt_of_le A133.lt (Nat.le_of_eq g134.symm))
                  have ge134 : n0 ≤ b134 := Nat.le_trans Z133 (Nat.le_of_eq g134.symm)
                  have Z134 : n0 ≤ h134.size := Nat.le_trans Z133 E134.1
                  have f136 := A133.ext E134
                  refine W.s1 (mkF m 101 #[.val (.int x0), .val (.int (6 : Int32)), .val (.ref ar), .val (.int (0 : Int32)), .val (.int (0 : Int32)), .val (.int (0 : Int32)), .val (.int (0 : Int32)), .val (.ref b134), .unset] []) (fun _ kx_ => XS.astore X134.here hx rfl (hb hby at_99) rfl rfl (l' := #[.val (.int x0), .val (.int (6 : Int32)), .val (.ref ar), .val (.int (0 : Int32)), .val (.int (0 : Int32)), .val (.int (0 : Int32)), .val (.int (0 : Int32)), .val (.ref b134), .unset]) rfl kx_) ?_
                  refine W.s1 (mkF m 102 #[.val (.int x0), .val (.int (6 : Int32)), .val (.ref ar), .val (.int (0 : Int32)), .val (.int (0 : Int32)), .val (.int (0 : Int32)), .val (.int (0 : Int32)), .val (.ref b134), .unset] [(.int (0 : Int32))]) (fun _ kx_ => XS.iconst X134.here hx rfl (hb hby at_101) kx_) ?_
                  refine W.s1 (mkF m 104 #[.val (.int x0), .val (.int (6 : Int32)), .val (.ref ar), .val (.int (0 : Int32)), .val (.int (0 : Int32)), .val (.int (0 : Int32)), .val (.int (0 : Int32)), .val (.ref b134), .val (.int (0 : Int32))] []) (fun _ kx_ => XS.istore X134.here hx rfl (hb hby at_102) rfl (l' := #[.val (.int x0), .val (.int (6 : Int32)), .val (.ref ar), .val (.int (0 : Int32)), .val (.int (0 : Int32)), .val (.int (0 : Int32)), .val (.int (0 : Int32)), .val (.ref b134), .val (.int (0 : Int32))]) rfl kx_) ?_
                  refine W.s1 (mkF m 105 #[.val (.int x0), .val (.int (6 : Int32)), .val (.ref ar), .val (.int (0 : Int32)), .val (.int (0 : Int32)), .val (.int (0 : Int32)), .val (.int (0 : Int32)), .val (.ref b134), .val (.int (0 : Int32))] [(.int (0 : Int32))]) (fun _ kx_ => XS.iloadN X134.here hx rfl (hb hby at_104) rfl kx_) ?_
                  refine W.ifc X134 hx (hb hby at_105) (pc' := 121) (pc'' := 108) (by decide) (by decide) rfl (fun (c105 : (0 : Int32) = (0 : Int32)) => ?_) (fun (c105 : ¬ (0 : Int32) = (0 : Int32)) => ?_)
                  · refine W.s1 (mkF m 123 #[.val (.int x0), .val (.int (6 : Int32)), .val (.ref ar), .val (.int (0 : Int32)), .val (.int (0 : Int32)), .val (.int (0 : Int32)), .val (.int (0 : Int32)), .val (.ref b134), .val (.int (0 : Int32))] [(.int (0 : Int32))]) (fun _ kx_ => XS.iload X134.here hx rfl (hb hby at_121) rfl kx_) ?_
                    refine W.ifc X134 hx (hb hby at_123) (pc' := 139) (pc'' := 126) (by decide) (by decide) rfl (fun (c123 : (0 : Int32) = (0 : Int32)) => ?_) (fun (c123 : ¬ (0 : Int32) = (0 : Int32)) => ?_)
                    · refine W.s1 (mkF m 141 #[.val (.int x0), .val (.int (6 : Int32)), .val (.ref ar), .val (.int (0 : Int32)), .val (.int (0 : Int32)), .val (.int (0 : Int32)), .val (.int (0 : Int32)), .val (.ref b134), .val (.int (0 : Int32))] [(.int (0 : Int32))]) (fun _ kx_ => XS.iload X134.here hx rfl (hb hby at_139) rfl kx_) ?_
                      refine W.ifc X134 hx (hb hby at_141) (pc' := 170) (pc'' := 144) (by decide) (by decide) rfl (fun (c141 : (0 : Int32) = (0 : Int32)) => ?_) (fun (c141 : ¬ (0 : Int32) = (0 : Int32)) => ?_)
                      · refine W.s1 (mkF m 172 #[.val (.int x0), .val (.int (6 : Int32)), .val (.ref ar), .val (.int (0 : Int32)), .val (.int (0 : Int32)), .val (.int (0 : Int32)), .val (.int (0 : Int32)), .val (.ref b134), .val (.int (0 : Int32))] [(.int (0 : Int32))]) (fun _ kx_ => XS.iload X134.here hx rfl (hb hby at_170) rfl kx_) ?_
                        refine W.s1 (mkF m 173 #[.val (.int x0), .val (.int (6 : Int32)), .val (.ref ar), .val (.int (0 : Int32)), .val (.int (0 : Int32)), .val (.int (0 : Int32)), .val (.int (0 : Int32)), .val (.ref b134), .val (.int (0 : Int32))] [(.int (1 : Int32)), (.int (0 : Int32))]) (fun _ kx_ => XS.iconst X134.here hx rfl (hb hby at_172) kx_) ?_
                        refine W.icmp X134 hx (hb hby at_173) (pc' := 186) (pc'' := 176) (by decide) (by decide) rfl (fun (c173 : (0 : Int32) < (1 : Int32)) => ?_) (fun (c173 : ¬ (0 : Int32) < (1 : Int32)) => ?_)
                        · refine W.s1 (mkF m 188 #[.val (.int x0), .val (.int (6 : Int32)), .val (.ref ar), .val (.int (0 : Int32)), .val (.int (0 : Int32)), .val (.int (0 : Int32)), .val (.int (0 : Int32)), .val (.ref b134), .val (.int (0 : Int32))] [(.int (0 : Int32))]) (fun _ kx_ => XS.iload X134.here hx rfl (hb hby at_186) rfl kx_) ?_
                          refine W.s1 (mkF m 189 #[.val (.int x0), .val (.int (6 : Int32)), .val (.ref ar), .val (.int (0 : Int32)), .val (.int (0 : Int32)), .val (.int (0 : Int32)), .val (.int (0 : Int32)), .val (.ref b134), .val (.int (0 : Int32))] [(.int (2 : Int32)), (.int (0 : Int32))]) (fun _ kx_ => XS.iconst X134.here hx rfl (hb hby at_188) kx_) ?_
                          refine W.icmp X134 hx (hb hby at_189) (pc' := 202) (pc'' := 192) (by decide) (by decide) rfl (fun (c189 : (0 : Int32) < (2 : Int32)) => ?_) (fun (c189 : ¬ (0 : Int32) < (2 : Int32)) => ?_)
                          · refine W.s1 (mkF m 204 #[.val (.int x0), .val (.int (6 : Int32)), .val (.ref ar), .val (.int (0 : Int32)), .val (.int (0 : Int32)), .val (.int (0 : Int32)), .val (.int (0 : Int32)), .val (.ref b134), .val (.int (0 : Int32))] [(.int (0 : Int32))]) (fun _ kx_ => XS.iload X134.here hx rfl (hb hby at_202) rfl kx_) ?_
                            refine W.s1 (mkF m 205 #[.val (.int x0), .val (.int (6 : Int32)), .val (.ref ar), .val (.int (0 : Int32)), .val (.int (0 : Int32)), .val (.int (0 : Int32)), .val (.int (0 : Int32)), .val (.ref b134), .val (.int (0 : Int32))] [(.int (3 : Int32)), (.int (0 : Int32))]) (fun _ kx_ => XS.iconst X134.here hx rfl (hb hby at_204) kx_) ?_
                            refine W.icmp X134 hx (hb hby at_205) (pc' := 218) (pc'' := 208) (by decide) (by decide) rfl (fun (c205 : (0 : Int32) < (3 : Int32)) => ?_) (fun (c205 : ¬ (0 : Int32) < (3 : Int32)) => ?_)
                            · refine W.s1 (mkF m 220 #[.val (.int x0), .val (.int (6 : Int32)), .val (.ref ar), .val (.int (0 : Int32)), .val (.int (0 : Int32)), .val (.int (0 : Int32)), .val (.int (0 : Int32)), .val (.ref b134), .val (.int (0 : Int32))] [(.int (0 : Int32))]) (fun _ kx_ => XS.iload X134.here hx rfl (hb hby at_218) rfl kx_) ?_
                              refine W.s1 (mkF m 221 #[.val (.int x0), .val (.int (6 : Int32)), .val (.ref ar), .val (.int (0 : Int32)), .val (.int (0 : Int32)), .val (.int (0 : Int32)), .val (.int (0 : Int32)), .val (.ref b134), .val (.int (0 : Int32))] [(.int (4 : Int32)), (.int (0 : Int32))]) (fun _ kx_ => XS.iconst X134.here hx rfl (hb hby at_220) kx_) ?_
                              refine W.icmp X134 hx (hb hby at_221) (pc' := 234) (pc'' := 224) (by decide) (by decide) rfl (fun (c221 : (0 : Int32) < (4 : Int32)) => ?_) (fun (c221 : ¬ (0 : Int32) < (4 : Int32)) => ?_)
                              · refine W.s1 (mkF m 235 #[.val (.int x0), .val (.int (6 : Int32)), .val (.ref ar), .val (.int (0 : Int32)), .val (.int (0 : Int32)), .val (.int (0 : Int32)), .val (.int (0 : Int32)), .val (.ref b134), .val (.int (0 : Int32))] [(.int (1 : Int32))]) (fun _ kx_ => XS.iconst X134.here hx rfl (hb hby at_234) kx_) ?_
                                refine W.s1 (mkF m 239 #[.val (.int x0), .val (.int (6 : Int32)), .val (.ref ar), .val (.int (0 : Int32)), .val (.int (0 : Int32)), .val (.int (0 : Int32)), .val (.int (0 : Int32)), .val (.ref b134), .val (.int (0 : Int32))] [(.int (1 : Int32))]) (fun _ kx_ => XS.goto X134.here hx rfl (pc0 := 235) (pc' := 239) rfl (hb hby at_235) (by decide) (by decide) kx_) ?_
                                exact W.retZ X134 hx hlk (t := .boolean) (z' := (1 : Int32)) Bd.returns (by simp) (hb hby at_239) rfl (by show Q0 Z x0 h0 n0 _ T134.heap _; rw [e134]; exact ⟨rfl, N133⟩) (by decide) (by decide)
                              · exact absurd c221 (by decide)
                            · exact absurd c205 (by decide)
                          · exact absurd c189 (by decide)
                        · exact absurd c173 (by decide)
                      · exact absurd c141 (by decide)
                    · exact absurd c123 (by decide)
                  · exact absurd c105 (by decide)
                · exact absurd c91 (by decide)
              · exact absurd c72 (by decide)
            · exact absurd c61 (by decide)
          · exact absurd c51 (by decide)
        · exact absurd c40 (by decide)
      · exact absurd c28 (by decide)
    · exact absurd c17 (by decide)
  · refine W.s1 (mkF m 11 #[.val (.int x0), .val (.int (7 : Int32)), .unset, .unset, .unset, .unset, .unset, .unset, .unset] [(.int (7 : Int32))]) (fun _ kx_ => XS.iloadN X0.here hx rfl (hb hby at_10) rfl kx_) ?_
    obtain ⟨_, _, ⟨T137, L137, k137, n137⟩, -, X137, ⟨Lc137, hQ137, l137, y137, z137⟩, st137⟩ := Jvm.LawKit.callS X0 hx (y := (⟨"com/example/careful_courier/carefulcourier/store/Layout", "rewrittenPrefixes", "(I)[B"⟩ : MethodName)) hown (mvT hZ (hw _ (List.mem_of_getElem? (i := 1) rfl))) (mvT hZ (hw _ (List.mem_of_getElem? (i := 2) rfl))) (mvT hZ (hw _ (List.mem_of_getElem? (i := 3) rfl))) (mvT hZ (hw _ (List.mem_of_getElem? (i := 4) rfl))) (by decide) (backOf (W := 0) (rm1 l Z a0 hw [] (7 : Int32) h0 n0 Z0 ) hZ (hw _ (List.mem_of_getElem? (i := 4) rfl)) (hw _ (List.mem_of_getElem? (i := 3) rfl)) (by decide) (by decide)) (g := (mkF m 11 #[.val (.int x0), .val (.int (7 : Int32)), .unset, .unset, .unset, .unset, .unset, .unset, .unset] [(.int (7 : Int32))])) rfl (by rw [hml]; rfl) (argsL := [(.int (7 : Int32))]) (rest := []) (lenOf pd_0 rfl) rfl (by show 2 * 0 + _ ≤ _; exact Nat.le_of_eq rfl) (hb hby at_11) (fun _ _ => ⟨rfl, e0, (by decide : 0 + 1 ≤ _), (by decide : 0 + 2 ≤ _)⟩)
    dsimp only [Pt.U, Pt.locs, Pt.cells, Pt.slots] at X137 l137 y137 z137 st137 hQ137
    subst l137 y137 z137
    obtain ⟨h137, e137⟩ : ∃ z, T137.heap = z := ⟨_, rfl⟩
    rw [e137] at hQ137
    obtain ⟨ar, kr, fr, rfl, Nq137, Kq137, hge, A137, hc⟩ := hQ137
    have N137 := Fr.app N0 Nq137
    have Z137 : n0 ≤ h137.size := Nat.le_trans Z0 Kq137.1
    obtain rfl := own_c4 (by decide) (by decide) (by decide) hc
    have ger : n0 ≤ ar := Nat.le_trans Z0 hge
    refine W.s2 (mkF m 14 #[.val (.int x0), .val (.int (7 : Int32)), .unset, .unset, .unset, .unset, .unset, .unset, .unset] [(.ref ar)]) st137 ?_
    refine W.s1 (mkF m 15 #[.val (.int x0), .val (.int (7 : Int32)), .val (.ref ar), .unset, .unset, .unset, .unset, .unset, .unset] []) (fun _ kx_ => XS.astoreN X137.here hx rfl (hb hby at_14) rfl rfl (l' := #[.val (.int x0), .val (.int (7 : Int32)), .val (.ref ar), .unset, .unset, .unset, .unset, .unset, .unset]) rfl kx_) ?_
    refine W.s1 (mkF m 16 #[.val (.int x0), .val (.int (7 : Int32)), .val (.ref ar), .unset, .unset, .unset, .unset, .unset, .unset] [(.int (7 : Int32))]) (fun _ kx_ => XS.iloadN X137.here hx rfl (hb hby at_15) rfl kx_) ?_
    refine W.s1 (mkF m 17 #[.val (.int x0), .val (.int (7 : Int32)), .val (.ref ar), .unset, .unset, .unset, .unset, .unset, .unset] [(.int (3 : Int32)), (.int (7 : Int32))]) (fun _ kx_ => XS.iconst X137.here hx rfl (hb hby at_16) kx_) ?_
    refine W.icmp X137 hx (hb hby at_17) (pc' := 24) (pc'' := 20) (by decide) (by decide) rfl (fun (c17 : (3 : Int32) < (7 : Int32)) => ?_) (fun (c17 : ¬ (3 : Int32) < (7 : Int32)) => ?_)
    · refine W.s1 (mkF m 25 #[.val (.int x0), .val (.int (7 : Int32)), .val (.ref ar), .unset, .unset, .unset, .unset, .unset, .unset] [(.int (0 : Int32))]) (fun _ kx_ => XS.iconst X137.here hx rfl (hb hby at_24) kx_) ?_
      refine W.s1 (mkF m 26 #[.val (.int x0), .val (.int (7 : Int32)), .val (.ref ar), .val (.int (0 : Int32)), .unset, .unset, .unset, .unset, .unset] []) (fun _ kx_ => XS.istoreN X137.here hx rfl (hb hby at_25) rfl (l' := #[.val (.int x0), .val (.int (7 : Int32)), .val (.ref ar), .val (.int (0 : Int32)), .unset, .unset, .unset, .unset, .unset]) rfl kx_) ?_
      refine W.s1 (mkF m 27 #[.val (.int x0), .val (.int (7 : Int32)), .val (.ref ar), .val (.int (0 : Int32)), .unset, .unset, .unset, .unset, .unset] [(.int (7 : Int32))]) (fun _ kx_ => XS.iloadN X137.here hx rfl (hb hby at_26) rfl kx_) ?_
      refine W.s1 (mkF m 28 #[.val (.int x0), .val (.int (7 : Int32)), .val (.ref ar), .val (.int (0 : Int32)), .unset, .unset, .unset, .unset, .unset] [(.int (1 : Int32)), (.int (7 : Int32))]) (fun _ kx_ => XS.iconst X137.here hx rfl (hb hby at_27) kx_) ?_
      refine W.icmp X137 hx (hb hby at_28) (pc' := 35) (pc'' := 31) (by decide) (by decide) rfl (fun (c28 : ¬ (7 : Int32) = (1 : Int32)) => ?_) (fun (c28 : (7 : Int32) = (1 : Int32)) => ?_)
      · refine W.s1 (mkF m 36 #[.val (.int x0), .val (.int (7 : Int32)), .val (.ref ar), .val (.int (0 : Int32)), .unset, .unset, .unset, .unset, .unset] [(.int (0 : Int32))]) (fun _ kx_ => XS.iconst X137.here hx rfl (hb hby at_35) kx_) ?_
        refine W.s1 (mkF m 38 #[.val (.int x0), .val (.int (7 : Int32)), .val (.ref ar), .val (.int (0 : Int32)), .val (.int (0 : Int32)), .unset, .unset, .unset, .unset] []) (fun _ kx_ => XS.istore X137.here hx rfl (hb hby at_36) rfl (l' := #[.val (.int x0), .val (.int (7 : Int32)), .val (.ref ar), .val (.int (0 : Int32)), .val (.int (0 : Int32)), .unset, .unset, .unset, .unset]) rfl kx_) ?_
        refine W.s1 (mkF m 39 #[.val (.int x0), .val (.int (7 : Int32)), .val (.ref ar), .val (.int (0 : Int32)), .val (.int (0 : Int32)), .unset, .unset, .unset, .unset] [(.int (7 : Int32))]) (fun _ kx_ => XS.iloadN X137.here hx rfl (hb hby at_38) rfl kx_) ?_
        refine W.s1 (mkF m 40 #[.val (.int x0), .val (.int (7 : Int32)), .val (.ref ar), .val (.int (0 : Int32)), .val (.int (0 : Int32)), .unset, .unset, .unset, .unset] [(.int (5 : Int32)), (.int (7 : Int32))]) (fun _ kx_ => XS.iconst X137.here hx rfl (hb hby at_39) kx_) ?_
        refine W.icmp X137 hx (hb hby at_40) (pc' := 47) (pc'' := 43) (by decide) (by decide) rfl (fun (c40 : ¬ (7 : Int32) = (5 : Int32)) => ?_) (fun (c40 : (7 : Int32) = (5 : Int32)) => ?_)
        · refine W.s1 (mkF m 48 #[.val (.int x0), .val (.int (7 : Int32)), .val (.ref ar), .val (.int (0 : Int32)), .val (.int (0 : Int32)), .unset, .unset, .unset, .unset] [(.int (0 : Int32))]) (fun _ kx_ => XS.iconst X137.here hx rfl (hb hby at_47) kx_) ?_
          refine W.s1 (mkF m 50 #[.val (.int x0), .val (.int (7 : Int32)), .val (.ref ar), .val (.int (0 : Int32)), .val (.int (0 : Int32)), .val (.int (0 : Int32)), .unset, .unset, .unset] []) (fun _ kx_ => XS.istore X137.here hx rfl (hb hby at_48) rfl (l' := #[.val (.int x0), .val (.int (7 : Int32)), .val (.ref ar), .val (.int (0 : Int32)), .val (.int (0 : Int32)), .val (.int (0 : Int32)), .unset, .unset, .unset]) rfl kx_) ?_
          refine W.s1 (mkF m 51 #[.val (.int x0), .val (.int (7 : Int32)), .val (.ref ar), .val (.int (0 : Int32)), .val (.int (0 : Int32)), .val (.int (0 : Int32)), .unset, .unset, .unset] [(.int (0 : Int32))]) (fun _ kx_ => XS.iloadN X137.here hx rfl (hb hby at_50) rfl kx_) ?_
          refine W.ifc X137 hx (hb hby at_51) (pc' := 58) (pc'' := 54) (by decide) (by decide) rfl (fun (c51 : (0 : Int32) = (0 : Int32)) => ?_) (fun (c51 : ¬ (0 : Int32) = (0 : Int32)) => ?_)
          · refine W.s1 (mkF m 59 #[.val (.int x0), .val (.int (7 : Int32)), .val (.ref ar), .val (.int (0 : Int32)), .val (.int (0 : Int32)), .val (.int (0 : Int32)), .unset, .unset, .unset] [(.int (0 : Int32))]) (fun _ kx_ => XS.iconst X137.here hx rfl (hb hby at_58) kx_) ?_
            refine W.s1 (mkF m 61 #[.val (.int x0), .val (.int (7 : Int32)), .val (.ref ar), .val (.int (0 : Int32)), .val (.int (0 : Int32)), .val (.int (0 : Int32)), .unset, .unset, .unset] [(.int (0 : Int32)), (.int (0 : Int32))]) (fun _ kx_ => XS.iload X137.here hx rfl (hb hby at_59) rfl kx_) ?_
            refine W.ifc X137 hx (hb hby at_61) (pc' := 68) (pc'' := 64) (by decide) (by decide) rfl (fun (c61 : (0 : Int32) = (0 : Int32)) => ?_) (fun (c61 : ¬ (0 : Int32) = (0 : Int32)) => ?_)
            · refine W.s1 (mkF m 69 #[.val (.int x0), .val (.int (7 : Int32)), .val (.ref ar), .val (.int (0 : Int32)), .val (.int (0 : Int32)), .val (.int (0 : Int32)), .unset, .unset, .unset] [(.int (0 : Int32)), (.int (0 : Int32))]) (fun _ kx_ => XS.iconst X137.here hx rfl (hb hby at_68) kx_) ?_
              refine W.s1 (mkF m 70 #[.val (.int x0), .val (.int (7 : Int32)), .val (.ref ar), .val (.int (0 : Int32)), .val (.int (0 : Int32)), .val (.int (0 : Int32)), .unset, .unset, .unset] [(.int (0 : Int32))]) (fun _ kx_ => XS.iadd X137.here hx rfl (hb hby at_69) rfl kx_) ?_
              refine W.s1 (mkF m 72 #[.val (.int x0), .val (.int (7 : Int32)), .val (.ref ar), .val (.int (0 : Int32)), .val (.int (0 : Int32)), .val (.int (0 : Int32)), .unset, .unset, .unset] [(.int (0 : Int32)), (.int (0 : Int32))]) (fun _ kx_ => XS.iload X137.here hx rfl (hb hby at_70) rfl kx_) ?_
              refine W.ifc X137 hx (hb hby at_72) (pc' := 79) (pc'' := 75) (by decide) (by decide) rfl (fun (c72 : (0 : Int32) = (0 : Int32)) => ?_) (fun (c72 : ¬ (0 : Int32) = (0 : Int32)) => ?_)
              · refine W.s1 (mkF m 80 #[.val (.int x0), .val (.int (7 : Int32)), .val (.ref ar), .val (.int (0 : Int32)), .val (.int (0 : Int32)), .val (.int (0 : Int32)), .unset, .unset, .unset] [(.int (0 : Int32)), (.int (0 : Int32))]) (fun _ kx_ => XS.iconst X137.here hx rfl (hb hby at_79) kx_) ?_
                refine W.s1 (mkF m 81 #[.val (.int x0), .val (.int (7 : Int32)), .val (.ref ar), .val (.int (0 : Int32)), .val (.int (0 : Int32)), .val (.int (0 : Int32)), .unset, .unset, .unset] [(.int (0 : Int32))]) (fun _ kx_ => XS.iadd X137.here hx rfl (hb hby at_80) rfl kx_) ?_
                refine W.s1 (mkF m 83 #[.val (.int x0), .val (.int (7 : Int32)), .val (.ref ar), .val (.int (0 : Int32)), .val (.int (0 : Int32)), .val (.int (0 : Int32)), .val (.int (0 : Int32)), .unset, .unset] []) (fun _ kx_ => XS.istore X137.here hx rfl (hb hby at_81) rfl (l' := #[.val (.int x0), .val (.int (7 : Int32)), .val (.ref ar), .val (.int (0 : Int32)), .val (.int (0 : Int32)), .val (.int (0 : Int32)), .val (.int (0 : Int32)), .unset, .unset]) rfl kx_) ?_
                refine W.s1 (mkF m 84 #[.val (.int x0), .val (.int (7 : Int32)), .val (.ref ar), .val (.int (0 : Int32)), .val (.int (0 : Int32)), .val (.int (0 : Int32)), .val (.int (0 : Int32)), .unset, .unset] [(.ref ar)]) (fun _ kx_ => XS.aloadN X137.here hx rfl (hb hby at_83) rfl rfl kx_) ?_
                refine W.s1 (mkF m 87 #[.val (.int x0), .val (.int (7 : Int32)), .val (.ref ar), .val (.int (0 : Int32)), .val (.int (0 : Int32)), .val (.int (0 : Int32)), .val (.int (0 : Int32)), .unset, .unset] []) (fun _ kx_ => XS.ifnullNo X137.here hx rfl (hb hby at_84) rfl kx_) ?_
                refine W.s1 (mkF m 88 #[.val (.int x0), .val (.int (7 : Int32)), .val (.ref ar), .val (.int (0 : Int32)), .val (.int (0 : Int32)), .val (.int (0 : Int32)), .val (.int (0 : Int32)), .unset, .unset] [(.ref ar)]) (fun _ kx_ => XS.aloadN X137.here hx rfl (hb hby at_87) rfl rfl kx_) ?_
                refine W.alen X137 hx hZ e137 A137 (z := (0 : Int32)) rfl (hb hby at_88) (pc' := 89) rfl ?_
                refine W.s1 (mkF m 91 #[.val (.int x0), .val (.int (7 : Int32)), .val (.ref ar), .val (.int (0 : Int32)), .val (.int (0 : Int32)), .val (.int (0 : Int32)), .val (.int (0 : Int32)), .unset, .unset] [(.int (0 : Int32)), (.int (0 : Int32))]) (fun _ kx_ => XS.iload X137.here hx rfl (hb hby at_89) rfl kx_) ?_
                refine W.icmp X137 hx (hb hby at_91) (pc' := 96) (pc'' := 94) (by decide) (by decide) rfl (fun (c91 : (0 : Int32) = (0 : Int32)) => ?_) (fun (c91 : ¬ (0 : Int32) = (0 : Int32)) => ?_)
                · refine W.s1 (mkF m 97 #[.val (.int x0), .val (.int (7 : Int32)), .val (.ref ar), .val (.int (0 : Int32)), .val (.int (0 : Int32)), .val (.int (0 : Int32)), .val (.int (0 : Int32)), .unset, .unset] [(.int (4 : Int32))]) (fun _ kx_ => XS.iconst X137.here hx rfl (hb hby at_96) kx_) ?_
                  refine W.newi X137 hx hZ (ty := .byte) (aty := .byte) (hw _ (List.mem_of_getElem? (i := 5) rfl)) rfl rfl e137 (hb hby at_97) (n := 4) rfl (cap := 4) (Nat.le_refl _) (by decide) (by decide) (by decide) (pc' := 99) rfl (fun T138 h138 b138 X138 e138 E138 g138 A138 => ?_)
                  have ne139 : ar ≠ b138 := Nat.ne_of_lt (Nat.lt_of_lt_of_le A137.lt (Nat.le_of_eq g138.symm))
                  have ge138 : n0 ≤ b138 := Nat.le_trans Z137 (Nat.le_of_eq g138.symm)
                  have Z138 : n0 ≤ h138.size := Nat.le_trans Z137 E138.1
                  have f140 := A137.ext E138
                  refine W.s1 (mkF m 101 #[.val (.int x0), .val (.int (7 : Int32)), .val (.ref ar), .val (.int (0 : Int32)), .val (.int (0 : Int32)), .val (.int (0 : Int32)), .val (.int (0 : Int32)), .val (.ref b138), .unset] []) (fun _ kx_ => XS.astore X138.here hx rfl (hb hby at_99) rfl rfl (l' := #[.val (.int x0), .val (.int (7 : Int32)), .val (.ref ar), .val (.int (0 : Int32)), .val (.int (0 : Int32)), .val (.int (0 : Int32)), .val (.int (0 : Int32)), .val (.ref b138), .unset]) rfl kx_) ?_
                  refine W.s1 (mkF m 102 #[.val (.int x0), .val (.int (7 : Int32)), .val (.ref ar), .val (.int (0 : Int32)), .val (.int (0 : Int32)), .val (.int (0 : Int32)), .val (.int (0 : Int32)), .val (.ref b138), .unset] [(.int (0 : Int32))]) (fun _ kx_ => XS.iconst X138.here hx rfl (hb hby at_101) kx_) ?_
                  refine W.s1 (mkF m 104 #[.val (.int x0), .val (.int (7 : Int32)), .val (.ref ar), .val (.int (0 : Int32)), .val (.int (0 : Int32)), .val (.int (0 : Int32)), .val (.int (0 : Int32)), .val (.ref b138), .val (.int (0 : Int32))] []) (fun _ kx_ => XS.istore X138.here hx rfl (hb hby at_102) rfl (l' := #[.val (.int x0), .val (.int (7 : Int32)), .val (.ref ar), .val (.int (0 : Int32)), .val (.int (0 : Int32)), .val (.int (0 : Int32)), .val (.int (0 : Int32)), .val (.ref b138), .val (.int (0 : Int32))]) rfl kx_) ?_
                  refine W.s1 (mkF m 105 #[.val (.int x0), .val (.int (7 : Int32)), .val (.ref ar), .val (.int (0 : Int32)), .val (.int (0 : Int32)), .val (.int (0 : Int32)), .val (.int (0 : Int32)), .val (.ref b138), .val (.int (0 : Int32))] [(.int (0 : Int32))]) (fun _ kx_ => XS.iloadN X138.here hx rfl (hb hby at_104) rfl kx_) ?_
                  refine W.ifc X138 hx (hb hby at_105) (pc' := 121) (pc'' := 108) (by decide) (by decide) rfl (fun (c105 : (0 : Int32) = (0 : Int32)) => ?_) (fun (c105 : ¬ (0 : Int32) = (0 : Int32)) => ?_)
                  · refine W.s1 (mkF m 123 #[.val (.int x0), .val (.int (7 : Int32)), .val (.ref ar), .val (.int (0 : Int32)), .val (.int (0 : Int32)), .val (.int (0 : Int32)), .val (.int (0 : Int32)), .val (.ref b138), .val (.int (0 : Int32))] [(.int (0 : Int32))]) (fun _ kx_ => XS.iload X138.here hx rfl (hb hby at_121) rfl kx_) ?_
                    refine W.ifc X138 hx (hb hby at_123) (pc' := 139) (pc'' := 126) (by decide) (by decide) rfl (fun (c123 : (0 : Int32) = (0 : Int32)) => ?_) (fun (c123 : ¬ (0 : Int32) = (0 : Int32)) => ?_)
                    · refine W.s1 (mkF m 141 #[.val (.int x0), .val (.int (7 : Int32)), .val (.ref ar), .val (.int (0 : Int32)), .val (.int (0 : Int32)), .val (.int (0 : Int32)), .val (.int (0 : Int32)), .val (.ref b138), .val (.int (0 : Int32))] [(.int (0 : Int32))]) (fun _ kx_ => XS.iload X138.here hx rfl (hb hby at_139) rfl kx_) ?_
                      refine W.ifc X138 hx (hb hby at_141) (pc' := 170) (pc'' := 144) (by decide) (by decide) rfl (fun (c141 : (0 : Int32) = (0 : Int32)) => ?_) (fun (c141 : ¬ (0 : Int32) = (0 : Int32)) => ?_)
                      · refine W.s1 (mkF m 172 #[.val (.int x0), .val (.int (7 : Int32)), .val (.ref ar), .val (.int (0 : Int32)), .val (.int (0 : Int32)), .val (.int (0 : Int32)), .val (.int (0 : Int32)), .val (.ref b138), .val (.int (0 : Int32))] [(.int (0 : Int32))]) (fun _ kx_ => XS.iload X138.here hx rfl (hb hby at_170) rfl kx_) ?_
                        refine W.s1 (mkF m 173 #[.val (.int x0), .val (.int (7 : Int32)), .val (.ref ar), .val (.int (0 : Int32)), .val (.int (0 : Int32)), .val (.int (0 : Int32)), .val (.int (0 : Int32)), .val (.ref b138), .val (.int (0 : Int32))] [(.int (1 : Int32)), (.int (0 : Int32))]) (fun _ kx_ => XS.iconst X138.here hx rfl (hb hby at_172) kx_) ?_
                        refine W.icmp X138 hx (hb hby at_173) (pc' := 186) (pc'' := 176) (by decide) (by decide) rfl (fun (c173 : (0 : Int32) < (1 : Int32)) => ?_) (fun (c173 : ¬ (0 : Int32) < (1 : Int32)) => ?_)
                        · refine W.s1 (mkF m 188 #[.val (.int x0), .val (.int (7 : Int32)), .val (.ref ar), .val (.int (0 : Int32)), .val (.int (0 : Int32)), .val (.int (0 : Int32)), .val (.int (0 : Int32)), .val (.ref b138), .val (.int (0 : Int32))] [(.int (0 : Int32))]) (fun _ kx_ => XS.iload X138.here hx rfl (hb hby at_186) rfl kx_) ?_
                          refine W.s1 (mkF m 189 #[.val (.int x0), .val (.int (7 : Int32)), .val (.ref ar), .val (.int (0 : Int32)), .val (.int (0 : Int32)), .val (.int (0 : Int32)), .val (.int (0 : Int32)), .val (.ref b138), .val (.int (0 : Int32))] [(.int (2 : Int32)), (.int (0 : Int32))]) (fun _ kx_ => XS.iconst X138.here hx rfl (hb hby at_188) kx_) ?_
                          refine W.icmp X138 hx (hb hby at_189) (pc' := 202) (pc'' := 192) (by decide) (by decide) rfl (fun (c189 : (0 : Int32) < (2 : Int32)) => ?_) (fun (c189 : ¬ (0 : Int32) < (2 : Int32)) => ?_)
                          · refine W.s1 (mkF m 204 #[.val (.int x0), .val (.int (7 : Int32)), .val (.ref ar), .val (.int (0 : Int32)), .val (.int (0 : Int32)), .val (.int (0 : Int32)), .val (.int (0 : Int32)), .val (.ref b138), .val (.int (0 : Int32))] [(.int (0 : Int32))]) (fun _ kx_ => XS.iload X138.here hx rfl (hb hby at_202) rfl kx_) ?_
                            refine W.s1 (mkF m 205 #[.val (.int x0), .val (.int (7 : Int32)), .val (.ref ar), .val (.int (0 : Int32)), .val (.int (0 : Int32)), .val (.int (0 : Int32)), .val (.int (0 : Int32)), .val (.ref b138), .val (.int (0 : Int32))] [(.int (3 : Int32)), (.int (0 : Int32))]) (fun _ kx_ => XS.iconst X138.here hx rfl (hb hby at_204) kx_) ?_
                            refine W.icmp X138 hx (hb hby at_205) (pc' := 218) (pc'' := 208) (by decide) (by decide) rfl (fun (c205 : (0 : Int32) < (3 : Int32)) => ?_) (fun (c205 : ¬ (0 : Int32) < (3 : Int32)) => ?_)
                            · refine W.s1 (mkF m 220 #[.val (.int x0), .val (.int (7 : Int32)), .val (.ref ar), .val (.int (0 : Int32)), .val (.int (0 : Int32)), .val (.int (0 : Int32)), .val (.int (0 : Int32)), .val (.ref b138), .val (.int (0 : Int32))] [(.int (0 : Int32))]) (fun _ kx_ => XS.iload X138.here hx rfl (hb hby at_218) rfl kx_) ?_
                              refine W.s1 (mkF m 221 #[.val (.int x0), .val (.int (7 : Int32)), .val (.ref ar), .val (.int (0 : Int32)), .val (.int (0 : Int32)), .val (.int (0 : Int32)), .val (.int (0 : Int32)), .val (.ref b138), .val (.int (0 : Int32))] [(.int (4 : Int32)), (.int (0 : Int32))]) (fun _ kx_ => XS.iconst X138.here hx rfl (hb hby at_220) kx_) ?_
                              refine W.icmp X138 hx (hb hby at_221) (pc' := 234) (pc'' := 224) (by decide) (by decide) rfl (fun (c221 : (0 : Int32) < (4 : Int32)) => ?_) (fun (c221 : ¬ (0 : Int32) < (4 : Int32)) => ?_)
                              · refine W.s1 (mkF m 235 #[.val (.int x0), .val (.int (7 : Int32)), .val (.ref ar), .val (.int (0 : Int32)), .val (.int (0 : Int32)), .val (.int (0 : Int32)), .val (.int (0 : Int32)), .val (.ref b138), .val (.int (0 : Int32))] [(.int (1 : Int32))]) (fun _ kx_ => XS.iconst X138.here hx rfl (hb hby at_234) kx_) ?_
                                refine W.s1 (mkF m 239 #[.val (.int x0), .val (.int (7 : Int32)), .val (.ref ar), .val (.int (0 : Int32)), .val (.int (0 : Int32)), .val (.int (0 : Int32)), .val (.int (0 : Int32)), .val (.ref b138), .val (.int (0 : Int32))] [(.int (1 : Int32))]) (fun _ kx_ => XS.goto X138.here hx rfl (pc0 := 235) (pc' := 239) rfl (hb hby at_235) (by decide) (by decide) kx_) ?_
                                exact W.retZ X138 hx hlk (t := .boolean) (z' := (1 : Int32)) Bd.returns (by simp) (hb hby at_239) rfl (by show Q0 Z x0 h0 n0 _ T138.heap _; rw [e138]; exact ⟨rfl, N137⟩) (by decide) (by decide)
                              · exact absurd c221 (by decide)
                            · exact absurd c205 (by decide)
                          · exact absurd c189 (by decide)
                        · exact absurd c173 (by decide)
                      · exact absurd c141 (by decide)
                    · exact absurd c123 (by decide)
                  · exact absurd c105 (by decide)
                · exact absurd c91 (by decide)
              · exact absurd c72 (by decide)
            · exact absurd c61 (by decide)
          · exact absurd c51 (by decide)
        · exact absurd c40 (by decide)
      · exact absurd c28 (by decide)
    · exact absurd c17 (by decide)
set_option maxRecDepth 65536 in
set_option maxHeartbeats 40000000 in
theorem comes_1 {Post : Tables → Env → Array Value → State → Outcome → State → Prop} (hpost : ∀ tb e args s v u, (limb_1_1.after args s (.returned v) u = true ∧ limb_1_2.after args s (.returned v) u = true ∧ True) → FrameEnd s (.returned v) u (Jvm.fieldLocs frame_1_writes args s ++ Jvm.arrayLocs frame_1_arrays args s ++ Jvm.staticLocs frame_1_statics s) 16 128 → Post tb e args s (.returned v) u) :
    ArmFor flags0 classFile x code maxLocals ret World_1 tables_1 room_1 Calls_1 rest_1 Pre_1 Post := by
  intro l hfl _ _ p e ha hc hk s m args below hf hA hF happ hP
  obtain ⟨hcalls, hrest, hpre⟩ := hP
  obtain ⟨-, -, -, hnamed, -, -, -, hat⟩ := (Spec.applies_iff hf).mp happ
  obtain ⟨hg, hn⟩ := and_e (Cond.before_iff.mp (show (Jvm.Cond.and given_1 narrow_1).before args s = true from hpre))
  obtain ⟨gc, g0⟩ := and_e hg
  have w_0 := g0
  obtain ⟨w0, rfl⟩ : ∃ w0 : Value, args = #[w0] := by
    have hs : args.size = 1 := by simpa [Cond.value, given_1] using gc
    obtain ⟨L⟩ := args
    match L, hs with
    | [w0], _ => exact ⟨w0, rfl⟩
  have hw := fun d (hd : d ∈ tables_1) => atoms_spec (ws := Jvm.Cond.code x code maxLocals ret :: tables_1) hat d (List.mem_cons_of_mem _ hd)
  have hfit : Fit s := fun {y c} hc i hi => by
    obtain ⟨ha, rfl⟩ := Array.getElem?_eq_some_iff.mp hc
    have q := List.all_eq_true.mp ((Array.all_eq_true_iff_forall_mem.mp hF) _ (Array.getElem_mem ha)) i (List.mem_range.mpr hi)
    simpa [Array.getElem?_eq_getElem hi] using q
  obtain ⟨i0, ei0⟩ := is_v w_0
  obtain rfl : w0 = (.int i0) := Option.some.inj ei0
  obtain ⟨n, o, h1, h2, h3, _, L, rfl, ⟨rfl, N⟩, hq⟩ := rm0 l s _ hw tables_1 i0 s.heap s.heap.size (Nat.le_refl _)  p e ha hc hk s m _ below hf ((Spec.applies_iff_loose hf).mp happ).1 ⟨rfl, State.Warmed39.refl s, rfl⟩ trivial
  refine ⟨n, _, h1, h2, h3, hpost _ _ _ _ _ _ ⟨Cond.after_iff.mpr rfl, Cond.after_iff.mpr (eq_i res_at (Term.int_eval (1)) rfl), trivial⟩ ⟨hq.1, hq.2.1, (hq.2.2.sift fun y hy => Or.inr (N y hy)).mono (by decide) (by decide)⟩⟩
theorem main_1_1 : Claimed_1_1 := comes_1 fun _ _ _ _ _ _ h hF => ⟨h.1, hF⟩
theorem main_1_2 : Claimed_1_2 := comes_1 fun _ _ _ _ _ _ h hF => ⟨h.2.1, hF⟩
end Jvm.Pilot.@@N@@
namespace Jvm.Pilot.@@N@@
open Jvm Jvm.ClassFile Sem Op Lib Jvm.Free Jvm.Stand Jvm.Pilot.@@N@@.Jvm.D
/-! MADE BY PROGRAM (witnessworld.py) out of the Statement's table words and the real class files: 9 classes; the members and pool entries that the words name. The judged class is class 1, her method 1. -/
namespace start1
open Jvm.ClassFile
def u (s : String) : CpInfo := .utf8 (stringToUtf16 s)
/-- a pool by its gaps: so many unusable entries, then the entry; so many at the end -/
def gap : Nat → List CpInfo → List CpInfo
  | 0, r => r
  | n + 1, r => .unusable :: gap n r
def poolList (es : List (Nat × CpInfo)) (last : Nat) : List CpInfo := es.foldr (fun e r => gap e.1 (e.2 :: r)) (gap last [])
def pool (es : List (Nat × CpInfo)) (last : Nat) : Array CpInfo := ⟨poolList es last⟩
def fileOf (pool : Array CpInfo) (this : Nat) (attrs : Array Attribute := #[]) (ms : Array MethodInfo := #[]) (fl : Nat := 33) (sup : Nat := 0) (ifs : Array Nat := #[]) (fds : Array FieldInfo := #[]) : ClassFile where
  minorVersion := 0
  majorVersion := 65
  constantPool := pool
  accessFlags := fl
  thisClass := this
  superClass := sup
  interfaces := ifs
  fields := fds
  methods := ms
  attributes := attrs
def plain (name : String) (sup : Option ClassId) : Class where
  name := name
  kind := .ordinary
  loader := none
  accessFlags := 33
  super := sup
  interfaces := #[]
  cf := none
  fields := #[]
  methods := #[]
  instanceTypes := #[]
  staticTypes := #[]
  resolved := #[]
  callSites := []
  init := .initialized
  statics := none
  mirror := none

def pool0 : Array CpInfo := pool [(5, u "<init>"), (0, u "()V"), (1, .class_ 10), (1, u "java/lang/Object")] 113

def k0m0 : Method := { name := "<init>", desc := "()V", sig := { parameters := [], returnType := none }, accessFlags := 1, code := none }
/-- java/lang/Object -/
def k0 : Class := { plain "java/lang/Object" none with
  accessFlags := 33
  interfaces := #[]
  cf := some (fileOf pool0 8 #[] #[{ accessFlags := 1, nameIndex := 5, descriptorIndex := 6, attributes := #[] }] 33 0 #[] #[])
  fields := #[]
  methods := #[k0m0]
  instanceTypes := #[]
  staticTypes := #[]
  resolved := Array.replicate 124 none
  statics := none }

def pool1 : Array CpInfo := pool [(2, .class_ 4), (1, u "java/lang/Object"), (0, u "<init>"), (0, u "()V"), (0, .integer 2147483647), (0, .methodref 9 10), (0, .class_ 11), (0, .nameAndType 12 13), (0, u "com/example/careful_courier/carefulcourier/store/Layout"), (0, u "rewrittenPrefixes"), (0, u "(I)[B"), (0, .class_ 15), (0, u "com/example/careful_courier/carefulcourier/store/LayoutRewrittenPrefixesPinLaw"), (2, u "law"), (0, u "(I)Z")] 5

def k1m0 : Method := { name := "<init>", desc := "()V", sig := { parameters := [], returnType := none }, accessFlags := 2, code := none }
def k1c1 : Code := { maxStack := 3, maxLocals := 9, code := code, exceptionTable := #[], attributes := #[] }
def k1m1 : Method := { name := "law", desc := "(I)Z", sig := { parameters := [.int], returnType := some .boolean }, accessFlags := 9, code := some k1c1 }
/-- com/example/careful_courier/carefulcourier/store/LayoutRewrittenPrefixesPinLaw -/
def k1 : Class := { plain "com/example/careful_courier/carefulcourier/store/LayoutRewrittenPrefixesPinLaw" (some 0) with
  accessFlags := 49
  interfaces := #[]
  cf := some (fileOf pool1 14 #[] #[{ accessFlags := 2, nameIndex := 5, descriptorIndex := 6, attributes := #[] }, { accessFlags := 9, nameIndex := 18, descriptorIndex := 19, attributes := #[] }] 49 2 #[] #[])
  fields := #[]
  methods := #[k1m0, k1m1]
  instanceTypes := #[]
  staticTypes := #[]
  resolved := Array.replicate 25 none
  statics := none }

def pool2 : Array CpInfo := pool [(2, .class_ 4), (1, u "java/lang/Object"), (0, u "<init>"), (0, u "()V"), (0, .class_ 8), (0, u "com/example/careful_courier/carefulcourier/store/Layout"), (97, u "rewrittenPrefixes"), (0, u "(I)[B"), (0, .class_ 109), (0, u "com/example/careful_courier/carefulcourier/store/Layout$Progress"), (20, .class_ 132), (1, u "com/example/careful_courier/carefulcourier/store/Layout$1"), (42, .class_ 177), (1, u "com/example/careful_courier/carefulcourier/store/Layout$Record"), (9, u "I"), (191, u "FORMAT_KEY"), (0, u "[B"), (2, u "LAST_ID_KEY"), (2, u "STREAM_KEY"), (2, u "PROGRESS_KEY"), (0, u "FORMAT"), (2, u "PIECE_BYTES"), (0, u "UNTAGGED_FORMAT"), (1, u "UNLIMITED_FORMAT"), (1, u "PEERLESS_FORMAT"), (1, u "UNSPLIT_FORMAT"), (1, u "MAILBOX_PREFIX"), (0, u "B"), (1, u "MESSAGE_PREFIX"), (1, u "OUTGOING_PREFIX"), (1, u "RETURNED_PREFIX"), (1, u "SEQUENCE_PREFIX"), (1, u "TAKE_PREFIX"), (1, u "RECEIVED_PREFIX"), (1, u "LEFT_PREFIX"), (1, u "PIECE_PREFIX"), (1, u "OPEN_STATE"), (0, u "CLOSING_STATE")] 99

def k2m0 : Method := { name := "<init>", desc := "()V", sig := { parameters := [], returnType := none }, accessFlags := 2, code := none }
def k2c1 : Code := { maxStack := 4, maxLocals := 1, code := prog_44_method_17_code, exceptionTable := #[], attributes := #[] }
def k2m1 : Method := { name := "rewrittenPrefixes", desc := "(I)[B", sig := { parameters := [.int], returnType := some (.array .byte) }, accessFlags := 8, code := some k2c1 }
/-- com/example/careful_courier/carefulcourier/store/Layout -/
def k2 : Class := { plain "com/example/careful_courier/carefulcourier/store/Layout" (some 0) with
  accessFlags := 32
  interfaces := #[]
  cf := some (fileOf pool2 7 #[.nestMembers #[130, 175, 108]] #[{ accessFlags := 2, nameIndex := 5, descriptorIndex := 6, attributes := #[] }, { accessFlags := 8, nameIndex := 106, descriptorIndex := 107, attributes := #[] }] 32 2 #[] #[{ accessFlags := 24, nameIndex := 390, descriptorIndex := 187, attributes := #[] }, { accessFlags := 24, nameIndex := 393, descriptorIndex := 187, attributes := #[] }, { accessFlags := 24, nameIndex := 394, descriptorIndex := 187, attributes := #[] }, { accessFlags := 24, nameIndex := 396, descriptorIndex := 187, attributes := #[] }, { accessFlags := 24, nameIndex := 398, descriptorIndex := 187, attributes := #[] }, { accessFlags := 24, nameIndex := 400, descriptorIndex := 187, attributes := #[] }, { accessFlags := 24, nameIndex := 379, descriptorIndex := 380, attributes := #[] }, { accessFlags := 24, nameIndex := 383, descriptorIndex := 380, attributes := #[] }, { accessFlags := 24, nameIndex := 386, descriptorIndex := 380, attributes := #[] }, { accessFlags := 24, nameIndex := 389, descriptorIndex := 380, attributes := #[] }, { accessFlags := 24, nameIndex := 402, descriptorIndex := 403, attributes := #[] }, { accessFlags := 24, nameIndex := 405, descriptorIndex := 403, attributes := #[] }, { accessFlags := 24, nameIndex := 407, descriptorIndex := 403, attributes := #[] }, { accessFlags := 24, nameIndex := 409, descriptorIndex := 403, attributes := #[] }, { accessFlags := 24, nameIndex := 411, descriptorIndex := 403, attributes := #[] }, { accessFlags := 24, nameIndex := 413, descriptorIndex := 403, attributes := #[] }, { accessFlags := 26, nameIndex := 415, descriptorIndex := 403, attributes := #[] }, { accessFlags := 26, nameIndex := 417, descriptorIndex := 403, attributes := #[] }, { accessFlags := 26, nameIndex := 419, descriptorIndex := 403, attributes := #[] }, { accessFlags := 26, nameIndex := 421, descriptorIndex := 403, attributes := #[] }, { accessFlags := 26, nameIndex := 422, descriptorIndex := 403, attributes := #[] }])
  fields := #[{ name := "FORMAT", type := .int, accessFlags := 24, slot := 0, constantValue := 0 }, { name := "PIECE_BYTES", type := .int, accessFlags := 24, slot := 1, constantValue := 0 }, { name := "UNTAGGED_FORMAT", type := .int, accessFlags := 24, slot := 2, constantValue := 0 }, { name := "UNLIMITED_FORMAT", type := .int, accessFlags := 24, slot := 3, constantValue := 0 }, { name := "PEERLESS_FORMAT", type := .int, accessFlags := 24, slot := 4, constantValue := 0 }, { name := "UNSPLIT_FORMAT", type := .int, accessFlags := 24, slot := 5, constantValue := 0 }, { name := "FORMAT_KEY", type := (.array .byte), accessFlags := 24, slot := 6, constantValue := 0 }, { name := "LAST_ID_KEY", type := (.array .byte), accessFlags := 24, slot := 7, constantValue := 0 }, { name := "STREAM_KEY", type := (.array .byte), accessFlags := 24, slot := 8, constantValue := 0 }, { name := "PROGRESS_KEY", type := (.array .byte), accessFlags := 24, slot := 9, constantValue := 0 }, { name := "MAILBOX_PREFIX", type := .byte, accessFlags := 24, slot := 10, constantValue := 0 }, { name := "MESSAGE_PREFIX", type := .byte, accessFlags := 24, slot := 11, constantValue := 0 }, { name := "OUTGOING_PREFIX", type := .byte, accessFlags := 24, slot := 12, constantValue := 0 }, { name := "RETURNED_PREFIX", type := .byte, accessFlags := 24, slot := 13, constantValue := 0 }, { name := "SEQUENCE_PREFIX", type := .byte, accessFlags := 24, slot := 14, constantValue := 0 }, { name := "TAKE_PREFIX", type := .byte, accessFlags := 24, slot := 15, constantValue := 0 }, { name := "RECEIVED_PREFIX", type := .byte, accessFlags := 26, slot := 16, constantValue := 0 }, { name := "LEFT_PREFIX", type := .byte, accessFlags := 26, slot := 17, constantValue := 0 }, { name := "PIECE_PREFIX", type := .byte, accessFlags := 26, slot := 18, constantValue := 0 }, { name := "OPEN_STATE", type := .byte, accessFlags := 26, slot := 19, constantValue := 0 }, { name := "CLOSING_STATE", type := .byte, accessFlags := 26, slot := 20, constantValue := 0 }]
  methods := #[k2m0, k2m1]
  instanceTypes := #[]
  staticTypes := #[.int, .int, .int, .int, .int, .int, (.array .byte), (.array .byte), (.array .byte), (.array .byte), .byte, .byte, .byte, .byte, .byte, .byte, .byte, .byte, .byte, .byte, .byte]
  resolved := Array.replicate 522 none
  statics := none }

def pool3 : Array CpInfo := pool [(1, u "java/lang/Cloneable"), (0, .class_ 1), (0, u "java/lang/Object"), (0, .class_ 3)] 3

/-- java/lang/Cloneable -/
def k3 : Class := { plain "java/lang/Cloneable" (some 0) with
  accessFlags := 1537
  interfaces := #[]
  cf := some (fileOf pool3 2 #[] #[] 1537 4 #[] #[])
  fields := #[]
  methods := #[]
  instanceTypes := #[]
  staticTypes := #[]
  resolved := Array.replicate 8 none
  statics := none }

def pool4 : Array CpInfo := pool [(1, u "java/io/Serializable"), (0, .class_ 1), (0, u "java/lang/Object"), (0, .class_ 3)] 3

/-- java/io/Serializable -/
def k4 : Class := { plain "java/io/Serializable" (some 0) with
  accessFlags := 1537
  interfaces := #[]
  cf := some (fileOf pool4 2 #[] #[] 1537 4 #[] #[])
  fields := #[]
  methods := #[]
  instanceTypes := #[]
  staticTypes := #[]
  resolved := Array.replicate 8 none
  statics := none }

/-- the primitive byte -/
def k5 : Class := { plain "byte" none with kind := .primitive 'B', accessFlags := 0x411 }
/-- [B -/
def k6 : Class := { plain "[B" (some 0) with kind := .array 5 .byte, interfaces := #[3, 4], accessFlags := 1041 }

/-- the primitive int -/
def k7 : Class := { plain "int" none with kind := .primitive 'I', accessFlags := 0x411 }
/-- [I -/
def k8 : Class := { plain "[I" (some 0) with kind := .array 7 .int, interfaces := #[3, 4], accessFlags := 1041 }

def heap : Heap := #[]
def classes : Array Class := #[k0, k1, k2, k3, k4, k5, k6, k7, k8]
def interned : List (Array UInt16 × Addr) := []
def slotsUsed : Nat := 0
def theMethod : MethodId := ⟨1, 1⟩
def args0 : Array Value := #[.int 5]
def aboutOver (below : List Frame) : State where
  vm := { classes := classes, interned := interned.toArray }
  heap := heap
  slotsUsed := slotsUsed
  threads := #[{ frames := .invoking theMethod args0 :: below }]
def below0 : List Frame := [.native { method := ⟨0, 0⟩, args := #[] }]
def about1 : State := aboutOver below0
def p0 : Program := .bare "" "" ""
def e0 : Env := launch0.env 0 0 0
theorem w_frames : about1.frames = Frame.invoking theMethod args0 :: below0 := rfl
set_option maxRecDepth 65536 in
theorem w_args : argsFit about1.vm theMethod args0 = true := by decide +kernel
set_option maxRecDepth 65536 in
theorem w_heap : heapFits about1 = true := by decide +kernel
set_option maxRecDepth 65536 in
theorem w_runnable : about1.curStatus? = some .runnable := by decide +kernel
set_option maxRecDepth 65536 in
theorem w_alone : about1.alone = true := by decide +kernel
set_option maxRecDepth 65536 in
theorem w_named : about1.methodNamed? x = some theMethod := by decide +kernel
set_option maxRecDepth 65536 in
theorem w_hears : about1.hears theMethod below0 = true := by decide +kernel
set_option maxRecDepth 65536 in
theorem w_ripe : about1.ripe theMethod args0 below0 = true := by decide +kernel
theorem w_running : about1.status = .running := rfl
set_option maxRecDepth 65536 in
theorem w_room : about1.hasRoom e0.platform room_1 = true :=
  launch0.hasRoom_least _ room_1 (by decide +kernel) (by decide +kernel) (by decide +kernel) (by decide +kernel) (by decide +kernel) (by decide +kernel)
theorem allAtoms_all (ts : List Jvm.Cond) (a : Array Jvm.Value) (st : Jvm.State) : (allAtoms ts).before a st = ts.all (fun c => c.before a st) := by
  induction ts with
  | nil => rfl
  | cons c t ih =>
    show (Jvm.Cond.and c (allAtoms t)).before a st = _
    rw [Jvm.Cond.before_and, ih, List.all_cons]
def words1 : List Jvm.Cond := Jvm.Cond.code x code maxLocals ret :: tables_1
/-- a 'code' word, met by the world's own term for the bytes: nothing is compared byte by byte -/
theorem code_word {y : MethodName} {bytes : ByteArray} {mx : Nat} {rt : Option FieldType} {a : Array Value} {s : State} {m : MethodId} {meth : Method} {c : Code} (h1 : s.methodNamed? y = some m) (h2 : s.vm.method? m = some meth) (h3 : meth.code = some c) (h4 : c.code = bytes)
    (h5 : (c.maxLocals == mx && c.exceptionTable.isEmpty && decide (c.maxStack ≤ mostOperands) && decide (meth.sig.returnType = rt) && !meth.locks && decide (parseMethodDescriptor y.desc = some meth.sig)) = true) : (Jvm.Cond.code y bytes mx rt).before a s = true := by
  simp only [Bool.and_eq_true, beq_iff_eq, Bool.not_eq_true', decide_eq_true_eq] at h5
  obtain ⟨⟨⟨⟨⟨g1, g2⟩, g3⟩, g4⟩, g5⟩, g6⟩ := h5
  simp [Cond.before, Cond.holds, Cond.value, h1, h2, h3, h4, g1, g2, g3, g4, g5, g6]
def isCode : Jvm.Cond → Bool
  | .code _ _ _ _ => true
  | _ => false
theorem all_split {L : List Jvm.Cond} {P : Jvm.Cond → Bool} (h1 : L.all (fun c => isCode c || P c) = true) (h2 : ∀ c ∈ L.filter isCode, P c = true) : L.all P = true := by
  refine List.all_eq_true.mpr fun c hc => ?_
  have h := List.all_eq_true.mp h1 c hc
  rcases Bool.eq_false_or_eq_true (isCode c) with hi | hi
  · exact h2 c (List.mem_filter.mpr ⟨hc, hi⟩)
  · simpa [hi] using h
set_option maxRecDepth 65536 in
theorem w_c0 : (Jvm.Cond.code x code maxLocals ret).before args0 about1 = true := code_word (m := ⟨1, 1⟩) (meth := k1m1) (c := k1c1) (by decide +kernel) rfl rfl rfl (by decide +kernel)
set_option maxRecDepth 65536 in
theorem w_c1 : (Jvm.Cond.code ({ cls := "com/example/careful_courier/carefulcourier/store/Layout", name := "rewrittenPrefixes", desc := "(I)[B" } : Jvm.MethodName) prog_44_method_17_code (1 : Nat) (Option.some (Jvm.ClassFile.FieldType.array Jvm.ClassFile.FieldType.byte))).before args0 about1 = true := code_word (m := ⟨2, 1⟩) (meth := k2m1) (c := k2c1) (by decide +kernel) rfl rfl rfl (by decide +kernel)
def codes1 : List Jvm.Cond := [Jvm.Cond.code x code maxLocals ret, Jvm.Cond.code ({ cls := "com/example/careful_courier/carefulcourier/store/Layout", name := "rewrittenPrefixes", desc := "(I)[B" } : Jvm.MethodName) prog_44_method_17_code (1 : Nat) (Option.some (Jvm.ClassFile.FieldType.array Jvm.ClassFile.FieldType.byte))]
set_option maxRecDepth 65536 in
theorem codes_eq : words1.filter isCode = codes1 := rfl
theorem w_codes : ∀ c ∈ words1.filter isCode, c.before args0 about1 = true := by
  rw [codes_eq]
  intro c hc
  simp only [codes1, List.mem_cons, List.not_mem_nil, or_false] at hc
  rcases hc with rfl | rfl
  · exact w_c0
  · exact w_c1
set_option maxRecDepth 65536 in
theorem w_t1 : words1.all (fun c => isCode c || c.before args0 about1) = true := by decide +kernel
theorem w_tables : (allAtoms (Jvm.Cond.code x code maxLocals ret :: tables_1)).before args0 about1 = true := by
  rw [allAtoms_all]
  show words1.all (fun c => c.before args0 about1) = true
  refine all_split ?_ w_codes
  rw [w_t1]
set_option maxRecDepth 65536 in
theorem w_case : (Jvm.Cond.and given_1 narrow_1).before args0 about1 = true := by decide +kernel
theorem w_applies : (headSpec (Jvm.Cond.code x code maxLocals ret :: tables_1) room_1).applies x e0.platform about1 = true :=
  (Spec.applies_iff w_frames).mpr ⟨w_running, w_runnable, w_alone, w_named, w_hears, w_ripe, w_room, w_tables⟩
theorem atStart : AtStart classFile x code maxLocals ret World_1 tables_1 room_1 Calls_1 rest_1 Pre_1 launch0 p0 e0 about1 theMethod args0 below0 :=
  ⟨lists_1, trivial, launch0.admits_env _ _ _, launch0.least_env, fairChoices_fair.cas, fairChoices_fair.clock, w_frames, w_args, w_heap, w_applies, trivial, trivial, w_case⟩
end start1
theorem witness_1 : WitnessClaimed_1 := ⟨start1.p0, start1.e0, start1.about1, start1.theMethod, start1.args0, start1.below0, start1.atStart⟩
end Jvm.Pilot.@@N@@
