import JvmDerived
import JvmDerived.Pilot.@@N@@Statement
import JvmDerived.Pilot.@@N@@Code
set_option linter.unusedVariables false
set_option linter.unusedSimpArgs false
namespace Jvm.Pilot.@@N@@.W
open Jvm Jvm.ClassFile Sem Op Lib Jvm.Free Jvm.Stand Jvm.LawKit Jvm.RoadKit
/-! own kit: a body's walk in one pass, backwards from its end ('Gl': from here the body comes to its end and there P holds) -/
section Walk
variable {p : Program} {l : Launch} {e : Env} {R : Room} {s : State} {m : MethodId} {args : Array Value} {below : List Frame} {meth : Method} {c : Code} {T T' : State} {locs : List Loc} {cells slots : Nat} {P : Option Value → Heap → List Loc → Prop} {C N : Nat} {Ls : Array Slot} {S : List Value} {pc pc' pc'' : Nat} {g : JFrame}
def Gl (p : Program) (e : Env) (below : List Frame) (s : State) (P : Option Value → Heap → List Loc → Prop) (C N : Nat) (T : State) (g : JFrame) : Prop :=
  ∃ (s₂ : State) (o : Outcome), Steps p.tables e below (T.setTop g) s₂ ∧ s₂.status = .running ∧ Ended s₂ below o ∧ ∃ v L, o = .returned v ∧ P v s₂.heap L ∧ FrameEnd s o s₂ L C N
theorem s1 (g' : JFrame) (h : ∀ t, Steps p.tables e below (T.setTop g') t → Steps p.tables e below (T.setTop g) t) (K : Gl p e below s P C N T g') : Gl p e below s P C N T g := by
  obtain ⟨s₂, o, h1, h2⟩ := K; exact ⟨s₂, o, h _ h1, h2⟩
theorem s2 (g' : JFrame) (h : ∀ t, Steps p.tables e below (T'.setTop g') t → Steps p.tables e below (T.setTop g) t) (K : Gl p e below s P C N T' g') : Gl p e below s P C N T g := by
  obtain ⟨s₂, o, h1, h2⟩ := K; exact ⟨s₂, o, h _ h1, h2⟩
theorem s3 (g' : JFrame) (h : Steps p.tables e below (T.setTop g) (T'.setTop g')) (K : Gl p e below s P C N T' g') : Gl p e below s P C N T g := by
  obtain ⟨s₂, o, h1, h2⟩ := K; exact ⟨s₂, o, h.trans h1, h2⟩
theorem cast {g' : JFrame} (q : g = g') (K : Gl p e below s P C N T g') : Gl p e below s P C N T g := q ▸ K
theorem fin (X : Stand p l e R s m args below meth c T locs cells slots) {v : Option Value} (hv : meth.sig.returnType = none → v = none) (hlk : meth.locks = false)
    (hs : ∀ fs, (∀ (f : JFrame) (acts : List Action), f.method = m → f.locked = none → f.entered = [] → (doReturn e (T.setTop f) acts v).1 = T.setFrames fs) → Steps p.tables e below (T.setTop g) (T.setFrames fs))
    (hP : P v T.heap locs) (hC : cells ≤ C) (hN : slots ≤ N) : Gl p e below s P C N T g := by
  obtain ⟨fs, hr, hrun, hended, hW, hsame⟩ := X.leave hv hlk
  exact ⟨_, _, hs fs hr, hrun, hended, _, _, rfl, hP, ⟨_, rfl⟩, hW, hsame.mono hC hN⟩
theorem retZ (X : Stand p l e R s m args below meth c T locs cells slots) (hx : p.tables.exec = Jvm.exec) (hlk : meth.locks = false) {z z' : Int32} {t : FieldType} (hret : meth.sig.returnType = some t) (ht : t = .boolean ∨ t = .byte ∨ t = .char ∨ t = .short)
    (hd : decode c.code pc = .ok (.ireturn, 1)) (hz : nar t z = z') (hP : P (some (.int z')) T.heap locs) (hC : cells ≤ C) (hN : slots ≤ N) : Gl p e below s P C N T (mkF m pc Ls (.int z :: S)) :=
  fin X (v := some (.int z')) (fun h => by rw [hret] at h; cases h) hlk (fun fs hr => by subst hz; exact RoadKit.retN X hx hret ht hd hr) hP hC hN
theorem retI (X : Stand p l e R s m args below meth c T locs cells slots) (hx : p.tables.exec = Jvm.exec) (hlk : meth.locks = false) {z : Int32} (hret : meth.sig.returnType = some .int)
    (hd : decode c.code pc = .ok (.ireturn, 1)) (hP : P (some (.int z)) T.heap locs) (hC : cells ≤ C) (hN : slots ≤ N) : Gl p e below s P C N T (mkF m pc Ls (.int z :: S)) :=
  fin X (v := some (.int z)) (fun h => by rw [hret] at h; cases h) hlk (fun fs hr => retOut X hx hret rfl (Or.inl ⟨rfl, Or.inl rfl, _, rfl⟩) hd hr) hP hC hN
theorem retL (X : Stand p l e R s m args below meth c T locs cells slots) (hx : p.tables.exec = Jvm.exec) (hlk : meth.locks = false) {z : Int64} (hret : meth.sig.returnType = some .long)
    (hd : decode c.code pc = .ok (.lreturn, 1)) (hP : P (some (.long z)) T.heap locs) (hC : cells ≤ C) (hN : slots ≤ N) : Gl p e below s P C N T (mkF m pc Ls (.long z :: S)) :=
  fin X (v := some (.long z)) (fun h => by rw [hret] at h; cases h) hlk (fun fs hr => retOut X hx hret rfl (Or.inr (Or.inl ⟨rfl, rfl, _, rfl⟩)) hd hr) hP hC hN
theorem retA (X : Stand p l e R s m args below meth c T locs cells slots) (hx : p.tables.exec = Jvm.exec) (hlk : meth.locks = false) {w : Value} {t : FieldType} (hret : meth.sig.returnType = some t) (ht : t.isReference = true) (hw : w.isRef = true) (hn : narrow t w = w)
    (hd : decode c.code pc = .ok (.areturn, 1)) (hP : P (some w) T.heap locs) (hC : cells ≤ C) (hN : slots ≤ N) : Gl p e below s P C N T (mkF m pc Ls (w :: S)) :=
  fin X (v := some w) (fun h => by rw [hret] at h; cases h) hlk (fun fs hr => retOut X hx hret hn (Or.inr (Or.inr (Or.inr (Or.inr ⟨rfl, ht, hw⟩)))) hd hr) hP hC hN
theorem ret0 (X : Stand p l e R s m args below meth c T locs cells slots) (hx : p.tables.exec = Jvm.exec) (hlk : meth.locks = false) (hret : meth.sig.returnType = none)
    (hd : decode c.code pc = .ok (.return_, 1)) (hP : P none T.heap locs) (hC : cells ≤ C) (hN : slots ≤ N) : Gl p e below s P C N T (mkF m pc Ls []) :=
  fin X (v := none) (fun _ => rfl) hlk (fun fs hr => X.returnOut hx hret hd hr) hP hC hN
/-! the branches -/
def cY : ClassFile.Cond → Int32 → Int32 → Prop
  | .eq, x, y => x = y
  | .ne, x, y => ¬ x = y
  | .lt, x, y => x < y
  | .ge, x, y => ¬ x < y
  | .gt, x, y => y < x
  | .le, x, y => ¬ y < x
def cN : ClassFile.Cond → Int32 → Int32 → Prop
  | .eq, x, y => ¬ x = y
  | .ne, x, y => x = y
  | .lt, x, y => ¬ x < y
  | .ge, x, y => x < y
  | .gt, x, y => ¬ y < x
  | .le, x, y => y < x
theorem cOr (cd : ClassFile.Cond) (x y : Int32) : (cY cd x y ∧ if_icmp.holds cd x y = true) ∨ (cN cd x y ∧ if_icmp.holds cd x y = false) := by
  cases cd with
  | eq => by_cases h : x = y; exact Or.inl ⟨h, (teq h).1⟩; exact Or.inr ⟨h, (feq h).1⟩
  | ne => by_cases h : x = y; exact Or.inr ⟨h, (teq h).2⟩; exact Or.inl ⟨h, (feq h).2⟩
  | lt => by_cases h : x < y; exact Or.inl ⟨h, (tlt h).1⟩; exact Or.inr ⟨h, (flt h).1⟩
  | ge => by_cases h : x < y; exact Or.inr ⟨h, (tlt h).2.1⟩; exact Or.inl ⟨h, (flt h).2.1⟩
  | gt => by_cases h : y < x; exact Or.inl ⟨h, (tlt h).2.2.1⟩; exact Or.inr ⟨h, (flt h).2.2.1⟩
  | le => by_cases h : y < x; exact Or.inr ⟨h, (tlt h).2.2.2⟩; exact Or.inl ⟨h, (flt h).2.2.2⟩
def lY : ClassFile.Cond → Int64 → Int64 → Prop
  | .eq, x, y => x = y
  | .ne, x, y => ¬ x = y
  | .lt, x, y => x < y
  | .ge, x, y => ¬ x < y
  | .gt, x, y => y < x
  | .le, x, y => ¬ y < x
def lN : ClassFile.Cond → Int64 → Int64 → Prop
  | .eq, x, y => ¬ x = y
  | .ne, x, y => x = y
  | .lt, x, y => ¬ x < y
  | .ge, x, y => x < y
  | .gt, x, y => ¬ y < x
  | .le, x, y => y < x
theorem lYc {cd : ClassFile.Cond} {x y : Int64} (h : cY cd (lcmpW x y) 0) : lY cd x y := by
  rw [lcW] at h
  cases cd with
  | eq => exact (lc_eq x y).mp h
  | ne => exact fun q => h ((lc_eq x y).mpr q)
  | lt => exact (lc_lt x y).mp h
  | ge => exact fun q => h ((lc_lt x y).mpr q)
  | gt => exact (lc_gt x y).mp h
  | le => exact fun q => h ((lc_gt x y).mpr q)
theorem lNc {cd : ClassFile.Cond} {x y : Int64} (h : cN cd (lcmpW x y) 0) : lN cd x y := by
  rw [lcW] at h
  cases cd with
  | eq => exact fun q => h ((lc_eq x y).mpr q)
  | ne => exact (lc_eq x y).mp h
  | lt => exact fun q => h ((lc_lt x y).mpr q)
  | ge => exact (lc_lt x y).mp h
  | gt => exact fun q => h ((lc_gt x y).mpr q)
  | le => exact (lc_gt x y).mp h
theorem icmp (X : Stand p l e R s m args below meth c T locs cells slots) (hx : p.tables.exec = Jvm.exec) {cd : ClassFile.Cond} {x y : Int32} {o : Int} (hd : decode c.code pc = .ok (.if_icmp cd o, 3)) (ho : 0 ≤ (pc : Int) + o) (hp : ((pc : Int) + o).toNat = pc') (hq : pc + 3 = pc'')
    (ky : cY cd x y → Gl p e below s P C N T (mkF m pc' Ls S)) (kn : cN cd x y → Gl p e below s P C N T (mkF m pc'' Ls S)) : Gl p e below s P C N T (mkF m pc Ls (.int y :: .int x :: S)) := by
  subst hq
  rcases cOr cd x y with ⟨h1, h2⟩ | ⟨h1, h2⟩
  · exact s1 _ (fun t k => XS.icmpYes X.here hx rfl (pc0 := pc) (pc' := pc') rfl hd rfl h2 ho hp k) (ky h1)
  · exact s1 _ (fun t k => XS.icmpNo X.here hx rfl hd rfl h2 k) (kn h1)
theorem ifc (X : Stand p l e R s m args below meth c T locs cells slots) (hx : p.tables.exec = Jvm.exec) {cd : ClassFile.Cond} {x : Int32} {o : Int} (hd : decode c.code pc = .ok (.ifCond cd o, 3)) (ho : 0 ≤ (pc : Int) + o) (hp : ((pc : Int) + o).toNat = pc') (hq : pc + 3 = pc'')
    (ky : cY cd x 0 → Gl p e below s P C N T (mkF m pc' Ls S)) (kn : cN cd x 0 → Gl p e below s P C N T (mkF m pc'' Ls S)) : Gl p e below s P C N T (mkF m pc Ls (.int x :: S)) := by
  subst hq
  rcases cOr cd x 0 with ⟨h1, h2⟩ | ⟨h1, h2⟩
  · exact s1 _ (fun t k => XS.ifYes X.here hx rfl (pc0 := pc) (pc' := pc') rfl hd rfl ((if0 _ _).trans h2) ho hp k) (ky h1)
  · exact s1 _ (fun t k => XS.ifNo X.here hx rfl hd rfl ((if0 _ _).trans h2) k) (kn h1)
theorem lif (X : Stand p l e R s m args below meth c T locs cells slots) (hx : p.tables.exec = Jvm.exec) {cd : ClassFile.Cond} {x y : Int64} {o : Int} (hd1 : decode c.code pc = .ok (.lcmp, 1)) {pc1 : Nat} (h1 : pc + 1 = pc1) (hd : decode c.code pc1 = .ok (.ifCond cd o, 3)) (ho : 0 ≤ (pc1 : Int) + o) (hp : ((pc1 : Int) + o).toNat = pc') (hq : pc1 + 3 = pc'')
    (ky : lY cd x y → Gl p e below s P C N T (mkF m pc' Ls S)) (kn : lN cd x y → Gl p e below s P C N T (mkF m pc'' Ls S)) : Gl p e below s P C N T (mkF m pc Ls (.long y :: .long x :: S)) := by
  subst h1
  exact s1 (mkF m (pc + 1) Ls (.int (lcmpW x y) :: S)) (fun t k => XS.lcmp X.here hx rfl hd1 rfl k) (ifc X hx hd ho hp hq (fun h => ky (lYc h)) (fun h => kn (lNc h)))
end Walk
/-! arrays of ints and of longs, by what each place holds -/
section Arrays
variable {Z : State} {h h' : Heap} {a b : Addr} {ty : FieldType} {n : Nat} {f : Nat → Int32} {q : Nat → Int64}
def up {α : Type} (f : Nat → α) (j : Nat) (v : α) : Nat → α := fun k => if k = j then v else f k
theorem up_same {α : Type} (f : Nat → α) (j : Nat) (v : α) : up f j v j = v := if_pos rfl
theorem up_other {α : Type} (f : Nat → α) {j k : Nat} (v : α) (h : ¬ k = j) : up f j v k = f k := if_neg h
def AI (Z : State) (h : Heap) (a : Addr) (ty : FieldType) (n : Nat) (f : Nat → Int32) : Prop := ∃ c : Cell, Arr Z h a c ty ∧ c.slots.size = n ∧ ∀ k, k < n → c.slots[k]? = some (.int (f k))
def AJ (Z : State) (h : Heap) (a : Addr) (n : Nat) (f : Nat → Int64) : Prop := ∃ c : Cell, Arr Z h a c .long ∧ c.slots.size = n ∧ ∀ k, k < n → c.slots[k]? = some (.long (f k))
theorem AI.lt (F : AI Z h a ty n f) : a < h.size := by obtain ⟨c, A, -⟩ := F; exact A.lt
theorem AJ.lt (F : AJ Z h a n q) : a < h.size := by obtain ⟨c, A, -⟩ := F; exact A.lt
theorem AI.ext (F : AI Z h a ty n f) (E : Ext h h') : AI Z h' a ty n f := by obtain ⟨c, A, r⟩ := F; exact ⟨c, A.ext E, r⟩
theorem AJ.ext (F : AJ Z h a n q) (E : Ext h h') : AJ Z h' a n q := by obtain ⟨c, A, r⟩ := F; exact ⟨c, A.ext E, r⟩
theorem AI.other {sl : Nat} {v : Value} (F : AI Z h b ty n f) (W : Wr h h' a sl v) (e : b ≠ a) : AI Z h' b ty n f := by obtain ⟨c, A, r⟩ := F; exact ⟨c, A.other W e, r⟩
theorem AJ.other {sl : Nat} {v : Value} (F : AJ Z h b n q) (W : Wr h h' a sl v) (e : b ≠ a) : AJ Z h' b n q := by obtain ⟨c, A, r⟩ := F; exact ⟨c, A.other W e, r⟩
theorem AI.keep {ws : List Addr} (F : AI Z h a ty n f) (K : Keep h h' ws) (e : a ∉ ws) : AI Z h' a ty n f := by obtain ⟨c, A, r⟩ := F; exact ⟨c, ⟨K.2.1 a c A.1 e, A.2⟩, r⟩
theorem AJ.keep {ws : List Addr} (F : AJ Z h a n q) (K : Keep h h' ws) (e : a ∉ ws) : AJ Z h' a n q := by obtain ⟨c, A, r⟩ := F; exact ⟨c, ⟨K.2.1 a c A.1 e, A.2⟩, r⟩
theorem slots_set {c : Cell} {j k : Nat} {v : Value} (hj : j < c.slots.size) : (c.setSlot j v).slots[k]? = if k = j then some v else c.slots[k]? := by
  by_cases e : k = j
  · subst e; simp [Cell.setSlot, hj]
  · simp only [Cell.setSlot, if_neg e]; exact Array.getElem?_setIfInBounds_ne (Ne.symm e)
theorem AI.set {j : Nat} {v : Int32} (F : AI Z h a ty n f) (W : Wr h h' a j (.int v)) (hj : j < n) : AI Z h' a ty n (up f j v) := by
  obtain ⟨c, A, r1, r2⟩ := F
  refine ⟨_, A.same W, by rw [sz_set]; exact r1, fun k hk => ?_⟩
  rw [slots_set (by omega)]
  by_cases e : k = j
  · rw [if_pos e, e, up_same]
  · rw [if_neg e, up_other _ _ e]; exact r2 k hk
theorem AJ.set {j : Nat} {v : Int64} (F : AJ Z h a n q) (W : Wr h h' a j (.long v)) (hj : j < n) : AJ Z h' a n (up q j v) := by
  obtain ⟨c, A, r1, r2⟩ := F
  refine ⟨_, A.same W, by rw [sz_set]; exact r1, fun k hk => ?_⟩
  rw [slots_set (by omega)]
  by_cases e : k = j
  · rw [if_pos e, e, up_same]
  · rw [if_neg e, up_other _ _ e]; exact r2 k hk
theorem clamp {z : Int32} (hz : z.toInt = n) : z.toNatClampNeg = n := by simp only [Int32.toNatClampNeg]; omega
theorem AI.new {k : ClassId} {z : Int32} (A : Arr Z h a (newA k ty z) ty) (hz : z.toInt = n) (hd : defaultValue ty = .int 0) : AI Z h a ty n (fun _ => 0) :=
  ⟨_, A, by rw [sz_new]; exact clamp hz, fun i hi => by rw [← clamp hz] at hi; simp [newA, hi, hd]⟩
theorem AJ.new {k : ClassId} {z : Int32} (A : Arr Z h a (newA k .long z) .long) (hz : z.toInt = n) : AJ Z h a n (fun _ => 0) :=
  ⟨_, A, by rw [sz_new]; exact clamp hz, fun i hi => by rw [← clamp hz] at hi; simp [newA, hi, defaultValue]⟩
theorem AI.congr {f' : Nat → Int32} (F : AI Z h a ty n f) (e : ∀ k, k < n → f' k = f k) : AI Z h a ty n f' := by obtain ⟨c, A, r1, r2⟩ := F; exact ⟨c, A, r1, fun k hk => by rw [e k hk]; exact r2 k hk⟩
theorem AJ.congr {f' : Nat → Int64} (F : AJ Z h a n q) (e : ∀ k, k < n → f' k = q k) : AJ Z h a n f' := by obtain ⟨c, A, r1, r2⟩ := F; exact ⟨c, A, r1, fun k hk => by rw [e k hk]; exact r2 k hk⟩
theorem inb {j : Int32} {k sz : Nat} (hj : j.toInt = k) (hk : k < sz) : ¬ (j < 0 ∨ sz ≤ j.toNatClampNeg) := by
  rw [clamp hj, Int32.lt_iff_toInt_lt, hj, show (0 : Int32).toInt = 0 from rfl]; omega
theorem szI {z : Int32} (hz : z.toInt = n) : Nat.toInt32 n = z := by
  rw [← Int32.toInt_inj, len_toInt (by have := z.toInt_lt; omega), hz]
end Arrays
section Steps
variable {p : Program} {l : Launch} {e : Env} {R : Room} {s : State} {m : MethodId} {args : Array Value} {below : List Frame} {meth : Method} {c : Code} {T T' : State} {locs : List Loc} {cells slots : Nat} {P : Option Value → Heap → List Loc → Prop} {C N : Nat} {Ls : Array Slot} {S : List Value} {pc pc' : Nat} {Z : State} {h : Heap} {a : Addr} {n n0 : Nat} {f : Nat → Int32} {q : Nat → Int64} {a0 : Array Value} {ty : FieldType}
theorem getf (X : Stand p l e R s m args below meth c T locs cells slots) (hx : p.tables.exec = Jvm.exec) (hZ : Z.Warmed39 s.vm) {own R0 O n d host : String} {index : Nat} (hown : s.vm.findClass own = some m.cls) (w : (Cond.fieldLink own index R0 n d).before a0 Z = true ∨ (Cond.fieldLinkNest own index R0 n d host).before a0 Z = true) (via : Via Z R0 O n d)
    (eT : T.heap = h) {v : Value} (F : Fld Z h a O n d v) (hd : decode c.code pc = .ok (.getfield index, 3)) (hq : pc + 3 = pc') (K : ∀ T', Stand p l e R s m args below meth c T' locs cells slots → T'.heap = h → Gl p e below s P C N T' (mkF m pc' Ls (v :: S))) : Gl p e below s P C N T (mkF m pc Ls (.ref a :: S)) := by
  subst hq
  obtain ⟨T', X', e', st⟩ := getF X hx hZ hown w via eT F (g := mkF m pc Ls (.ref a :: S)) rfl rfl hd
  exact s2 _ st (K T' X' e')
theorem gets (X : Stand p l e R s m args below meth c T locs cells slots) (hx : p.tables.exec = Jvm.exec) (hZ : Z.Warmed39 s.vm) {own R0 O n d host : String} {index : Nat} (hown : s.vm.findClass own = some m.cls) (w : (Cond.fieldLink own index R0 n d).before a0 Z = true ∨ (Cond.fieldLinkNest own index R0 n d host).before a0 Z = true) (via : Via Z R0 O n d)
    (eT : T.heap = h) {v : Value} (F : Sta Z h O n d v) (hd : decode c.code pc = .ok (.getstatic index, 3)) (hq : pc + 3 = pc') (K : ∀ T', Stand p l e R s m args below meth c T' locs cells slots → T'.heap = h → Gl p e below s P C N T' (mkF m pc' Ls (v :: S))) : Gl p e below s P C N T (mkF m pc Ls S) := by
  subst hq
  obtain ⟨T', X', e', st⟩ := getS2 X hx hZ hown w via eT F (g := mkF m pc Ls S) rfl hd
  exact s2 _ st (K T' X' e')
theorem putf (X : Stand p l e R s m args below meth c T locs cells slots) (hx : p.tables.exec = Jvm.exec) (hZ : Z.Warmed39 s.vm) {own R0 O n d host Cl : String} {index kk : Nat} (hown : s.vm.findClass own = some m.cls) (w : (Cond.fieldLink own index R0 n d).before a0 Z = true ∨ (Cond.fieldLinkNest own index R0 n d host).before a0 Z = true) (via : Via Z R0 O n d)
    (eT : T.heap = h) {v old : Value} (F : Fld Z h a O n d old) (E : Exa Z h a Cl) (L : (Cond.lays Cl O n d).before a0 Z = true ∨ ((Cond.laysFinal Cl O n d).before a0 Z = true ∧ own = O ∧ meth.name = "<init>")) (wi : (Cond.instantiable Cl kk).before a0 Z = true)
    (hty : parseFieldDescriptor d = some ty) (hn : narrow ty v = v) (hf : fits ty v = true) (N0 : Fr n0 locs) (ga : n0 ≤ a) (hd : decode c.code pc = .ok (.putfield index, 3)) (hq : pc + 3 = pc')
    (K : ∀ T' h' L', Stand p l e R s m args below meth c T' L' cells slots → T'.heap = h' → Wr h h' a (RoadKit.slotOf Z O n d) v → Fld Z h' a O n d v → Fr n0 L' → Gl p e below s P C N T' (mkF m pc' Ls S)) : Gl p e below s P C N T (mkF m pc Ls (v :: .ref a :: S)) := by
  subst hq
  obtain ⟨T', h', X', e', W, st⟩ := putF X hx hZ hown w via eT F E L wi hty hn hf (g := mkF m pc Ls (v :: .ref a :: S)) rfl rfl hd
  exact s2 _ st (K T' h' _ X' e' W (F.same W) (Fr.snoc X' N0 ga))
theorem newo (X : Stand p l e R s m args below meth c T locs cells slots) (hx : p.tables.exec = Jvm.exec) (hZ : Z.Warmed39 s.vm) {own Cl : String} {index n : Nat} (hown : s.vm.findClass own = some m.cls) (w : (Cond.classLink own index Cl).before a0 Z = true) (wi : (Cond.instantiable Cl n).before a0 Z = true) (wz : (Cond.initialized Cl).before a0 Z = true) (eT : T.heap = h)
    (hd : decode c.code pc = .ok (.new index, 3)) (hc : cells + 1 ≤ R.cells) (hl : slots + n ≤ R.slots) (hq : pc + 3 = pc')
    (K : ∀ T' h' a, Stand p l e R s m args below meth c T' locs (cells + 1) (slots + n) → T'.heap = h' → Ext h h' → a = h.size → Exa Z h' a Cl → (∀ {O nm d : String} {ty : FieldType}, Laid Z a0 Cl O nm d → parseFieldDescriptor d = some ty → Fld Z h' a O nm d (defaultValue ty)) → Gl p e below s P C N T' (mkF m pc' Ls (.ref a :: S))) : Gl p e below s P C N T (mkF m pc Ls S) := by
  subst hq
  obtain ⟨T', h', X', e', E, A, D, -, st⟩ := newO X hx hZ hown w wi wz eT (g := mkF m pc Ls S) rfl hd hc hl
  exact s2 _ st (K T' h' _ X' e' E rfl A D)
theorem newi (X : Stand p l e R s m args below meth c T locs cells slots) (hx : p.tables.exec = Jvm.exec) (hZ : Z.Warmed39 s.vm) {aty : ArrayType} (w : (Cond.arrayClass ty).before a0 Z = true) (hty : newarray.typeOf aty = ty) (hdv : defaultValue ty = .int 0) (eT : T.heap = h) {z : Int32} (hd : decode c.code pc = .ok (.newarray aty, 2)) (hz : z.toInt = n) {cap : Nat} (hcap : n ≤ cap) (hb : cap * 8 ≤ 536870912) (hc : cells + 1 ≤ R.cells) (hl : slots + cap ≤ R.slots) (hq : pc + 2 = pc')
    (K : ∀ T' h' a, Stand p l e R s m args below meth c T' locs (cells + 1) (slots + cap) → T'.heap = h' → Ext h h' → a = h.size → AI Z h' a ty n (fun _ => 0) → Gl p e below s P C N T' (mkF m pc' Ls (.ref a :: S))) : Gl p e below s P C N T (mkF m pc Ls (.int z :: S)) := by
  subst hq hty
  obtain ⟨T', h', k, X', e', E, A, st⟩ := newP X hx hZ w eT (g := mkF m pc Ls (.int z :: S)) rfl hd rfl (by rw [Int32.lt_iff_toInt_lt, hz, show (0 : Int32).toInt = 0 from rfl]; omega) (cap := cap) (by rw [clamp hz]; exact hcap) hb hc hl
  exact s2 _ st (K T' h' _ X' e' E rfl (AI.new A hz hdv))
theorem newj (X : Stand p l e R s m args below meth c T locs cells slots) (hx : p.tables.exec = Jvm.exec) (hZ : Z.Warmed39 s.vm) (w : (Cond.arrayClass .long).before a0 Z = true) (eT : T.heap = h) {z : Int32} (hd : decode c.code pc = .ok (.newarray .long, 2)) (hz : z.toInt = n) {cap : Nat} (hcap : n ≤ cap) (hb : cap * 8 ≤ 536870912) (hc : cells + 1 ≤ R.cells) (hl : slots + cap ≤ R.slots) (hq : pc + 2 = pc')
    (K : ∀ T' h' a, Stand p l e R s m args below meth c T' locs (cells + 1) (slots + cap) → T'.heap = h' → Ext h h' → a = h.size → AJ Z h' a n (fun _ => 0) → Gl p e below s P C N T' (mkF m pc' Ls (.ref a :: S))) : Gl p e below s P C N T (mkF m pc Ls (.int z :: S)) := by
  subst hq
  obtain ⟨T', h', k, X', e', E, A, st⟩ := newP X hx hZ (aty := .long) w eT (g := mkF m pc Ls (.int z :: S)) rfl hd rfl (by rw [Int32.lt_iff_toInt_lt, hz, show (0 : Int32).toInt = 0 from rfl]; omega) (cap := cap) (by rw [clamp hz]; exact hcap) hb hc hl
  exact s2 _ st (K T' h' _ X' e' E rfl (AJ.new A hz))
theorem ldi (X : Stand p l e R s m args below meth c T locs cells slots) (hx : p.tables.exec = Jvm.exec) (hZ : Z.Warmed39 s.vm) (eT : T.heap = h) (F : AI Z h a .int n f) {j : Int32} (k : Nat) (hj : j.toInt = k) (hk : k < n) (hd : decode c.code pc = .ok (.iaload, 1)) (hq : pc + 1 = pc')
    (K : Gl p e below s P C N T (mkF m pc' Ls (.int (f k) :: S))) : Gl p e below s P C N T (mkF m pc Ls (.int j :: .ref a :: S)) := by
  subst hq
  obtain ⟨cl, A, r1, r2⟩ := F
  exact s1 _ (fun t q => X.iaload hx (v := .int (f k)) (by rw [eT]; exact A.1) (State.isArrayOf_alike hZ.alike A.2.1) A.2.2 (inb hj (by omega)) (by rw [clamp hj]; exact r2 k hk) (g := mkF m pc Ls (.int j :: .ref a :: S)) rfl rfl hd t q) K
theorem ldz (X : Stand p l e R s m args below meth c T locs cells slots) (hx : p.tables.exec = Jvm.exec) (hZ : Z.Warmed39 s.vm) (eT : T.heap = h) (F : AI Z h a .boolean n f) {j : Int32} (k : Nat) (hj : j.toInt = k) (hk : k < n) (hd : decode c.code pc = .ok (.baload, 1)) (hq : pc + 1 = pc')
    (K : Gl p e below s P C N T (mkF m pc' Ls (.int (f k) :: S))) : Gl p e below s P C N T (mkF m pc Ls (.int j :: .ref a :: S)) := by
  subst hq
  obtain ⟨cl, A, r1, r2⟩ := F
  exact s1 _ (fun t q => X.baloadBooleans hx (v := .int (f k)) (by rw [eT]; exact A.1) (State.isArrayOf_alike hZ.alike A.2.1) A.2.2 (inb hj (by omega)) (by rw [clamp hj]; exact r2 k hk) (g := mkF m pc Ls (.int j :: .ref a :: S)) rfl rfl hd t q) K
theorem ldb (X : Stand p l e R s m args below meth c T locs cells slots) (hx : p.tables.exec = Jvm.exec) (hZ : Z.Warmed39 s.vm) (eT : T.heap = h) (F : AI Z h a .byte n f) {j : Int32} (k : Nat) (hj : j.toInt = k) (hk : k < n) (hd : decode c.code pc = .ok (.baload, 1)) (hq : pc + 1 = pc')
    (K : Gl p e below s P C N T (mkF m pc' Ls (.int (f k) :: S))) : Gl p e below s P C N T (mkF m pc Ls (.int j :: .ref a :: S)) := by
  subst hq
  obtain ⟨cl, A, r1, r2⟩ := F
  exact s1 _ (fun t q => X.baloadBytes hx (v := .int (f k)) (by rw [eT]; exact A.1) (State.isArrayOf_alike hZ.alike A.2.1) A.2.2 (inb hj (by omega)) (by rw [clamp hj]; exact r2 k hk) (g := mkF m pc Ls (.int j :: .ref a :: S)) rfl rfl hd t q) K
theorem ldj (X : Stand p l e R s m args below meth c T locs cells slots) (hx : p.tables.exec = Jvm.exec) (hZ : Z.Warmed39 s.vm) (eT : T.heap = h) (F : AJ Z h a n q) {j : Int32} (k : Nat) (hj : j.toInt = k) (hk : k < n) (hd : decode c.code pc = .ok (.laload, 1)) (hq : pc + 1 = pc')
    (K : Gl p e below s P C N T (mkF m pc' Ls (.long (q k) :: S))) : Gl p e below s P C N T (mkF m pc Ls (.int j :: .ref a :: S)) := by
  subst hq
  obtain ⟨cl, A, r1, r2⟩ := F
  exact s1 _ (fun t u => X.laload hx (v := .long (q k)) (by rw [eT]; exact A.1) (State.isArrayOf_alike hZ.alike A.2.1) A.2.2 (inb hj (by omega)) (by rw [clamp hj]; exact r2 k hk) (g := mkF m pc Ls (.int j :: .ref a :: S)) rfl rfl hd t u) K
theorem alen (X : Stand p l e R s m args below meth c T locs cells slots) (hx : p.tables.exec = Jvm.exec) (hZ : Z.Warmed39 s.vm) (eT : T.heap = h) (F : AI Z h a ty n f) {z : Int32} (hz : z.toInt = n) (hd : decode c.code pc = .ok (.arraylength, 1)) (hq : pc + 1 = pc')
    (K : Gl p e below s P C N T (mkF m pc' Ls (.int z :: S))) : Gl p e below s P C N T (mkF m pc Ls (.ref a :: S)) := by
  subst hq
  obtain ⟨cl, A, r1, r2⟩ := F
  exact s1 _ (fun t u => X.arraylength hx (by rw [eT]; exact A.1) (State.isArrayOf_alike hZ.alike A.2.1) (g := mkF m pc Ls (.ref a :: S)) rfl rfl hd t (by rw [r1, szI hz]; exact u)) K
theorem alenJ (X : Stand p l e R s m args below meth c T locs cells slots) (hx : p.tables.exec = Jvm.exec) (hZ : Z.Warmed39 s.vm) (eT : T.heap = h) (F : AJ Z h a n q) {z : Int32} (hz : z.toInt = n) (hd : decode c.code pc = .ok (.arraylength, 1)) (hq : pc + 1 = pc')
    (K : Gl p e below s P C N T (mkF m pc' Ls (.int z :: S))) : Gl p e below s P C N T (mkF m pc Ls (.ref a :: S)) := by
  subst hq
  obtain ⟨cl, A, r1, r2⟩ := F
  exact s1 _ (fun t u => X.arraylength hx (by rw [eT]; exact A.1) (State.isArrayOf_alike hZ.alike A.2.1) (g := mkF m pc Ls (.ref a :: S)) rfl rfl hd t (by rw [r1, szI hz]; exact u)) K
theorem sti (X : Stand p l e R s m args below meth c T locs cells slots) (hx : p.tables.exec = Jvm.exec) (hZ : Z.Warmed39 s.vm) (eT : T.heap = h) (F : AI Z h a .int n f) {j x : Int32} (k : Nat) (hj : j.toInt = k) (hk : k < n) (N0 : Fr n0 locs) (ga : n0 ≤ a) (hd : decode c.code pc = .ok (.iastore, 1)) (hq : pc + 1 = pc')
    (K : ∀ T' h' L', Stand p l e R s m args below meth c T' L' cells slots → T'.heap = h' → Wr h h' a k (.int x) → AI Z h' a .int n (up f k x) → Fr n0 L' → Gl p e below s P C N T' (mkF m pc' Ls S)) : Gl p e below s P C N T (mkF m pc Ls (.int x :: .int j :: .ref a :: S)) := by
  subst hq
  obtain ⟨cl, A, r1, r2⟩ := F
  obtain ⟨T', h', X', e', W, st⟩ := stI X hx hZ eT A (inb hj (by omega)) (g := mkF m pc Ls (.int x :: .int j :: .ref a :: S)) rfl rfl hd
  have N1 := Fr.snoc X' N0 ga
  rw [clamp hj] at W
  exact s2 _ st (K T' h' _ X' e' W (AI.set ⟨cl, A, r1, r2⟩ W hk) N1)
theorem stz (X : Stand p l e R s m args below meth c T locs cells slots) (hx : p.tables.exec = Jvm.exec) (hZ : Z.Warmed39 s.vm) (eT : T.heap = h) (F : AI Z h a .boolean n f) {j x x' : Int32} (hn : nar .boolean x = x') (k : Nat) (hj : j.toInt = k) (hk : k < n) (N0 : Fr n0 locs) (ga : n0 ≤ a) (hd : decode c.code pc = .ok (.bastore, 1)) (hq : pc + 1 = pc')
    (K : ∀ T' h' L', Stand p l e R s m args below meth c T' L' cells slots → T'.heap = h' → Wr h h' a k (.int x') → AI Z h' a .boolean n (up f k x') → Fr n0 L' → Gl p e below s P C N T' (mkF m pc' Ls S)) : Gl p e below s P C N T (mkF m pc Ls (.int x :: .int j :: .ref a :: S)) := by
  subst hq hn
  obtain ⟨cl, A, r1, r2⟩ := F
  obtain ⟨T', h', X', e', W, st⟩ := stZ X hx hZ eT A (inb hj (by omega)) (g := mkF m pc Ls (.int x :: .int j :: .ref a :: S)) rfl rfl hd
  have N1 := Fr.snoc X' N0 ga
  rw [clamp hj] at W
  exact s2 _ st (K T' h' _ X' e' W (AI.set ⟨cl, A, r1, r2⟩ W hk) N1)
theorem stb (X : Stand p l e R s m args below meth c T locs cells slots) (hx : p.tables.exec = Jvm.exec) (hZ : Z.Warmed39 s.vm) (eT : T.heap = h) (F : AI Z h a .byte n f) {j x x' : Int32} (hn : nar .byte x = x') (k : Nat) (hj : j.toInt = k) (hk : k < n) (N0 : Fr n0 locs) (ga : n0 ≤ a) (hd : decode c.code pc = .ok (.bastore, 1)) (hq : pc + 1 = pc')
    (K : ∀ T' h' L', Stand p l e R s m args below meth c T' L' cells slots → T'.heap = h' → Wr h h' a k (.int x') → AI Z h' a .byte n (up f k x') → Fr n0 L' → Gl p e below s P C N T' (mkF m pc' Ls S)) : Gl p e below s P C N T (mkF m pc Ls (.int x :: .int j :: .ref a :: S)) := by
  subst hq hn
  obtain ⟨cl, A, r1, r2⟩ := F
  obtain ⟨T', h', X', e', W, st⟩ := stB X hx hZ eT A (inb hj (by omega)) (g := mkF m pc Ls (.int x :: .int j :: .ref a :: S)) rfl rfl hd
  have N1 := Fr.snoc X' N0 ga
  rw [clamp hj] at W
  exact s2 _ st (K T' h' _ X' e' W (AI.set ⟨cl, A, r1, r2⟩ W hk) N1)
theorem stj (X : Stand p l e R s m args below meth c T locs cells slots) (hx : p.tables.exec = Jvm.exec) (hZ : Z.Warmed39 s.vm) (eT : T.heap = h) (F : AJ Z h a n q) {j : Int32} {x : Int64} (k : Nat) (hj : j.toInt = k) (hk : k < n) (N0 : Fr n0 locs) (ga : n0 ≤ a) (hd : decode c.code pc = .ok (.lastore, 1)) (hq : pc + 1 = pc')
    (K : ∀ T' h' L', Stand p l e R s m args below meth c T' L' cells slots → T'.heap = h' → Wr h h' a k (.long x) → AJ Z h' a n (up q k x) → Fr n0 L' → Gl p e below s P C N T' (mkF m pc' Ls S)) : Gl p e below s P C N T (mkF m pc Ls (.long x :: .int j :: .ref a :: S)) := by
  subst hq
  obtain ⟨cl, A, r1, r2⟩ := F
  obtain ⟨T', h', X', e', W, st⟩ := stJ X hx hZ eT A (inb hj (by omega)) (g := mkF m pc Ls (.long x :: .int j :: .ref a :: S)) rfl rfl hd
  have N1 := Fr.snoc X' N0 ga
  rw [clamp hj] at W
  exact s2 _ st (K T' h' _ X' e' W (AJ.set ⟨cl, A, r1, r2⟩ W hk) N1)
end Steps
end Jvm.Pilot.@@N@@.W
namespace Jvm.Pilot.@@N@@
open Jvm Jvm.ClassFile Sem Op Lib Jvm.Free Jvm.Stand Jvm.LawKit Jvm.RoadKit Bundle Jvm.Pilot.@@N@@.Jvm.D
theorem own_low (x : Int32) : 0 ≤ (x &&& (65535 : Int32)).toInt ∧ (x &&& (65535 : Int32)).toInt < 65536 := by
  have := c_mask x 65535 16 (by decide) rfl; omega
theorem own_w {y : Int32} (h : 0 ≤ y.toInt ∧ y.toInt < 65536) : (y / (64 : Int32)).toInt = y.toInt / 64 ∧ (y.toUInt32 >>> ((6 : Int32) &&& 31).toUInt32).toInt32.toInt = y.toInt / 64 ∧ (y % (64 : Int32)).toInt = y.toInt % 64 := by
  refine ⟨?_, ?_, ?_⟩
  · exact (c_idiv y 64 64 rfl (by decide)).1 h.1
  · rw [c_iushr y 6 6 rfl (by decide)]; omega
  · exact (c_irem y 64 64 rfl).1 h.1
theorem own_q (x : Int32) : ∃ k : Nat, ((x &&& (2147483647 : Int32)) % (1024 : Int32)).toInt = k ∧ k < 1024 := by
  have h0 : 0 ≤ (x &&& (2147483647 : Int32)).toInt := (c_andS _ _).2.2 (by decide)
  have h1 := (c_irem (x &&& (2147483647 : Int32)) 1024 1024 rfl).1 h0
  exact ⟨((x &&& (2147483647 : Int32)) % (1024 : Int32)).toInt.toNat, by omega, by omega⟩
theorem own_and63 {y r : Int32} (h : 0 ≤ y.toInt) (hr : r.toInt = y.toInt % 64) : (y &&& (0x3f : Int32)) = (r &&& (0x3f : Int32)) := by
  rw [← Int32.toInt_inj, c_mask y 0x3f 6 (by decide) rfl, c_mask r 0x3f 6 (by decide) rfl]; omega
def own_ex (i w q : Int32) (a b : Int64) (r : Int32) : Int64 := if i = w then a ||| ((1 : Int64) <<< (r &&& 0x3f).toInt64) else if i = q then b else 0
theorem pn_0 : plainName "com/example/bitpress/bitpress/DocBlock" = true := by first | (simp [plainName, overriddenIn]; done) | decide +kernel
theorem ef_1 (m : MethodId) (x0 : Addr) (x1 : Int32) : entryFrame m #[(.ref x0), (.int x1)] 2 = mkF m 0 #[.val (.ref x0), .val (.int x1)] [] := by first | (simp [entryFrame, mkF, argsToLocals, Value.category]; done) | rfl
theorem d1_0 : decode prog_7_method_9_code 0 = .ok (.aload_n 0, 1) := by decide +kernel
theorem d1_1 : decode prog_7_method_9_code 1 = .ok (.iload_n 1, 1) := by decide +kernel
theorem d1_2 : decode prog_7_method_9_code 2 = .ok (.bipush 6, 2) := by decide +kernel
theorem d1_4 : decode prog_7_method_9_code 4 = .ok (.iushr, 1) := by decide +kernel
theorem d1_5 : decode prog_7_method_9_code 5 = .ok (.dup2, 1) := by decide +kernel
theorem d1_6 : decode prog_7_method_9_code 6 = .ok (.laload, 1) := by decide +kernel
theorem d1_7 : decode prog_7_method_9_code 7 = .ok (.lconst 1, 1) := by decide +kernel
theorem d1_8 : decode prog_7_method_9_code 8 = .ok (.iload_n 1, 1) := by decide +kernel
theorem d1_9 : decode prog_7_method_9_code 9 = .ok (.lshl, 1) := by decide +kernel
theorem d1_10 : decode prog_7_method_9_code 10 = .ok (.lor, 1) := by decide +kernel
theorem d1_11 : decode prog_7_method_9_code 11 = .ok (.lastore, 1) := by decide +kernel
theorem d1_12 : decode prog_7_method_9_code 12 = .ok (.return_, 1) := by decide +kernel
def Q1 (Z : State) (aw : Addr) (xlow : Int32) (k : Nat) (fq : Nat → Int64) (h0 : Heap) (n0 : Nat) (v : Option Value) (h : Heap) (L : List Loc) : Prop := v = none ∧ Fr n0 L ∧ Keep h0 h [aw] ∧ W.AJ Z h aw 1024 (W.up fq k (fq k ||| ((1 : Int64) <<< (xlow &&& 0x3f).toInt64)))
set_option maxRecDepth 65536 in
set_option maxHeartbeats 40000000 in
theorem rm1 (l : Launch) (Z : State) (a0 : Array Value) (hw : ∀ d ∈ tables_1, d.before a0 Z = true) (ws : List Jvm.Cond) (aw : Addr) (xlow : Int32) (k : Nat) (fq : Nat → Int64) (h0 : Heap) (n0 : Nat) (Z0 : n0 ≤ h0.size) (A0 : W.AJ Z h0 aw 1024 fq) (ga : n0 ≤ aw) (hk : ((xlow.toUInt32 >>> ((6 : Int32) &&& 31).toUInt32).toInt32).toInt = k) (hkl : k < 1024) :
    MetFree l (⟨"com/example/bitpress/bitpress/DocBlock", "setBit", "([JI)V"⟩ : MethodName) (head1 (Jvm.Cond.code (⟨"com/example/bitpress/bitpress/DocBlock", "setBit", "([JI)V"⟩ : MethodName) prog_7_method_9_code 2 none :: ws) ({ frames := 0, cells := 0, slots := 0, locals := 0 } : Room)) (fun a U => a = #[(.ref aw), (.int xlow)] ∧ Z.Warmed39 U.vm ∧ U.heap = h0) (fun _ _ _ _ _ => True) (fun _ U o U' => ∃ v L, o = .returned v ∧ Q1 Z aw xlow k fq h0 n0 v U'.heap L ∧ FrameEnd U o U' L ({ frames := 0, cells := 0, slots := 0, locals := 0 } : Room).cells ({ frames := 0, cells := 0, slots := 0, locals := 0 } : Room).slots) := by
  refine MetFree.of_bodySF (plainFor_of_name pn_0) hisR ?_
  intro p e s m args below meth c s₁ Bd hml0 hP hK
  obtain ⟨rfl, hZ, hh⟩ := hP
  have hx := Bd.exec
  have hby := Bd.bytes
  have hml : c.maxLocals = 2 := hml0
  have hown : s.vm.findClass "com/example/bitpress/bitpress/DocBlock" = some m.cls := findClass_of_methodNamed Bd.named
  have hnm := (name_of_methodNamed Bd.named Bd.method).1
  have hlk : meth.locks = false := BodyLoose.notSynchronized Bd
  have X0 : Stand p l e ({ frames := 0, cells := 0, slots := 0, locals := 0 } : Room) s m #[(.ref aw), (.int xlow)] below meth c s₁ [] 0 0 := Stand.of_body Bd
  have e0 : s₁.heap = h0 := by rw [← hh, Bd.state]; rfl
  have N0 := Fr.nil n0
  show W.Gl p e below s (Q1 Z aw xlow k fq h0 n0) ({ frames := 0, cells := 0, slots := 0, locals := 0 } : Room).cells ({ frames := 0, cells := 0, slots := 0, locals := 0 } : Room).slots s₁ (entryFrame m #[(.ref aw), (.int xlow)] 2)
  refine W.cast (ef_1 m aw xlow) ?_
  have K0 : Keep h0 h0 [aw] := Keep.refl h0 [aw]
  refine W.s1 (mkF m 1 #[.val (.ref aw), .val (.int xlow)] [(.ref aw)]) (fun _ kx_ => XS.aloadN X0.here hx rfl (hb hby d1_0) rfl rfl kx_) ?_
  refine W.s1 (mkF m 2 #[.val (.ref aw), .val (.int xlow)] [(.int xlow), (.ref aw)]) (fun _ kx_ => XS.iloadN X0.here hx rfl (hb hby d1_1) rfl kx_) ?_
  refine W.s1 (mkF m 4 #[.val (.ref aw), .val (.int xlow)] [(.int (6 : Int32)), (.int xlow), (.ref aw)]) (fun _ kx_ => XS.bipush X0.here hx rfl (hb hby d1_2) kx_) ?_
  refine W.s1 (mkF m 5 #[.val (.ref aw), .val (.int xlow)] [(.int ((xlow.toUInt32 >>> ((6 : Int32) &&& 31).toUInt32).toInt32)), (.ref aw)]) (fun _ kx_ => XS.iushr X0.here hx rfl (hb hby d1_4) rfl kx_) ?_
  refine W.s1 (mkF m 6 #[.val (.ref aw), .val (.int xlow)] [(.int ((xlow.toUInt32 >>> ((6 : Int32) &&& 31).toUInt32).toInt32)), (.ref aw), (.int ((xlow.toUInt32 >>> ((6 : Int32) &&& 31).toUInt32).toInt32)), (.ref aw)]) (fun _ kx_ => XT.dup2 X0.here hx rfl (hb hby d1_5) rfl rfl rfl kx_) ?_
  refine W.ldj X0 hx hZ e0 A0 k hk hkl (hb hby d1_6) (pc' := 7) rfl ?_
  refine W.s1 (mkF m 8 #[.val (.ref aw), .val (.int xlow)] [(.long (1 : Int64)), (.long (fq k)), (.int ((xlow.toUInt32 >>> ((6 : Int32) &&& 31).toUInt32).toInt32)), (.ref aw)]) (fun _ kx_ => XS.lconst X0.here hx rfl (hb hby d1_7) kx_) ?_
  refine W.s1 (mkF m 9 #[.val (.ref aw), .val (.int xlow)] [(.int xlow), (.long (1 : Int64)), (.long (fq k)), (.int ((xlow.toUInt32 >>> ((6 : Int32) &&& 31).toUInt32).toInt32)), (.ref aw)]) (fun _ kx_ => XS.iloadN X0.here hx rfl (hb hby d1_8) rfl kx_) ?_
  refine W.s1 (mkF m 10 #[.val (.ref aw), .val (.int xlow)] [(.long ((1 : Int64) <<< (xlow &&& 0x3f).toInt64)), (.long (fq k)), (.int ((xlow.toUInt32 >>> ((6 : Int32) &&& 31).toUInt32).toInt32)), (.ref aw)]) (fun _ kx_ => XS.lshl X0.here hx rfl (hb hby d1_9) rfl kx_) ?_
  refine W.s1 (mkF m 11 #[.val (.ref aw), .val (.int xlow)] [(.long ((fq k) ||| ((1 : Int64) <<< (xlow &&& 0x3f).toInt64))), (.int ((xlow.toUInt32 >>> ((6 : Int32) &&& 31).toUInt32).toInt32)), (.ref aw)]) (fun _ kx_ => XS.lor X0.here hx rfl (hb hby d1_10) rfl kx_) ?_
  refine W.stj X0 hx hZ e0 A0 k hk hkl N0 ga (hb hby d1_11) (pc' := 12) rfl (fun T101 h101 L101 X101 e101 W101 fw101 N101 => ?_)
  have Z101 : n0 ≤ h101.size := Nat.le_trans Z0 (Keep.of_wr W101).1
  have K101 : Keep h0 h101 [aw] := K0.wr W101 (Or.inl (List.mem_of_getElem? (i := 0) rfl))
  exact W.ret0 X101 hx hlk Bd.returns (hb hby d1_12) (by show Q1 Z aw xlow k fq h0 n0 _ T101.heap _; rw [e101]; exact ⟨rfl, N101, K101, fw101⟩) (by decide) (by decide)
theorem pn_1 : plainName "com/example/bitpress/bitpress/DocBlockSetBitPinLaw" = true := by first | (simp [plainName, overriddenIn]; done) | decide +kernel
theorem ef_3 (m : MethodId) (x0 : Int32) (x1 : Int32) (x2 : Int32) (x3 : Int64) (x4 : Int64) (x5 : Int32) : entryFrame m #[(.int x0), (.int x1), (.int x2), (.long x3), (.long x4), (.int x5)] 8 = mkF m 0 #[.val (.int x0), .val (.int x1), .val (.int x2), .val (.long x3), .second, .val (.long x4), .second, .val (.int x5)] [] := by first | (simp [entryFrame, mkF, argsToLocals, Value.category]; done) | rfl
theorem d3_0 : decode method_2_code 0 = .ok (.iload_n 0, 1) := by decide +kernel
theorem d3_1 : decode method_2_code 1 = .ok (.iload_n 1, 1) := by decide +kernel
theorem d3_2 : decode method_2_code 2 = .ok (.if_icmp .ne 10, 3) := by decide +kernel
theorem d3_12 : decode method_2_code 12 = .ok (.iload_n 0, 1) := by decide +kernel
theorem d3_13 : decode method_2_code 13 = .ok (.iload_n 2, 1) := by decide +kernel
theorem d3_14 : decode method_2_code 14 = .ok (.if_icmp .ne 6, 3) := by decide +kernel
theorem d3_20 : decode method_2_code 20 = .ok (.lconst 0, 1) := by decide +kernel
theorem d3_21 : decode method_2_code 21 = .ok (.lreturn, 1) := by decide +kernel
theorem d3_17 : decode method_2_code 17 = .ok (.lload 5, 2) := by decide +kernel
theorem d3_19 : decode method_2_code 19 = .ok (.lreturn, 1) := by decide +kernel
theorem d3_5 : decode method_2_code 5 = .ok (.lload_n 3, 1) := by decide +kernel
theorem d3_6 : decode method_2_code 6 = .ok (.lconst 1, 1) := by decide +kernel
theorem d3_7 : decode method_2_code 7 = .ok (.iload 7, 2) := by decide +kernel
theorem d3_9 : decode method_2_code 9 = .ok (.lshl, 1) := by decide +kernel
theorem d3_10 : decode method_2_code 10 = .ok (.lor, 1) := by decide +kernel
theorem d3_11 : decode method_2_code 11 = .ok (.lreturn, 1) := by decide +kernel
def Q3 (Z : State) (xi : Int32) (xw : Int32) (xq : Int32) (ya : Int64) (yb : Int64) (xr : Int32) (h0 : Heap) (n0 : Nat) (v : Option Value) (h : Heap) (L : List Loc) : Prop := v = some (.long (own_ex xi xw xq ya yb xr)) ∧ Fr n0 L ∧ h = h0
set_option maxRecDepth 65536 in
set_option maxHeartbeats 40000000 in
theorem rm3 (l : Launch) (Z : State) (a0 : Array Value) (hw : ∀ d ∈ tables_1, d.before a0 Z = true) (ws : List Jvm.Cond) (xi : Int32) (xw : Int32) (xq : Int32) (ya : Int64) (yb : Int64) (xr : Int32) (h0 : Heap) (n0 : Nat) (Z0 : n0 ≤ h0.size) :
    MetFree l (⟨"com/example/bitpress/bitpress/DocBlockSetBitPinLaw", "expectedAt", "(IIIJJI)J"⟩ : MethodName) (head1 (Jvm.Cond.code (⟨"com/example/bitpress/bitpress/DocBlockSetBitPinLaw", "expectedAt", "(IIIJJI)J"⟩ : MethodName) method_2_code 8 (some .long) :: ws) ({ frames := 0, cells := 0, slots := 0, locals := 0 } : Room)) (fun a U => a = #[(.int xi), (.int xw), (.int xq), (.long ya), (.long yb), (.int xr)] ∧ Z.Warmed39 U.vm ∧ U.heap = h0) (fun _ _ _ _ _ => True) (fun _ U o U' => ∃ v L, o = .returned v ∧ Q3 Z xi xw xq ya yb xr h0 n0 v U'.heap L ∧ FrameEnd U o U' L ({ frames := 0, cells := 0, slots := 0, locals := 0 } : Room).cells ({ frames := 0, cells := 0, slots := 0, locals := 0 } : Room).slots) := by
  refine MetFree.of_bodySF (plainFor_of_name pn_1) hisR ?_
  intro p e s m args below meth c s₁ Bd hml0 hP hK
  obtain ⟨rfl, hZ, hh⟩ := hP
  have hx := Bd.exec
  have hby := Bd.bytes
  have hml : c.maxLocals = 8 := hml0
  have hown : s.vm.findClass "com/example/bitpress/bitpress/DocBlockSetBitPinLaw" = some m.cls := findClass_of_methodNamed Bd.named
  have hnm := (name_of_methodNamed Bd.named Bd.method).1
  have hlk : meth.locks = false := BodyLoose.notSynchronized Bd
  have X0 : Stand p l e ({ frames := 0, cells := 0, slots := 0, locals := 0 } : Room) s m #[(.int xi), (.int xw), (.int xq), (.long ya), (.long yb), (.int xr)] below meth c s₁ [] 0 0 := Stand.of_body Bd
  have e0 : s₁.heap = h0 := by rw [← hh, Bd.state]; rfl
  have N0 := Fr.nil n0
  show W.Gl p e below s (Q3 Z xi xw xq ya yb xr h0 n0) ({ frames := 0, cells := 0, slots := 0, locals := 0 } : Room).cells ({ frames := 0, cells := 0, slots := 0, locals := 0 } : Room).slots s₁ (entryFrame m #[(.int xi), (.int xw), (.int xq), (.long ya), (.long yb), (.int xr)] 8)
  refine W.cast (ef_3 m xi xw xq ya yb xr) ?_
  refine W.s1 (mkF m 1 #[.val (.int xi), .val (.int xw), .val (.int xq), .val (.long ya), .second, .val (.long yb), .second, .val (.int xr)] [(.int xi)]) (fun _ kx_ => XS.iloadN X0.here hx rfl (hb hby d3_0) rfl kx_) ?_
  refine W.s1 (mkF m 2 #[.val (.int xi), .val (.int xw), .val (.int xq), .val (.long ya), .second, .val (.long yb), .second, .val (.int xr)] [(.int xw), (.int xi)]) (fun _ kx_ => XS.iloadN X0.here hx rfl (hb hby d3_1) rfl kx_) ?_
  refine W.icmp X0 hx (hb hby d3_2) (pc' := 12) (pc'' := 5) (by decide) (by decide) rfl (fun (c2 : ¬ xi = xw) => ?_) (fun (c2 : xi = xw) => ?_)
  · refine W.s1 (mkF m 13 #[.val (.int xi), .val (.int xw), .val (.int xq), .val (.long ya), .second, .val (.long yb), .second, .val (.int xr)] [(.int xi)]) (fun _ kx_ => XS.iloadN X0.here hx rfl (hb hby d3_12) rfl kx_) ?_
    refine W.s1 (mkF m 14 #[.val (.int xi), .val (.int xw), .val (.int xq), .val (.long ya), .second, .val (.long yb), .second, .val (.int xr)] [(.int xq), (.int xi)]) (fun _ kx_ => XS.iloadN X0.here hx rfl (hb hby d3_13) rfl kx_) ?_
    refine W.icmp X0 hx (hb hby d3_14) (pc' := 20) (pc'' := 17) (by decide) (by decide) rfl (fun (c14 : ¬ xi = xq) => ?_) (fun (c14 : xi = xq) => ?_)
    · refine W.s1 (mkF m 21 #[.val (.int xi), .val (.int xw), .val (.int xq), .val (.long ya), .second, .val (.long yb), .second, .val (.int xr)] [(.long (0 : Int64))]) (fun _ kx_ => XS.lconst X0.here hx rfl (hb hby d3_20) kx_) ?_
      exact W.retL X0 hx hlk Bd.returns (hb hby d3_21) (by show Q3 Z xi xw xq ya yb xr h0 n0 _ s₁.heap _; rw [e0]; refine ⟨?_, N0, rfl⟩; rw [own_ex, if_neg c2, if_neg c14]) (by decide) (by decide)
    · refine W.s1 (mkF m 19 #[.val (.int xi), .val (.int xw), .val (.int xq), .val (.long ya), .second, .val (.long yb), .second, .val (.int xr)] [(.long yb)]) (fun _ kx_ => XS.lload X0.here hx rfl (hb hby d3_17) rfl kx_) ?_
      exact W.retL X0 hx hlk Bd.returns (hb hby d3_19) (by show Q3 Z xi xw xq ya yb xr h0 n0 _ s₁.heap _; rw [e0]; refine ⟨?_, N0, rfl⟩; rw [own_ex, if_neg c2, if_pos c14]) (by decide) (by decide)
  · refine W.s1 (mkF m 6 #[.val (.int xi), .val (.int xw), .val (.int xq), .val (.long ya), .second, .val (.long yb), .second, .val (.int xr)] [(.long ya)]) (fun _ kx_ => XS.lloadN X0.here hx rfl (hb hby d3_5) rfl kx_) ?_
    refine W.s1 (mkF m 7 #[.val (.int xi), .val (.int xw), .val (.int xq), .val (.long ya), .second, .val (.long yb), .second, .val (.int xr)] [(.long (1 : Int64)), (.long ya)]) (fun _ kx_ => XS.lconst X0.here hx rfl (hb hby d3_6) kx_) ?_
    refine W.s1 (mkF m 9 #[.val (.int xi), .val (.int xw), .val (.int xq), .val (.long ya), .second, .val (.long yb), .second, .val (.int xr)] [(.int xr), (.long (1 : Int64)), (.long ya)]) (fun _ kx_ => XS.iload X0.here hx rfl (hb hby d3_7) rfl kx_) ?_
    refine W.s1 (mkF m 10 #[.val (.int xi), .val (.int xw), .val (.int xq), .val (.long ya), .second, .val (.long yb), .second, .val (.int xr)] [(.long ((1 : Int64) <<< (xr &&& 0x3f).toInt64)), (.long ya)]) (fun _ kx_ => XS.lshl X0.here hx rfl (hb hby d3_9) rfl kx_) ?_
    refine W.s1 (mkF m 11 #[.val (.int xi), .val (.int xw), .val (.int xq), .val (.long ya), .second, .val (.long yb), .second, .val (.int xr)] [(.long (ya ||| ((1 : Int64) <<< (xr &&& 0x3f).toInt64)))]) (fun _ kx_ => XS.lor X0.here hx rfl (hb hby d3_10) rfl kx_) ?_
    exact W.retL X0 hx hlk Bd.returns (hb hby d3_11) (by show Q3 Z xi xw xq ya yb xr h0 n0 _ s₁.heap _; rw [e0]; refine ⟨?_, N0, rfl⟩; rw [own_ex, if_pos c2]) (by decide) (by decide)
theorem ef_2 (m : MethodId) (x0 : Addr) (x1 : Int32) (x2 : Int32) (x3 : Int32) (x4 : Int64) (x5 : Int64) (x6 : Int32) : entryFrame m #[(.ref x0), (.int x1), (.int x2), (.int x3), (.long x4), (.long x5), (.int x6)] 9 = mkF m 0 #[.val (.ref x0), .val (.int x1), .val (.int x2), .val (.int x3), .val (.long x4), .second, .val (.long x5), .second, .val (.int x6)] [] := by first | (simp [entryFrame, mkF, argsToLocals, Value.category]; done) | rfl
theorem d2_0 : decode method_3_code 0 = .ok (.iload_n 1, 1) := by decide +kernel
theorem d2_1 : decode method_3_code 1 = .ok (.ifCond .lt 9, 3) := by decide +kernel
theorem d2_10 : decode method_3_code 10 = .ok (.iconst 1, 1) := by decide +kernel
theorem d2_11 : decode method_3_code 11 = .ok (.ireturn, 1) := by decide +kernel
theorem d2_4 : decode method_3_code 4 = .ok (.iload_n 1, 1) := by decide +kernel
theorem d2_5 : decode method_3_code 5 = .ok (.aload_n 0, 1) := by decide +kernel
theorem d2_6 : decode method_3_code 6 = .ok (.arraylength, 1) := by decide +kernel
theorem d2_7 : decode method_3_code 7 = .ok (.if_icmp .lt 5, 3) := by decide +kernel
theorem d2_12 : decode method_3_code 12 = .ok (.aload_n 0, 1) := by decide +kernel
theorem d2_13 : decode method_3_code 13 = .ok (.iload_n 1, 1) := by decide +kernel
theorem d2_14 : decode method_3_code 14 = .ok (.laload, 1) := by decide +kernel
theorem d2_15 : decode method_3_code 15 = .ok (.iload_n 1, 1) := by decide +kernel
theorem d2_16 : decode method_3_code 16 = .ok (.iload_n 2, 1) := by decide +kernel
theorem d2_17 : decode method_3_code 17 = .ok (.iload_n 3, 1) := by decide +kernel
theorem d2_18 : decode method_3_code 18 = .ok (.lload 4, 2) := by decide +kernel
theorem d2_20 : decode method_3_code 20 = .ok (.lload 6, 2) := by decide +kernel
theorem d2_22 : decode method_3_code 22 = .ok (.iload 8, 2) := by decide +kernel
theorem d2_24 : decode method_3_code 24 = .ok (.invokestatic 7, 3) := by decide +kernel
theorem pd_0 : parseMethodDescriptor "(IIIJJI)J" = some ⟨[.int, .int, .int, .long, .long, .int], some .long⟩ := by decide +kernel
theorem d2_27 : decode method_3_code 27 = .ok (.lcmp, 1) := by decide +kernel
theorem d2_28 : decode method_3_code 28 = .ok (.ifCond .ne 7, 3) := by decide +kernel
theorem d2_31 : decode method_3_code 31 = .ok (.iconst 1, 1) := by decide +kernel
theorem d2_32 : decode method_3_code 32 = .ok (.goto 4, 3) := by decide +kernel
theorem d2_36 : decode method_3_code 36 = .ok (.ireturn, 1) := by decide +kernel
def Q2 (Z : State) (aw : Addr) (xi : Int32) (xw : Int32) (xq : Int32) (ya : Int64) (yb : Int64) (xr : Int32) (fq : Nat → Int64) (h0 : Heap) (n0 : Nat) (v : Option Value) (h : Heap) (L : List Loc) : Prop := v = some (.int 1) ∧ Fr n0 L ∧ h = h0
set_option maxRecDepth 65536 in
set_option maxHeartbeats 40000000 in
theorem rm2 (l : Launch) (Z : State) (a0 : Array Value) (hw : ∀ d ∈ tables_1, d.before a0 Z = true) (ws : List Jvm.Cond) (aw : Addr) (xi : Int32) (xw : Int32) (xq : Int32) (ya : Int64) (yb : Int64) (xr : Int32) (fq : Nat → Int64) (h0 : Heap) (n0 : Nat) (Z0 : n0 ≤ h0.size) (A0 : W.AJ Z h0 aw 1024 fq) (hi : ∀ k : Nat, k < 1024 → xi.toInt = k → fq k = own_ex xi xw xq ya yb xr) :
    MetFree l (⟨"com/example/bitpress/bitpress/DocBlockSetBitPinLaw", "check", "([JIIIJJI)Z"⟩ : MethodName) (head1 (Jvm.Cond.code (⟨"com/example/bitpress/bitpress/DocBlockSetBitPinLaw", "check", "([JIIIJJI)Z"⟩ : MethodName) method_3_code 9 (some .boolean) :: ws) ({ frames := 1, cells := 0, slots := 0, locals := 21 } : Room)) (fun a U => a = #[(.ref aw), (.int xi), (.int xw), (.int xq), (.long ya), (.long yb), (.int xr)] ∧ Z.Warmed39 U.vm ∧ U.heap = h0) (fun _ _ _ _ _ => True) (fun _ U o U' => ∃ v L, o = .returned v ∧ Q2 Z aw xi xw xq ya yb xr fq h0 n0 v U'.heap L ∧ FrameEnd U o U' L ({ frames := 1, cells := 0, slots := 0, locals := 21 } : Room).cells ({ frames := 1, cells := 0, slots := 0, locals := 21 } : Room).slots) := by
  refine MetFree.of_bodySF (plainFor_of_name pn_1) hisR ?_
  intro p e s m args below meth c s₁ Bd hml0 hP hK
  obtain ⟨rfl, hZ, hh⟩ := hP
  have hx := Bd.exec
  have hby := Bd.bytes
  have hml : c.maxLocals = 9 := hml0
  have hown : s.vm.findClass "com/example/bitpress/bitpress/DocBlockSetBitPinLaw" = some m.cls := findClass_of_methodNamed Bd.named
  have hnm := (name_of_methodNamed Bd.named Bd.method).1
  have hlk : meth.locks = false := BodyLoose.notSynchronized Bd
  have X0 : Stand p l e ({ frames := 1, cells := 0, slots := 0, locals := 21 } : Room) s m #[(.ref aw), (.int xi), (.int xw), (.int xq), (.long ya), (.long yb), (.int xr)] below meth c s₁ [] 0 0 := Stand.of_body Bd
  have e0 : s₁.heap = h0 := by rw [← hh, Bd.state]; rfl
  have N0 := Fr.nil n0
  show W.Gl p e below s (Q2 Z aw xi xw xq ya yb xr fq h0 n0) ({ frames := 1, cells := 0, slots := 0, locals := 21 } : Room).cells ({ frames := 1, cells := 0, slots := 0, locals := 21 } : Room).slots s₁ (entryFrame m #[(.ref aw), (.int xi), (.int xw), (.int xq), (.long ya), (.long yb), (.int xr)] 9)
  refine W.cast (ef_2 m aw xi xw xq ya yb xr) ?_
  refine W.s1 (mkF m 1 #[.val (.ref aw), .val (.int xi), .val (.int xw), .val (.int xq), .val (.long ya), .second, .val (.long yb), .second, .val (.int xr)] [(.int xi)]) (fun _ kx_ => XS.iloadN X0.here hx rfl (hb hby d2_0) rfl kx_) ?_
  refine W.ifc X0 hx (hb hby d2_1) (pc' := 10) (pc'' := 4) (by decide) (by decide) rfl (fun (c1 : xi < (0 : Int32)) => ?_) (fun (c1 : ¬ xi < (0 : Int32)) => ?_)
  · refine W.s1 (mkF m 11 #[.val (.ref aw), .val (.int xi), .val (.int xw), .val (.int xq), .val (.long ya), .second, .val (.long yb), .second, .val (.int xr)] [(.int (1 : Int32))]) (fun _ kx_ => XS.iconst X0.here hx rfl (hb hby d2_10) kx_) ?_
    exact W.retZ X0 hx hlk (t := .boolean) (z' := (1 : Int32)) Bd.returns (by simp) (hb hby d2_11) rfl (by show Q2 Z aw xi xw xq ya yb xr fq h0 n0 _ s₁.heap _; rw [e0]; exact ⟨rfl, N0, rfl⟩) (by decide) (by decide)
  · refine W.s1 (mkF m 5 #[.val (.ref aw), .val (.int xi), .val (.int xw), .val (.int xq), .val (.long ya), .second, .val (.long yb), .second, .val (.int xr)] [(.int xi)]) (fun _ kx_ => XS.iloadN X0.here hx rfl (hb hby d2_4) rfl kx_) ?_
    refine W.s1 (mkF m 6 #[.val (.ref aw), .val (.int xi), .val (.int xw), .val (.int xq), .val (.long ya), .second, .val (.long yb), .second, .val (.int xr)] [(.ref aw), (.int xi)]) (fun _ kx_ => XS.aloadN X0.here hx rfl (hb hby d2_5) rfl rfl kx_) ?_
    refine W.alenJ X0 hx hZ e0 A0 (z := (1024 : Int32)) rfl (hb hby d2_6) (pc' := 7) rfl ?_
    refine W.icmp X0 hx (hb hby d2_7) (pc' := 12) (pc'' := 10) (by decide) (by decide) rfl (fun (c7 : xi < (1024 : Int32)) => ?_) (fun (c7 : ¬ xi < (1024 : Int32)) => ?_)
    · refine W.s1 (mkF m 13 #[.val (.ref aw), .val (.int xi), .val (.int xw), .val (.int xq), .val (.long ya), .second, .val (.long yb), .second, .val (.int xr)] [(.ref aw)]) (fun _ kx_ => XS.aloadN X0.here hx rfl (hb hby d2_12) rfl rfl kx_) ?_
      refine W.s1 (mkF m 14 #[.val (.ref aw), .val (.int xi), .val (.int xw), .val (.int xq), .val (.long ya), .second, .val (.long yb), .second, .val (.int xr)] [(.int xi), (.ref aw)]) (fun _ kx_ => XS.iloadN X0.here hx rfl (hb hby d2_13) rfl kx_) ?_
      obtain ⟨k, hk, hkl⟩ : ∃ k : Nat, xi.toInt = k ∧ k < 1024 := by rw [Int32.lt_iff_toInt_lt] at c1 c7; have e0 : (0 : Int32).toInt = 0 := rfl; have e1 : (1024 : Int32).toInt = 1024 := rfl; exact ⟨xi.toInt.toNat, by omega, by omega⟩
      refine W.ldj X0 hx hZ e0 A0 k hk hkl (hb hby d2_14) (pc' := 15) rfl ?_
      refine W.s1 (mkF m 16 #[.val (.ref aw), .val (.int xi), .val (.int xw), .val (.int xq), .val (.long ya), .second, .val (.long yb), .second, .val (.int xr)] [(.int xi), (.long (fq k))]) (fun _ kx_ => XS.iloadN X0.here hx rfl (hb hby d2_15) rfl kx_) ?_
      refine W.s1 (mkF m 17 #[.val (.ref aw), .val (.int xi), .val (.int xw), .val (.int xq), .val (.long ya), .second, .val (.long yb), .second, .val (.int xr)] [(.int xw), (.int xi), (.long (fq k))]) (fun _ kx_ => XS.iloadN X0.here hx rfl (hb hby d2_16) rfl kx_) ?_
      refine W.s1 (mkF m 18 #[.val (.ref aw), .val (.int xi), .val (.int xw), .val (.int xq), .val (.long ya), .second, .val (.long yb), .second, .val (.int xr)] [(.int xq), (.int xw), (.int xi), (.long (fq k))]) (fun _ kx_ => XS.iloadN X0.here hx rfl (hb hby d2_17) rfl kx_) ?_
      refine W.s1 (mkF m 20 #[.val (.ref aw), .val (.int xi), .val (.int xw), .val (.int xq), .val (.long ya), .second, .val (.long yb), .second, .val (.int xr)] [(.long ya), (.int xq), (.int xw), (.int xi), (.long (fq k))]) (fun _ kx_ => XS.lload X0.here hx rfl (hb hby d2_18) rfl kx_) ?_
      refine W.s1 (mkF m 22 #[.val (.ref aw), .val (.int xi), .val (.int xw), .val (.int xq), .val (.long ya), .second, .val (.long yb), .second, .val (.int xr)] [(.long yb), (.long ya), (.int xq), (.int xw), (.int xi), (.long (fq k))]) (fun _ kx_ => XS.lload X0.here hx rfl (hb hby d2_20) rfl kx_) ?_
      refine W.s1 (mkF m 24 #[.val (.ref aw), .val (.int xi), .val (.int xw), .val (.int xq), .val (.long ya), .second, .val (.long yb), .second, .val (.int xr)] [(.int xr), (.long yb), (.long ya), (.int xq), (.int xw), (.int xi), (.long (fq k))]) (fun _ kx_ => XS.iload X0.here hx rfl (hb hby d2_22) rfl kx_) ?_
      obtain ⟨_, _, ⟨T101, L101, k101, n101⟩, -, X101, ⟨Lc101, hQ101, l101, y101, z101⟩, st101⟩ := Jvm.LawKit.callS X0 hx (y := (⟨"com/example/bitpress/bitpress/DocBlockSetBitPinLaw", "expectedAt", "(IIIJJI)J"⟩ : MethodName)) hown (mvT hZ (hw _ (List.mem_of_getElem? (i := 11) rfl))) (mvT hZ (hw _ (List.mem_of_getElem? (i := 12) rfl))) (mvT hZ (hw _ (List.mem_of_getElem? (i := 9) rfl))) (mvT hZ (hw _ (List.mem_of_getElem? (i := 13) rfl))) (by decide) (backOf (W := 2) (rm3 l Z a0 hw [] xi xw xq ya yb xr h0 n0 Z0 ) hZ (hw _ (List.mem_of_getElem? (i := 13) rfl)) (hw _ (List.mem_of_getElem? (i := 9) rfl)) (by decide) (by decide)) (g := (mkF m 24 #[.val (.ref aw), .val (.int xi), .val (.int xw), .val (.int xq), .val (.long ya), .second, .val (.long yb), .second, .val (.int xr)] [(.int xr), (.long yb), (.long ya), (.int xq), (.int xw), (.int xi), (.long (fq k))])) rfl (by rw [hml]; rfl) (argsL := [(.int xi), (.int xw), (.int xq), (.long ya), (.long yb), (.int xr)]) (rest := [(.long (fq k))]) (lenOf pd_0 rfl) rfl (by show 2 * 0 + _ ≤ _; exact Nat.le_of_eq rfl) (hb hby d2_24) (fun _ _ => ⟨rfl, e0, (by decide : 0 + 0 ≤ _), (by decide : 0 + 0 ≤ _)⟩)
      dsimp only [Pt.U, Pt.locs, Pt.cells, Pt.slots] at X101 l101 y101 z101 st101 hQ101
      subst l101 y101 z101
      obtain ⟨rfl, Nq101, eq101⟩ := hQ101
      have N101 := Fr.app N0 Nq101
      refine W.s2 (mkF m 27 #[.val (.ref aw), .val (.int xi), .val (.int xw), .val (.int xq), .val (.long ya), .second, .val (.long yb), .second, .val (.int xr)] [(.long (own_ex xi xw xq ya yb xr)), (.long (fq k))]) st101 ?_
      refine W.lif X101 hx (hb hby d2_27) (pc1 := 28) rfl (hb hby d2_28) (pc' := 35) (pc'' := 31) (by decide) (by decide) rfl (fun (c28 : ¬ (fq k) = (own_ex xi xw xq ya yb xr)) => ?_) (fun (c28 : (fq k) = (own_ex xi xw xq ya yb xr)) => ?_)
      · exact absurd (hi k hkl hk) c28
      · refine W.s1 (mkF m 32 #[.val (.ref aw), .val (.int xi), .val (.int xw), .val (.int xq), .val (.long ya), .second, .val (.long yb), .second, .val (.int xr)] [(.int (1 : Int32))]) (fun _ kx_ => XS.iconst X101.here hx rfl (hb hby d2_31) kx_) ?_
        refine W.s1 (mkF m 36 #[.val (.ref aw), .val (.int xi), .val (.int xw), .val (.int xq), .val (.long ya), .second, .val (.long yb), .second, .val (.int xr)] [(.int (1 : Int32))]) (fun _ kx_ => XS.goto X101.here hx rfl (pc0 := 32) (pc' := 36) rfl (hb hby d2_32) (by decide) (by decide) kx_) ?_
        exact W.retZ X101 hx hlk (t := .boolean) (z' := (1 : Int32)) Bd.returns (by simp) (hb hby d2_36) rfl (by show Q2 Z aw xi xw xq ya yb xr fq h0 n0 _ T101.heap _; rw [eq101]; exact ⟨rfl, N101, rfl⟩) (by decide) (by decide)
    · refine W.s1 (mkF m 11 #[.val (.ref aw), .val (.int xi), .val (.int xw), .val (.int xq), .val (.long ya), .second, .val (.long yb), .second, .val (.int xr)] [(.int (1 : Int32))]) (fun _ kx_ => XS.iconst X0.here hx rfl (hb hby d2_10) kx_) ?_
      exact W.retZ X0 hx hlk (t := .boolean) (z' := (1 : Int32)) Bd.returns (by simp) (hb hby d2_11) rfl (by show Q2 Z aw xi xw xq ya yb xr fq h0 n0 _ s₁.heap _; rw [e0]; exact ⟨rfl, N0, rfl⟩) (by decide) (by decide)
theorem ef_0 (m : MethodId) (x0 : Int32) (x1 : Int64) (x2 : Int64) (x3 : Int32) : entryFrame m #[(.int x0), (.long x1), (.long x2), (.int x3)] maxLocals = mkF m 0 #[.val (.int x0), .val (.long x1), .second, .val (.long x2), .second, .val (.int x3), .unset, .unset, .unset, .unset, .unset, .unset] [] := by first | (simp [entryFrame, mkF, argsToLocals, Value.category, maxLocals]; done) | rfl
theorem pd_1 : parseMethodDescriptor "([JI)V" = some ⟨[(.array .long), .int], none⟩ := by decide +kernel
theorem pd_2 : parseMethodDescriptor "([JIIIJJI)Z" = some ⟨[(.array .long), .int, .int, .int, .long, .long, .int], some .boolean⟩ := by decide +kernel
def Q0 (Z : State) (x0 : Int32) (ya : Int64) (yb : Int64) (xo : Int32) (h0 : Heap) (n0 : Nat) (v : Option Value) (h : Heap) (L : List Loc) : Prop := v = some (.int 1) ∧ Fr n0 L
set_option maxRecDepth 65536 in
set_option maxHeartbeats 40000000 in
theorem rm0 (l : Launch) (Z : State) (a0 : Array Value) (hw : ∀ d ∈ tables_1, d.before a0 Z = true) (ws : List Jvm.Cond) (x0 : Int32) (ya : Int64) (yb : Int64) (xo : Int32) (h0 : Heap) (n0 : Nat) (Z0 : n0 ≤ h0.size) :
    MetFree l x (head1 (Jvm.Cond.code x code maxLocals ret :: ws) room_1) (fun a U => a = #[(.int x0), (.long ya), (.long yb), (.int xo)] ∧ Z.Warmed39 U.vm ∧ U.heap = h0) (fun _ _ _ _ _ => True) (fun _ U o U' => ∃ v L, o = .returned v ∧ Q0 Z x0 ya yb xo h0 n0 v U'.heap L ∧ FrameEnd U o U' L 16 2112) := by
  refine MetFree.of_bodySF (plainFor_of_name pn_1) hisR ?_
  intro p e s m args below meth c s₁ Bd hml0 hP hK
  obtain ⟨rfl, hZ, hh⟩ := hP
  have hx := Bd.exec
  have hby := Bd.bytes
  have hml : c.maxLocals = 12 := hml0
  have hown : s.vm.findClass "com/example/bitpress/bitpress/DocBlockSetBitPinLaw" = some m.cls := findClass_of_methodNamed Bd.named
  have hnm := (name_of_methodNamed Bd.named Bd.method).1
  have hlk : meth.locks = false := BodyLoose.notSynchronized Bd
  have X0 : Stand p l e room_1 s m #[(.int x0), (.long ya), (.long yb), (.int xo)] below meth c s₁ [] 0 0 := Stand.of_body Bd
  have e0 : s₁.heap = h0 := by rw [← hh, Bd.state]; rfl
  have N0 := Fr.nil n0
  show W.Gl p e below s (Q0 Z x0 ya yb xo h0 n0) 16 2112 s₁ (entryFrame m #[(.int x0), (.long ya), (.long yb), (.int xo)] maxLocals)
  refine W.cast (ef_0 m x0 ya yb xo) ?_
  refine W.s1 (mkF m 1 #[.val (.int x0), .val (.long ya), .second, .val (.long yb), .second, .val (.int xo), .unset, .unset, .unset, .unset, .unset, .unset] [(.int x0)]) (fun _ kx_ => XS.iloadN X0.here hx rfl (hb hby at_0) rfl kx_) ?_
  refine W.s1 (mkF m 3 #[.val (.int x0), .val (.long ya), .second, .val (.long yb), .second, .val (.int xo), .unset, .unset, .unset, .unset, .unset, .unset] [(.int (65535 : Int32)), (.int x0)]) (fun _ kx_ => X0.ldcInt hx hown (mvT hZ (hw _ (List.mem_of_getElem? (i := 0) rfl))) (g := (mkF m 1 #[.val (.int x0), .val (.long ya), .second, .val (.long yb), .second, .val (.int xo), .unset, .unset, .unset, .unset, .unset, .unset] [(.int x0)])) rfl (hb hby at_1) _ kx_) ?_
  refine W.s1 (mkF m 4 #[.val (.int x0), .val (.long ya), .second, .val (.long yb), .second, .val (.int xo), .unset, .unset, .unset, .unset, .unset, .unset] [(.int (x0 &&& (65535 : Int32)))]) (fun _ kx_ => XS.iand X0.here hx rfl (hb hby at_3) rfl kx_) ?_
  generalize hg_xlow : (x0 &&& (65535 : Int32)) = xlow
  refine W.s1 (mkF m 6 #[.val (.int x0), .val (.long ya), .second, .val (.long yb), .second, .val (.int xo), .val (.int xlow), .unset, .unset, .unset, .unset, .unset] []) (fun _ kx_ => XS.istore X0.here hx rfl (hb hby at_4) rfl (l' := #[.val (.int x0), .val (.long ya), .second, .val (.long yb), .second, .val (.int xo), .val (.int xlow), .unset, .unset, .unset, .unset, .unset]) rfl kx_) ?_
  refine W.s1 (mkF m 8 #[.val (.int x0), .val (.long ya), .second, .val (.long yb), .second, .val (.int xo), .val (.int xlow), .unset, .unset, .unset, .unset, .unset] [(.int xlow)]) (fun _ kx_ => XS.iload X0.here hx rfl (hb hby at_6) rfl kx_) ?_
  refine W.s1 (mkF m 10 #[.val (.int x0), .val (.long ya), .second, .val (.long yb), .second, .val (.int xo), .val (.int xlow), .unset, .unset, .unset, .unset, .unset] [(.int (64 : Int32)), (.int xlow)]) (fun _ kx_ => XS.bipush X0.here hx rfl (hb hby at_8) kx_) ?_
  refine W.s1 (mkF m 11 #[.val (.int x0), .val (.long ya), .second, .val (.long yb), .second, .val (.int xo), .val (.int xlow), .unset, .unset, .unset, .unset, .unset] [(.int (xlow / (64 : Int32)))]) (fun _ kx_ => XS.idiv X0.here hx rfl (hb hby at_10) rfl (by decide) kx_) ?_
  generalize hg_xw : (xlow / (64 : Int32)) = xw
  refine W.s1 (mkF m 13 #[.val (.int x0), .val (.long ya), .second, .val (.long yb), .second, .val (.int xo), .val (.int xlow), .val (.int xw), .unset, .unset, .unset, .unset] []) (fun _ kx_ => XS.istore X0.here hx rfl (hb hby at_11) rfl (l' := #[.val (.int x0), .val (.long ya), .second, .val (.long yb), .second, .val (.int xo), .val (.int xlow), .val (.int xw), .unset, .unset, .unset, .unset]) rfl kx_) ?_
  refine W.s1 (mkF m 15 #[.val (.int x0), .val (.long ya), .second, .val (.long yb), .second, .val (.int xo), .val (.int xlow), .val (.int xw), .unset, .unset, .unset, .unset] [(.int xlow)]) (fun _ kx_ => XS.iload X0.here hx rfl (hb hby at_13) rfl kx_) ?_
  refine W.s1 (mkF m 17 #[.val (.int x0), .val (.long ya), .second, .val (.long yb), .second, .val (.int xo), .val (.int xlow), .val (.int xw), .unset, .unset, .unset, .unset] [(.int (64 : Int32)), (.int xlow)]) (fun _ kx_ => XS.bipush X0.here hx rfl (hb hby at_15) kx_) ?_
  refine W.s1 (mkF m 18 #[.val (.int x0), .val (.long ya), .second, .val (.long yb), .second, .val (.int xo), .val (.int xlow), .val (.int xw), .unset, .unset, .unset, .unset] [(.int (xlow % (64 : Int32)))]) (fun _ kx_ => iremM X0 hx rfl (hb hby at_17) rfl (by decide) kx_) ?_
  generalize hg_xr : (xlow % (64 : Int32)) = xr
  refine W.s1 (mkF m 20 #[.val (.int x0), .val (.long ya), .second, .val (.long yb), .second, .val (.int xo), .val (.int xlow), .val (.int xw), .val (.int xr), .unset, .unset, .unset] []) (fun _ kx_ => XS.istore X0.here hx rfl (hb hby at_18) rfl (l' := #[.val (.int x0), .val (.long ya), .second, .val (.long yb), .second, .val (.int xo), .val (.int xlow), .val (.int xw), .val (.int xr), .unset, .unset, .unset]) rfl kx_) ?_
  refine W.s1 (mkF m 22 #[.val (.int x0), .val (.long ya), .second, .val (.long yb), .second, .val (.int xo), .val (.int xlow), .val (.int xw), .val (.int xr), .unset, .unset, .unset] [(.int xo)]) (fun _ kx_ => XS.iload X0.here hx rfl (hb hby at_20) rfl kx_) ?_
  refine W.s1 (mkF m 24 #[.val (.int x0), .val (.long ya), .second, .val (.long yb), .second, .val (.int xo), .val (.int xlow), .val (.int xw), .val (.int xr), .unset, .unset, .unset] [(.int (2147483647 : Int32)), (.int xo)]) (fun _ kx_ => X0.ldcInt hx hown (mvT hZ (hw _ (List.mem_of_getElem? (i := 1) rfl))) (g := (mkF m 22 #[.val (.int x0), .val (.long ya), .second, .val (.long yb), .second, .val (.int xo), .val (.int xlow), .val (.int xw), .val (.int xr), .unset, .unset, .unset] [(.int xo)])) rfl (hb hby at_22) _ kx_) ?_
  refine W.s1 (mkF m 25 #[.val (.int x0), .val (.long ya), .second, .val (.long yb), .second, .val (.int xo), .val (.int xlow), .val (.int xw), .val (.int xr), .unset, .unset, .unset] [(.int (xo &&& (2147483647 : Int32)))]) (fun _ kx_ => XS.iand X0.here hx rfl (hb hby at_24) rfl kx_) ?_
  refine W.s1 (mkF m 28 #[.val (.int x0), .val (.long ya), .second, .val (.long yb), .second, .val (.int xo), .val (.int xlow), .val (.int xw), .val (.int xr), .unset, .unset, .unset] [(.int (1024 : Int32)), (.int (xo &&& (2147483647 : Int32)))]) (fun _ kx_ => XS.sipush X0.here hx rfl (hb hby at_25) kx_) ?_
  refine W.s1 (mkF m 29 #[.val (.int x0), .val (.long ya), .second, .val (.long yb), .second, .val (.int xo), .val (.int xlow), .val (.int xw), .val (.int xr), .unset, .unset, .unset] [(.int ((xo &&& (2147483647 : Int32)) % (1024 : Int32)))]) (fun _ kx_ => iremM X0 hx rfl (hb hby at_28) rfl (by decide) kx_) ?_
  generalize hg_xq : ((xo &&& (2147483647 : Int32)) % (1024 : Int32)) = xq
  refine W.s1 (mkF m 31 #[.val (.int x0), .val (.long ya), .second, .val (.long yb), .second, .val (.int xo), .val (.int xlow), .val (.int xw), .val (.int xr), .val (.int xq), .unset, .unset] []) (fun _ kx_ => XS.istore X0.here hx rfl (hb hby at_29) rfl (l' := #[.val (.int x0), .val (.long ya), .second, .val (.long yb), .second, .val (.int xo), .val (.int xlow), .val (.int xw), .val (.int xr), .val (.int xq), .unset, .unset]) rfl kx_) ?_
  have hlow : 0 ≤ xlow.toInt ∧ xlow.toInt < 65536 := by rw [← hg_xlow]; exact own_low x0
  obtain ⟨ow1, ow2, ow3⟩ := own_w hlow
  rw [hg_xw] at ow1
  rw [hg_xr] at ow3
  obtain ⟨kq, hkq, hkql⟩ : ∃ k : Nat, xq.toInt = k ∧ k < 1024 := by rw [← hg_xq]; exact own_q xo
  obtain ⟨kw, hkw, hkwl⟩ : ∃ k : Nat, xw.toInt = k ∧ k < 1024 := ⟨xw.toInt.toNat, by omega, by omega⟩
  have h63 := own_and63 hlow.1 ow3
  refine W.s1 (mkF m 34 #[.val (.int x0), .val (.long ya), .second, .val (.long yb), .second, .val (.int xo), .val (.int xlow), .val (.int xw), .val (.int xr), .val (.int xq), .unset, .unset] [(.int (1024 : Int32))]) (fun _ kx_ => XS.sipush X0.here hx rfl (hb hby at_31) kx_) ?_
  refine W.newj X0 hx hZ (hw _ (List.mem_of_getElem? (i := 2) rfl)) e0 (hb hby at_34) (n := 1024) rfl (cap := 1024) (Nat.le_refl _) (by decide) (by decide) (by decide) (pc' := 36) rfl (fun T101 h101 b101 X101 e101 E101 g101 A101 => ?_)
  have ge101 : n0 ≤ b101 := Nat.le_trans Z0 (Nat.le_of_eq g101.symm)
  have Z101 : n0 ≤ h101.size := Nat.le_trans Z0 E101.1
  refine W.s1 (mkF m 38 #[.val (.int x0), .val (.long ya), .second, .val (.long yb), .second, .val (.int xo), .val (.int xlow), .val (.int xw), .val (.int xr), .val (.int xq), .val (.ref b101), .unset] []) (fun _ kx_ => XS.astore X101.here hx rfl (hb hby at_36) rfl rfl (l' := #[.val (.int x0), .val (.long ya), .second, .val (.long yb), .second, .val (.int xo), .val (.int xlow), .val (.int xw), .val (.int xr), .val (.int xq), .val (.ref b101), .unset]) rfl kx_) ?_
  refine W.s1 (mkF m 40 #[.val (.int x0), .val (.long ya), .second, .val (.long yb), .second, .val (.int xo), .val (.int xlow), .val (.int xw), .val (.int xr), .val (.int xq), .val (.ref b101), .unset] [(.ref b101)]) (fun _ kx_ => XS.aload X101.here hx rfl (hb hby at_38) rfl rfl kx_) ?_
  refine W.s1 (mkF m 42 #[.val (.int x0), .val (.long ya), .second, .val (.long yb), .second, .val (.int xo), .val (.int xlow), .val (.int xw), .val (.int xr), .val (.int xq), .val (.ref b101), .unset] [(.int xq), (.ref b101)]) (fun _ kx_ => XS.iload X101.here hx rfl (hb hby at_40) rfl kx_) ?_
  refine W.s1 (mkF m 43 #[.val (.int x0), .val (.long ya), .second, .val (.long yb), .second, .val (.int xo), .val (.int xlow), .val (.int xw), .val (.int xr), .val (.int xq), .val (.ref b101), .unset] [(.long yb), (.int xq), (.ref b101)]) (fun _ kx_ => XS.lloadN X101.here hx rfl (hb hby at_42) rfl kx_) ?_
  refine W.stj X101 hx hZ e101 A101 kq hkq hkql N0 ge101 (hb hby at_43) (pc' := 44) rfl (fun T102 h102 L102 X102 e102 W102 fw102 N102 => ?_)
  have Z102 : n0 ≤ h102.size := Nat.le_trans Z101 (Keep.of_wr W102).1
  refine W.s1 (mkF m 46 #[.val (.int x0), .val (.long ya), .second, .val (.long yb), .second, .val (.int xo), .val (.int xlow), .val (.int xw), .val (.int xr), .val (.int xq), .val (.ref b101), .unset] [(.ref b101)]) (fun _ kx_ => XS.aload X102.here hx rfl (hb hby at_44) rfl rfl kx_) ?_
  refine W.s1 (mkF m 48 #[.val (.int x0), .val (.long ya), .second, .val (.long yb), .second, .val (.int xo), .val (.int xlow), .val (.int xw), .val (.int xr), .val (.int xq), .val (.ref b101), .unset] [(.int xw), (.ref b101)]) (fun _ kx_ => XS.iload X102.here hx rfl (hb hby at_46) rfl kx_) ?_
  refine W.s1 (mkF m 49 #[.val (.int x0), .val (.long ya), .second, .val (.long yb), .second, .val (.int xo), .val (.int xlow), .val (.int xw), .val (.int xr), .val (.int xq), .val (.ref b101), .unset] [(.long ya), (.int xw), (.ref b101)]) (fun _ kx_ => XS.lloadN X102.here hx rfl (hb hby at_48) rfl kx_) ?_
  refine W.stj X102 hx hZ e102 fw102 kw hkw hkwl N102 ge101 (hb hby at_49) (pc' := 50) rfl (fun T103 h103 L103 X103 e103 W103 fw103 N103 => ?_)
  have Z103 : n0 ≤ h103.size := Nat.le_trans Z102 (Keep.of_wr W103).1
  refine W.s1 (mkF m 52 #[.val (.int x0), .val (.long ya), .second, .val (.long yb), .second, .val (.int xo), .val (.int xlow), .val (.int xw), .val (.int xr), .val (.int xq), .val (.ref b101), .unset] [(.ref b101)]) (fun _ kx_ => XS.aload X103.here hx rfl (hb hby at_50) rfl rfl kx_) ?_
  refine W.s1 (mkF m 54 #[.val (.int x0), .val (.long ya), .second, .val (.long yb), .second, .val (.int xo), .val (.int xlow), .val (.int xw), .val (.int xr), .val (.int xq), .val (.ref b101), .unset] [(.int xlow), (.ref b101)]) (fun _ kx_ => XS.iload X103.here hx rfl (hb hby at_52) rfl kx_) ?_
  obtain ⟨_, _, ⟨T104, L104, k104, n104⟩, -, X104, ⟨Lc104, hQ104, l104, y104, z104⟩, st104⟩ := Jvm.LawKit.callS X103 hx (y := (⟨"com/example/bitpress/bitpress/DocBlock", "setBit", "([JI)V"⟩ : MethodName)) hown (mvT hZ (hw _ (List.mem_of_getElem? (i := 3) rfl))) (mvT hZ (hw _ (List.mem_of_getElem? (i := 4) rfl))) (mvT hZ (hw _ (List.mem_of_getElem? (i := 5) rfl))) (mvT hZ (hw _ (List.mem_of_getElem? (i := 6) rfl))) (by decide) (backOf (W := 0) (rm1 l Z a0 hw [] b101 xlow kw (W.up (W.up (fun _ => 0) kq yb) kw ya) h103 n0 Z103 fw103 ge101 (ow2.trans (ow1.symm.trans hkw)) hkwl) hZ (hw _ (List.mem_of_getElem? (i := 6) rfl)) (hw _ (List.mem_of_getElem? (i := 5) rfl)) (by decide) (by decide)) (g := (mkF m 54 #[.val (.int x0), .val (.long ya), .second, .val (.long yb), .second, .val (.int xo), .val (.int xlow), .val (.int xw), .val (.int xr), .val (.int xq), .val (.ref b101), .unset] [(.int xlow), (.ref b101)])) rfl (by rw [hml]; rfl) (argsL := [(.ref b101), (.int xlow)]) (rest := []) (lenOf pd_1 rfl) rfl (by show 2 * 0 + _ ≤ _; exact Nat.le_of_eq rfl) (hb hby at_54) (fun _ _ => ⟨rfl, e103, (by decide : 1 + 0 ≤ _), (by decide : 1024 + 0 ≤ _)⟩)
  dsimp only [Pt.U, Pt.locs, Pt.cells, Pt.slots] at X104 l104 y104 z104 st104 hQ104
  subst l104 y104 z104
  obtain ⟨h104, e104⟩ : ∃ z, T104.heap = z := ⟨_, rfl⟩
  rw [e104] at hQ104
  obtain ⟨rfl, Nq104, Kq104, A104⟩ := hQ104
  have N104 := Fr.app N103 Nq104
  have Z104 : n0 ≤ h104.size := Nat.le_trans Z103 Kq104.1
  generalize hfq : (W.up (W.up (W.up (fun _ => 0) kq yb) kw ya) kw (W.up (W.up (fun _ => 0) kq yb) kw ya kw ||| ((1 : Int64) <<< (xlow &&& 0x3f).toInt64))) = fq at A104
  have hall : ∀ (xi : Int32) (k : Nat), k < 1024 → xi.toInt = k → fq k = own_ex xi xw xq ya yb xr := by
    intro xi k hk hik
    rw [← hfq]
    by_cases e1 : xi = xw
    · have : k = kw := by rw [e1] at hik; omega
      subst this; rw [W.up_same, W.up_same, own_ex, if_pos e1, h63]
    · have : ¬ k = kw := fun q => e1 (Int32.toInt_inj.mp (by omega))
      rw [W.up_other _ _ this, W.up_other _ _ this, own_ex, if_neg e1]
      by_cases e2 : xi = xq
      · have : k = kq := by rw [e2] at hik; omega
        subst this; rw [W.up_same, if_pos e2]
      · have : ¬ k = kq := fun q => e2 (Int32.toInt_inj.mp (by omega))
        rw [W.up_other _ _ this, if_neg e2]
  refine W.s2 (mkF m 57 #[.val (.int x0), .val (.long ya), .second, .val (.long yb), .second, .val (.int xo), .val (.int xlow), .val (.int xw), .val (.int xr), .val (.int xq), .val (.ref b101), .unset] []) st104 ?_
  refine W.s1 (mkF m 59 #[.val (.int x0), .val (.long ya), .second, .val (.long yb), .second, .val (.int xo), .val (.int xlow), .val (.int xw), .val (.int xr), .val (.int xq), .val (.ref b101), .unset] [(.ref b101)]) (fun _ kx_ => XS.aload X104.here hx rfl (hb hby at_57) rfl rfl kx_) ?_
  refine W.s1 (mkF m 61 #[.val (.int x0), .val (.long ya), .second, .val (.long yb), .second, .val (.int xo), .val (.int xlow), .val (.int xw), .val (.int xr), .val (.int xq), .val (.ref b101), .unset] [(.int xw), (.ref b101)]) (fun _ kx_ => XS.iload X104.here hx rfl (hb hby at_59) rfl kx_) ?_
  refine W.s1 (mkF m 63 #[.val (.int x0), .val (.long ya), .second, .val (.long yb), .second, .val (.int xo), .val (.int xlow), .val (.int xw), .val (.int xr), .val (.int xq), .val (.ref b101), .unset] [(.int xw), (.int xw), (.ref b101)]) (fun _ kx_ => XS.iload X104.here hx rfl (hb hby at_61) rfl kx_) ?_
  refine W.s1 (mkF m 65 #[.val (.int x0), .val (.long ya), .second, .val (.long yb), .second, .val (.int xo), .val (.int xlow), .val (.int xw), .val (.int xr), .val (.int xq), .val (.ref b101), .unset] [(.int xq), (.int xw), (.int xw), (.ref b101)]) (fun _ kx_ => XS.iload X104.here hx rfl (hb hby at_63) rfl kx_) ?_
  refine W.s1 (mkF m 66 #[.val (.int x0), .val (.long ya), .second, .val (.long yb), .second, .val (.int xo), .val (.int xlow), .val (.int xw), .val (.int xr), .val (.int xq), .val (.ref b101), .unset] [(.long ya), (.int xq), (.int xw), (.int xw), (.ref b101)]) (fun _ kx_ => XS.lloadN X104.here hx rfl (hb hby at_65) rfl kx_) ?_
  refine W.s1 (mkF m 67 #[.val (.int x0), .val (.long ya), .second, .val (.long yb), .second, .val (.int xo), .val (.int xlow), .val (.int xw), .val (.int xr), .val (.int xq), .val (.ref b101), .unset] [(.long yb), (.long ya), (.int xq), (.int xw), (.int xw), (.ref b101)]) (fun _ kx_ => XS.lloadN X104.here hx rfl (hb hby at_66) rfl kx_) ?_
  refine W.s1 (mkF m 69 #[.val (.int x0), .val (.long ya), .second, .val (.long yb), .second, .val (.int xo), .val (.int xlow), .val (.int xw), .val (.int xr), .val (.int xq), .val (.ref b101), .unset] [(.int xr), (.long yb), (.long ya), (.int xq), (.int xw), (.int xw), (.ref b101)]) (fun _ kx_ => XS.iload X104.here hx rfl (hb hby at_67) rfl kx_) ?_
  obtain ⟨_, _, ⟨T106, L106, k106, n106⟩, -, X106, ⟨Lc106, hQ106, l106, y106, z106⟩, st106⟩ := Jvm.LawKit.callS X104 hx (y := (⟨"com/example/bitpress/bitpress/DocBlockSetBitPinLaw", "check", "([JIIIJJI)Z"⟩ : MethodName)) hown (mvT hZ (hw _ (List.mem_of_getElem? (i := 7) rfl))) (mvT hZ (hw _ (List.mem_of_getElem? (i := 8) rfl))) (mvT hZ (hw _ (List.mem_of_getElem? (i := 9) rfl))) (mvT hZ (hw _ (List.mem_of_getElem? (i := 10) rfl))) (by decide) (backOf (W := 0) (rm2 l Z a0 hw [] b101 xw xw xq ya yb xr fq h104 n0 Z104 A104 (hall _)) hZ (hw _ (List.mem_of_getElem? (i := 10) rfl)) (hw _ (List.mem_of_getElem? (i := 9) rfl)) (by decide) (by decide)) (g := (mkF m 69 #[.val (.int x0), .val (.long ya), .second, .val (.long yb), .second, .val (.int xo), .val (.int xlow), .val (.int xw), .val (.int xr), .val (.int xq), .val (.ref b101), .unset] [(.int xr), (.long yb), (.long ya), (.int xq), (.int xw), (.int xw), (.ref b101)])) rfl (by rw [hml]; rfl) (argsL := [(.ref b101), (.int xw), (.int xw), (.int xq), (.long ya), (.long yb), (.int xr)]) (rest := []) (lenOf pd_2 rfl) rfl (by show 2 * 0 + _ ≤ _; exact Nat.le_of_eq rfl) (hb hby at_69) (fun _ _ => ⟨rfl, e104, (by decide : 1 + 0 ≤ _), (by decide : 1024 + 0 ≤ _)⟩)
  dsimp only [Pt.U, Pt.locs, Pt.cells, Pt.slots] at X106 l106 y106 z106 st106 hQ106
  subst l106 y106 z106
  obtain ⟨rfl, Nq106, eq106⟩ := hQ106
  have N106 := Fr.app N104 Nq106
  refine W.s2 (mkF m 72 #[.val (.int x0), .val (.long ya), .second, .val (.long yb), .second, .val (.int xo), .val (.int xlow), .val (.int xw), .val (.int xr), .val (.int xq), .val (.ref b101), .unset] [(.int (1 : Int32))]) st106 ?_
  refine W.s1 (mkF m 74 #[.val (.int x0), .val (.long ya), .second, .val (.long yb), .second, .val (.int xo), .val (.int xlow), .val (.int xw), .val (.int xr), .val (.int xq), .val (.ref b101), .val (.int (1 : Int32))] []) (fun _ kx_ => XS.istore X106.here hx rfl (hb hby at_72) rfl (l' := #[.val (.int x0), .val (.long ya), .second, .val (.long yb), .second, .val (.int xo), .val (.int xlow), .val (.int xw), .val (.int xr), .val (.int xq), .val (.ref b101), .val (.int (1 : Int32))]) rfl kx_) ?_
  refine W.s1 (mkF m 76 #[.val (.int x0), .val (.long ya), .second, .val (.long yb), .second, .val (.int xo), .val (.int xlow), .val (.int xw), .val (.int xr), .val (.int xq), .val (.ref b101), .val (.int (1 : Int32))] [(.int (1 : Int32))]) (fun _ kx_ => XS.iload X106.here hx rfl (hb hby at_74) rfl kx_) ?_
  refine W.ifc X106 hx (hb hby at_76) (pc' := 101) (pc'' := 79) (by decide) (by decide) rfl (fun (c76 : (1 : Int32) = (0 : Int32)) => ?_) (fun (c76 : ¬ (1 : Int32) = (0 : Int32)) => ?_)
  · exact absurd c76 (by decide)
  · refine W.s1 (mkF m 81 #[.val (.int x0), .val (.long ya), .second, .val (.long yb), .second, .val (.int xo), .val (.int xlow), .val (.int xw), .val (.int xr), .val (.int xq), .val (.ref b101), .val (.int (1 : Int32))] [(.ref b101)]) (fun _ kx_ => XS.aload X106.here hx rfl (hb hby at_79) rfl rfl kx_) ?_
    refine W.s1 (mkF m 83 #[.val (.int x0), .val (.long ya), .second, .val (.long yb), .second, .val (.int xo), .val (.int xlow), .val (.int xw), .val (.int xr), .val (.int xq), .val (.ref b101), .val (.int (1 : Int32))] [(.int xq), (.ref b101)]) (fun _ kx_ => XS.iload X106.here hx rfl (hb hby at_81) rfl kx_) ?_
    refine W.s1 (mkF m 85 #[.val (.int x0), .val (.long ya), .second, .val (.long yb), .second, .val (.int xo), .val (.int xlow), .val (.int xw), .val (.int xr), .val (.int xq), .val (.ref b101), .val (.int (1 : Int32))] [(.int xw), (.int xq), (.ref b101)]) (fun _ kx_ => XS.iload X106.here hx rfl (hb hby at_83) rfl kx_) ?_
    refine W.s1 (mkF m 87 #[.val (.int x0), .val (.long ya), .second, .val (.long yb), .second, .val (.int xo), .val (.int xlow), .val (.int xw), .val (.int xr), .val (.int xq), .val (.ref b101), .val (.int (1 : Int32))] [(.int xq), (.int xw), (.int xq), (.ref b101)]) (fun _ kx_ => XS.iload X106.here hx rfl (hb hby at_85) rfl kx_) ?_
    refine W.s1 (mkF m 88 #[.val (.int x0), .val (.long ya), .second, .val (.long yb), .second, .val (.int xo), .val (.int xlow), .val (.int xw), .val (.int xr), .val (.int xq), .val (.ref b101), .val (.int (1 : Int32))] [(.long ya), (.int xq), (.int xw), (.int xq), (.ref b101)]) (fun _ kx_ => XS.lloadN X106.here hx rfl (hb hby at_87) rfl kx_) ?_
    refine W.s1 (mkF m 89 #[.val (.int x0), .val (.long ya), .second, .val (.long yb), .second, .val (.int xo), .val (.int xlow), .val (.int xw), .val (.int xr), .val (.int xq), .val (.ref b101), .val (.int (1 : Int32))] [(.long yb), (.long ya), (.int xq), (.int xw), (.int xq), (.ref b101)]) (fun _ kx_ => XS.lloadN X106.here hx rfl (hb hby at_88) rfl kx_) ?_
    refine W.s1 (mkF m 91 #[.val (.int x0), .val (.long ya), .second, .val (.long yb), .second, .val (.int xo), .val (.int xlow), .val (.int xw), .val (.int xr), .val (.int xq), .val (.ref b101), .val (.int (1 : Int32))] [(.int xr), (.long yb), (.long ya), (.int xq), (.int xw), (.int xq), (.ref b101)]) (fun _ kx_ => XS.iload X106.here hx rfl (hb hby at_89) rfl kx_) ?_
    obtain ⟨_, _, ⟨T107, L107, k107, n107⟩, -, X107, ⟨Lc107, hQ107, l107, y107, z107⟩, st107⟩ := Jvm.LawKit.callS X106 hx (y := (⟨"com/example/bitpress/bitpress/DocBlockSetBitPinLaw", "check", "([JIIIJJI)Z"⟩ : MethodName)) hown (mvT hZ (hw _ (List.mem_of_getElem? (i := 7) rfl))) (mvT hZ (hw _ (List.mem_of_getElem? (i := 8) rfl))) (mvT hZ (hw _ (List.mem_of_getElem? (i := 9) rfl))) (mvT hZ (hw _ (List.mem_of_getElem? (i := 10) rfl))) (by decide) (backOf (W := 0) (rm2 l Z a0 hw [] b101 xq xw xq ya yb xr fq h104 n0 Z104 A104 (hall _)) hZ (hw _ (List.mem_of_getElem? (i := 10) rfl)) (hw _ (List.mem_of_getElem? (i := 9) rfl)) (by decide) (by decide)) (g := (mkF m 91 #[.val (.int x0), .val (.long ya), .second, .val (.long yb), .second, .val (.int xo), .val (.int xlow), .val (.int xw), .val (.int xr), .val (.int xq), .val (.ref b101), .val (.int (1 : Int32))] [(.int xr), (.long yb), (.long ya), (.int xq), (.int xw), (.int xq), (.ref b101)])) rfl (by rw [hml]; rfl) (argsL := [(.ref b101), (.int xq), (.int xw), (.int xq), (.long ya), (.long yb), (.int xr)]) (rest := []) (lenOf pd_2 rfl) rfl (by show 2 * 0 + _ ≤ _; exact Nat.le_of_eq rfl) (hb hby at_91) (fun _ _ => ⟨rfl, eq106, (by decide : 1 + 0 ≤ _), (by decide : 1024 + 0 ≤ _)⟩)
    dsimp only [Pt.U, Pt.locs, Pt.cells, Pt.slots] at X107 l107 y107 z107 st107 hQ107
    subst l107 y107 z107
    obtain ⟨rfl, Nq107, eq107⟩ := hQ107
    have N107 := Fr.app N106 Nq107
    refine W.s2 (mkF m 94 #[.val (.int x0), .val (.long ya), .second, .val (.long yb), .second, .val (.int xo), .val (.int xlow), .val (.int xw), .val (.int xr), .val (.int xq), .val (.ref b101), .val (.int (1 : Int32))] [(.int (1 : Int32))]) st107 ?_
    refine W.ifc X107 hx (hb hby at_94) (pc' := 101) (pc'' := 97) (by decide) (by decide) rfl (fun (c94 : (1 : Int32) = (0 : Int32)) => ?_) (fun (c94 : ¬ (1 : Int32) = (0 : Int32)) => ?_)
    · exact absurd c94 (by decide)
    · refine W.s1 (mkF m 98 #[.val (.int x0), .val (.long ya), .second, .val (.long yb), .second, .val (.int xo), .val (.int xlow), .val (.int xw), .val (.int xr), .val (.int xq), .val (.ref b101), .val (.int (1 : Int32))] [(.int (1 : Int32))]) (fun _ kx_ => XS.iconst X107.here hx rfl (hb hby at_97) kx_) ?_
      refine W.s1 (mkF m 102 #[.val (.int x0), .val (.long ya), .second, .val (.long yb), .second, .val (.int xo), .val (.int xlow), .val (.int xw), .val (.int xr), .val (.int xq), .val (.ref b101), .val (.int (1 : Int32))] [(.int (1 : Int32))]) (fun _ kx_ => XS.goto X107.here hx rfl (pc0 := 98) (pc' := 102) rfl (hb hby at_98) (by decide) (by decide) kx_) ?_
      refine W.s1 (mkF m 104 #[.val (.int x0), .val (.long ya), .second, .val (.long yb), .second, .val (.int xo), .val (.int xlow), .val (.int xw), .val (.int xr), .val (.int xq), .val (.ref b101), .val (.int (1 : Int32))] []) (fun _ kx_ => XS.istore X107.here hx rfl (hb hby at_102) rfl (l' := #[.val (.int x0), .val (.long ya), .second, .val (.long yb), .second, .val (.int xo), .val (.int xlow), .val (.int xw), .val (.int xr), .val (.int xq), .val (.ref b101), .val (.int (1 : Int32))]) rfl kx_) ?_
      refine W.s1 (mkF m 106 #[.val (.int x0), .val (.long ya), .second, .val (.long yb), .second, .val (.int xo), .val (.int xlow), .val (.int xw), .val (.int xr), .val (.int xq), .val (.ref b101), .val (.int (1 : Int32))] [(.int (1 : Int32))]) (fun _ kx_ => XS.iload X107.here hx rfl (hb hby at_104) rfl kx_) ?_
      refine W.ifc X107 hx (hb hby at_106) (pc' := 133) (pc'' := 109) (by decide) (by decide) rfl (fun (c106 : (1 : Int32) = (0 : Int32)) => ?_) (fun (c106 : ¬ (1 : Int32) = (0 : Int32)) => ?_)
      · exact absurd c106 (by decide)
      · refine W.s1 (mkF m 111 #[.val (.int x0), .val (.long ya), .second, .val (.long yb), .second, .val (.int xo), .val (.int xlow), .val (.int xw), .val (.int xr), .val (.int xq), .val (.ref b101), .val (.int (1 : Int32))] [(.ref b101)]) (fun _ kx_ => XS.aload X107.here hx rfl (hb hby at_109) rfl rfl kx_) ?_
        refine W.s1 (mkF m 113 #[.val (.int x0), .val (.long ya), .second, .val (.long yb), .second, .val (.int xo), .val (.int xlow), .val (.int xw), .val (.int xr), .val (.int xq), .val (.ref b101), .val (.int (1 : Int32))] [(.int xw), (.ref b101)]) (fun _ kx_ => XS.iload X107.here hx rfl (hb hby at_111) rfl kx_) ?_
        refine W.s1 (mkF m 114 #[.val (.int x0), .val (.long ya), .second, .val (.long yb), .second, .val (.int xo), .val (.int xlow), .val (.int xw), .val (.int xr), .val (.int xq), .val (.ref b101), .val (.int (1 : Int32))] [(.int (1 : Int32)), (.int xw), (.ref b101)]) (fun _ kx_ => XS.iconst X107.here hx rfl (hb hby at_113) kx_) ?_
        refine W.s1 (mkF m 115 #[.val (.int x0), .val (.long ya), .second, .val (.long yb), .second, .val (.int xo), .val (.int xlow), .val (.int xw), .val (.int xr), .val (.int xq), .val (.ref b101), .val (.int (1 : Int32))] [(.int (xw - (1 : Int32))), (.ref b101)]) (fun _ kx_ => XS.isub X107.here hx rfl (hb hby at_114) rfl kx_) ?_
        refine W.s1 (mkF m 117 #[.val (.int x0), .val (.long ya), .second, .val (.long yb), .second, .val (.int xo), .val (.int xlow), .val (.int xw), .val (.int xr), .val (.int xq), .val (.ref b101), .val (.int (1 : Int32))] [(.int xw), (.int (xw - (1 : Int32))), (.ref b101)]) (fun _ kx_ => XS.iload X107.here hx rfl (hb hby at_115) rfl kx_) ?_
        refine W.s1 (mkF m 119 #[.val (.int x0), .val (.long ya), .second, .val (.long yb), .second, .val (.int xo), .val (.int xlow), .val (.int xw), .val (.int xr), .val (.int xq), .val (.ref b101), .val (.int (1 : Int32))] [(.int xq), (.int xw), (.int (xw - (1 : Int32))), (.ref b101)]) (fun _ kx_ => XS.iload X107.here hx rfl (hb hby at_117) rfl kx_) ?_
        refine W.s1 (mkF m 120 #[.val (.int x0), .val (.long ya), .second, .val (.long yb), .second, .val (.int xo), .val (.int xlow), .val (.int xw), .val (.int xr), .val (.int xq), .val (.ref b101), .val (.int (1 : Int32))] [(.long ya), (.int xq), (.int xw), (.int (xw - (1 : Int32))), (.ref b101)]) (fun _ kx_ => XS.lloadN X107.here hx rfl (hb hby at_119) rfl kx_) ?_
        refine W.s1 (mkF m 121 #[.val (.int x0), .val (.long ya), .second, .val (.long yb), .second, .val (.int xo), .val (.int xlow), .val (.int xw), .val (.int xr), .val (.int xq), .val (.ref b101), .val (.int (1 : Int32))] [(.long yb), (.long ya), (.int xq), (.int xw), (.int (xw - (1 : Int32))), (.ref b101)]) (fun _ kx_ => XS.lloadN X107.here hx rfl (hb hby at_120) rfl kx_) ?_
        refine W.s1 (mkF m 123 #[.val (.int x0), .val (.long ya), .second, .val (.long yb), .second, .val (.int xo), .val (.int xlow), .val (.int xw), .val (.int xr), .val (.int xq), .val (.ref b101), .val (.int (1 : Int32))] [(.int xr), (.long yb), (.long ya), (.int xq), (.int xw), (.int (xw - (1 : Int32))), (.ref b101)]) (fun _ kx_ => XS.iload X107.here hx rfl (hb hby at_121) rfl kx_) ?_
        obtain ⟨_, _, ⟨T108, L108, k108, n108⟩, -, X108, ⟨Lc108, hQ108, l108, y108, z108⟩, st108⟩ := Jvm.LawKit.callS X107 hx (y := (⟨"com/example/bitpress/bitpress/DocBlockSetBitPinLaw", "check", "([JIIIJJI)Z"⟩ : MethodName)) hown (mvT hZ (hw _ (List.mem_of_getElem? (i := 7) rfl))) (mvT hZ (hw _ (List.mem_of_getElem? (i := 8) rfl))) (mvT hZ (hw _ (List.mem_of_getElem? (i := 9) rfl))) (mvT hZ (hw _ (List.mem_of_getElem? (i := 10) rfl))) (by decide) (backOf (W := 0) (rm2 l Z a0 hw [] b101 (xw - (1 : Int32)) xw xq ya yb xr fq h104 n0 Z104 A104 (hall _)) hZ (hw _ (List.mem_of_getElem? (i := 10) rfl)) (hw _ (List.mem_of_getElem? (i := 9) rfl)) (by decide) (by decide)) (g := (mkF m 123 #[.val (.int x0), .val (.long ya), .second, .val (.long yb), .second, .val (.int xo), .val (.int xlow), .val (.int xw), .val (.int xr), .val (.int xq), .val (.ref b101), .val (.int (1 : Int32))] [(.int xr), (.long yb), (.long ya), (.int xq), (.int xw), (.int (xw - (1 : Int32))), (.ref b101)])) rfl (by rw [hml]; rfl) (argsL := [(.ref b101), (.int (xw - (1 : Int32))), (.int xw), (.int xq), (.long ya), (.long yb), (.int xr)]) (rest := []) (lenOf pd_2 rfl) rfl (by show 2 * 0 + _ ≤ _; exact Nat.le_of_eq rfl) (hb hby at_123) (fun _ _ => ⟨rfl, eq107, (by decide : 1 + 0 ≤ _), (by decide : 1024 + 0 ≤ _)⟩)
        dsimp only [Pt.U, Pt.locs, Pt.cells, Pt.slots] at X108 l108 y108 z108 st108 hQ108
        subst l108 y108 z108
        obtain ⟨rfl, Nq108, eq108⟩ := hQ108
        have N108 := Fr.app N107 Nq108
        refine W.s2 (mkF m 126 #[.val (.int x0), .val (.long ya), .second, .val (.long yb), .second, .val (.int xo), .val (.int xlow), .val (.int xw), .val (.int xr), .val (.int xq), .val (.ref b101), .val (.int (1 : Int32))] [(.int (1 : Int32))]) st108 ?_
        refine W.ifc X108 hx (hb hby at_126) (pc' := 133) (pc'' := 129) (by decide) (by decide) rfl (fun (c126 : (1 : Int32) = (0 : Int32)) => ?_) (fun (c126 : ¬ (1 : Int32) = (0 : Int32)) => ?_)
        · exact absurd c126 (by decide)
        · refine W.s1 (mkF m 130 #[.val (.int x0), .val (.long ya), .second, .val (.long yb), .second, .val (.int xo), .val (.int xlow), .val (.int xw), .val (.int xr), .val (.int xq), .val (.ref b101), .val (.int (1 : Int32))] [(.int (1 : Int32))]) (fun _ kx_ => XS.iconst X108.here hx rfl (hb hby at_129) kx_) ?_
          refine W.s1 (mkF m 134 #[.val (.int x0), .val (.long ya), .second, .val (.long yb), .second, .val (.int xo), .val (.int xlow), .val (.int xw), .val (.int xr), .val (.int xq), .val (.ref b101), .val (.int (1 : Int32))] [(.int (1 : Int32))]) (fun _ kx_ => XS.goto X108.here hx rfl (pc0 := 130) (pc' := 134) rfl (hb hby at_130) (by decide) (by decide) kx_) ?_
          refine W.s1 (mkF m 136 #[.val (.int x0), .val (.long ya), .second, .val (.long yb), .second, .val (.int xo), .val (.int xlow), .val (.int xw), .val (.int xr), .val (.int xq), .val (.ref b101), .val (.int (1 : Int32))] []) (fun _ kx_ => XS.istore X108.here hx rfl (hb hby at_134) rfl (l' := #[.val (.int x0), .val (.long ya), .second, .val (.long yb), .second, .val (.int xo), .val (.int xlow), .val (.int xw), .val (.int xr), .val (.int xq), .val (.ref b101), .val (.int (1 : Int32))]) rfl kx_) ?_
          refine W.s1 (mkF m 138 #[.val (.int x0), .val (.long ya), .second, .val (.long yb), .second, .val (.int xo), .val (.int xlow), .val (.int xw), .val (.int xr), .val (.int xq), .val (.ref b101), .val (.int (1 : Int32))] [(.int (1 : Int32))]) (fun _ kx_ => XS.iload X108.here hx rfl (hb hby at_136) rfl kx_) ?_
          refine W.ifc X108 hx (hb hby at_138) (pc' := 165) (pc'' := 141) (by decide) (by decide) rfl (fun (c138 : (1 : Int32) = (0 : Int32)) => ?_) (fun (c138 : ¬ (1 : Int32) = (0 : Int32)) => ?_)
          · exact absurd c138 (by decide)
          · refine W.s1 (mkF m 143 #[.val (.int x0), .val (.long ya), .second, .val (.long yb), .second, .val (.int xo), .val (.int xlow), .val (.int xw), .val (.int xr), .val (.int xq), .val (.ref b101), .val (.int (1 : Int32))] [(.ref b101)]) (fun _ kx_ => XS.aload X108.here hx rfl (hb hby at_141) rfl rfl kx_) ?_
            refine W.s1 (mkF m 145 #[.val (.int x0), .val (.long ya), .second, .val (.long yb), .second, .val (.int xo), .val (.int xlow), .val (.int xw), .val (.int xr), .val (.int xq), .val (.ref b101), .val (.int (1 : Int32))] [(.int xw), (.ref b101)]) (fun _ kx_ => XS.iload X108.here hx rfl (hb hby at_143) rfl kx_) ?_
            refine W.s1 (mkF m 146 #[.val (.int x0), .val (.long ya), .second, .val (.long yb), .second, .val (.int xo), .val (.int xlow), .val (.int xw), .val (.int xr), .val (.int xq), .val (.ref b101), .val (.int (1 : Int32))] [(.int (1 : Int32)), (.int xw), (.ref b101)]) (fun _ kx_ => XS.iconst X108.here hx rfl (hb hby at_145) kx_) ?_
            refine W.s1 (mkF m 147 #[.val (.int x0), .val (.long ya), .second, .val (.long yb), .second, .val (.int xo), .val (.int xlow), .val (.int xw), .val (.int xr), .val (.int xq), .val (.ref b101), .val (.int (1 : Int32))] [(.int (xw + (1 : Int32))), (.ref b101)]) (fun _ kx_ => XS.iadd X108.here hx rfl (hb hby at_146) rfl kx_) ?_
            refine W.s1 (mkF m 149 #[.val (.int x0), .val (.long ya), .second, .val (.long yb), .second, .val (.int xo), .val (.int xlow), .val (.int xw), .val (.int xr), .val (.int xq), .val (.ref b101), .val (.int (1 : Int32))] [(.int xw), (.int (xw + (1 : Int32))), (.ref b101)]) (fun _ kx_ => XS.iload X108.here hx rfl (hb hby at_147) rfl kx_) ?_
            refine W.s1 (mkF m 151 #[.val (.int x0), .val (.long ya), .second, .val (.long yb), .second, .val (.int xo), .val (.int xlow), .val (.int xw), .val (.int xr), .val (.int xq), .val (.ref b101), .val (.int (1 : Int32))] [(.int xq), (.int xw), (.int (xw + (1 : Int32))), (.ref b101)]) (fun _ kx_ => XS.iload X108.here hx rfl (hb hby at_149) rfl kx_) ?_
            refine W.s1 (mkF m 152 #[.val (.int x0), .val (.long ya), .second, .val (.long yb), .second, .val (.int xo), .val (.int xlow), .val (.int xw), .val (.int xr), .val (.int xq), .val (.ref b101), .val (.int (1 : Int32))] [(.long ya), (.int xq), (.int xw), (.int (xw + (1 : Int32))), (.ref b101)]) (fun _ kx_ => XS.lloadN X108.here hx rfl (hb hby at_151) rfl kx_) ?_
            refine W.s1 (mkF m 153 #[.val (.int x0), .val (.long ya), .second, .val (.long yb), .second, .val (.int xo), .val (.int xlow), .val (.int xw), .val (.int xr), .val (.int xq), .val (.ref b101), .val (.int (1 : Int32))] [(.long yb), (.long ya), (.int xq), (.int xw), (.int (xw + (1 : Int32))), (.ref b101)]) (fun _ kx_ => XS.lloadN X108.here hx rfl (hb hby at_152) rfl kx_) ?_
            refine W.s1 (mkF m 155 #[.val (.int x0), .val (.long ya), .second, .val (.long yb), .second, .val (.int xo), .val (.int xlow), .val (.int xw), .val (.int xr), .val (.int xq), .val (.ref b101), .val (.int (1 : Int32))] [(.int xr), (.long yb), (.long ya), (.int xq), (.int xw), (.int (xw + (1 : Int32))), (.ref b101)]) (fun _ kx_ => XS.iload X108.here hx rfl (hb hby at_153) rfl kx_) ?_
            obtain ⟨_, _, ⟨T109, L109, k109, n109⟩, -, X109, ⟨Lc109, hQ109, l109, y109, z109⟩, st109⟩ := Jvm.LawKit.callS X108 hx (y := (⟨"com/example/bitpress/bitpress/DocBlockSetBitPinLaw", "check", "([JIIIJJI)Z"⟩ : MethodName)) hown (mvT hZ (hw _ (List.mem_of_getElem? (i := 7) rfl))) (mvT hZ (hw _ (List.mem_of_getElem? (i := 8) rfl))) (mvT hZ (hw _ (List.mem_of_getElem? (i := 9) rfl))) (mvT hZ (hw _ (List.mem_of_getElem? (i := 10) rfl))) (by decide) (backOf (W := 0) (rm2 l Z a0 hw [] b101 (xw + (1 : Int32)) xw xq ya yb xr fq h104 n0 Z104 A104 (hall _)) hZ (hw _ (List.mem_of_getElem? (i := 10) rfl)) (hw _ (List.mem_of_getElem? (i := 9) rfl)) (by decide) (by decide)) (g := (mkF m 155 #[.val (.int x0), .val (.long ya), .second, .val (.long yb), .second, .val (.int xo), .val (.int xlow), .val (.int xw), .val (.int xr), .val (.int xq), .val (.ref b101), .val (.int (1 : Int32))] [(.int xr), (.long yb), (.long ya), (.int xq), (.int xw), (.int (xw + (1 : Int32))), (.ref b101)])) rfl (by rw [hml]; rfl) (argsL := [(.ref b101), (.int (xw + (1 : Int32))), (.int xw), (.int xq), (.long ya), (.long yb), (.int xr)]) (rest := []) (lenOf pd_2 rfl) rfl (by show 2 * 0 + _ ≤ _; exact Nat.le_of_eq rfl) (hb hby at_155) (fun _ _ => ⟨rfl, eq108, (by decide : 1 + 0 ≤ _), (by decide : 1024 + 0 ≤ _)⟩)
            dsimp only [Pt.U, Pt.locs, Pt.cells, Pt.slots] at X109 l109 y109 z109 st109 hQ109
            subst l109 y109 z109
            obtain ⟨rfl, Nq109, eq109⟩ := hQ109
            have N109 := Fr.app N108 Nq109
            refine W.s2 (mkF m 158 #[.val (.int x0), .val (.long ya), .second, .val (.long yb), .second, .val (.int xo), .val (.int xlow), .val (.int xw), .val (.int xr), .val (.int xq), .val (.ref b101), .val (.int (1 : Int32))] [(.int (1 : Int32))]) st109 ?_
            refine W.ifc X109 hx (hb hby at_158) (pc' := 165) (pc'' := 161) (by decide) (by decide) rfl (fun (c158 : (1 : Int32) = (0 : Int32)) => ?_) (fun (c158 : ¬ (1 : Int32) = (0 : Int32)) => ?_)
            · exact absurd c158 (by decide)
            · refine W.s1 (mkF m 162 #[.val (.int x0), .val (.long ya), .second, .val (.long yb), .second, .val (.int xo), .val (.int xlow), .val (.int xw), .val (.int xr), .val (.int xq), .val (.ref b101), .val (.int (1 : Int32))] [(.int (1 : Int32))]) (fun _ kx_ => XS.iconst X109.here hx rfl (hb hby at_161) kx_) ?_
              refine W.s1 (mkF m 166 #[.val (.int x0), .val (.long ya), .second, .val (.long yb), .second, .val (.int xo), .val (.int xlow), .val (.int xw), .val (.int xr), .val (.int xq), .val (.ref b101), .val (.int (1 : Int32))] [(.int (1 : Int32))]) (fun _ kx_ => XS.goto X109.here hx rfl (pc0 := 162) (pc' := 166) rfl (hb hby at_162) (by decide) (by decide) kx_) ?_
              refine W.s1 (mkF m 168 #[.val (.int x0), .val (.long ya), .second, .val (.long yb), .second, .val (.int xo), .val (.int xlow), .val (.int xw), .val (.int xr), .val (.int xq), .val (.ref b101), .val (.int (1 : Int32))] []) (fun _ kx_ => XS.istore X109.here hx rfl (hb hby at_166) rfl (l' := #[.val (.int x0), .val (.long ya), .second, .val (.long yb), .second, .val (.int xo), .val (.int xlow), .val (.int xw), .val (.int xr), .val (.int xq), .val (.ref b101), .val (.int (1 : Int32))]) rfl kx_) ?_
              refine W.s1 (mkF m 170 #[.val (.int x0), .val (.long ya), .second, .val (.long yb), .second, .val (.int xo), .val (.int xlow), .val (.int xw), .val (.int xr), .val (.int xq), .val (.ref b101), .val (.int (1 : Int32))] [(.int (1 : Int32))]) (fun _ kx_ => XS.iload X109.here hx rfl (hb hby at_168) rfl kx_) ?_
              refine W.ifc X109 hx (hb hby at_170) (pc' := 194) (pc'' := 173) (by decide) (by decide) rfl (fun (c170 : (1 : Int32) = (0 : Int32)) => ?_) (fun (c170 : ¬ (1 : Int32) = (0 : Int32)) => ?_)
              · exact absurd c170 (by decide)
              · refine W.s1 (mkF m 175 #[.val (.int x0), .val (.long ya), .second, .val (.long yb), .second, .val (.int xo), .val (.int xlow), .val (.int xw), .val (.int xr), .val (.int xq), .val (.ref b101), .val (.int (1 : Int32))] [(.ref b101)]) (fun _ kx_ => XS.aload X109.here hx rfl (hb hby at_173) rfl rfl kx_) ?_
                refine W.s1 (mkF m 176 #[.val (.int x0), .val (.long ya), .second, .val (.long yb), .second, .val (.int xo), .val (.int xlow), .val (.int xw), .val (.int xr), .val (.int xq), .val (.ref b101), .val (.int (1 : Int32))] [(.int (0 : Int32)), (.ref b101)]) (fun _ kx_ => XS.iconst X109.here hx rfl (hb hby at_175) kx_) ?_
                refine W.s1 (mkF m 178 #[.val (.int x0), .val (.long ya), .second, .val (.long yb), .second, .val (.int xo), .val (.int xlow), .val (.int xw), .val (.int xr), .val (.int xq), .val (.ref b101), .val (.int (1 : Int32))] [(.int xw), (.int (0 : Int32)), (.ref b101)]) (fun _ kx_ => XS.iload X109.here hx rfl (hb hby at_176) rfl kx_) ?_
                refine W.s1 (mkF m 180 #[.val (.int x0), .val (.long ya), .second, .val (.long yb), .second, .val (.int xo), .val (.int xlow), .val (.int xw), .val (.int xr), .val (.int xq), .val (.ref b101), .val (.int (1 : Int32))] [(.int xq), (.int xw), (.int (0 : Int32)), (.ref b101)]) (fun _ kx_ => XS.iload X109.here hx rfl (hb hby at_178) rfl kx_) ?_
                refine W.s1 (mkF m 181 #[.val (.int x0), .val (.long ya), .second, .val (.long yb), .second, .val (.int xo), .val (.int xlow), .val (.int xw), .val (.int xr), .val (.int xq), .val (.ref b101), .val (.int (1 : Int32))] [(.long ya), (.int xq), (.int xw), (.int (0 : Int32)), (.ref b101)]) (fun _ kx_ => XS.lloadN X109.here hx rfl (hb hby at_180) rfl kx_) ?_
                refine W.s1 (mkF m 182 #[.val (.int x0), .val (.long ya), .second, .val (.long yb), .second, .val (.int xo), .val (.int xlow), .val (.int xw), .val (.int xr), .val (.int xq), .val (.ref b101), .val (.int (1 : Int32))] [(.long yb), (.long ya), (.int xq), (.int xw), (.int (0 : Int32)), (.ref b101)]) (fun _ kx_ => XS.lloadN X109.here hx rfl (hb hby at_181) rfl kx_) ?_
                refine W.s1 (mkF m 184 #[.val (.int x0), .val (.long ya), .second, .val (.long yb), .second, .val (.int xo), .val (.int xlow), .val (.int xw), .val (.int xr), .val (.int xq), .val (.ref b101), .val (.int (1 : Int32))] [(.int xr), (.long yb), (.long ya), (.int xq), (.int xw), (.int (0 : Int32)), (.ref b101)]) (fun _ kx_ => XS.iload X109.here hx rfl (hb hby at_182) rfl kx_) ?_
                obtain ⟨_, _, ⟨T110, L110, k110, n110⟩, -, X110, ⟨Lc110, hQ110, l110, y110, z110⟩, st110⟩ := Jvm.LawKit.callS X109 hx (y := (⟨"com/example/bitpress/bitpress/DocBlockSetBitPinLaw", "check", "([JIIIJJI)Z"⟩ : MethodName)) hown (mvT hZ (hw _ (List.mem_of_getElem? (i := 7) rfl))) (mvT hZ (hw _ (List.mem_of_getElem? (i := 8) rfl))) (mvT hZ (hw _ (List.mem_of_getElem? (i := 9) rfl))) (mvT hZ (hw _ (List.mem_of_getElem? (i := 10) rfl))) (by decide) (backOf (W := 0) (rm2 l Z a0 hw [] b101 (0 : Int32) xw xq ya yb xr fq h104 n0 Z104 A104 (hall _)) hZ (hw _ (List.mem_of_getElem? (i := 10) rfl)) (hw _ (List.mem_of_getElem? (i := 9) rfl)) (by decide) (by decide)) (g := (mkF m 184 #[.val (.int x0), .val (.long ya), .second, .val (.long yb), .second, .val (.int xo), .val (.int xlow), .val (.int xw), .val (.int xr), .val (.int xq), .val (.ref b101), .val (.int (1 : Int32))] [(.int xr), (.long yb), (.long ya), (.int xq), (.int xw), (.int (0 : Int32)), (.ref b101)])) rfl (by rw [hml]; rfl) (argsL := [(.ref b101), (.int (0 : Int32)), (.int xw), (.int xq), (.long ya), (.long yb), (.int xr)]) (rest := []) (lenOf pd_2 rfl) rfl (by show 2 * 0 + _ ≤ _; exact Nat.le_of_eq rfl) (hb hby at_184) (fun _ _ => ⟨rfl, eq109, (by decide : 1 + 0 ≤ _), (by decide : 1024 + 0 ≤ _)⟩)
                dsimp only [Pt.U, Pt.locs, Pt.cells, Pt.slots] at X110 l110 y110 z110 st110 hQ110
                subst l110 y110 z110
                obtain ⟨rfl, Nq110, eq110⟩ := hQ110
                have N110 := Fr.app N109 Nq110
                refine W.s2 (mkF m 187 #[.val (.int x0), .val (.long ya), .second, .val (.long yb), .second, .val (.int xo), .val (.int xlow), .val (.int xw), .val (.int xr), .val (.int xq), .val (.ref b101), .val (.int (1 : Int32))] [(.int (1 : Int32))]) st110 ?_
                refine W.ifc X110 hx (hb hby at_187) (pc' := 194) (pc'' := 190) (by decide) (by decide) rfl (fun (c187 : (1 : Int32) = (0 : Int32)) => ?_) (fun (c187 : ¬ (1 : Int32) = (0 : Int32)) => ?_)
                · exact absurd c187 (by decide)
                · refine W.s1 (mkF m 191 #[.val (.int x0), .val (.long ya), .second, .val (.long yb), .second, .val (.int xo), .val (.int xlow), .val (.int xw), .val (.int xr), .val (.int xq), .val (.ref b101), .val (.int (1 : Int32))] [(.int (1 : Int32))]) (fun _ kx_ => XS.iconst X110.here hx rfl (hb hby at_190) kx_) ?_
                  refine W.s1 (mkF m 195 #[.val (.int x0), .val (.long ya), .second, .val (.long yb), .second, .val (.int xo), .val (.int xlow), .val (.int xw), .val (.int xr), .val (.int xq), .val (.ref b101), .val (.int (1 : Int32))] [(.int (1 : Int32))]) (fun _ kx_ => XS.goto X110.here hx rfl (pc0 := 191) (pc' := 195) rfl (hb hby at_191) (by decide) (by decide) kx_) ?_
                  refine W.s1 (mkF m 197 #[.val (.int x0), .val (.long ya), .second, .val (.long yb), .second, .val (.int xo), .val (.int xlow), .val (.int xw), .val (.int xr), .val (.int xq), .val (.ref b101), .val (.int (1 : Int32))] []) (fun _ kx_ => XS.istore X110.here hx rfl (hb hby at_195) rfl (l' := #[.val (.int x0), .val (.long ya), .second, .val (.long yb), .second, .val (.int xo), .val (.int xlow), .val (.int xw), .val (.int xr), .val (.int xq), .val (.ref b101), .val (.int (1 : Int32))]) rfl kx_) ?_
                  refine W.s1 (mkF m 199 #[.val (.int x0), .val (.long ya), .second, .val (.long yb), .second, .val (.int xo), .val (.int xlow), .val (.int xw), .val (.int xr), .val (.int xq), .val (.ref b101), .val (.int (1 : Int32))] [(.int (1 : Int32))]) (fun _ kx_ => XS.iload X110.here hx rfl (hb hby at_197) rfl kx_) ?_
                  refine W.ifc X110 hx (hb hby at_199) (pc' := 225) (pc'' := 202) (by decide) (by decide) rfl (fun (c199 : (1 : Int32) = (0 : Int32)) => ?_) (fun (c199 : ¬ (1 : Int32) = (0 : Int32)) => ?_)
                  · exact absurd c199 (by decide)
                  · refine W.s1 (mkF m 204 #[.val (.int x0), .val (.long ya), .second, .val (.long yb), .second, .val (.int xo), .val (.int xlow), .val (.int xw), .val (.int xr), .val (.int xq), .val (.ref b101), .val (.int (1 : Int32))] [(.ref b101)]) (fun _ kx_ => XS.aload X110.here hx rfl (hb hby at_202) rfl rfl kx_) ?_
                    refine W.s1 (mkF m 207 #[.val (.int x0), .val (.long ya), .second, .val (.long yb), .second, .val (.int xo), .val (.int xlow), .val (.int xw), .val (.int xr), .val (.int xq), .val (.ref b101), .val (.int (1 : Int32))] [(.int (1023 : Int32)), (.ref b101)]) (fun _ kx_ => XS.sipush X110.here hx rfl (hb hby at_204) kx_) ?_
                    refine W.s1 (mkF m 209 #[.val (.int x0), .val (.long ya), .second, .val (.long yb), .second, .val (.int xo), .val (.int xlow), .val (.int xw), .val (.int xr), .val (.int xq), .val (.ref b101), .val (.int (1 : Int32))] [(.int xw), (.int (1023 : Int32)), (.ref b101)]) (fun _ kx_ => XS.iload X110.here hx rfl (hb hby at_207) rfl kx_) ?_
                    refine W.s1 (mkF m 211 #[.val (.int x0), .val (.long ya), .second, .val (.long yb), .second, .val (.int xo), .val (.int xlow), .val (.int xw), .val (.int xr), .val (.int xq), .val (.ref b101), .val (.int (1 : Int32))] [(.int xq), (.int xw), (.int (1023 : Int32)), (.ref b101)]) (fun _ kx_ => XS.iload X110.here hx rfl (hb hby at_209) rfl kx_) ?_
                    refine W.s1 (mkF m 212 #[.val (.int x0), .val (.long ya), .second, .val (.long yb), .second, .val (.int xo), .val (.int xlow), .val (.int xw), .val (.int xr), .val (.int xq), .val (.ref b101), .val (.int (1 : Int32))] [(.long ya), (.int xq), (.int xw), (.int (1023 : Int32)), (.ref b101)]) (fun _ kx_ => XS.lloadN X110.here hx rfl (hb hby at_211) rfl kx_) ?_
                    refine W.s1 (mkF m 213 #[.val (.int x0), .val (.long ya), .second, .val (.long yb), .second, .val (.int xo), .val (.int xlow), .val (.int xw), .val (.int xr), .val (.int xq), .val (.ref b101), .val (.int (1 : Int32))] [(.long yb), (.long ya), (.int xq), (.int xw), (.int (1023 : Int32)), (.ref b101)]) (fun _ kx_ => XS.lloadN X110.here hx rfl (hb hby at_212) rfl kx_) ?_
                    refine W.s1 (mkF m 215 #[.val (.int x0), .val (.long ya), .second, .val (.long yb), .second, .val (.int xo), .val (.int xlow), .val (.int xw), .val (.int xr), .val (.int xq), .val (.ref b101), .val (.int (1 : Int32))] [(.int xr), (.long yb), (.long ya), (.int xq), (.int xw), (.int (1023 : Int32)), (.ref b101)]) (fun _ kx_ => XS.iload X110.here hx rfl (hb hby at_213) rfl kx_) ?_
                    obtain ⟨_, _, ⟨T111, L111, k111, n111⟩, -, X111, ⟨Lc111, hQ111, l111, y111, z111⟩, st111⟩ := Jvm.LawKit.callS X110 hx (y := (⟨"com/example/bitpress/bitpress/DocBlockSetBitPinLaw", "check", "([JIIIJJI)Z"⟩ : MethodName)) hown (mvT hZ (hw _ (List.mem_of_getElem? (i := 7) rfl))) (mvT hZ (hw _ (List.mem_of_getElem? (i := 8) rfl))) (mvT hZ (hw _ (List.mem_of_getElem? (i := 9) rfl))) (mvT hZ (hw _ (List.mem_of_getElem? (i := 10) rfl))) (by decide) (backOf (W := 0) (rm2 l Z a0 hw [] b101 (1023 : Int32) xw xq ya yb xr fq h104 n0 Z104 A104 (hall _)) hZ (hw _ (List.mem_of_getElem? (i := 10) rfl)) (hw _ (List.mem_of_getElem? (i := 9) rfl)) (by decide) (by decide)) (g := (mkF m 215 #[.val (.int x0), .val (.long ya), .second, .val (.long yb), .second, .val (.int xo), .val (.int xlow), .val (.int xw), .val (.int xr), .val (.int xq), .val (.ref b101), .val (.int (1 : Int32))] [(.int xr), (.long yb), (.long ya), (.int xq), (.int xw), (.int (1023 : Int32)), (.ref b101)])) rfl (by rw [hml]; rfl) (argsL := [(.ref b101), (.int (1023 : Int32)), (.int xw), (.int xq), (.long ya), (.long yb), (.int xr)]) (rest := []) (lenOf pd_2 rfl) rfl (by show 2 * 0 + _ ≤ _; exact Nat.le_of_eq rfl) (hb hby at_215) (fun _ _ => ⟨rfl, eq110, (by decide : 1 + 0 ≤ _), (by decide : 1024 + 0 ≤ _)⟩)
                    dsimp only [Pt.U, Pt.locs, Pt.cells, Pt.slots] at X111 l111 y111 z111 st111 hQ111
                    subst l111 y111 z111
                    obtain ⟨rfl, Nq111, eq111⟩ := hQ111
                    have N111 := Fr.app N110 Nq111
                    refine W.s2 (mkF m 218 #[.val (.int x0), .val (.long ya), .second, .val (.long yb), .second, .val (.int xo), .val (.int xlow), .val (.int xw), .val (.int xr), .val (.int xq), .val (.ref b101), .val (.int (1 : Int32))] [(.int (1 : Int32))]) st111 ?_
                    refine W.ifc X111 hx (hb hby at_218) (pc' := 225) (pc'' := 221) (by decide) (by decide) rfl (fun (c218 : (1 : Int32) = (0 : Int32)) => ?_) (fun (c218 : ¬ (1 : Int32) = (0 : Int32)) => ?_)
                    · exact absurd c218 (by decide)
                    · refine W.s1 (mkF m 222 #[.val (.int x0), .val (.long ya), .second, .val (.long yb), .second, .val (.int xo), .val (.int xlow), .val (.int xw), .val (.int xr), .val (.int xq), .val (.ref b101), .val (.int (1 : Int32))] [(.int (1 : Int32))]) (fun _ kx_ => XS.iconst X111.here hx rfl (hb hby at_221) kx_) ?_
                      refine W.s1 (mkF m 226 #[.val (.int x0), .val (.long ya), .second, .val (.long yb), .second, .val (.int xo), .val (.int xlow), .val (.int xw), .val (.int xr), .val (.int xq), .val (.ref b101), .val (.int (1 : Int32))] [(.int (1 : Int32))]) (fun _ kx_ => XS.goto X111.here hx rfl (pc0 := 222) (pc' := 226) rfl (hb hby at_222) (by decide) (by decide) kx_) ?_
                      refine W.s1 (mkF m 228 #[.val (.int x0), .val (.long ya), .second, .val (.long yb), .second, .val (.int xo), .val (.int xlow), .val (.int xw), .val (.int xr), .val (.int xq), .val (.ref b101), .val (.int (1 : Int32))] []) (fun _ kx_ => XS.istore X111.here hx rfl (hb hby at_226) rfl (l' := #[.val (.int x0), .val (.long ya), .second, .val (.long yb), .second, .val (.int xo), .val (.int xlow), .val (.int xw), .val (.int xr), .val (.int xq), .val (.ref b101), .val (.int (1 : Int32))]) rfl kx_) ?_
                      refine W.s1 (mkF m 230 #[.val (.int x0), .val (.long ya), .second, .val (.long yb), .second, .val (.int xo), .val (.int xlow), .val (.int xw), .val (.int xr), .val (.int xq), .val (.ref b101), .val (.int (1 : Int32))] [(.int (1 : Int32))]) (fun _ kx_ => XS.iload X111.here hx rfl (hb hby at_228) rfl kx_) ?_
                      exact W.retZ X111 hx hlk (t := .boolean) (z' := (1 : Int32)) Bd.returns (by simp) (hb hby at_230) rfl (by show Q0 Z x0 ya yb xo h0 n0 _ T111.heap _; rw [eq111]; exact ⟨rfl, N111⟩) (by decide) (by decide)
set_option maxRecDepth 65536 in
set_option maxHeartbeats 40000000 in
theorem comes_1 {Post : Tables → Env → Array Value → State → Outcome → State → Prop} (hpost : ∀ tb e args s v u, (limb_1_1.after args s (.returned v) u = true ∧ limb_1_2.after args s (.returned v) u = true ∧ True) → FrameEnd s (.returned v) u (Jvm.fieldLocs frame_1_writes args s ++ Jvm.arrayLocs frame_1_arrays args s ++ Jvm.staticLocs frame_1_statics s) 16 2112 → Post tb e args s (.returned v) u) :
    ArmFor flags0 classFile x code maxLocals ret World_1 tables_1 room_1 Calls_1 rest_1 Pre_1 Post := by
  intro l hfl _ _ p e ha hc hk s m args below hf hA hF happ hP
  obtain ⟨hcalls, hrest, hpre⟩ := hP
  obtain ⟨-, -, -, hnamed, -, -, -, hat⟩ := (Spec.applies_iff hf).mp happ
  obtain ⟨hg, hn⟩ := and_e (Cond.before_iff.mp (show (Jvm.Cond.and given_1 narrow_1).before args s = true from hpre))
  obtain ⟨gc, g0⟩ := and_e hg
  obtain ⟨w_0, g1⟩ := and_e g0
  obtain ⟨w_1, g2⟩ := and_e g1
  obtain ⟨w_2, g3⟩ := and_e g2
  have w_3 := g3
  obtain ⟨w0, w1, w2, w3, rfl⟩ : ∃ w0 w1 w2 w3 : Value, args = #[w0, w1, w2, w3] := by
    have hs : args.size = 4 := by simpa [Cond.value, given_1] using gc
    obtain ⟨L⟩ := args
    match L, hs with
    | [w0, w1, w2, w3], _ => exact ⟨w0, w1, w2, w3, rfl⟩
  have hw := fun d (hd : d ∈ tables_1) => atoms_spec (ws := Jvm.Cond.code x code maxLocals ret :: tables_1) hat d (List.mem_cons_of_mem _ hd)
  have hfit : Fit s := fun {y c} hc i hi => by
    obtain ⟨ha, rfl⟩ := Array.getElem?_eq_some_iff.mp hc
    have q := List.all_eq_true.mp ((Array.all_eq_true_iff_forall_mem.mp hF) _ (Array.getElem_mem ha)) i (List.mem_range.mpr hi)
    simpa [Array.getElem?_eq_getElem hi] using q
  obtain ⟨i0, ei0⟩ := is_v w_0
  obtain rfl : w0 = (.int i0) := Option.some.inj ei0
  obtain ⟨i1, ei1⟩ := isL_v w_1
  obtain rfl : w1 = (.long i1) := Option.some.inj ei1
  obtain ⟨i2, ei2⟩ := isL_v w_2
  obtain rfl : w2 = (.long i2) := Option.some.inj ei2
  obtain ⟨i3, ei3⟩ := is_v w_3
  obtain rfl : w3 = (.int i3) := Option.some.inj ei3
  obtain ⟨n, o, h1, h2, h3, _, L, rfl, ⟨rfl, N⟩, hq⟩ := rm0 l s _ hw tables_1 i0 i1 i2 i3 s.heap s.heap.size (Nat.le_refl _)  p e ha hc hk s m _ below hf ((Spec.applies_iff_loose hf).mp happ).1 ⟨rfl, State.Warmed39.refl s, rfl⟩ trivial
  refine ⟨n, _, h1, h2, h3, hpost _ _ _ _ _ _ ⟨Cond.after_iff.mpr rfl, Cond.after_iff.mpr (eq_i res_at (Term.int_eval (1)) rfl), trivial⟩ ⟨hq.1, hq.2.1, (hq.2.2.sift fun y hy => Or.inr (N y hy)).mono (by decide) (by decide)⟩⟩
theorem main_1_1 : Claimed_1_1 := comes_1 fun _ _ _ _ _ _ h hF => ⟨h.1, hF⟩
theorem main_1_2 : Claimed_1_2 := comes_1 fun _ _ _ _ _ _ h hF => ⟨h.2.1, hF⟩
end Jvm.Pilot.@@N@@
namespace Jvm.Pilot.@@N@@
open Jvm Jvm.ClassFile Sem Op Lib Jvm.Free Jvm.Stand Jvm.Pilot.@@N@@.Jvm.D
/-! MADE BY PROGRAM (witnessworld.py) out of the Statement's table words and the real class files: 11 classes; the members and pool entries that the words name. The judged class is class 1, her method 3. -/
namespace start1
open Jvm.ClassFile
def u (s : String) : CpInfo := .utf8 (stringToUtf16 s)
/-- a pool by its gaps: so many unusable entries, then the entry; so many at the end -/
def gap : Nat → List CpInfo → List CpInfo
  | 0, r => r
  | n + 1, r => .unusable :: gap n r
def poolList (es : List (Nat × CpInfo)) (last : Nat) : List CpInfo := es.foldr (fun e r => gap e.1 (e.2 :: r)) (gap last [])
def pool (es : List (Nat × CpInfo)) (last : Nat) : Array CpInfo := ⟨poolList es last⟩
def fileOf (pool : Array CpInfo) (this : Nat) (attrs : Array Attribute := #[]) (ms : Array MethodInfo := #[]) (fl : Nat := 33) (sup : Nat := 0) (ifs : Array Nat := #[]) (fds : Array FieldInfo := #[]) : ClassFile where
  minorVersion := 0
  majorVersion := 65
  constantPool := pool
  accessFlags := fl
  thisClass := this
  superClass := sup
  interfaces := ifs
  fields := fds
  methods := ms
  attributes := attrs
def plain (name : String) (sup : Option ClassId) : Class where
  name := name
  kind := .ordinary
  loader := none
  accessFlags := 33
  super := sup
  interfaces := #[]
  cf := none
  fields := #[]
  methods := #[]
  instanceTypes := #[]
  staticTypes := #[]
  resolved := #[]
  callSites := []
  init := .initialized
  statics := none
  mirror := none

def pool0 : Array CpInfo := pool [(5, u "<init>"), (0, u "()V"), (1, .class_ 10), (1, u "java/lang/Object")] 113

def k0m0 : Method := { name := "<init>", desc := "()V", sig := { parameters := [], returnType := none }, accessFlags := 1, code := none }
/-- java/lang/Object -/
def k0 : Class := { plain "java/lang/Object" none with
  accessFlags := 33
  interfaces := #[]
  cf := some (fileOf pool0 8 #[] #[{ accessFlags := 1, nameIndex := 5, descriptorIndex := 6, attributes := #[] }] 33 0 #[] #[])
  fields := #[]
  methods := #[k0m0]
  instanceTypes := #[]
  staticTypes := #[]
  resolved := Array.replicate 124 none
  statics := none }

def pool1 : Array CpInfo := pool [(2, .class_ 4), (1, u "java/lang/Object"), (0, u "<init>"), (0, u "()V"), (0, .methodref 8 9), (0, .class_ 10), (0, .nameAndType 11 12), (0, u "com/example/bitpress/bitpress/DocBlockSetBitPinLaw"), (0, u "expectedAt"), (0, u "(IIIJJI)J"), (0, .integer 65535), (0, .integer 2147483647), (0, .methodref 16 17), (0, .class_ 18), (0, .nameAndType 19 20), (0, u "com/example/bitpress/bitpress/DocBlock"), (0, u "setBit"), (0, u "([JI)V"), (0, .methodref 8 22), (0, .nameAndType 23 24), (0, u "check"), (0, u "([JIIIJJI)Z"), (3, u "law"), (0, u "(IJJI)Z")] 4

def k1m0 : Method := { name := "<init>", desc := "()V", sig := { parameters := [], returnType := none }, accessFlags := 2, code := none }
def k1c1 : Code := { maxStack := 5, maxLocals := 8, code := method_2_code, exceptionTable := #[], attributes := #[] }
def k1m1 : Method := { name := "expectedAt", desc := "(IIIJJI)J", sig := { parameters := [.int, .int, .int, .long, .long, .int], returnType := some .long }, accessFlags := 10, code := some k1c1 }
def k1c2 : Code := { maxStack := 10, maxLocals := 9, code := method_3_code, exceptionTable := #[], attributes := #[] }
def k1m2 : Method := { name := "check", desc := "([JIIIJJI)Z", sig := { parameters := [(.array .long), .int, .int, .int, .long, .long, .int], returnType := some .boolean }, accessFlags := 10, code := some k1c2 }
def k1c3 : Code := { maxStack := 9, maxLocals := 12, code := code, exceptionTable := #[], attributes := #[] }
def k1m3 : Method := { name := "law", desc := "(IJJI)Z", sig := { parameters := [.int, .long, .long, .int], returnType := some .boolean }, accessFlags := 9, code := some k1c3 }
/-- com/example/bitpress/bitpress/DocBlockSetBitPinLaw -/
def k1 : Class := { plain "com/example/bitpress/bitpress/DocBlockSetBitPinLaw" (some 0) with
  accessFlags := 49
  interfaces := #[]
  cf := some (fileOf pool1 8 #[] #[{ accessFlags := 2, nameIndex := 5, descriptorIndex := 6, attributes := #[] }, { accessFlags := 10, nameIndex := 11, descriptorIndex := 12, attributes := #[] }, { accessFlags := 10, nameIndex := 23, descriptorIndex := 24, attributes := #[] }, { accessFlags := 9, nameIndex := 28, descriptorIndex := 29, attributes := #[] }] 49 2 #[] #[])
  fields := #[]
  methods := #[k1m0, k1m1, k1m2, k1m3]
  instanceTypes := #[]
  staticTypes := #[]
  resolved := Array.replicate 34 none
  statics := none }

def pool2 : Array CpInfo := pool [(1, .class_ 2), (0, u "com/example/bitpress/bitpress/DocBlock"), (1, .class_ 6), (1, u "java/lang/Object"), (0, u "<init>"), (0, u "()V"), (7, .class_ 18), (1, u "com/example/bitpress/bitpress/DocBlock$Cursor"), (5, u "setBit"), (0, u "([JI)V"), (0, .class_ 27), (0, u "com/example/bitpress/bitpress/DocBlock$ArrayBlock"), (9, .class_ 38), (0, u "com/example/bitpress/bitpress/DocBlock$InvertedBlock"), (5, .class_ 45), (0, u "com/example/bitpress/bitpress/DocBlock$BitsetBlock"), (27, u "OBJECT_BYTES"), (0, u "J"), (0, u "BITS"), (0, u "I"), (2, u "SIZE"), (0, u "LOW_MASK"), (1, u "MAX_ARRAY_LENGTH"), (1, u "NONE"), (26, .class_ 112), (0, u "com/example/bitpress/bitpress/DocBlock$BitsetBlock$1"), (0, .class_ 114), (0, u "com/example/bitpress/bitpress/DocBlock$InvertedBlock$1"), (0, .class_ 116), (0, u "com/example/bitpress/bitpress/DocBlock$ArrayBlock$1")] 10

def k2m0 : Method := { name := "<init>", desc := "()V", sig := { parameters := [], returnType := none }, accessFlags := 0, code := none }
def k2c1 : Code := { maxStack := 7, maxLocals := 2, code := prog_7_method_9_code, exceptionTable := #[], attributes := #[] }
def k2m1 : Method := { name := "setBit", desc := "([JI)V", sig := { parameters := [(.array .long), .int], returnType := none }, accessFlags := 8, code := some k2c1 }
/-- com/example/bitpress/bitpress/DocBlock -/
def k2 : Class := { plain "com/example/bitpress/bitpress/DocBlock" (some 0) with
  accessFlags := 1056
  interfaces := #[]
  cf := some (fileOf pool2 1 #[.nestMembers #[44, 111, 37, 113, 26, 115, 16]] #[{ accessFlags := 0, nameIndex := 7, descriptorIndex := 8, attributes := #[] }, { accessFlags := 8, nameIndex := 24, descriptorIndex := 25, attributes := #[] }] 1056 4 #[] #[{ accessFlags := 24, nameIndex := 75, descriptorIndex := 76, attributes := #[] }, { accessFlags := 24, nameIndex := 79, descriptorIndex := 76, attributes := #[] }, { accessFlags := 24, nameIndex := 80, descriptorIndex := 76, attributes := #[] }, { accessFlags := 24, nameIndex := 82, descriptorIndex := 76, attributes := #[] }, { accessFlags := 24, nameIndex := 84, descriptorIndex := 76, attributes := #[] }, { accessFlags := 26, nameIndex := 73, descriptorIndex := 74, attributes := #[] }])
  fields := #[{ name := "BITS", type := .int, accessFlags := 24, slot := 0, constantValue := 0 }, { name := "SIZE", type := .int, accessFlags := 24, slot := 1, constantValue := 0 }, { name := "LOW_MASK", type := .int, accessFlags := 24, slot := 2, constantValue := 0 }, { name := "MAX_ARRAY_LENGTH", type := .int, accessFlags := 24, slot := 3, constantValue := 0 }, { name := "NONE", type := .int, accessFlags := 24, slot := 4, constantValue := 0 }, { name := "OBJECT_BYTES", type := .long, accessFlags := 26, slot := 5, constantValue := 0 }]
  methods := #[k2m0, k2m1]
  instanceTypes := #[]
  staticTypes := #[.int, .int, .int, .int, .int, .long]
  resolved := Array.replicate 127 none
  statics := none }

def pool3 : Array CpInfo := pool [(1, u "java/lang/Cloneable"), (0, .class_ 1), (0, u "java/lang/Object"), (0, .class_ 3)] 3

/-- java/lang/Cloneable -/
def k3 : Class := { plain "java/lang/Cloneable" (some 0) with
  accessFlags := 1537
  interfaces := #[]
  cf := some (fileOf pool3 2 #[] #[] 1537 4 #[] #[])
  fields := #[]
  methods := #[]
  instanceTypes := #[]
  staticTypes := #[]
  resolved := Array.replicate 8 none
  statics := none }

def pool4 : Array CpInfo := pool [(1, u "java/io/Serializable"), (0, .class_ 1), (0, u "java/lang/Object"), (0, .class_ 3)] 3

/-- java/io/Serializable -/
def k4 : Class := { plain "java/io/Serializable" (some 0) with
  accessFlags := 1537
  interfaces := #[]
  cf := some (fileOf pool4 2 #[] #[] 1537 4 #[] #[])
  fields := #[]
  methods := #[]
  instanceTypes := #[]
  staticTypes := #[]
  resolved := Array.replicate 8 none
  statics := none }

/-- the primitive byte -/
def k5 : Class := { plain "byte" none with kind := .primitive 'B', accessFlags := 0x411 }
/-- [B -/
def k6 : Class := { plain "[B" (some 0) with kind := .array 5 .byte, interfaces := #[3, 4], accessFlags := 1041 }

/-- the primitive int -/
def k7 : Class := { plain "int" none with kind := .primitive 'I', accessFlags := 0x411 }
/-- [I -/
def k8 : Class := { plain "[I" (some 0) with kind := .array 7 .int, interfaces := #[3, 4], accessFlags := 1041 }

/-- the primitive long -/
def k9 : Class := { plain "long" none with kind := .primitive 'J', accessFlags := 0x411 }
/-- [J -/
def k10 : Class := { plain "[J" (some 0) with kind := .array 9 .long, interfaces := #[3, 4], accessFlags := 1041 }

def heap : Heap := #[]
def classes : Array Class := #[k0, k1, k2, k3, k4, k5, k6, k7, k8, k9, k10]
def interned : List (Array UInt16 × Addr) := []
def slotsUsed : Nat := 0
def theMethod : MethodId := ⟨1, 3⟩
def args0 : Array Value := #[.int 5, .long 3, .long 9, .int 1]
def aboutOver (below : List Frame) : State where
  vm := { classes := classes, interned := interned.toArray }
  heap := heap
  slotsUsed := slotsUsed
  threads := #[{ frames := .invoking theMethod args0 :: below }]
def below0 : List Frame := [.native { method := ⟨0, 0⟩, args := #[] }]
def about1 : State := aboutOver below0
def p0 : Program := .bare "" "" ""
def e0 : Env := launch0.env 0 0 0
theorem w_frames : about1.frames = Frame.invoking theMethod args0 :: below0 := rfl
set_option maxRecDepth 65536 in
theorem w_args : argsFit about1.vm theMethod args0 = true := by decide +kernel
set_option maxRecDepth 65536 in
theorem w_heap : heapFits about1 = true := by decide +kernel
set_option maxRecDepth 65536 in
theorem w_runnable : about1.curStatus? = some .runnable := by decide +kernel
set_option maxRecDepth 65536 in
theorem w_alone : about1.alone = true := by decide +kernel
set_option maxRecDepth 65536 in
theorem w_named : about1.methodNamed? x = some theMethod := by decide +kernel
set_option maxRecDepth 65536 in
theorem w_hears : about1.hears theMethod below0 = true := by decide +kernel
set_option maxRecDepth 65536 in
theorem w_ripe : about1.ripe theMethod args0 below0 = true := by decide +kernel
theorem w_running : about1.status = .running := rfl
set_option maxRecDepth 65536 in
theorem w_room : about1.hasRoom e0.platform room_1 = true :=
  launch0.hasRoom_least _ room_1 (by decide +kernel) (by decide +kernel) (by decide +kernel) (by decide +kernel) (by decide +kernel) (by decide +kernel)
theorem allAtoms_all (ts : List Jvm.Cond) (a : Array Jvm.Value) (st : Jvm.State) : (allAtoms ts).before a st = ts.all (fun c => c.before a st) := by
  induction ts with
  | nil => rfl
  | cons c t ih =>
    show (Jvm.Cond.and c (allAtoms t)).before a st = _
    rw [Jvm.Cond.before_and, ih, List.all_cons]
def words1 : List Jvm.Cond := Jvm.Cond.code x code maxLocals ret :: tables_1
/-- a 'code' word, met by the world's own term for the bytes: nothing is compared byte by byte -/
theorem code_word {y : MethodName} {bytes : ByteArray} {mx : Nat} {rt : Option FieldType} {a : Array Value} {s : State} {m : MethodId} {meth : Method} {c : Code} (h1 : s.methodNamed? y = some m) (h2 : s.vm.method? m = some meth) (h3 : meth.code = some c) (h4 : c.code = bytes)
    (h5 : (c.maxLocals == mx && c.exceptionTable.isEmpty && decide (c.maxStack ≤ mostOperands) && decide (meth.sig.returnType = rt) && !meth.locks && decide (parseMethodDescriptor y.desc = some meth.sig)) = true) : (Jvm.Cond.code y bytes mx rt).before a s = true := by
  simp only [Bool.and_eq_true, beq_iff_eq, Bool.not_eq_true', decide_eq_true_eq] at h5
  obtain ⟨⟨⟨⟨⟨g1, g2⟩, g3⟩, g4⟩, g5⟩, g6⟩ := h5
  simp [Cond.before, Cond.holds, Cond.value, h1, h2, h3, h4, g1, g2, g3, g4, g5, g6]
def isCode : Jvm.Cond → Bool
  | .code _ _ _ _ => true
  | _ => false
theorem all_split {L : List Jvm.Cond} {P : Jvm.Cond → Bool} (h1 : L.all (fun c => isCode c || P c) = true) (h2 : ∀ c ∈ L.filter isCode, P c = true) : L.all P = true := by
  refine List.all_eq_true.mpr fun c hc => ?_
  have h := List.all_eq_true.mp h1 c hc
  rcases Bool.eq_false_or_eq_true (isCode c) with hi | hi
  · exact h2 c (List.mem_filter.mpr ⟨hc, hi⟩)
  · simpa [hi] using h
set_option maxRecDepth 65536 in
theorem w_c0 : (Jvm.Cond.code x code maxLocals ret).before args0 about1 = true := code_word (m := ⟨1, 3⟩) (meth := k1m3) (c := k1c3) (by decide +kernel) rfl rfl rfl (by decide +kernel)
set_option maxRecDepth 65536 in
theorem w_c1 : (Jvm.Cond.code ({ cls := "com/example/bitpress/bitpress/DocBlock", name := "setBit", desc := "([JI)V" } : Jvm.MethodName) prog_7_method_9_code (2 : Nat) (Option.none : Option Jvm.ClassFile.FieldType)).before args0 about1 = true := code_word (m := ⟨2, 1⟩) (meth := k2m1) (c := k2c1) (by decide +kernel) rfl rfl rfl (by decide +kernel)
set_option maxRecDepth 65536 in
theorem w_c2 : (Jvm.Cond.code ({ cls := "com/example/bitpress/bitpress/DocBlockSetBitPinLaw", name := "check", desc := "([JIIIJJI)Z" } : Jvm.MethodName) method_3_code (9 : Nat) (Option.some Jvm.ClassFile.FieldType.boolean)).before args0 about1 = true := code_word (m := ⟨1, 2⟩) (meth := k1m2) (c := k1c2) (by decide +kernel) rfl rfl rfl (by decide +kernel)
set_option maxRecDepth 65536 in
theorem w_c3 : (Jvm.Cond.code ({ cls := "com/example/bitpress/bitpress/DocBlockSetBitPinLaw", name := "expectedAt", desc := "(IIIJJI)J" } : Jvm.MethodName) method_2_code (8 : Nat) (Option.some Jvm.ClassFile.FieldType.long)).before args0 about1 = true := code_word (m := ⟨1, 1⟩) (meth := k1m1) (c := k1c1) (by decide +kernel) rfl rfl rfl (by decide +kernel)
def codes1 : List Jvm.Cond := [Jvm.Cond.code x code maxLocals ret, Jvm.Cond.code ({ cls := "com/example/bitpress/bitpress/DocBlock", name := "setBit", desc := "([JI)V" } : Jvm.MethodName) prog_7_method_9_code (2 : Nat) (Option.none : Option Jvm.ClassFile.FieldType), Jvm.Cond.code ({ cls := "com/example/bitpress/bitpress/DocBlockSetBitPinLaw", name := "check", desc := "([JIIIJJI)Z" } : Jvm.MethodName) method_3_code (9 : Nat) (Option.some Jvm.ClassFile.FieldType.boolean), Jvm.Cond.code ({ cls := "com/example/bitpress/bitpress/DocBlockSetBitPinLaw", name := "expectedAt", desc := "(IIIJJI)J" } : Jvm.MethodName) method_2_code (8 : Nat) (Option.some Jvm.ClassFile.FieldType.long)]
set_option maxRecDepth 65536 in
theorem codes_eq : words1.filter isCode = codes1 := rfl
theorem w_codes : ∀ c ∈ words1.filter isCode, c.before args0 about1 = true := by
  rw [codes_eq]
  intro c hc
  simp only [codes1, List.mem_cons, List.not_mem_nil, or_false] at hc
  rcases hc with rfl | rfl | rfl | rfl
  · exact w_c0
  · exact w_c1
  · exact w_c2
  · exact w_c3
set_option maxRecDepth 65536 in
theorem w_t1 : words1.all (fun c => isCode c || c.before args0 about1) = true := by decide +kernel
theorem w_tables : (allAtoms (Jvm.Cond.code x code maxLocals ret :: tables_1)).before args0 about1 = true := by
  rw [allAtoms_all]
  show words1.all (fun c => c.before args0 about1) = true
  refine all_split ?_ w_codes
  rw [w_t1]
set_option maxRecDepth 65536 in
theorem w_case : (Jvm.Cond.and given_1 narrow_1).before args0 about1 = true := by decide +kernel
theorem w_applies : (headSpec (Jvm.Cond.code x code maxLocals ret :: tables_1) room_1).applies x e0.platform about1 = true :=
  (Spec.applies_iff w_frames).mpr ⟨w_running, w_runnable, w_alone, w_named, w_hears, w_ripe, w_room, w_tables⟩
theorem atStart : AtStart classFile x code maxLocals ret World_1 tables_1 room_1 Calls_1 rest_1 Pre_1 launch0 p0 e0 about1 theMethod args0 below0 :=
  ⟨lists_1, trivial, launch0.admits_env _ _ _, launch0.least_env, fairChoices_fair.cas, fairChoices_fair.clock, w_frames, w_args, w_heap, w_applies, trivial, trivial, w_case⟩
end start1
theorem witness_1 : WitnessClaimed_1 := ⟨start1.p0, start1.e0, start1.about1, start1.theMethod, start1.args0, start1.below0, start1.atStart⟩
end Jvm.Pilot.@@N@@
