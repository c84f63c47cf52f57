import Derived.Test.Qxb6601392aRegA
namespace Go.Proofs.Qxb6601392a.Bt
open Go.RowKit

set_option maxRecDepth 1000000 in
set_option maxHeartbeats 20000000 in
theorem grow_reg4 {w wD : World} {b lb rb i2 : Nat} {Acl Acr A5 : Option Addr} {ncl ccl ncr ccr n5 c5 : Nat} {K : Act → World → Prop} {Q : Exit → Act → World → Prop}
    (l2 : w.cell? ⟨lb, 2, none⟩ = some (.slice Acl ncl ccl)) (r2 : w.cell? ⟨rb, 2, none⟩ = some (.slice Acr ncr ccr)) (lD : wD.cell? ⟨lb, 2, none⟩ = some (.slice Acl ncl ccl)) (lDf : wD.frozen? ⟨lb, 2, none⟩ = false)
    (hA5 : (Builtin.append_ #[60, 60] 60 #[.slice Acl ncl ccl, .slice Acr ncr ccr]).run Try.prog w.drew = .ok (.slice A5 n5 c5) wD)
    (u2 u3 u4 u5 u6 u7 u8 u9 u10 u11 u12 u13 u16 u17 u18 u19 u20 u21 u22 u23 u24 u25 u26 u27 u28 u29 u30 u31 u32 u33 u34 u35 u36 u37 u38 u39 u40 u41 u42 u43 u44 u45 u46 u47 u48 u49 u50 u51 u52 u53 u54 u55 u56 u57 u58 u59 u60 u61 u62 u63 u64 u65 u66 u67 u68 u69 u70 u71 u72 u73 u74 : Value) (r : List Value)
    (hK : ∀ v63 v64 v65 v66 v67 v68 v69 v70 v71 v72 v73 v74 : Value, K ⟨(.pointer (some ⟨b, 0, none⟩) :: .int .i64 (i2 : Int) :: u2 :: u3 :: u4 :: u5 :: u6 :: u7 :: u8 :: u9 :: u10 :: u11 :: u12 :: u13 :: .pointer (some ⟨lb, 0, none⟩) :: .pointer (some ⟨rb, 0, none⟩) :: u16 :: u17 :: u18 :: u19 :: u20 :: u21 :: u22 :: u23 :: u24 :: u25 :: u26 :: u27 :: u28 :: u29 :: u30 :: u31 :: u32 :: u33 :: u34 :: u35 :: u36 :: u37 :: u38 :: u39 :: u40 :: u41 :: u42 :: u43 :: u44 :: u45 :: u46 :: u47 :: u48 :: u49 :: u50 :: u51 :: u52 :: u53 :: u54 :: u55 :: u56 :: u57 :: u58 :: u59 :: u60 :: u61 :: u62 :: v63 :: v64 :: v65 :: v66 :: v67 :: v68 :: v69 :: v70 :: v71 :: v72 :: v73 :: v74 :: r).toArray, []⟩ (wD.setCell ⟨lb, 2, none⟩ (.slice A5 n5 c5))) :
    Code.wp Try.prog ((Try.f44.body.bind (regOf 4)).getD .skip) (Exit.then K Q) ⟨(.pointer (some ⟨b, 0, none⟩) :: .int .i64 (i2 : Int) :: u2 :: u3 :: u4 :: u5 :: u6 :: u7 :: u8 :: u9 :: u10 :: u11 :: u12 :: u13 :: .pointer (some ⟨lb, 0, none⟩) :: .pointer (some ⟨rb, 0, none⟩) :: u16 :: u17 :: u18 :: u19 :: u20 :: u21 :: u22 :: u23 :: u24 :: u25 :: u26 :: u27 :: u28 :: u29 :: u30 :: u31 :: u32 :: u33 :: u34 :: u35 :: u36 :: u37 :: u38 :: u39 :: u40 :: u41 :: u42 :: u43 :: u44 :: u45 :: u46 :: u47 :: u48 :: u49 :: u50 :: u51 :: u52 :: u53 :: u54 :: u55 :: u56 :: u57 :: u58 :: u59 :: u60 :: u61 :: u62 :: u63 :: u64 :: u65 :: u66 :: u67 :: u68 :: u69 :: u70 :: u71 :: u72 :: u73 :: u74 :: r).toArray, []⟩ w := by
  refine then_of ?_
  conv => arg 2; whnf
  go_region_law (refine step_append_run rfl _ _ 60 60 rfl _ _ (by simp [Act.eval]) (by simp [Act.eval]) hA5 ?_)
  all_goals exact hK _ _ _ _ _ _ _ _ _ _ _ _
end Go.Proofs.Qxb6601392a.Bt
