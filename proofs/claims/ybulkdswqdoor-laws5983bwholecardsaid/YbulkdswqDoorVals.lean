import Derived.Test.YbulkdswqDoorMean
namespace Go.Proofs.YbulkdswqDoor

def lawT (x d : Nat) : Nat := fop .quo (fop .add (fop .sub d J0) (fop .sub x d)) C365

theorem five0 : Five 0 4615762544004764035 4617538971646835182 4618711701543364955 4612486659133730884 4610010252573524750 := ⟨by kernel_rfl, by kernel_rfl, by kernel_rfl, by kernel_rfl, by kernel_rfl⟩
theorem lawT0 : lawT (cn 4702519064147263488) (cn 4702519064147263488) = 0 := by kernel_rfl
theorem cent0 : centF (cn 4702519064147263488) (cn 0) = 0 := by kernel_rfl

theorem five1 : Five 13830554378344540845 4617081393917819480 4618653334095311096 4618736432708136800 4617585159219819088 4598513093273304320 := ⟨by kernel_rfl, by kernel_rfl, by kernel_rfl, by kernel_rfl, by kernel_rfl⟩
theorem lawT1 : lawT (cn 4702440627980256412) (cn 4702440627307020288) = 13830554378344540845 := by kernel_rfl
theorem cent1 : centF (cn 4702440627307020288) (cn 4599319133853581312) = 13830554378344540845 := by kernel_rfl
theorem frac1 : fop .sub (cn 4702440627980256412) (cn 4702440627307020288) = 4599319133853581312 := by kernel_rfl

theorem five2 : Five 13826050874892603902 4607659669055806080 4612816712976574432 4618719550365407408 4615613824354486864 4606232059435372352 := ⟨by kernel_rfl, by kernel_rfl, by kernel_rfl, by kernel_rfl, by kernel_rfl⟩
theorem lawT2 : lawT (cn 4702479845562859389) (cn 4702479844653400064) = 13826050874892603902 := by kernel_rfl
theorem cent2 : centF (cn 4702479844653400064) (cn 4601300717687275520) = 13826050874892603902 := by kernel_rfl
theorem frac2 : fop .sub (cn 4702479845562859389) (cn 4702479844653400064) = 4601300717687275520 := by kernel_rfl
end Go.Proofs.YbulkdswqDoor
